/-
Part 3 of 6 of the proof; what is proved stands in the last part.
-/
import Derived.Test.YtijgloklmiokhaaGreatDoorP2
set_option linter.unusedSimpArgs false
set_option linter.unusedVariables false
namespace Go.Proofs.YtijgloklmiokhaaGreatDoor
open Go.RowKit
section
set_option maxRecDepth 8000
def Dj (q q' : Option Addr) : Prop := ∀ k j j', TQ q k j → ¬ TQ q' k j'
theorem Dj.symm {q q' : Option Addr} (h : Dj q q') : Dj q' q := fun k j j' h1 h2 => h k j' j h2 h1
theorem Dj.own {w : World} {q q' p : Option Addr} {n c : Nat} {X : Nat → Int} (h : Dj q p) (ho : Own w q q') (hp : Sl w p n c X) : Dj q' p := fun k j j' h1 h2 => by
  rcases ho k j h1 with h3 | h3
  · exact h k j j' h3 h2
  have := hp.lt h2; omega
theorem Dj.ne {b b' o o' : Nat} (h : Dj (some ⟨b, o, none⟩) (some ⟨b', o', none⟩)) : b ≠ b' := fun e => h b 0 0 (TQ_some.2 rfl) (TQ_some.2 e)
theorem Dj.of {b b' o o' : Nat} (h : b ≠ b') : Dj (some ⟨b, o, none⟩) (some ⟨b', o', none⟩) := fun k j j' h1 h2 => h ((TQ_some.1 h1).symm.trans (TQ_some.1 h2))
theorem Dj.nil (q : Option Addr) : Dj none q := fun _ _ _ h => (TQ_none h).elim
theorem Dj.sh {q q' : Option Addr} {w : World} {n c : Nat} {X : Nat → Int} (h : Dj q q') (hs : Sl w q n c X) : ¬ Sh q q' := by
  rintro ⟨rfl, h2⟩
  rcases hs with ⟨h0, _⟩ | ⟨b, rfl, _⟩
  · exact h2 h0
  exact h.ne rfl
theorem Wk.neC {w : World} {b c k : Nat} {X : Nat → Int} {i : Int} (h : Wk w b c X) (hc : 0 < c) (hk : w.cell? ⟨k, 0, none⟩ = some (.int .i64 i)) : b ≠ k := by
  rintro rfl
  rw [h.cell (j := 0) hc] at hk; cases hk
def T3 (q r : Option Addr) (b : Nat) : Nat → Nat → Prop := fun k j => TQ q k j ∨ TQ r k j ∨ k = b
def T2 (q r : Option Addr) : Nat → Nat → Prop := fun k j => TQ q k j ∨ TQ r k j
theorem Lz.pow {y s : Nat} (h : Lz y s) : (y + 1) * 2 ^ s ≤ 18446744073709551616 := by
  obtain ⟨h1, h2, h3⟩ := h
  have e : 18446744073709551616 = 2 ^ (64 - s) * 2 ^ s := by rw [← Nat.pow_add, show 64 - s + s = 64 by omega]
  rw [e] at h3 ⊢
  have h4 : y < 2 ^ (64 - s) := Nat.lt_of_mul_lt_mul_right h3
  exact Nat.mul_le_mul_right _ h4
theorem shl_top {Y V : Nat → Int} {n y s : Nat} {c : Int} (hn : 1 ≤ n) (hY : ∀ j, j < n → U64 (Y j)) (hV : ∀ j, j < n → U64 (V j)) (hy : Y (n - 1) = y) (hL : Lz y s) (hc : 0 ≤ c) (h : nv V n + c * BB ^ n = nv Y n * 2 ^ s) :
    c = 0 ∧ 9223372036854775808 ≤ V (n - 1) := by
  obtain ⟨k, rfl⟩ : ∃ k, n = k + 1 := ⟨n - 1, by omega⟩
  simp only [Nat.add_sub_cancel] at hy ⊢
  have hP := BBn_pos k
  have e1 : BB ^ (k + 1) = 18446744073709551616 * BB ^ k := by rw [Int.pow_succ, Int.mul_comm]; rfl
  have h2p : (0 : Int) < 2 ^ s := Int.pow_pos (by decide)
  have hlo : (y : Int) * BB ^ k ≤ nv Y (k + 1) := by
    have := nv_nonneg k (fun j hj => hY j (by omega))
    simp only [nv]; rw [hy]; omega
  have hhi : nv Y (k + 1) < ((y : Int) + 1) * BB ^ k := by
    have := nv_lt k (fun j hj => hY j (by omega))
    simp only [nv]; rw [hy, Int.add_mul]; omega
  have hp := hL.pow
  have hp' : ((y : Int) + 1) * 2 ^ s ≤ 18446744073709551616 := by
    have e : (((y + 1) * 2 ^ s : Nat) : Int) = ((y : Int) + 1) * 2 ^ s := by simp [Int.natCast_mul, Int.natCast_pow]
    rw [← e]; generalize (y + 1) * 2 ^ s = p at hp ⊢; omega
  have hl' : (9223372036854775808 : Int) ≤ y * 2 ^ s := by
    have e : ((y * 2 ^ s : Nat) : Int) = (y : Int) * 2 ^ s := by simp [Int.natCast_mul, Int.natCast_pow]
    have h := hL.2.1
    rw [← e]; generalize y * 2 ^ s = p at h ⊢; omega
  have h1 : nv Y (k + 1) * 2 ^ s < BB ^ (k + 1) := by
    have h3 : nv Y (k + 1) * 2 ^ s < ((y : Int) + 1) * BB ^ k * 2 ^ s := Int.mul_lt_mul_of_pos_right hhi h2p
    have h4 := Int.mul_le_mul_of_nonneg_right hp' (Int.le_of_lt hP)
    rw [Int.mul_assoc, Int.mul_comm (2 ^ s), ← Int.mul_assoc] at h4
    omega
  have h5 := nv_nonneg (k + 1) hV
  have hc0 : c = 0 := by
    by_cases hc0 : c = 0
    · exact hc0
    have := Int.mul_le_mul_of_nonneg_right (show 1 ≤ c by omega) (Int.le_of_lt (BBn_pos (k + 1)))
    omega
  refine ⟨hc0, ?_⟩
  rw [hc0] at h
  simp only [Int.zero_mul, Int.add_zero] at h
  have h6 := Int.mul_le_mul_of_nonneg_right hlo (Int.le_of_lt h2p)
  have h7 := Int.mul_le_mul_of_nonneg_right hl' (Int.le_of_lt hP)
  have h8 := nv_lt k (fun j hj => hV j (by omega))
  rw [Int.mul_assoc, Int.mul_comm (BB ^ k), ← Int.mul_assoc, ← h] at h6
  simp only [nv] at h6
  by_cases hf : 9223372036854775808 ≤ V k
  · exact hf
  exfalso
  have := Int.mul_le_mul_of_nonneg_right (show V k + 1 ≤ 9223372036854775808 by omega) (Int.le_of_lt hP)
  rw [Int.add_mul, Int.one_mul] at this
  omega
theorem shr_back {X Z : Nat → Int} {n s : Nat} {R : Int} (hn : 1 ≤ n) (hs : s ≤ 63) (h : nv X n = R * 2 ^ s) (hz : nvo Z 0 n * 2 ^ s + X 0 % 2 ^ s = nvo X 0 n) : nv Z n = R := by
  rw [nvo_zero, nvo_zero] at hz
  have h2p : (0 : Int) < 2 ^ s := Int.pow_pos (by decide)
  obtain ⟨k, rfl⟩ : ∃ k, n = k + 1 := ⟨n - 1, by omega⟩
  have e : nv X (k + 1) = X 0 + BB * nvo X 1 k := by rw [← nvo_zero, nvo_cons]
  have eB : BB = 2 ^ s * 2 ^ (64 - s) := by rw [← Int.pow_add, show s + (64 - s) = 64 by omega]; rfl
  have h0 : X 0 % 2 ^ s = 0 := by
    have : X 0 = 2 ^ s * (R - 2 ^ (64 - s) * nvo X 1 k) := by
      rw [Int.mul_sub, ← Int.mul_assoc, ← eB, Int.mul_comm (2 ^ s) R]; omega
    rw [this]; exact Int.mul_emod_right _ _
  rw [h0, Int.add_zero, h] at hz
  exact Int.eq_of_mul_eq_mul_right (by omega) hz
theorem len_le {X : Nat → Int} {k n : Nat} (hu : ∀ j, j < k → U64 (X j)) (hN : Nm X k) (h : nv X k < BB ^ n) : k ≤ n := by
  by_cases hk : k ≤ n
  · exact hk
  rcases hN with h0 | h0
  · omega
  have h1 := nv_ge (by omega) hu h0
  have h2 := BBn_le (show n ≤ k - 1 by omega)
  omega
theorem frOwn {w0 w w' : World} {qz qu : Option Addr} {bs bu : Nat} (hF : Fr (T3 qz qu bs) w0 w) (ho : Own w0 qu (some ⟨bu, 0, none⟩)) (h : Fr (Bl bu) w w') : Fr (T3 qz qu bs) w0 w' := by
  refine ((hF.mono (T := fun k j => T3 qz qu bs k j ∨ w0.heap.size ≤ k) fun k o _ h => .inl h).trans (h.mono fun k o _ e => ?_)).mono fun k o hk h => ?_
  · have e : k = bu := e
    rcases ho bu 0 (TQ_some.2 rfl) with h | h
    · exact .inl (.inr (.inl (by rw [e]; exact h)))
    exact .inr (by omega)
  rcases h with h | h
  · exact h
  omega
set_option maxHeartbeats 2000000 in
theorem divLarge (qz qu qx qy : Option Addr) (bs nz cz nu cu m cx n cy : Nat) (Z Uz X Y : Nat → Int) (w : World) (hz : Sl w qz nz cz Z) (hu : Sl w qu nu cu Uz) (hx : Sl w qx (m + n) cx X) (hy : Sl w qy n cy Y) (hS : StN w bs) (hg : w.cell? ⟨1, 0, none⟩ = some (.int .i64 40)) (hdzu : Dj qz qu) (hdux : Dj qu qx) (hduy : Dj qu qy) (hn : 2 ≤ n) (hn4 : n ≤ 4) (hm : m < 30) (hNy : Nm Y n) :
    Calls Tryz.prog 119 #[.slice qz nz cz, .pointer (some ⟨bs, 0, none⟩), .slice qu nu cu, .slice qx (m + n) cx, .slice qy n cy] w fun e w' => ∃ q' k c' Xq r' kr cr Xr, e = .returned (.tuple #[.slice q' k c', .slice r' kr cr]) ∧ Sl w' q' k c' Xq ∧ Sl w' r' kr cr Xr ∧ k ≤ m + 1 ∧ kr ≤ n ∧ nv Xq k * nv Y n + nv Xr kr = nv X (m + n) ∧ nv Xr kr < nv Y n ∧ Nm Xq k ∧ Nm Xr kr ∧ Own w qz q' ∧ Own w qu r' ∧ Dj q' r' ∧ Stk w.heap.size w' bs ∧ Fr (T3 qz qu bs) w w' := by
  obtain ⟨w0, hw0⟩ : ∃ w0, w0 = w := ⟨w, rfl⟩
  rw [← hw0]
  rw [← hw0] at hz hu hx hy hS hg
  clear hw0 w
  refine enterD (vs := [.slice qz nz cz, .pointer (some ⟨bs, 0, none⟩), .slice qu nu cu, .slice qx (m + n) cx, .slice qy n cy]) Tryz.func119 rfl rfl ?_
  intro a H
  replace H : Hd a 101 [] [(0, .slice qz nz cz), (1, .pointer (some ⟨bs, 0, none⟩)), (2, .slice qu nu cu), (3, .slice qx (m + n) cx), (4, .slice qy n cy)] := H
  refine wp_seq (wp_region_lit (l := [_, _]) (wl H (Ez.asn H rfl) rfl (kA rfl rfl (kW (kS (kR [_, _, _] (kM rfl rfl (kL (fun a H => Ez.len80 H rfl) rfl (kA rfl rfl (kP [(0, _), (1, _), (2, _), (3, _), (4, _), (10, _), (11, _), (12, _)] rfl (kW (kS (kR [_, _, _, _, _] (kM rfl rfl (kL (fun a H => Ez.len80 H rfl) rfl (kM rfl rfl (kL (fun a H => Ez.subI (r := (m : Int)) H rfl rfl (by omega) (by omega)) rfl (kA rfl rfl (kP [(0, _), (1, _), (2, _), (3, _), (4, _), (10, _), (11, _), (12, _), (13, _)] rfl (kW (kS (kR [_, _, _, _] (kM rfl rfl (kM rfl rfl ?_)))))))))))))))))))))))); clear H a; intro a H
  refine wk H cf131 (stkSave bs w0 hS) rfl rfl ?_
  rintro _ w1 ⟨rfl, rfl⟩
  refine ⟨_, rfl, ?_⟩; clear H a; intro a H
  refine wld H (Ez.dfr H (vs := [_, _]) rfl) ?_; clear H a; intro a H
  refine kP [(0, _), (1, _), (2, _), (3, _), (4, _), (10, _), (11, _), (12, _), (13, _)] rfl (kW (kS ?_)) a H; clear H a; intro a H
  have hxl := hx.le
  have hyl := hy.le
  obtain ⟨bx, rfl, _, hWx⟩ := hx.blk (by omega)
  obtain ⟨by_, rfl, _, hWy⟩ := hy.blk (by omega)
  have hXu : ∀ k, k < m + n → U64 (X k) := fun k hk => hWx.u k (by omega)
  have hYu : ∀ k, k < n → U64 (Y k) := fun k hk => hWy.u k (by omega)
  obtain ⟨y, hyt⟩ := Int.eq_ofNat_of_zero_le (hYu (n - 1) (by omega)).1
  have hyB := (hYu (n - 1) (by omega)).2
  have hyz : 0 < y := by
    rcases hNy with h | h
    · omega
    omega
  refine wp_region_lit (l := [_, _, _, _, _, _, _]) (wl H (Ez.mv H rfl) rfl (kM rfl rfl (kL (fun a H => Ez.subI (r := ((n - 1 : Nat) : Int)) H rfl rfl (by omega) (by omega)) rfl (kL (fun a H => Ez.ix80 H rfl rfl (n - 1) rfl (by omega)) rfl (kL (fun a H => Ez.ld103 H rfl ((by rw [Nat.zero_add]; exact hWy.cell (by omega)))) rfl ?_))))); clear H a; intro a H
  rw [hyt] at H
  refine wk H cf120 (nlz y (by omega) hyz w0) rfl rfl ?_
  rintro _ w1 ⟨s, rfl, hL, rfl⟩
  refine ⟨_, rfl, ?_⟩; clear H a; intro a H
  have hs64 := hL.1
  refine wl H (Ez.asn H rfl) rfl (kP [(0, _), (1, _), (2, _), (3, _), (4, _), (10, _), (11, _), (12, _), (13, _), (14, _)] rfl (kW (kS (kR [_, _, _, _] (kM rfl rfl (kM rfl rfl ?_)))))); clear H a; intro a H
  refine wk H cf132 (stkNat bs n w0 hS (by omega) (by omega)) rfl rfl ?_
  rintro _ w1 ⟨bv, cv, mv, V1, rfl, g1, g2, g3, g4, _, _, g5⟩
  refine ⟨_, rfl, ?_⟩; clear H a; intro a H
  have hF1 := g5 (by omega)
  have hS1 := hS.fr hF1 (fun f => f)
  have hx1 := hx.frN hF1
  have hy1 := hy.frN hF1
  have hu1 := hu.frN hF1
  have hz1 := hz.frN hF1
  have hg1 := hF1.someCell hg (fun f => f)
  clear g5
  refine wl H (Ez.asn H rfl) rfl (kP [(0, _), (1, _), (2, _), (3, _), (4, _), (10, _), (11, _), (12, _), (13, _), (14, _), (15, _)] rfl (kW (kS (kR [_, _, _, _, _, _] (kM rfl rfl (kM rfl rfl (kL (fun a H => Ez.len80 H rfl) rfl (kL (fun a H => Ez.addI (r := ((m + 1 + n : Nat) : Int)) H rfl rfl (by omega) (by omega)) rfl ?_)))))))); clear H a; intro a H
  refine wk H cf82 (natMake qu nu cu (m + 1 + n) Uz w1 hu1 (by omega)) rfl rfl ?_
  rintro _ w1 ⟨q1, cu1, U1, rfl, k1, k2, k3⟩
  refine ⟨_, rfl, ?_⟩; clear H a; intro a H
  have hF2 := hF1.trans k3
  have hS2 := hS1.fr k3 (fun f => f)
  have hWx2 := (hWx.fr hF1 (fun _ f => f)).fr k3 (fun _ f => f)
  have hWy2 := (hWy.fr hF1 (fun _ f => f)).fr k3 (fun _ f => f)
  have hz2 := hz1.frN k3
  have hg2 := k3.someCell hg1 (fun f => f)
  have hWv2 := g4.fr k3 (fun _ f => f)
  have hk1 := k1.le
  obtain ⟨bu, rfl, _, hWu2⟩ := k1.blk (by omega)
  have how : Own w0 qu (some ⟨bu, 0, none⟩) := (Own.refl w0 qu).trans (fun k j h => (k2 k j h).imp id (fun h => Nat.le_trans hF1.size h)) (Nat.le_refl _)
  have hbux : bu ≠ bx := (hdux.own how hx).ne
  have hbuy : bu ≠ by_ := (hduy.own how hy).ne
  have hbvx : bv ≠ bx := by have := hWx.lt; omega
  have hbvy : bv ≠ by_ := by have := hWy.lt; omega
  have hbuv : bu ≠ bv := by
    rcases k2 bu 0 (TQ_some.2 rfl) with h | h
    · have := hu.lt h; omega
    have := g4.lt; omega
  clear k1 k2 k3 hu1 hz1 hx1 hy1 hg1 hS1 hF1
  refine wl H (Ez.asn H rfl) rfl (kP [(0, _), (1, _), (2, _), (3, _), (4, _), (10, _), (11, _), (12, _), (13, _), (14, _), (15, _)] rfl (kW ?_)); clear H a; intro a H
  refine wp_cut (fun a w => ∃ V3 U3 : Nat → Int, Hd a 101 [⟨.fn (.func 130) #[], #[.pointer (some ⟨bs, 0, none⟩), .int .i64 0]⟩] [(0, .slice qz nz cz), (1, .pointer (some ⟨bs, 0, none⟩)), (2, .slice (some ⟨bu, 0, none⟩) (m + 1 + n) cu1), (12, .int .i64 n), (13, .int .i64 m), (14, .int .u64 s), (15, .slice (some ⟨bv, 0, none⟩) n mv)] ∧ Wk w bu cu1 U3 ∧ Wk w bv cv V3 ∧ nv V3 n = nv Y n * 2 ^ s ∧ nv U3 (m + 1 + n) = nv X (m + n) * 2 ^ s ∧ U3 (m + n) < 9223372036854775808 ∧ StN w bs ∧ Sl w qz nz cz Z ∧ w.cell? ⟨1, 0, none⟩ = some (.int .i64 40) ∧ Fr (T3 qz qu bs) w0 w) ?_ ?_
  · refine wp_seq (wp_region_lit (l := [_, _]) (wl H (Ez.mv H rfl) rfl (kL (fun a H => Ez.eql H rfl rfl (rfl)) rfl (kP [(0, _), (1, _), (2, _), (3, _), (4, _), (10, _), (11, _), (12, _), (13, _), (14, _), (15, _), (40, _)] rfl (kW ?_))))); clear H a; intro a H
    refine wp_cond_split (H.o rfl) (fun hb0 => ?_) (fun hb0 => ?_)
    · have hs0 : s = 0 := by have := of_decide_eq_true hb0; omega
      subst hs0
      refine wp_seq (wp_region_lit (l := [_, _, _]) (wl H (Ez.mv H rfl) rfl (kM rfl rfl ?_))); clear H a; intro a H
      obtain ⟨w3, e2, hWv3, hF3⟩ := Ez.copyW (x := .tmp 41) (y := .tmp 42) (T := 80) (T' := 80) (d := some 43) (ty := 3) (pos := _) (after := _) (g := none) H rfl rfl (.inr rfl) hWv2 hWy2 n (by simp) (by omega) (by omega)
      refine wl H (e2) rfl ?_; clear e2 H a; intro a H
      refine kP [(0, _), (1, _), (2, _), (3, _), (10, _), (11, _), (12, _), (13, _), (14, _), (15, _)] rfl (kW ?_) a H; clear H a; intro a H
      have hWu3 := hWu2.fr hF3 (fun _ e => hbuv e)
      have hWx3 := hWx2.fr hF3 (fun _ e => hbvx (Eq.symm e))
      refine wp_seq (wp_region_lit (l := [_, _, _, _, _, _]) (wl H (Ez.mv H rfl) rfl (kM rfl rfl (kL (fun a H => Ez.len80 H rfl) rfl (kL (fun a H => Ez.slH80 H rfl rfl (m + n) rfl (by omega)) rfl (kM rfl rfl ?_)))))); clear H a; intro a H
      obtain ⟨w4, e2, hWu4, hF4⟩ := Ez.copyW (x := .tmp 47) (y := .tmp 48) (T := 80) (T' := 80) (d := some 49) (ty := 3) (pos := _) (after := _) (g := none) H rfl rfl (.inr rfl) hWu3 hWx3 (m + n) (by simp) (by omega) (by omega)
      refine wl H (e2) rfl ?_; clear e2 H a; intro a H
      refine kP [(0, _), (1, _), (2, _), (3, _), (10, _), (11, _), (12, _), (13, _), (14, _), (15, _)] rfl (kW (kR [_, _, _, _, _] (kM rfl rfl (kM rfl rfl (kL (fun a H => Ez.len80 H rfl) rfl (kL (fun a H => Ez.ix80 H rfl rfl (m + n) rfl (by omega)) rfl ?_)))))) a H; clear H a; intro a H
      refine wls H (Ez.st103 H rfl rfl rfl (hWu4.cell (by omega)) (hWu4.fz _)) ?_; clear H; intro H
      refine kP [(0, _), (1, _), (2, _), (10, _), (11, _), (12, _), (13, _), (14, _), (15, _)] rfl (kW ?_) a H; clear H a; intro a H
      have hWv4 := hWv3.fr hF4 (fun _ e => hbuv (Eq.symm e))
      have hWv5 := hWv4.other (p := ⟨bu, 0 + (m + n), none⟩) (fun e => hbuv (Eq.symm e)) (.int .u64 0)
      have hWu5 := hWu4.set (j := 0 + (m + n)) (by omega) (v := 0) ⟨by decide, by decide⟩
      have hFv : Fr (Bl bv) w1 w3 := hF3
      have hFu : Fr (Bl bu) w3 (w4.setCell ⟨bu, 0 + (m + n), none⟩ (.int .u64 0)) := hF4.trans (Fr.bl _)
      have hvv : nv (cp V1 0 Y 0 n) n = nv Y n * 2 ^ 0 := by
        rw [Int.pow_zero, Int.mul_one]; exact nv_congr n fun j hj => by have := cp_in (Z := V1) (oz := 0) (X := Y) (ox := 0) hj; simpa using this
      have huu : nv (up (cp U1 0 X 0 (m + n)) (0 + (m + n)) 0) (m + 1 + n) = nv X (m + n) * 2 ^ 0 := by
        rw [Int.pow_zero, Int.mul_one, show m + 1 + n = (m + n) + 1 by omega]
        simp only [nv]
        rw [Nat.zero_add, up_eq]
        simp only [Int.zero_mul, Int.add_zero]
        exact nv_congr _ fun j hj => by rw [up_ne (by omega)]; have := cp_in (Z := U1) (oz := 0) (X := X) (ox := 0) hj; simpa using this
      have hut : (up (cp U1 0 X 0 (m + n)) (0 + (m + n)) 0) (m + n) < 9223372036854775808 := by rw [Nat.zero_add, up_eq]; decide
      replace H : Hd a 101 [_] [(0, _), (1, _), (2, _), (12, _), (13, _), (14, _), (15, _)] := H.pick [0, 1, 2, 12, 13, 14, 15]
      have hnb : ∀ k j, TQ qz k j → k ≠ bu ∧ k ≠ bv := fun k j h => ⟨fun e => (hdzu.symm.own how hz) bu j j (TQ_some.2 rfl) (by rw [← e]; exact h), fun e => by have := hz.lt h; omega⟩
      have hWv0 := hWv2
      refine ⟨_, _, H, hWu5, hWv5, hvv, huu, hut, ?_, ?_, ?_, ?_⟩
      · exact (hS2.fr hFv (fun e => hS2.ne hWv2 (by omega) (Eq.symm e))).fr hFu (fun e => hS2.ne hWu2 (by omega) (Eq.symm e))
      · exact (hz2.fr hFv (fun k j o h e => (hnb k j h).2 e)).fr hFu (fun k j o h e => (hnb k j h).1 e)
      · exact hFu.someCell (hFv.someCell hg2 (fun e => hWv2.neC (by omega) hg2 (Eq.symm e))) (fun e => hWu2.neC (by omega) hg2 (Eq.symm e))
      refine ((hF2.noT.plus hFv g1).trans (hFu.mono (T := fun k j => TQ qz k j ∨ TQ qu k j ∨ k = bs ∨ w0.heap.size ≤ k) fun k o _ e => ?_ ) |>.mono (T := T3 qz qu bs) fun k o hk h => ?_)
      · have e : k = bu := e
        rcases how bu 0 (TQ_some.2 rfl) with h | h
        · exact .inr (.inl (by rw [e]; exact h))
        exact .inr (.inr (.inr (by omega)))
      rcases h with h | h | h | h
      · exact .inl h
      · exact .inr (.inl h)
      · exact .inr (.inr h)
      omega
    have hs1 : 1 ≤ s := by have := of_decide_eq_false hb0; omega
    refine wp_seq (wp_region_lit (l := [_, _, _, _]) (wl H (Ez.mv H rfl) rfl (kM rfl rfl (kM rfl rfl ?_)))); clear H a; intro a H
    refine wk H cf133 (lshVU bv 0 cv by_ 0 cy n mv cy s V1 Y w1 hWv2 hWy2 (fun e => absurd e.symm hbvy) (by omega) (by omega) (by omega) (by omega) hs1 (by omega)) rfl rfl ?_
    rintro _ w1 ⟨cc, V2, rfl, a1, a2, a3, a4, a5⟩
    refine ⟨_, rfl, ?_⟩; clear H a; intro a H
    have hWu3 := hWu2.fr a5 (fun _ e => hbuv e)
    have hWx3 := hWx2.fr a5 (fun _ e => hbvx (Eq.symm e))
    refine kP [(0, _), (1, _), (2, _), (3, _), (10, _), (11, _), (12, _), (13, _), (14, _), (15, _)] rfl (kW (kR [_, _, _, _, _, _, _, _, _, _, _, _] (kM rfl rfl (kM rfl rfl (kL (fun a H => Ez.len80 H rfl) rfl (kM rfl rfl (kM rfl rfl (kL (fun a H => Ez.len80 H rfl) rfl (kL (fun a H => Ez.slH80 H rfl rfl (m + n) rfl (by omega)) rfl (kM rfl rfl (kM rfl rfl ?_))))))))))) a H; clear H a; intro a H
    refine wk H cf133 (lshVU bu 0 cu1 bx 0 cx (m + n) cu1 cx s U1 X w1 hWu3 hWx3 (fun e => absurd e.symm hbux) (by omega) (by omega) (by omega) (by omega) hs1 (by omega)) rfl rfl ?_
    rintro _ w1 ⟨cu2, U2, rfl, b1, b2, b3, b4, b5⟩
    refine ⟨_, rfl, ?_⟩; clear H a; intro a H
    refine wl H (Ez.ix80 H rfl rfl (m + n) rfl (by omega)) rfl ?_; clear H a; intro a H
    refine wls H (Ez.st103 H rfl rfl rfl (b1.cell (by omega)) (b1.fz _)) ?_; clear H; intro H
    refine kP [(0, _), (1, _), (2, _), (10, _), (11, _), (12, _), (13, _), (14, _), (15, _)] rfl (kW ?_) a H; clear H a; intro a H
    have h2s : (2 : Int) ^ s ≤ 9223372036854775808 := by
      have h : 2 ^ s ≤ 2 ^ 63 := Nat.pow_le_pow_right (by decide) (by omega)
      have e : ((2 ^ s : Nat) : Int) = 2 ^ s := by simp [Int.natCast_pow]
      rw [← e]; generalize 2 ^ s = p at h ⊢; omega
    have hcu64 : U64 cu2 := ⟨b4.1, by omega⟩
    have hWv4 := a1.fr b5 (fun _ e => hbuv (Eq.symm e))
    have hWv5 := hWv4.other (p := ⟨bu, 0 + (m + n), none⟩) (fun e => hbuv (Eq.symm e)) (.int .u64 cu2)
    have hWu5 := b1.set (j := 0 + (m + n)) (by omega) hcu64
    have hFv := a5
    have hFu := b5.trans (Fr.bl (b := bu) (j := 0 + (m + n)) (.int .u64 cu2))
    rw [nvo_zero, nvo_zero] at a3 b3
    have hc0 := shl_top (by omega) hYu (fun j hj => a1.u j (by omega)) hyt hL a4.1 a3
    have hvv : nv V2 n = nv Y n * 2 ^ s := by rw [← a3, hc0.1]; simp
    have huu : nv (up U2 (0 + (m + n)) cu2) (m + 1 + n) = nv X (m + n) * 2 ^ s := by
      rw [show m + 1 + n = (m + n) + 1 by omega]
      simp only [nv]
      rw [Nat.zero_add, up_eq, ← b3]
      congr 1
      exact nv_congr _ fun j hj => up_ne (by omega)
    have hut : (up U2 (0 + (m + n)) cu2) (m + n) < 9223372036854775808 := by rw [Nat.zero_add, up_eq]; omega
    replace H : Hd a 101 [_] [(0, _), (1, _), (2, _), (12, _), (13, _), (14, _), (15, _)] := H.pick [0, 1, 2, 12, 13, 14, 15]
    have hnb : ∀ k j, TQ qz k j → k ≠ bu ∧ k ≠ bv := fun k j h => ⟨fun e => (hdzu.symm.own how hz) bu j j (TQ_some.2 rfl) (by rw [← e]; exact h), fun e => by have := hz.lt h; omega⟩
    have hWv0 := hWv2
    refine ⟨_, _, H, hWu5, hWv5, hvv, huu, hut, ?_, ?_, ?_, ?_⟩
    · exact (hS2.fr hFv (fun e => hS2.ne hWv2 (by omega) (Eq.symm e))).fr hFu (fun e => hS2.ne hWu2 (by omega) (Eq.symm e))
    · exact (hz2.fr hFv (fun k j o h e => (hnb k j h).2 e)).fr hFu (fun k j o h e => (hnb k j h).1 e)
    · exact hFu.someCell (hFv.someCell hg2 (fun e => hWv2.neC (by omega) hg2 (Eq.symm e))) (fun e => hWu2.neC (by omega) hg2 (Eq.symm e))
    refine ((hF2.noT.plus hFv g1).trans (hFu.mono (T := fun k j => TQ qz k j ∨ TQ qu k j ∨ k = bs ∨ w0.heap.size ≤ k) fun k o _ e => ?_ ) |>.mono (T := T3 qz qu bs) fun k o hk h => ?_)
    · have e : k = bu := e
      rcases how bu 0 (TQ_some.2 rfl) with h | h
      · exact .inr (.inl (by rw [e]; exact h))
      exact .inr (.inr (.inr (by omega)))
    rcases h with h | h | h | h
    · exact .inl h
    · exact .inr (.inl h)
    · exact .inr (.inr h)
    omega
  clear H a
  intro a w hJ
  obtain ⟨V3, U3, H, hWu, hWv, hvv, huu, hut, hS3, hz3, hg3, hF3⟩ := hJ
  have hVu : ∀ j, j < n → U64 (V3 j) := fun j hj => hWv.u j (by omega)
  obtain ⟨_, hvt⟩ := shl_top (c := 0) (by omega) hYu hVu hyt hL (Int.le_refl _) (by rw [Int.zero_mul, Int.add_zero]; exact hvv)
  clear hWu2 hWv2 hWx2 hWy2 hz2 hg2 hS2 g4
  refine wp_seq (wp_seq (wp_region_lit (l := [_, _, _]) (wl H (Ez.mv H rfl) rfl (kM rfl rfl ?_)))); clear H a; intro a H
  refine wk H cf85 (natAlias qz (some ⟨bu, 0, none⟩) nz cz (m + 1 + n) cu1 Z U3 w hz3 (Sl.of hWu (by omega) (by omega))) rfl rfl ?_
  rintro _ w1 ⟨rfl, hC⟩
  refine ⟨_, rfl, ?_⟩; clear H a; intro a H
  rw [decide_eq_false (((hdzu.symm.own how hz).symm).sh hz)] at H
  refine kP [(0, _), (1, _), (2, _), (12, _), (13, _), (14, _), (15, _), (71, _)] rfl (kW ?_) a H; clear H a; intro a H
  refine wp_cond_false (H.o rfl) (wp_skip (thn (wp_seq (wp_region_lit (l := [_, _, _, _, _]) (wl H (Ez.mv H rfl) rfl (kM rfl rfl (kL (fun a H => Ez.addI (r := ((m + 1 : Nat) : Int)) H rfl rfl (by omega) (by omega)) rfl ?_))))))); clear H a; intro a H
  refine wk H cf82 (natMake qz nz cz (m + 1) Z w1 (hz3.cd hC) (by omega)) rfl rfl ?_
  rintro _ w1 ⟨q2, cq, Q1, rfl, k1, k2, k3⟩
  refine ⟨_, rfl, ?_⟩; clear H a; intro a H
  have hk1 := k1.le
  obtain ⟨bq, rfl, _, hWq⟩ := k1.blk (by omega)
  have hWu' := (hWu.heq hC.heap).fr k3 (fun _ f => f)
  have hWv' := (hWv.heq hC.heap).fr k3 (fun _ f => f)
  have hS' := (hS3.fr (hC.fr NoT) (fun f => f)).fr k3 (fun f => f)
  have hg' := k3.someCell (hC.cell hg3) (fun f => f)
  have hF4 := (hF3.trans (hC.fr _)).trans k3.noT
  have howz : Own w0 qz (some ⟨bq, 0, none⟩) := fun k j h => (k2 k j h).imp id (fun h => Nat.le_trans (hF3.trans (hC.fr _)).size h)
  have hbqu : bq ≠ bu := by
    rcases k2 bq 0 (TQ_some.2 rfl) with h | h
    · exact fun e => (hdzu.symm.own how hz) bu 0 0 (TQ_some.2 rfl) (by rw [← e]; exact h)
    have := (hWu.heq hC.heap).lt; omega
  have hbqv : bq ≠ bv := by
    rcases k2 bq 0 (TQ_some.2 rfl) with h | h
    · have := hz.lt h; omega
    have := (hWv.heq hC.heap).lt; omega
  clear k1 k2 k3 hWu hWv hS3 hg3 hF3 hz3 hC
  refine wl H (Ez.asn H rfl) rfl (kP [(1, _), (2, _), (10, _), (12, _), (14, _), (15, _)] rfl (kW (kS (kS (kR [_, _, _] (kM rfl rfl (kL (fun a H => Ez.ld3 H rfl (hg')) rfl (kL (fun a H => Ez.lss (r := true) H rfl rfl (by (simp; omega))) rfl (kP [(1, _), (2, _), (10, _), (14, _), (15, _), (78, _)] rfl (kW ?_)))))))))); clear H a; intro a H
  refine wp_cond_true (H.o rfl) (wp_region_lit (l := [_, _, _, _, _]) (wl H (Ez.mv H rfl) rfl (kM rfl rfl (kM rfl rfl (kM rfl rfl ?_))))); clear H a; intro a H
  refine wk H cf134 (divBasic bq bu bv bs cq cu1 cv (m + 1) n mv Q1 U3 V3 w1 hWq hWu' hWv' hS' hbqu hbqv hbuv (by omega) hn hn4 (by omega) (by omega) (by omega) (by omega) hvt (by rw [show m + 1 + n - 1 = m + n by omega]; omega)) rfl rfl ?_
  rintro _ w1 ⟨Q2, R2, rfl, d1, d2, d3, d4, d5, d6⟩
  refine ⟨_, rfl, ?_⟩; clear H a; intro a H
  have hd5 := d5.mono (B' := w0.heap.size) hF4.size
  have hF5 : Fr (T3 qz qu bs) w0 w1 := by
    refine ((hF4.mono (T := fun k j => TQ qz k j ∨ TQ qu k j ∨ k = bs ∨ w0.heap.size ≤ k) fun k o _ h => ?_).trans (d6.mono fun k o _ h => ?_)).mono fun k o hk h => ?_
    · rcases h with h | h | h
      · exact .inl h
      · exact .inr (.inl h)
      exact .inr (.inr (.inl h))
    · rcases h with h | h | h
      · rcases howz bq 0 (TQ_some.2 rfl) with e | e
        · exact .inl (by rw [h]; exact e)
        exact .inr (.inr (.inr (by omega)))
      · rcases how bu 0 (TQ_some.2 rfl) with e | e
        · exact .inr (.inl (by rw [h]; exact e))
        exact .inr (.inr (.inr (by omega)))
      exact .inr (.inr (.inl h))
    rcases h with h | h | h | h
    · exact .inl h
    · exact .inr (.inl h)
    · exact .inr (.inr h)
    omega
  have hbub : bu ≠ bs := hS'.ne hWu' (by omega)
  clear d5 d6 hF4 hWu' hWv' hS' hg' hWq
  refine kP [(2, _), (10, _), (14, _)] rfl (kW (kS (kR [_, _, _] (kM rfl rfl ?_)))) a H; clear H a; intro a H
  refine wk H cf84 (natNorm _ (m + 1) cq Q2 _ (Sl.of d1 (by omega) (by omega)) (by omega)) rfl rfl ?_
  rintro _ w1 ⟨k, rfl, k1, k2, k3, k4, rfl⟩
  refine ⟨_, rfl, ?_⟩; clear H a; intro a H
  refine wl H (Ez.asn H rfl) rfl (kP [(2, _), (10, _), (14, _)] rfl (kW ?_)); clear H a; intro a H
  have hrem : nv R2 (m + 1 + n) = (nv X (m + n) - nv Q2 (m + 1) * nv Y n) * 2 ^ s := by
    rw [hvv, huu] at d3
    rw [Int.sub_mul, Int.mul_assoc]; omega
  have hrlt : nv X (m + n) - nv Q2 (m + 1) * nv Y n < nv Y n := by
    rw [hrem, hvv] at d4
    exact Int.lt_of_mul_lt_mul_right d4 (Int.le_of_lt (Int.pow_pos (by decide)))
  refine wp_cut (fun a w => ∃ R4 : Nat → Int, Hd a 101 [⟨.fn (.func 130) #[], #[.pointer (some ⟨bs, 0, none⟩), .int .i64 0]⟩] [(2, .slice (some ⟨bu, 0, none⟩) (m + 1 + n) cu1), (10, .slice (some ⟨bq, 0, none⟩) k cq)] ∧ Wk w bu cu1 R4 ∧ Sl w (some ⟨bq, 0, none⟩) k cq Q2 ∧ nv R4 (m + 1 + n) = nv X (m + n) - nv Q2 (m + 1) * nv Y n ∧ Stk w0.heap.size w bs ∧ Fr (T3 qz qu bs) w0 w) ?_ ?_
  · refine wp_seq (wp_region_lit (l := [_, _]) (wl H (Ez.mv H rfl) rfl (kL (fun a H => Ez.neq H rfl rfl (rfl)) rfl (kP [(2, _), (10, _), (14, _), (92, _)] rfl (kW ?_))))); clear H a; intro a H
    refine wp_cond_split (H.o rfl) (fun hb3 => ?_) (fun hb3 => ?_)
    · have hs1 : 1 ≤ s := by have : s ≠ 0 := by simpa using hb3
                             omega
      refine wp_region_lit (l := [_, _, _, _]) (wl H (Ez.mv H rfl) rfl (kM rfl rfl (kM rfl rfl ?_))); clear H a; intro a H
      refine wk H cf136 (rshVU bu 0 cu1 bu 0 cu1 (m + 1 + n) cu1 cu1 s R2 R2 _ d2 d2 (fun _ => rfl) (by omega) (by omega) (by omega) (by omega) hs1 (by omega)) rfl rfl ?_
      rintro _ w1 ⟨cc, R3, rfl, e1, e2, e3, e4⟩
      refine ⟨_, rfl, ?_⟩; clear H a; intro a H
      refine kP [(2, _), (10, _)] rfl (kW ?_) a H; clear H a; intro a H
      have hR3 := shr_back (R := nv X (m + n) - nv Q2 (m + 1) * nv Y n) (by omega) (by omega) hrem e3
      replace H : Hd a 101 [_] [(2, _), (10, _)] := H.pick [2, 10]
      first
        | exact ⟨R3, H, e1, k2.fr e4 (fun kk j o ht e => hbqu ((TQ_some.1 ht).symm.trans e)), hR3, hd5.frW d2 (by omega) e4, frOwn hF5 how e4⟩
        | exact ⟨R2, H, d2, k2, by rw [hrem, hs0]; simp, hd5, hF5⟩
    have hs0 : s = 0 := by simpa using hb3
    refine wp_skip (thn ?_)
    replace H : Hd a 101 [_] [(2, _), (10, _)] := H.pick [2, 10]
    first
      | exact ⟨R3, H, e1, k2.fr e4 (fun kk j o ht e => hbqu ((TQ_some.1 ht).symm.trans e)), hR3, hd5.frW d2 (by omega) e4, frOwn hF5 how e4⟩
      | exact ⟨R2, H, d2, k2, by rw [hrem, hs0]; simp, hd5, hF5⟩
  clear H a
  intro a w hJ
  obtain ⟨R4, H, hWr, hSq, hR4, hSt, hF6⟩ := hJ
  refine wp_seq (wp_region_lit (l := [_, _, _]) (wl H (Ez.mv H rfl) rfl ?_)); clear H a; intro a H
  refine wk H cf84 (natNorm _ (m + 1 + n) cu1 R4 _ (Sl.of hWr (by omega) (by omega)) (by omega)) rfl rfl ?_
  rintro _ w1 ⟨kr, rfl, l1, l2, l3, l4, rfl⟩
  refine ⟨_, rfl, ?_⟩; clear H a; intro a H
  refine wl H (Ez.asn H rfl) rfl (kP [(10, _), (11, _)] rfl (kW (kS (kR [_, _, _, _] (kM rfl rfl (kM rfl rfl (kA rfl rfl (kA rfl rfl (kP [(10, _), (11, _)] rfl (kW ?_)))))))))); clear H a; intro a H
  refine wp_ret ?_
  refine lvd H (leave cf130 (stkRestore bs w0.heap.size w hSt) ?_)
  rintro w' ⟨hS', hF', hKp⟩
  have hkr : nv R4 kr < nv Y n := by rw [l3, hR4]; exact hrlt
  have hlt := nv_lt n hYu
  have hhi : ∀ b, b < w0.heap.size → ¬ Hi w0.heap.size b 0 := fun b hb e => by have : w0.heap.size ≤ b := e; omega
  have hkn : kr ≤ n := len_le (fun j hj => hWr.u j (by omega)) l4 (by omega)
  have q9 : Sl w' (some ⟨bq, 0, none⟩) k cq Q2 := hSq.kp hKp
  have r9 : Sl w' (some ⟨bu, 0, none⟩) kr cu1 R4 := l2.kp hKp
  exact lv2 H rfl rfl rfl ⟨_, k, cq, Q2, _, kr, cu1, R4, rfl, q9, r9, k1, hkn, by rw [k3, l3, hR4]; omega, hkr, k4, l4, howz, how, Dj.of hbqu, hS', hF6.hi hF'⟩
end
section
set_option maxRecDepth 8000
set_option maxHeartbeats 2000000 in
theorem natDiv (qz qu qx qy : Option Addr) (nz cz nu cu L cx n cy : Nat) (Z Uz X Y : Nat → Int) (w : World) (hz : Sl w qz nz cz Z) (hu : Sl w qu nu cu Uz) (hx : Sl w qx L cx X) (hy : Sl w qy n cy Y) (hg : w.cell? ⟨1, 0, none⟩ = some (.int .i64 40)) (hdzu : Dj qz qu) (hdux : Dj qu qx) (hduy : Dj qu qy) (hn : 1 ≤ n) (hn4 : n ≤ 4) (hm : L < 30) (hNx : Nm X L) (hNy : Nm Y n) :
    Calls Tryz.prog 99 #[.slice qz nz cz, .pointer none, .slice qu nu cu, .slice qx L cx, .slice qy n cy] w fun e w' => ∃ q' k c' Xq r' kr cr Xr, e = .returned (.tuple #[.slice q' k c', .slice r' kr cr]) ∧ Sl w' q' k c' Xq ∧ Sl w' r' kr cr Xr ∧ k ≤ L + 1 ∧ kr ≤ n ∧ nv Xq k * nv Y n + nv Xr kr = nv X L ∧ nv Xr kr < nv Y n ∧ Nm Xq k ∧ Nm Xr kr ∧ Own w qz q' ∧ Own w qu r' ∧ Dj q' r' ∧ Fr (T2 qz qu) w w' := by
  obtain ⟨w0, hw0⟩ : ∃ w0, w0 = w := ⟨w, rfl⟩
  rw [← hw0]
  rw [← hw0] at hz hu hx hy hg
  clear hw0 w
  refine enterD (vs := [.slice qz nz cz, .pointer none, .slice qu nu cu, .slice qx L cx, .slice qy n cy]) Tryz.func99 rfl rfl ?_
  intro a H
  replace H : Hd a 54 [] [(0, .slice qz nz cz), (1, .pointer none), (2, .slice qu nu cu), (3, .slice qx L cx), (4, .slice qy n cy)] := H
  refine wp_seq (wp_region_lit (l := [_, _]) (wl H (Ez.asn H rfl) rfl (kA rfl rfl (kW (kS (kS (kR [_, _, _] (kM rfl rfl (kL (fun a H => Ez.len80 H rfl) rfl (kL (fun a H => Ez.eql (r := false) H rfl rfl (by (simp; omega))) rfl (kP [(0, _), (1, _), (2, _), (3, _), (4, _), (10, _), (11, _), (15, _)] rfl (kW ?_)))))))))))); clear H a; intro a H
  refine wp_cond_false (H.o rfl) (wp_skip (thn (wp_seq (wp_seq (wp_region_lit (l := [_, _, _]) (wl H (Ez.mv H rfl) rfl (kL (fun a H => Ez.len80 H rfl) rfl (kL (fun a H => Ez.eql H rfl rfl (rfl)) rfl (kP [(0, _), (1, _), (2, _), (3, _), (4, _), (10, _), (11, _), (19, _)] rfl (kW ?_)))))))))); clear H a; intro a H
  refine wp_cond_split (H.o rfl) (fun hb1 => ?_) (fun hb1 => ?_)
  · have hn1 : n = 1 := by have := of_decide_eq_true hb1; omega
    subst hn1
    refine wp_seq (wp_region_lit (l := [_]) (wl H (Ez.asn H rfl) rfl (kP [(0, _), (1, _), (2, _), (3, _), (4, _), (10, _), (11, _), (12, _)] rfl (kW (kS ?_))))); clear H a; intro a H
    have hyl := hy.le
    obtain ⟨by_, rfl, _, hWy⟩ := hy.blk (by omega)
    obtain ⟨y, hyt⟩ := Int.eq_ofNat_of_zero_le (hWy.u 0 (by omega)).1
    have hyB := (hWy.u 0 (by omega)).2
    have hyz : 0 < y := by
      rcases hNy with h | h
      · omega
      simp at h; omega
    refine wp_region_lit (l := [_, _, _, _, _, _, _, _, _, _, _]) (wl H (Ez.mv H rfl) rfl (kM rfl rfl (kM rfl rfl (kL (fun a H => Ez.ix80 H rfl rfl 0 rfl (by omega)) rfl (kL (fun a H => Ez.ld103 H rfl ((hWy.cell (by omega)))) rfl ?_))))); clear H a; intro a H
    rw [Nat.zero_add, hyt] at H
    refine wk H cf115 (natDivW qz qx nz cz L cx y Z X w0 hz hx (by omega) (by omega) hyz hNx) rfl rfl ?_
    rintro _ w1 ⟨q', k, c', X', r, rfl, h1, h2, h3, h4, h5, h6, h7⟩
    refine ⟨_, rfl, ?_⟩; clear H a; intro a H
    refine wl H (Ez.mv H rfl) rfl (kL (fun a H => Ez.ext0 H rfl) rfl (kL (fun a H => Ez.ext1 H rfl) rfl (kA rfl rfl (kA rfl rfl (kP [(0, _), (1, _), (2, _), (3, _), (4, _), (10, _), (11, _), (12, _)] rfl (kW (kS ?_))))))); clear H a; intro a H
    obtain ⟨wL, rfl⟩ : ∃ wL, wL = w1 := ⟨w1, rfl⟩
    refine wp_region_lit (l := [_, _, _, _]) (wl H (Ez.mv H rfl) rfl (kM rfl rfl ?_)); clear H a; intro a H
    refine wk H cf116 (natSetWord qu nu cu Uz r wL (hu.fr h7 (fun k j o a b => hdzu k o j b a)) ⟨h4.1, by omega⟩) rfl rfl ?_
    rintro _ w1 ⟨r', kr, cr, Xr, rfl, k1, k2, k3, k4, k5, k6⟩
    refine ⟨_, rfl, ?_⟩; clear H a; intro a H
    refine wl H (Ez.asn H rfl) rfl (kP [(0, _), (1, _), (2, _), (3, _), (4, _), (10, _), (11, _)] rfl (kW ?_)); clear H a; intro a H
    refine wp_ret (thr ?_)
    refine rtD2 H rfl rfl rfl ?_
    have ho2 : Own w0 qu r' := fun k j h => (k5 k j h).imp id (fun h => Nat.le_trans h7.size h)
    have hd : Dj q' r' := fun kk j j' a b => by
      rcases k5 kk j' b with h | h
      · rcases h6 kk j a with g | g
        · exact hdzu kk j j' g h
        have := hu.lt h; omega
      have := h1.lt a; omega
    have hv1 : nv Y 1 = y := by simp [nv, hyt]
    exact ⟨q', k, c', X', r', kr, cr, Xr, rfl, h1.fr k6 (fun kk j o a b => by
      rcases h6 kk j a with g | g
      · exact hdzu kk j o g b
      have := hu.lt b; omega), k1, by omega, by omega, by rw [hv1, k3]; omega, by rw [hv1, k3]; omega, h5, k4, h6, ho2, hd, (h7.mono (T := T2 qz qu) fun k o _ h => .inl h).trans (k6.mono fun k o _ h => .inr h)⟩
  have hn1 : n ≠ 1 := by have := of_decide_eq_false hb1; omega
  refine wp_skip (thn (wp_seq (wp_seq (wp_region_lit (l := [_, _, _, _]) (wl H (Ez.mv H rfl) rfl (kM rfl rfl ?_)))))); clear H a; intro a H
  refine wk H cf90 (natCmp qx qy L cx n cy X Y w0 hx hy (by omega) (by omega) hNx hNy) rfl rfl ?_
  rintro _ w1 ⟨rfl, hC⟩
  refine ⟨_, rfl, ?_⟩; clear H a; intro a H
  refine wl H (Ez.lss H rfl rfl (rfl)) rfl (kP [(0, _), (1, _), (2, _), (3, _), (4, _), (10, _), (11, _), (35, _)] rfl (kW ?_)); clear H a; intro a H
  refine wp_cond_split (H.o rfl) (fun hb2 => ?_) (fun hb2 => ?_)
  · have hlt : nv X L < nv Y n := by
      have := of_decide_eq_true hb2
      unfold cmpI at this
      split at this
      · assumption
      split at this <;> omega
    refine wp_seq (wp_region_lit (l := [_, _, _]) (wl H (Ez.mv H rfl) rfl (kL (fun a H => Ez.slH80 H rfl rfl 0 rfl (Nat.zero_le _)) rfl (kA rfl rfl (kP [(0, _), (1, _), (2, _), (3, _), (4, _), (10, _), (11, _)] rfl (kW (kS ?_))))))); clear H a; intro a H
    obtain ⟨wL, rfl⟩ : ∃ wL, wL = w1 := ⟨w1, rfl⟩
    refine wp_region_lit (l := [_, _, _, _]) (wl H (Ez.mv H rfl) rfl (kM rfl rfl ?_)); clear H a; intro a H
    refine wk H cf94 (natSet qu qx nu cu L cx Uz X wL (hu.cd hC) (hx.cd hC) (by omega)) rfl rfl ?_
    rintro _ w1 ⟨r', cr, Xr, rfl, k1, k2, k3, k4⟩
    refine ⟨_, rfl, ?_⟩; clear H a; intro a H
    refine wl H (Ez.asn H rfl) rfl (kP [(0, _), (1, _), (2, _), (3, _), (4, _), (10, _), (11, _)] rfl (kW ?_)); clear H a; intro a H
    refine wp_ret (thr ?_)
    refine rtD2 H rfl rfl rfl ?_
    have ho2 : Own w0 qu r' := fun k j h => (k3 k j h).imp id (fun h => by rw [hC.heap] at h; exact h)
    have e := nv_congr L k2
    have hLn : L ≤ n := len_le (X := X) (fun j hj => hx.u (by have := hx.le; omega)) hNx (by have h9 := nv_lt (X := Y) n (fun j hj => hy.u (by have := hy.le; omega)); have h8 : nv X L < nv Y n := hlt; exact Int.lt_trans h8 h9)
    have hzd : Dj qz r' := fun kk j j' a b => by
      rcases k3 kk j' b with h | h
      · exact hdzu kk j j' a h
      have := (hz.cd hC).lt a; omega
    exact ⟨qz, 0, cz, Z, r', L, cr, Xr, rfl, ((hz.cd hC).cut (Nat.zero_le _)).fr k4 (fun kk j o a b => hdzu kk j o a b), k1, by omega, hLn, by rw [e]; simp [nv], by rw [e]; exact hlt, .inl rfl, hNx.congr k2, Own.refl _ _, ho2, hzd, ((hC.fr (T2 qz qu))).trans (k4.mono fun k o _ h => .inr h)⟩
  have hge : nv Y n ≤ nv X L := by
    have := of_decide_eq_false hb2
    unfold cmpI at this
    split at this
    · omega
    omega
  refine wp_skip (thn (wp_seq (wp_seq ?_)))
  obtain ⟨wL, rfl⟩ : ∃ wL, wL = w1 := ⟨w1, rfl⟩
  have hLn : n ≤ L := by
    rcases Nat.lt_or_ge L n with h | h
    · have := nv_lt_len (X := Y) (Y := X) (fun j hj => hy.u (by have := hy.le; omega)) (fun j hj => hx.u (by have := hx.le; omega)) hNy h
      omega
    exact h
  obtain ⟨m, rfl⟩ : ∃ m, L = m + n := ⟨L - n, by omega⟩
  refine wp_region_lit (l := [_, _]) (wl H (Ez.mv H rfl) rfl (kL (fun a H => Ez.eqN H (.inl rfl) rfl rfl (r := true) rfl) rfl (kP [(0, _), (1, _), (2, _), (3, _), (4, _), (10, _), (11, _), (42, _)] rfl (kW ?_)))); clear H a; intro a H
  refine wp_cond_true (H.o rfl) (wp_seq (wp_region_lit (l := [_, _]) ?_))
  refine wk H cf117 (getStack wL) rfl rfl ?_
  rintro _ w1 ⟨bs, rfl, g1, g2, g3⟩
  refine ⟨_, rfl, ?_⟩; clear H a; intro a H
  obtain ⟨wS, rfl⟩ : ∃ wS, wS = w1 := ⟨w1, rfl⟩
  have hw0S : w0.heap.size ≤ bs := by rw [hC.heap] at g1; exact g1
  refine wl H (Ez.asn H rfl) rfl (kP [(0, _), (1, _), (2, _), (3, _), (4, _), (10, _), (11, _)] rfl (kW (kR [_, _] (kM rfl rfl ?_)))); clear H a; intro a H
  refine wld H (Ez.dfr H (vs := [_]) rfl) ?_; clear H a; intro a H
  refine kP [(0, _), (1, _), (2, _), (3, _), (4, _), (10, _), (11, _)] rfl (kW (kS (kR [_, _, _, _, _, _, _, _, _, _, _] (kM rfl rfl (kM rfl rfl (kM rfl rfl (kM rfl rfl (kM rfl rfl ?_)))))))) a H; clear H a; intro a H
  refine wk H cf119 (divLarge qz qu qx qy bs nz cz nu cu m cx n cy Z Uz X Y wS ((hz.cd hC).frN g3) ((hu.cd hC).frN g3) ((hx.cd hC).frN g3) ((hy.cd hC).frN g3) g2 (g3.someCell (hC.cell hg) (fun f => f)) hdzu hdux hduy (by omega) hn4 (by omega) hNy) rfl rfl ?_
  rintro _ w1 ⟨q', k, c', Xq, r', kr, cr, Xr, rfl, d1, d2, d3, d4, d5, d6, d7, d8, d9, d10, d11, d12, d13⟩
  refine ⟨_, rfl, ?_⟩; clear H a; intro a H
  obtain ⟨wD, rfl⟩ : ∃ wD, wD = w1 := ⟨w1, rfl⟩
  refine wl H (Ez.mv H rfl) rfl (kL (fun a H => Ez.ext0 H rfl) rfl (kL (fun a H => Ez.ext1 H rfl) rfl (kA rfl rfl (kA rfl rfl (kP [(10, _), (11, _)] rfl (kW ?_)))))); clear H a; intro a H
  refine wp_ret ?_
  have hs0 : w0.heap.size ≤ wS.heap.size := by have := g3.size; rw [hC.heap] at this; exact this
  refine lvd H (leave cf118 (stkFree bs w0.heap.size wD (d12.mono hs0)) ?_)
  rintro w' ⟨hF', hKp⟩
  have hF : Fr (T3 qz qu bs) w0 wD := (((hC.fr NoT).trans g3).noT).trans d13
  exact lv2 H rfl rfl rfl ⟨_, k, c', Xq, _, kr, cr, Xr, rfl, d1.kp hKp, d2.kp hKp, by omega, d4, d5, d6, d7, d8, fun k j h => (d9 k j h).imp id (fun h => Nat.le_trans hs0 h), fun k j h => (d10 k j h).imp id (fun h => Nat.le_trans hs0 h), d11, (hF.hi hF').mono fun k o hk h => by
    rcases h with h | h | h
    · exact .inl h
    · exact .inr h
    omega⟩
end
section
set_option maxRecDepth 8000
section
variable {P : Program} {ops : Array Oper} {md : Region.Mode} {w : World}
def chainC (md : Region.Mode) (ops : Array Oper) (n : Nat) : Bool :=
  (List.range ops.size).all fun t => decide (t ≤ n) || (List.range t).any fun s => decide (n ≤ s) && Region.waitsFor md ops t s
structure HI (md : Region.Mode) (ops : Array Oper) (n : Nat) (listed : Array Bool) : Prop where
  inv : HeadInv md ops n listed
  sink : ∀ i, i < n → listed.getD i true = false → ∃ j, i < j ∧ j ≤ n ∧ Region.waitsFor md ops j i = true
theorem getD_unset {listed : Array Bool} {i j : Nat} (h : (listed.setIfInBounds i true).getD j true = false) : listed.getD j true = false := by
  by_cases e : i = j
  · subst e
    rcases Nat.lt_or_ge i listed.size with h' | h'
    · simp [h'] at h
    simp [Array.getElem?_eq_none h'] at h
  rwa [getD_set_ne true e] at h
theorem HI.set {n i : Nat} {listed : Array Bool} (h : HI md ops n listed) (hi : i ∈ Region.ready md ops listed) (hin : i < n) : HI md ops n (listed.setIfInBounds i true) :=
  ⟨h.inv.set hi hin, fun j hj hu => h.sink j hj (getD_unset hu)⟩
theorem not_ready_of_waits {t s : Nat} {listed : Array Bool} (h : Region.waitsFor md ops t s = true) (hs : listed.getD s true = false) : t ∉ Region.ready md ops listed := fun hr => by
  obtain ⟨_, ot, hot, hall⟩ := mem_ready.1 hr
  obtain ⟨o', ho', e, he, hb, hon⟩ := Region.waitsFor_spec h
  cases Option.some.inj (ho'.symm.trans hot)
  have := hall e he hb
  rw [hon, getD_both hs] at this
  cases this
theorem HI.head {n : Nat} {listed : Array Bool} (h : HI md ops n listed) (hn : n < ops.size) : ∀ d i, n - i = d → i < n → listed.getD i true = false → n ∉ Region.ready md ops listed := by
  intro d
  induction d using Nat.strongRecOn with
  | _ d ih =>
    intro i hd hi hu
    obtain ⟨j, hij, hjn, hw⟩ := h.sink i hi hu
    by_cases e : j = n
    · subst e; exact not_ready_of_waits hw hu
    refine ih (n - j) (by omega) j rfl (by omega) ?_
    cases hl : listed.getD j false with
    | false => exact getD_in (by rw [h.inv.size]; omega) hl
    | true =>
      exfalso
      obtain ⟨oj, hoj, e', he, hb, hon⟩ := Region.waitsFor_spec hw
      have := h.inv.closed j oj hoj hl e' he hb
      rw [hon, getD_both hu] at this
      cases this
theorem HI.waits {n : Nat} {listed : Array Bool} (h : HI md ops n listed) (hc : chainC md ops n = true) (hn : n < ops.size) {i : Nat} (hi : i < n) (hu : listed.getD i true = false) (t : Nat) (ht : n ≤ t) : t ∉ Region.ready md ops listed := by
  by_cases e : t = n
  · subst e; exact h.head hn _ i rfl hi hu
  intro hr
  have htl : t < ops.size := by
    obtain ⟨_, ot, hot, _⟩ := mem_ready.1 hr
    exact (Array.getElem?_eq_some_iff.1 hot).1
  have h1 := List.all_eq_true.1 hc t (List.mem_range.2 htl)
  simp only [Bool.or_eq_true, decide_eq_true_eq] at h1
  rcases h1 with h1 | h1
  · omega
  obtain ⟨s, hs, h2⟩ := List.any_eq_true.1 h1
  simp only [Bool.and_eq_true, decide_eq_true_eq] at h2
  have hst := List.mem_range.1 hs
  exact not_ready_of_waits h2.2 (h.inv.tail s h2.1 (by omega)) hr
theorem still_first {n i : Nat} {oi : Oper} {v : Value} {L : Array Bool → Act → Prop} (hi : ops[i]? = some oi) (hsel : Region.noSelect ops = true) (hc : chainC md ops n = true) (hn : n < ops.size) (hin : i < n)
    (hdone : ∀ listed a, L listed a → ∀ j ∈ Region.ready md ops listed, n ≤ j) : ∀ (f : Nat) (listed : Array Bool) (a : Act), HI md ops n listed →
      (∀ j oj, ops[j]? = some oj → j ≠ i → listed.getD j true = false → (∀ e ∈ oj.after, Region.binds md e = true → e.on ≠ i) → oi.apart ops oj = true) →
      i ∈ Region.ready md ops listed → YieldsAt P ops w oi v a → wpAnyL P md ops w n L f (listed.setIfInBounds i true) (a.put oi.dst v) → wpAnyL P md ops w n L (f + 1) listed a
  | f, listed, a, inv, hfree, hr, hy, H => by
    have hun := (mem_ready.1 hr).1
    refine ⟨fun h => (by rw [h] at hr; cases hr), fun j hj => ?_⟩
    have hjn : j < n := Nat.lt_of_not_le fun h => inv.waits hc hn hin hun j h hj
    refine ⟨hjn, ?_⟩
    by_cases hji : j = i
    · subst hji; exact hy.stOp hi H
    cases f with
    | zero => exact absurd (hdone _ _ H j (ready_mono hj hji)) (by omega)
    | succ f =>
      obtain ⟨hju, oj, hoj, hall⟩ := mem_ready.1 hj
      have hnot : ∀ e ∈ oj.after, Region.binds md e = true → e.on ≠ i := fun e he hb heq => by
        have h1 := hall e he hb
        rw [heq, getD_both hun] at h1; cases h1
      have hs := Region.noSelect_spec hsel
      refine stOp_mono (fun a' h3 => still_first hi hsel hc hn hin hdone f _ a' (inv.set hj hjn) (fun k ok hk hki hu hno => hfree k ok hk hki (getD_unset hu) hno) (ready_mono hr (Ne.symm hji)) h3.1 ?_)
        (stOp_put hoj (hfree j oj hoj hji hju hnot) (fun cs b => hs i oi cs b hi) (fun cs b => hs j oj cs b hoj) hy (H.2 j (ready_mono hj hji)).2)
      rw [Array.setIfInBounds_comm _ _ hji]
      exact h3.2
end
inductive Kd
  | p | c | f
def nth {α : Type} : List α → Nat → Option α
  | [], _ => none
  | x :: _, 0 => some x
  | _ :: l, n + 1 => nth l n
theorem nth_arr {α : Type} : ∀ (l : List α) (i : Nat), l.toArray[i]? = nth l i
  | [], i => by simp [nth]
  | x :: l, 0 => by simp [nth]
  | x :: l, i + 1 => by have := nth_arr l i; simpa [nth] using this
def Mix (P : Program) (l : List Oper) (Q : Exit → Act → World → Prop) : List (Kd × Nat) → Act → World → Prop
  | [], a, w => Q .normal a w
  | (.p, i) :: r, a, w => ∃ o v, nth l i = some o ∧ o.dst.isSome = true ∧ YieldsIf P l.toArray (fun _ => True) o v a ∧ Mix P l Q r (a.put o.dst v) w
  | (.c, i) :: r, a, w => ∃ o v, nth l i = some o ∧ YieldsAt P l.toArray w o v a ∧ Mix P l Q r (a.put o.dst v) w
  | (.f, i) :: r, a, w => wpOp P l.toArray Q i (Mix P l Q r) a w
def closedB (md : Region.Mode) (ops : Array Oper) (listed : Array Bool) : Bool :=
  (List.range ops.size).all fun j => !listed.getD j false || match ops[j]? with
    | some oj => oj.after.all fun e => !Region.binds md e || listed.getD e.on false
    | none => true
def headC (md : Region.Mode) (ops : Array Oper) (n : Nat) (listed : Array Bool) : Bool :=
  closedB md ops listed && decide (listed.size = ops.size) && (List.range ops.size).all (fun t => decide (t < n) || !listed.getD t true) && decide (n < ops.size) && chainC md ops n &&
  (List.range n).all fun i => listed.getD i true || (List.range (n + 1)).any fun j => decide (i < j) && Region.waitsFor md ops j i
def mixB (md : Region.Mode) (ops : Array Oper) : List (Kd × Nat) → Array Bool → Option Nat → Bool
  | [], listed, _ => (Region.ready md ops listed).isEmpty
  | (.p, i) :: r, listed, _ => Region.free md ops listed i && (Region.ready md ops listed).contains i && mixB md ops r (listed.setIfInBounds i true) none
  | (.c, i) :: r, listed, _ => false
  | (.f, i) :: r, listed, _ => decide (Region.ready md ops listed = [i]) && mixB md ops r (listed.setIfInBounds i true) none
def stillB (md : Region.Mode) (ops : Array Oper) (n : Nat) : List (Kd × Nat) → Array Bool → Bool
  | (.c, i) :: r, listed => decide (i < n) && Region.free md ops listed i && (Region.ready md ops listed).contains i && stillB md ops n r (listed.setIfInBounds i true)
  | r, listed => (Region.ready md ops listed).all (fun j => decide (n ≤ j)) && mixB md ops r listed none
def allB (md : Region.Mode) (ops : Array Oper) (n : Nat) : List (Kd × Nat) → Array Bool → Bool
  | (.p, i) :: r, listed => Region.free md ops listed i && (Region.ready md ops listed).contains i && allB md ops n r (listed.setIfInBounds i true)
  | r, listed => headC md ops n listed && stillB md ops n r listed
section
variable {P : Program} {Q : Exit → Act → World → Prop} {md : Region.Mode} {l : List Oper}
theorem mix_tail (hs : Region.noSelect l.toArray = true) (hQ : ∀ c d v a w, Q (.panic c) (Act.put a (some d) v) w → Q (.panic c) a w) : ∀ (ks : List (Kd × Nat)) (listed : Array Bool) (x : Option Nat) (a : Act) (w : World), mixB md l.toArray ks listed x = true → Mix P l Q ks a w → wpAny P md l.toArray Q ks.length listed a w
  | [], listed, _, a, w, hB, h => ⟨by simpa [mixB] using hB, h⟩
  | (.p, i) :: r, listed, _, a, w, hB, h => by
    obtain ⟨o, v, h0, hd, hy, h⟩ := h
    simp only [mixB, Bool.and_eq_true] at hB
    obtain ⟨d, hd⟩ := Option.isSome_iff_exists.1 hd
    have ho : l.toArray[i]? = some o := by rw [nth_arr]; exact h0
    refine wpAny_of_held _ _ _ _ (wpAnyH_take (S := fun _ => True) ho hs hB.1.1 hB.1.2 (by rw [hd]; exact fun c a w => hQ c d v a w) hy trivial (heldT _ _ _ _ ?_))
    exact mix_tail hs hQ r _ none _ w hB.2 h
  | (.c, i) :: r, listed, _, a, w, hB, h => by simp [mixB] at hB
  | (.f, i) :: r, listed, _, a, w, hB, h => by
    simp only [mixB, Bool.and_eq_true, decide_eq_true_eq] at hB
    refine ⟨fun h1 => (by rw [hB.1] at h1; cases h1), fun j hj => ?_⟩
    rw [hB.1] at hj
    have e : j = i := by simpa using hj
    subst e
    exact wpOp_mono (fun a' w' h' => mix_tail hs hQ r _ none a' w' hB.2 h') h
def afterC : List (Kd × Nat) → List (Kd × Nat)
  | (.c, _) :: r => afterC r
  | r => r
theorem mix_still (hs : Region.noSelect l.toArray = true) {n : Nat} {w : World} (hc : chainC md l.toArray n = true) (hn : n < l.toArray.size) : ∀ (ks : List (Kd × Nat)) (listed : Array Bool) (a : Act), HI md l.toArray n listed → stillB md l.toArray n ks listed = true → Mix P l Q ks a w →
    ∃ f, f + (afterC ks).length = ks.length ∧ wpAnyL P md l.toArray w n (fun listed' a' => (∀ j ∈ Region.ready md l.toArray listed', n ≤ j) ∧ mixB md l.toArray (afterC ks) listed' none = true ∧ Mix P l Q (afterC ks) a' w) f listed a
  | [], listed, a, inv, hB, h => by
    simp only [stillB, Bool.and_eq_true, List.all_eq_true, decide_eq_true_eq] at hB
    exact ⟨0, by simp [afterC], hB.1, hB.2, h⟩
  | (.p, i) :: r, listed, a, inv, hB, h => by
    simp only [stillB, Bool.and_eq_true, List.all_eq_true, decide_eq_true_eq] at hB
    exact ⟨0, by simp [afterC], hB.1, hB.2, h⟩
  | (.f, i) :: r, listed, a, inv, hB, h => by
    simp only [stillB, Bool.and_eq_true, List.all_eq_true, decide_eq_true_eq] at hB
    exact ⟨0, by simp [afterC], hB.1, hB.2, h⟩
  | (.c, i) :: r, listed, a, inv, hB, h => by
    obtain ⟨o, v, h0, hy, h⟩ := h
    simp only [stillB, Bool.and_eq_true, decide_eq_true_eq] at hB
    obtain ⟨⟨⟨hin, hf⟩, hr⟩, hB⟩ := hB
    have ho : l.toArray[i]? = some o := by rw [nth_arr]; exact h0
    have hr' : i ∈ Region.ready md l.toArray listed := by simpa using hr
    obtain ⟨f, hf1, hf2⟩ := mix_still hs hc hn r _ _ (inv.set hr' hin) hB h
    exact ⟨f + 1, by simp only [afterC, List.length_cons]; omega, still_first ho hs hc hn hin (fun _ _ hL => hL.1) f listed a inv (Region.free_spec ho hf) hr' hy hf2⟩
theorem HI.of {ops : Array Oper} {n : Nat} {listed : Array Bool} (h : headC md ops n listed = true) : HI md ops n listed ∧ chainC md ops n = true ∧ n < ops.size := by
  simp only [headC, Bool.and_eq_true, decide_eq_true_eq] at h
  obtain ⟨⟨⟨⟨⟨h1, h2⟩, h3⟩, h4⟩, h5⟩, h6⟩ := h
  refine ⟨⟨⟨h2, fun j oj hj hl e he hb => ?_, fun t ht ht' => ?_⟩, fun i hi hu => ?_⟩, h5, h4⟩
  · have := List.all_eq_true.1 h1 j (List.mem_range.2 (Array.getElem?_eq_some_iff.1 hj).1)
    simp only [hl, hj, Bool.not_true, Bool.false_or, Array.all_eq_true_iff_forall_mem] at this
    have := this e he
    simpa [hb] using this
  · have := List.all_eq_true.1 h3 t (List.mem_range.2 ht')
    simp only [Bool.or_eq_true, decide_eq_true_eq, Bool.not_eq_true'] at this
    rcases this with h | h
    · omega
    exact h
  have := List.all_eq_true.1 h6 i (List.mem_range.2 hi)
  simp only [hu, Bool.false_or] at this
  obtain ⟨j, hj, h7⟩ := List.any_eq_true.1 this
  simp only [Bool.and_eq_true, decide_eq_true_eq] at h7
  have := List.mem_range.1 hj
  exact ⟨j, h7.1, by omega, h7.2⟩
theorem mix_all (hs : Region.noSelect l.toArray = true) (hQ : ∀ c d v a w, Q (.panic c) (Act.put a (some d) v) w → Q (.panic c) a w) {n : Nat} {w : World} : ∀ (ks : List (Kd × Nat)) (listed : Array Bool) (a : Act), allB md l.toArray n ks listed = true → Mix P l Q ks a w → wpAny P md l.toArray Q ks.length listed a w := by
  have key : ∀ (ks : List (Kd × Nat)) (listed : Array Bool) (a : Act), headC md l.toArray n listed = true → stillB md l.toArray n ks listed = true → Mix P l Q ks a w → wpAny P md l.toArray Q ks.length listed a w := by
    intro ks listed a h1 h2 h
    obtain ⟨inv, hc, hn⟩ := HI.of h1
    obtain ⟨f, hf, h3⟩ := mix_still hs hc hn ks listed a inv h2 h
    rw [← hf]
    exact wpAny_of_head (fun listed' a' hL => mix_tail hs hQ _ _ none _ w hL.2.1 hL.2.2) f listed a h3
  intro ks
  induction ks with
  | nil =>
    intro listed a hB h
    simp only [allB, Bool.and_eq_true] at hB
    exact key [] listed a hB.1 hB.2 h
  | cons k r ih =>
    intro listed a hB h
    obtain ⟨kd, i⟩ := k
    cases kd with
    | p =>
      obtain ⟨o, v, h0, hd, hy, h⟩ := h
      simp only [allB, Bool.and_eq_true] at hB
      obtain ⟨d, hd⟩ := Option.isSome_iff_exists.1 hd
      have ho : l.toArray[i]? = some o := by rw [nth_arr]; exact h0
      exact wpAny_of_held _ _ _ _ (wpAnyH_take (S := fun _ => True) ho hs hB.1.1 hB.1.2 (by rw [hd]; exact fun c a w => hQ c d v a w) hy trivial (heldT _ _ _ _ (ih _ _ hB.2 h)))
    | c => simp only [allB, Bool.and_eq_true] at hB; exact key _ listed a hB.1 hB.2 h
    | f => simp only [allB, Bool.and_eq_true] at hB; exact key _ listed a hB.1 hB.2 h
theorem regionM {id : Nat} {a : Act} {w : World} (l : List Oper) (n : Nat) (ks : List (Kd × Nat)) (hm : P.follows .mixedOrders = true) (hQ : ∀ c d v a w, Q (.panic c) (Act.put a (some d) v) w → Q (.panic c) a w)
    (hB : (Region.noSelect l.toArray && decide (ks.length = l.toArray.size) && allB .any l.toArray n ks (Array.replicate l.toArray.size false)) = true)
    (h : ∀ w1, Cd w w1 → Mix P l Q ks a w1) : (Code.region id l.toArray true).wp P Q a w := by
  simp only [Bool.and_eq_true, decide_eq_true_eq] at hB
  refine wp_region_any hm ?_
  rw [← hB.1.2]
  have := mix_all (P := P) (Q := Q) (w := { w with drawn := w.drawn + 1 }) hB.1.1 hQ ks _ a hB.2 (h _ ⟨1, rfl⟩)
  rw [← hB.1.2] at this
  exact this
end
section
variable {P : Program} {os : List Oper} {ops : Array Oper} {Q : Exit → Act → World → Prop} {a : Act} {w w' : World} {rest : List (Kd × Nat)} {op : Op} {d i : Nat} {ty : TypeId} {pos : String} {after : Array Edge} {g : Nat} {b : Bool} {N : Nat} {ds : List Deferred} {l : Env} {v : Value}
theorem mxp (ho : nth os i = some ⟨some d, op, ty, pos, after, none⟩) (H : Hd a N ds l) (hr : ∀ w, (execOp a.eval ⟨some d, op, ty, pos, after, none⟩).run P w = .ok (.value v) w) (hd : Nat.blt d N = true)
    (h : ∀ a', Hd a' N ds ((d, v) :: l) → Mix P os Q rest a' w) : Mix P os Q ((.p, i) :: rest) a w :=
  ⟨_, v, ho, rfl, .inl ⟨by simp [Region.wanted], fun w _ => hr w⟩, h _ (H.put v hd)⟩
theorem mxc (ho : nth os i = some ⟨some d, op, ty, pos, after, none⟩) (H : Hd a N ds l) (hr : (execOp a.eval ⟨some d, op, ty, pos, after, none⟩).run P w = .ok (.value v) w) (hd : Nat.blt d N = true)
    (h : ∀ a', Hd a' N ds ((d, v) :: l) → Mix P os Q rest a' w) : Mix P os Q ((.c, i) :: rest) a w :=
  ⟨_, v, ho, .inl ⟨by simp [Region.wanted], .inl hr⟩, h _ (H.put v hd)⟩
theorem yield_nth {og : Oper} {t : Nat} (H : Hd a N ds l) (ho : nth os g = some og) (ht : og.dst = some t) (hb : lk l t = some (.bool b)) (hN : Nat.blt t N = true) : yielded os.toArray a.tmps g = some b :=
  yield_of H (by rw [nth_arr]; exact ho) ht hb hN
theorem mxcg {og : Oper} {t : Nat} (ho : nth os i = some ⟨some d, op, ty, pos, after, some (g, b)⟩) (H : Hd a N ds l) (hr : (execOp a.eval ⟨some d, op, ty, pos, after, some (g, b)⟩).run P w = .ok (.value v) w) (hd : Nat.blt d N = true)
    (hog : nth os g = some og) (ht : og.dst = some t) (hb : lk l t = some (.bool b)) (hN : Nat.blt t N = true)
    (h : ∀ a', Hd a' N ds ((d, v) :: l) → Mix P os Q rest a' w) : Mix P os Q ((.c, i) :: rest) a w :=
  ⟨_, v, ho, .inl ⟨by simp [Region.wanted, yield_nth H hog ht hb hN], .inl hr⟩, h _ (H.put v hd)⟩
theorem mxcx {og : Oper} {t : Nat} (ho : nth os i = some ⟨some d, op, ty, pos, after, some (g, b)⟩) (H : Hd a N ds l) (hd : Nat.blt d N = true)
    (hog : nth os g = some og) (ht : og.dst = some t) (hb : lk l t = some (.bool (!b))) (hN : Nat.blt t N = true)
    (h : ∀ a', Hd a' N ds ((d, undef) :: l) → Mix P os Q rest a' w) : Mix P os Q ((.c, i) :: rest) a w :=
  ⟨_, undef, ho, .inr ⟨by simp [Region.wanted, yield_nth H hog ht hb hN], rfl⟩, h _ (H.put undef hd)⟩
theorem mxf (ho : nth os i = some ⟨some d, op, ty, pos, after, none⟩) (H : Hd a N ds l) (hr : (execOp a.eval ⟨some d, op, ty, pos, after, none⟩).run P w = .ok (.value v) w') (hd : Nat.blt d N = true)
    (h : ∀ a', Hd a' N ds ((d, v) :: l) → Mix P os Q rest a' w') : Mix P os Q ((.f, i) :: rest) a w := by
  show wpOp P os.toArray Q i _ a w
  unfold wpOp
  rw [nth_arr, ho]
  simp only [Region.wanted, if_true]
  exact .inl (by unfold Oper.wp; rw [hr]; exact h _ (H.put v hd))
theorem mxs (ho : nth os i = some ⟨none, op, ty, pos, after, none⟩) (H : Hd a N ds l) (hr : (execOp a.eval ⟨none, op, ty, pos, after, none⟩).run P w = .ok .skip w')
    (h : Hd a N ds l → Mix P os Q rest a w') : Mix P os Q ((.f, i) :: rest) a w := by
  show wpOp P os.toArray Q i _ a w
  unfold wpOp
  rw [nth_arr, ho]
  simp only [Region.wanted, if_true]
  exact .inl (by unfold Oper.wp; rw [hr]; exact h H)
theorem mxk {f : FuncId} {vs : List Value} {R : Ending → World → Prop} {xs : Array Operand} {ts : Array TypeId} (ho : nth os i = some ⟨some d, .call { callee := .value (.func f), args := xs, argTypes := ts }, ty, pos, after, none⟩) (H : Hd a N ds l)
    (hF : ∀ args w, (callFunc f args).run Tryz.prog w = .ok (.enter f args) w) (hc : Calls Tryz.prog f vs.toArray w R) (hx : xs.toList.map (ov l) = vs.map some) (hd : Nat.blt d N = true)
    (h : ∀ e w', R e w' → ∃ v, e = .returned v ∧ ∀ a', Hd a' N ds ((d, v) :: l) → Mix Tryz.prog os Q rest a' w') : Mix Tryz.prog os Q ((.f, i) :: rest) a w := by
  show wpOp Tryz.prog os.toArray Q i _ a w
  unfold wpOp
  rw [nth_arr, ho]
  simp only [Region.wanted, if_true]
  refine .inl ?_
  unfold Oper.wp
  rw [Ez.call H hx (hF _ _)]
  exact hc.mono fun e w' hR => by obtain ⟨v, rfl, h'⟩ := h e w' hR; exact h' _ (H.put v hd)
theorem mxe {K : Act → World → Prop} (h : K a w) : Mix P os (Exit.then K Q) [] a w := h
theorem mxe' (h : Q .normal a w) : Mix P os Q [] a w := h
end
end
section
set_option maxRecDepth 8000
structure IR where
  s : Bool
  q : Option Addr
  n : Nat
  c : Nat
  X : Nat → Int
def IR.v (r : IR) : Int := if r.s then -(nv r.X r.n) else nv r.X r.n
structure Ib (w : World) (p : Nat) (r : IR) : Prop where
  blk : w.heap[p]? = some (.cells #[.bool r.s, .slice r.q r.n r.c] 82 (0, 0))
  sl : Sl w r.q r.n r.c r.X
  nm : Nm r.X r.n
section
variable {w w' w1 : World} {p x z : Nat} {r rz rx : IR} {q : Option Addr} {n c : Nat} {X : Nat → Int} {T : Nat → Nat → Prop} {v : Value}
theorem Ib.c0 (h : Ib w p r) : w.cell? ⟨p, 0, none⟩ = some (.bool r.s) := by simp [World.cell?, h.blk]
theorem Ib.c1 (h : Ib w p r) : w.cell? ⟨p, 1, none⟩ = some (.slice r.q r.n r.c) := by simp [World.cell?, h.blk]
theorem Ib.fz (h : Ib w p r) (j : Nat) : w.frozen? ⟨p, j, none⟩ = false := by simp [World.frozen?, h.blk]
theorem Ib.lt (h : Ib w p r) : p < w.heap.size := World.block_lt_of_cell? w _ h.c0
theorem Sl.neI (h : Sl w q n c X) (hp : Ib w p r) (j : Nat) : ¬ TQ q p j := fun ht => by
  rcases h with ⟨h0, _⟩ | ⟨b, h0, h1, hc, h2⟩
  · rw [h0] at ht; exact TQ_none ht
  rw [h0, TQ_some] at ht
  subst ht
  have := h2.cell (j := 0) hc
  rw [hp.c0] at this; cases this
theorem Ib.fr (h : Ib w p r) (hF : Fr T w w') (h1 : ∀ o, ¬ T p o) (h2 : ∀ k j o, TQ r.q k j → ¬ T k o) : Ib w' p r :=
  ⟨(hF.block p h.lt h1).trans h.blk, h.sl.fr hF h2, h.nm⟩
theorem Ib.cd (h : Ib w p r) (hC : Cd w w') : Ib w' p r := ⟨by rw [hC.heap]; exact h.blk, h.sl.cd hC, h.nm⟩
theorem heap_set_in {w : World} {p j : Nat} {cs : Array Value} {t : TypeId} {k : Nat × Nat} (h : w.heap[p]? = some (.cells cs t k)) (v : Value) : (w.setCell ⟨p, j, none⟩ v).heap[p]? = some (.cells (cs.setIfInBounds j v) t k) := by
  simp only [World.setCell, Array.getElem?_modify, if_true, h, Option.map_some]
  congr 2
def ZT (z : Nat) (q : Option Addr) : Nat → Nat → Prop := fun k j => k = z ∨ TQ q k j
theorem Sl.other (h : Sl w q n c X) {a : Addr} (ha : ∀ j, ¬ TQ q a.block j) (v : Value) : Sl (w.setCell a v) q n c X := by
  rcases h with h | ⟨b, h0, h1, hc, h2⟩
  · exact .inl h
  exact .inr ⟨b, h0, h1, hc, h2.other (fun e => ha 0 (by rw [h0, TQ_some]; exact e.symm)) v⟩
theorem Ib.abs {q' : Option Addr} {n' c' : Nat} {X' : Nat → Int} (hz : Ib w z rz) (hF : Fr (TQ rz.q) w w1) (h1 : Sl w1 q' n' c' X') (h2 : Nm X' n') :
    w1.cell? ⟨z, 1, none⟩ = some (.slice rz.q rz.n rz.c) ∧ w1.frozen? ⟨z, 1, none⟩ = false ∧ Ib (w1.setCell ⟨z, 1, none⟩ (.slice q' n' c')) z ⟨rz.s, q', n', c', X'⟩ ∧ Fr (ZT z rz.q) w (w1.setCell ⟨z, 1, none⟩ (.slice q' n' c')) := by
  have hb : w1.heap[z]? = some (.cells #[.bool rz.s, .slice rz.q rz.n rz.c] 82 (0, 0)) := (hF.block z hz.lt (fun o => hz.sl.neI hz o)).trans hz.blk
  have hn : ∀ j, ¬ TQ q' z j := fun j ht => by
    rcases h1 with ⟨h0, _⟩ | ⟨b, h0, _, hc, hW⟩
    · rw [h0] at ht; exact TQ_none ht
    rw [h0, TQ_some] at ht
    subst ht
    have := hW.cell (j := 0) hc
    simp [World.cell?, hb] at this
  refine ⟨by simp [World.cell?, hb], by simp [World.frozen?, hb], ⟨?_, h1.other hn _, h2⟩, (hF.mono fun k o _ h => .inr h).setCell (fun _ => .inl rfl) _⟩
  rw [heap_set_in hb]; rfl
theorem Ib.neg (hz : Ib w z r) (b : Bool) (q : Option Addr) : Ib (w.setCell ⟨z, 0, none⟩ (.bool b)) z { r with s := b } ∧ Fr (ZT z q) w (w.setCell ⟨z, 0, none⟩ (.bool b)) :=
  ⟨⟨by rw [heap_set_in hz.blk]; rfl, hz.sl.other (fun j => hz.sl.neI hz j) _, hz.nm⟩, (Fr.refl (ZT z q) w).setCell (fun _ => .inl rfl) _⟩
theorem Ib.c0' (hx : Ib w x rx) (hz : Ib w z rz) (hF : Fr (TQ rz.q) w w1) (v : Value) : (w1.setCell ⟨z, 1, none⟩ v).cell? ⟨x, 0, none⟩ = some (.bool rx.s) := by
  rw [World.cell?_setCell_other _ _ _ _ (by intro e; injection e with _ e2; cases e2)]
  exact hF.someCell hx.c0 (hz.sl.neI hx 0)
def r0 : IR := ⟨false, none, 0, 0, fun _ => 0⟩
theorem Ib.new (w : World) : Ib (w.alloc (.cells #[.bool false, .slice none 0 0] 82)) w.heap.size r0 :=
  ⟨heap_alloc_new w _, Sl.nil _ _, .inl rfl⟩
structure Zr (w w' : World) (z : Nat) (rz r : IR) : Prop where
  ib : Ib w' z r
  ow : Own w rz.q r.q
  fr : Fr (ZT z rz.q) w w'
theorem Zr.trans {r' r'' : IR} {w'' : World} (h : Zr w w' z rz r') (h' : Zr w' w'' z r' r'') : Zr w w'' z rz r'' := by
  refine ⟨h'.ib, h.ow.trans h'.ow h.fr.size, ?_⟩
  refine ((h.fr.mono (T := fun k j => ZT z rz.q k j ∨ w.heap.size ≤ k) fun k o _ ht => .inl ht).trans (h'.fr.mono fun k o _ ht => ?_)).mono fun k o hk ht => ?_
  · rcases ht with ht | ht
    · exact .inl (.inl ht)
    rcases h.ow k o ht with h1 | h1
    · exact .inl (.inr h1)
    exact .inr h1
  rcases ht with ht | ht
  · exact ht
  omega
structure Ih (B m : Nat) (w : World) (p : Nat → Nat) (F : Nat → IR) : Prop where
  ib : ∀ i, i < m → Ib w (p i) (F i)
  lo : ∀ i, i < m → B ≤ p i
  lor : ∀ i, i < m → ∀ k j, TQ (F i).q k j → B ≤ k
  ne : ∀ i, i < m → ∀ j, j < m → i ≠ j → p i ≠ p j
  dj : ∀ i, i < m → ∀ j, j < m → i ≠ j → Dj (F i).q (F j).q
def ui (F : Nat → IR) (i : Nat) (r : IR) : Nat → IR := fun j => if j = i then r else F j
theorem ui_eq (F : Nat → IR) (i : Nat) (r : IR) : ui F i r i = r := by simp [ui]
theorem ui_ne {F : Nat → IR} {i j : Nat} {r : IR} (h : j ≠ i) : ui F i r j = F j := by simp [ui, h]
variable {B m i : Nat} {pp : Nat → Nat} {F : Nat → IR}
theorem Ih.upd (h : Ih B m w pp F) (hi : i < m) (hz : Zr w w' (pp i) (F i) r) : Ih B m w' pp (ui F i r) ∧ Fr (Hi B) w w' := by
  have hB : B ≤ w.heap.size := Nat.le_trans (h.lo i hi) (Nat.le_of_lt (h.ib i hi).lt)
  have hnew : ∀ j, j < m → j ≠ i → Dj r.q (F j).q := fun j hj hne => (h.dj i hi j hj (Ne.symm hne)).own hz.ow (h.ib j hj).sl
  refine ⟨⟨fun j hj => ?_, h.lo, fun j hj k o ht => ?_, h.ne, fun j hj k hk hne => ?_⟩, hz.fr.mono fun k o hk ht => ?_⟩
  · by_cases e : j = i
    · subst e; rw [ui_eq]; exact hz.ib
    rw [ui_ne e]
    refine (h.ib j hj).fr hz.fr (fun o ht => ?_) (fun k o o' ht ht' => ?_)
    · rcases ht with ht | ht
      · exact h.ne j hj i hi e ht
      exact (h.ib i hi).sl.neI (h.ib j hj) o ht
    rcases ht' with ht' | ht'
    · subst ht'; exact (h.ib j hj).sl.neI (h.ib i hi) o ht
    exact h.dj j hj i hi e k o o' ht ht'
  · by_cases e : j = i
    · subst e
      rw [ui_eq] at ht
      rcases hz.ow k o ht with h1 | h1
      · exact h.lor j hj k o h1
      omega
    rw [ui_ne e] at ht; exact h.lor j hj k o ht
  · by_cases e : j = i
    · subst e
      rw [ui_eq, ui_ne (Ne.symm hne)]; exact hnew k hk (Ne.symm hne)
    by_cases e' : k = i
    · subst e'; rw [ui_eq, ui_ne e]; exact (hnew j hj e).symm
    rw [ui_ne e, ui_ne e']; exact h.dj j hj k hk hne
  rcases ht with ht | ht
  · subst ht; exact h.lo i hi
  exact h.lor i hi k o ht
theorem Ih.cd (h : Ih B m w pp F) (hC : Cd w w') : Ih B m w' pp F := ⟨fun i hi => (h.ib i hi).cd hC, h.lo, h.lor, h.ne, h.dj⟩
theorem Ih.perm (h : Ih B m w pp F) (σ : Nat → Nat) (hσ : ∀ i, i < m → σ i < m) (hi : ∀ i, i < m → ∀ j, j < m → i ≠ j → σ i ≠ σ j) : Ih B m w (fun i => pp (σ i)) (fun i => F (σ i)) :=
  ⟨fun i hm => h.ib _ (hσ i hm), fun i hm => h.lo _ (hσ i hm), fun i hm => h.lor _ (hσ i hm), fun i hm j hj hne => h.ne _ (hσ i hm) _ (hσ j hj) (hi i hm j hj hne), fun i hm j hj hne => h.dj _ (hσ i hm) _ (hσ j hj) (hi i hm j hj hne)⟩
theorem Ib.hi (h : Ib w x rx) (hF : Fr (Hi B) w w') (hx : x < B) (hr : ∀ k j, TQ rx.q k j → k < B) : Ib w' x rx :=
  h.fr hF (fun o ht => by have : B ≤ x := ht; omega) (fun k j o ht ht' => by have := hr k j ht; have : B ≤ k := ht'; omega)
def un (f : Nat → Nat) (i b : Nat) : Nat → Nat := fun j => if j = i then b else f j
theorem Ih.push (h : Ih B m w pp F) (hB : B ≤ w.heap.size) : Ih B (m + 1) (w.alloc (.cells #[.bool false, .slice none 0 0] 82)) (un pp m w.heap.size) (ui F m r0) := by
  have hF : Fr NoT w (w.alloc (.cells #[.bool false, .slice none 0 0] 82)) := (Fr.refl NoT w).alloc _
  have key : ∀ i, i < m + 1 → i ≠ m → i < m := fun i h1 h2 => by omega
  refine ⟨fun i hi => ?_, fun i hi => ?_, fun i hi k j ht => ?_, fun i hi j hj hne => ?_, fun i hi j hj hne => ?_⟩
  · by_cases e : i = m
    · subst e; rw [ui_eq]; simp only [un, if_true]; exact Ib.new w
    rw [ui_ne e]; simp only [un, e, if_false]; exact (h.ib i (key i hi e)).fr hF (fun _ f => f) (fun _ _ _ _ f => f)
  · by_cases e : i = m
    · subst e; simp only [un, if_true]; exact hB
    simp only [un, e, if_false]; exact h.lo i (key i hi e)
  · by_cases e : i = m
    · subst e; rw [ui_eq] at ht; exact (TQ_none ht).elim
    rw [ui_ne e] at ht; exact h.lor i (key i hi e) k j ht
  · by_cases e : i = m
    · subst e
      simp only [un, if_true, Ne.symm hne, if_false]
      have := (h.ib j (key j hj (Ne.symm hne))).lt; omega
    by_cases e' : j = m
    · subst e'
      simp only [un, if_true, e, if_false]
      have := (h.ib i (key i hi e)).lt; omega
    simp only [un, e, e', if_false]; exact h.ne i (key i hi e) j (key j hj e') hne
  by_cases e : i = m
  · subst e; rw [ui_eq]; exact Dj.nil _
  by_cases e' : j = m
  · subst e'; rw [ui_eq]; exact (Dj.nil _).symm
  rw [ui_ne e, ui_ne e']; exact h.dj i (key i hi e) j (key j hj e') hne
theorem Ez.info82 : ∃ i, Tryz.prog.info? 82 = some i ∧ i.size ≠ 0 := by
  have h : (Tryz.prog.info? 82).map (fun i => i.size) = some 2 := by kernel_rfl
  cases hi : Tryz.prog.info? 82 with
  | none => rw [hi] at h; cases h
  | some i => rw [hi] at h; simp only [Option.map_some, Option.some.injEq] at h; exact ⟨i, rfl, by rw [h]; decide⟩
theorem u78 : Tryz.prog.underlying 78 = some (.pointer 82) := by kernel_rfl
theorem IR.v_len (n : Nat) (s : Bool) (q : Option Addr) (c : Nat) (X : Nat → Int) {b : Bool} (hb : (n = 0 ∧ b = false) ∨ (0 < n ∧ b = s)) : (⟨b, q, n, c, X⟩ : IR).v = if s then -(nv X n) else nv X n := by
  rcases hb with ⟨rfl, rfl⟩ | ⟨_, rfl⟩
  · simp [IR.v, nv]
  rfl
end
namespace Ez
section
variable {a : Act} {N : Nat} {ds : List Deferred} {l : Env} {w : World} {d : Option Nat} {ty : TypeId} {pos : String} {after : Array Edge} {g : Option (Nat × Bool)}
theorem eqI (H : Hd a N ds l) {x y : Operand} {b c : Nat} {u : TypeId} {r : Bool} {cb cc : Array Value} {tb tc : TypeId} (h : ov l x = some (.pointer (some ⟨b, 0, none⟩))) (h' : ov l y = some (.pointer (some ⟨c, 0, none⟩)))
    (hb : w.heap[b]? = some (.cells cb tb (0, 0))) (hc : w.heap[c]? = some (.cells cc tc (0, 0))) (hr : decide (b = c) = r) : (execOp a.eval ⟨d, .binOp .eql 78 x y u, ty, pos, after, g⟩).run Tryz.prog w = .ok (.value (.bool r)) w := by
  obtain ⟨i, h1, h2⟩ := info82
  refine eqlP H h h' u78 h1 h2 hb hc ?_
  rw [← hr]; congr 1; simp
theorem neI (H : Hd a N ds l) {x y : Operand} {b c : Nat} {u : TypeId} {r : Bool} {cb cc : Array Value} {tb tc : TypeId} (h : ov l x = some (.pointer (some ⟨b, 0, none⟩))) (h' : ov l y = some (.pointer (some ⟨c, 0, none⟩)))
    (hb : w.heap[b]? = some (.cells cb tb (0, 0))) (hc : w.heap[c]? = some (.cells cc tc (0, 0))) (hr : (!decide (b = c)) = r) : (execOp a.eval ⟨d, .binOp .neq 78 x y u, ty, pos, after, g⟩).run Tryz.prog w = .ok (.value (.bool r)) w := by
  obtain ⟨i, h1, h2⟩ := info82
  refine neqP H h h' u78 h1 h2 hb hc ?_
  rw [← hr]; congr 2; simp
end
end Ez
end
section
set_option maxRecDepth 8000
theorem intSet (z x : Nat) (rz rx : IR) (w : World) (hz : Ib w z rz) (hx : Ib w x rx) (hne : z ≠ x) (hn : rx.n < 1000) :
    Calls Tryz.prog 76 #[.pointer (some ⟨z, 0, none⟩), .pointer (some ⟨x, 0, none⟩)] w fun e w' => ∃ r, e = .returned (.pointer (some ⟨z, 0, none⟩)) ∧ Zr w w' z rz r ∧ r.v = rx.v ∧ r.s = rx.s ∧ r.n = rx.n := by
  refine enterE (vs := [.pointer (some ⟨z, 0, none⟩), .pointer (some ⟨x, 0, none⟩)]) Tryz.func76 rfl rfl ?_
  intro a H
  replace H : Hd a 28 [] [(0, .pointer (some ⟨z, 0, none⟩)), (1, .pointer (some ⟨x, 0, none⟩))] := H
  refine wp_seq (wp_region_lit (l := [_]) (wl H (Ez.asn H rfl) rfl (kW (kS (kS (kR [_, _, _] (kM rfl rfl (kM rfl rfl (kL (fun a H => Ez.neI H rfl rfl hz.blk hx.blk (r := true) (by simp [hne])) rfl (kP [(0, _), (1, _), (4, _), (7, _)] rfl (kW ?_))))))))))); clear H a; intro a H
  refine wp_cond_true (H.o rfl) (wp_seq ?_)
  refine regionM [_, _, _, _, _, _, _, _, _, _, _, _, _] 9 [(.p, 0), (.c, 1), (.c, 2), (.c, 3), (.c, 4), (.c, 5), (.c, 6), (.c, 7), (.c, 8), (.f, 9), (.f, 10), (.f, 11), (.f, 12)] follows_mixed (fun _ _ _ _ _ h => h) (by kernel_rfl) ?_
  intro w1 hw
  have hz := hz.cd hw
  have hx := hx.cd hw
  obtain ⟨wL, rfl⟩ : ∃ wL, wL = w1 := ⟨w1, rfl⟩
  refine mxp rfl H (fun _ => Ez.mv H rfl) rfl ?_; clear H a; intro a H
  refine mxc rfl H (Ez.mv H rfl) rfl ?_; clear H a; intro a H
  refine mxc rfl H (Ez.nc H rfl) rfl ?_; clear H a; intro a H
  refine mxc rfl H (Ez.fa82_1 H rfl) rfl ?_; clear H a; intro a H
  refine mxc rfl H (Ez.ld80 H rfl (hz.c1)) rfl ?_; clear H a; intro a H
  refine mxc rfl H (Ez.mv H rfl) rfl ?_; clear H a; intro a H
  refine mxc rfl H (Ez.nc H rfl) rfl ?_; clear H a; intro a H
  refine mxc rfl H (Ez.fa82_1 H rfl) rfl ?_; clear H a; intro a H
  refine mxc rfl H (Ez.ld80 H rfl (hx.c1)) rfl ?_; clear H a; intro a H
  refine mxk rfl H cf94 (natSet rz.q rx.q rz.n rz.c rx.n rx.c rz.X rx.X wL hz.sl hx.sl (by omega)) rfl rfl ?_
  rintro _ w1 ⟨q', c', X', rfl, h1, h2, h3, h4⟩
  refine ⟨_, rfl, ?_⟩; clear H a; intro a H
  have hA := hz.abs h4 h1 (hx.nm.congr h2)
  have hc0 := hx.c0' hz h4 (.slice q' rx.n c')
  refine mxf rfl H (Ez.nc H rfl) rfl ?_; clear H a; intro a H
  refine mxf rfl H (Ez.fa82_1 H rfl) rfl ?_; clear H a; intro a H
  refine mxs rfl H (Ez.st80 H rfl rfl rfl hA.1 hA.2.1) ?_; clear H; intro H
  replace H : Hd a 28 [] [(0, _), (1, _), (4, _)] := H.pick [0, 1, 4]
  refine mxe ?_
  refine wp_region_lit (l := [_, _, _, _, _, _, _, _]) (wl H (Ez.mv H rfl) rfl (kM rfl rfl (kN rfl rfl (kL (fun a H => Ez.fa82_0 H rfl) rfl (kL (fun a H => Ez.ld4 H rfl (hc0)) rfl (kN rfl rfl (kL (fun a H => Ez.fa82_0 H rfl) rfl ?_))))))); clear H a; intro a H
  refine wls H (Ez.st4 H rfl rfl rfl hA.2.2.1.c0 (hA.2.2.1.fz _)) ?_; clear H; intro H
  refine kP [(0, _), (4, _)] rfl (kW (kS (kR [_, _] (kM rfl rfl (kA rfl rfl (kP [(4, _)] rfl (kW ?_))))))) a H; clear H a; intro a H
  refine wp_ret ?_
  refine rt1 H rfl rfl ?_
  have hN := hA.2.2.1.neg rx.s rz.q
  exact ⟨_, rfl, ⟨hN.1, fun k j h => (h3 k j h).imp id (fun h => by rw [← hw.heap]; exact h), (hw.fr _).trans (hA.2.2.2.trans hN.2)⟩, by simp only [IR.v]; rw [nv_congr _ h2], rfl, rfl⟩
theorem intSetUint64 (z : Nat) (y : Int) (rz : IR) (w : World) (hz : Ib w z rz) (hy : U64 y) :
    Calls Tryz.prog 88 #[.pointer (some ⟨z, 0, none⟩), .int .u64 y] w fun e w' => ∃ r, e = .returned (.pointer (some ⟨z, 0, none⟩)) ∧ Zr w w' z rz r ∧ r.v = y ∧ r.s = false ∧ r.n ≤ 1 := by
  refine enterE (vs := [.pointer (some ⟨z, 0, none⟩), .int .u64 y]) Tryz.func88 rfl rfl ?_
  intro a H
  replace H : Hd a 18 [] [(0, .pointer (some ⟨z, 0, none⟩)), (1, .int .u64 y)] := H
  refine wp_seq (wp_region_lit (l := [_]) (wl H (Ez.asn H rfl) rfl (kW (kS (kR [_, _, _, _, _, _, _, _, _, _] (kM rfl rfl (kM rfl rfl (kN rfl rfl (kL (fun a H => Ez.fa82_1 H rfl) rfl (kL (fun a H => Ez.ld80 H rfl (hz.c1)) rfl (kM rfl rfl ?_))))))))))); clear H a; intro a H
  refine wk H cf100 (natSetUint64 rz.q rz.n rz.c rz.X y w hz.sl hy) rfl rfl ?_
  rintro _ w1 ⟨q', n', c', X', rfl, h1, h2, h3, h4, h5, h6⟩
  refine ⟨_, rfl, ?_⟩; clear H a; intro a H
  have hA := hz.abs h6 h1 h4
  refine wl H (Ez.nc H rfl) rfl (kL (fun a H => Ez.fa82_1 H rfl) rfl ?_); clear H a; intro a H
  refine wls H (Ez.st80 H rfl rfl rfl hA.1 hA.2.1) ?_; clear H; intro H
  refine kP [(0, _), (4, _)] rfl (kW (kS (kR [_, _, _, _] (kM rfl rfl (kN rfl rfl (kL (fun a H => Ez.fa82_0 H rfl) rfl ?_)))))) a H; clear H a; intro a H
  refine wls H (Ez.st4 H rfl rfl rfl hA.2.2.1.c0 (hA.2.2.1.fz _)) ?_; clear H; intro H
  refine kP [(0, _), (4, _)] rfl (kW (kS (kR [_, _] (kM rfl rfl (kA rfl rfl (kP [(4, _)] rfl (kW ?_))))))) a H; clear H a; intro a H
  refine wp_ret ?_
  refine rt1 H rfl rfl ?_
  have hN := hA.2.2.1.neg false rz.q
  exact ⟨_, rfl, ⟨hN.1, h5, hA.2.2.2.trans hN.2⟩, by simp only [IR.v]; simpa using h3, rfl, h2⟩
theorem intSetInt64 (z : Nat) (y : Int) (rz : IR) (w : World) (hz : Ib w z rz) (hy : 0 ≤ y ∧ y < 9223372036854775808) :
    Calls Tryz.prog 102 #[.pointer (some ⟨z, 0, none⟩), .int .i64 y] w fun e w' => ∃ r, e = .returned (.pointer (some ⟨z, 0, none⟩)) ∧ Zr w w' z rz r ∧ r.v = y ∧ r.s = false ∧ r.n ≤ 1 := by
  refine enterE (vs := [.pointer (some ⟨z, 0, none⟩), .int .i64 y]) Tryz.func102 rfl rfl ?_
  intro a H
  replace H : Hd a 25 [] [(0, .pointer (some ⟨z, 0, none⟩)), (1, .int .i64 y)] := H
  refine wp_seq (wp_region_lit (l := [_]) (wl H (Ez.asn H rfl) rfl (kW (kS (kR [_] (kA rfl rfl (kW (kS (kS (kR [_, _] (kM rfl rfl (kL (fun a H => Ez.lss (r := false) H rfl rfl (by (simp; omega))) rfl (kP [(0, _), (1, _), (4, _), (5, _), (7, _)] rfl (kW ?_)))))))))))))); clear H a; intro a H
  refine wp_cond_false (H.o rfl) (wp_skip (thn (wp_seq (wp_region_lit (l := [_, _, _, _, _, _, _, _, _, _, _]) (wl H (Ez.mv H rfl) rfl (kM rfl rfl (kN rfl rfl (kL (fun a H => Ez.fa82_1 H rfl) rfl (kL (fun a H => Ez.ld80 H rfl (hz.c1)) rfl (kM rfl rfl (kL (fun a H => Ez.cv (r := y) H rfl ty2 ty28 (by (rw [IntKind.wrap_u64]; omega))) rfl ?_))))))))))); clear H a; intro a H
  refine wk H cf100 (natSetUint64 rz.q rz.n rz.c rz.X y w hz.sl ⟨hy.1, by omega⟩) rfl rfl ?_
  rintro _ w1 ⟨q', n', c', X', rfl, h1, h2, h3, h4, h5, h6⟩
  refine ⟨_, rfl, ?_⟩; clear H a; intro a H
  have hA := hz.abs h6 h1 h4
  refine wl H (Ez.nc H rfl) rfl (kL (fun a H => Ez.fa82_1 H rfl) rfl ?_); clear H a; intro a H
  refine wls H (Ez.st80 H rfl rfl rfl hA.1 hA.2.1) ?_; clear H; intro H
  refine kP [(0, _), (4, _), (5, _)] rfl (kW (kS (kR [_, _, _, _, _] (kM rfl rfl (kM rfl rfl (kN rfl rfl (kL (fun a H => Ez.fa82_0 H rfl) rfl ?_))))))) a H; clear H a; intro a H
  refine wls H (Ez.st4 H rfl rfl rfl hA.2.2.1.c0 (hA.2.2.1.fz _)) ?_; clear H; intro H
  refine kP [(0, _), (4, _)] rfl (kW (kS (kR [_, _] (kM rfl rfl (kA rfl rfl (kP [(4, _)] rfl (kW ?_))))))) a H; clear H a; intro a H
  refine wp_ret ?_
  refine rt1 H rfl rfl ?_
  have hN := hA.2.2.1.neg false rz.q
  exact ⟨_, rfl, ⟨hN.1, h5, hA.2.2.2.trans hN.2⟩, by simp only [IR.v]; simpa using h3, rfl, h2⟩
theorem intAbs (z x : Nat) (rz rx : IR) (w : World) (hz : Ib w z rz) (hx : Ib w x rx) (hne : z ≠ x) (hn : rx.n < 1000) :
    Calls Tryz.prog 101 #[.pointer (some ⟨z, 0, none⟩), .pointer (some ⟨x, 0, none⟩)] w fun e w' => ∃ r, e = .returned (.pointer (some ⟨z, 0, none⟩)) ∧ Zr w w' z rz r ∧ r.v = nv rx.X rx.n ∧ r.s = false ∧ r.n = rx.n := by
  refine enterE (vs := [.pointer (some ⟨z, 0, none⟩), .pointer (some ⟨x, 0, none⟩)]) Tryz.func101 rfl rfl ?_
  intro a H
  replace H : Hd a 12 [] [(0, .pointer (some ⟨z, 0, none⟩)), (1, .pointer (some ⟨x, 0, none⟩))] := H
  refine wp_seq (wp_region_lit (l := [_]) (wl H (Ez.asn H rfl) rfl (kW (kS (kR [_, _, _] (kM rfl rfl (kM rfl rfl ?_))))))); clear H a; intro a H
  refine wk H cf76 (intSet z x rz rx w hz hx hne hn) rfl rfl ?_
  rintro _ w1 ⟨r, rfl, h1, h2, h3, h4⟩
  refine ⟨_, rfl, ?_⟩; clear H a; intro a H
  refine kP [(0, _), (4, _)] rfl (kW (kS (kR [_, _, _, _] (kM rfl rfl (kN rfl rfl (kL (fun a H => Ez.fa82_0 H rfl) rfl ?_)))))) a H; clear H a; intro a H
  refine wls H (Ez.st4 H rfl rfl rfl h1.ib.c0 (h1.ib.fz _)) ?_; clear H; intro H
  refine kP [(0, _), (4, _)] rfl (kW (kS (kR [_, _] (kM rfl rfl (kA rfl rfl (kP [(4, _)] rfl (kW ?_))))))) a H; clear H a; intro a H
  refine wp_ret ?_
  refine rt1 H rfl rfl ?_
  have hN := h1.ib.neg false r.q
  refine ⟨_, rfl, h1.trans ⟨hN.1, Own.refl _ _, hN.2⟩, ?_, rfl, h4⟩
  simp only [IR.v] at h2 ⊢
  rw [h3] at h2
  by_cases hs : rx.s = true
  · simp only [hs, if_true] at h2; simp; omega
  simp only [hs] at h2; simpa using h2
theorem cmpI_ge {a b : Int} : (0 ≤ cmpI a b) ↔ b ≤ a := by
  unfold cmpI
  constructor
  · intro h; split at h
    · omega
    omega
  intro h
  rw [if_neg (by omega)]; split <;> omega
theorem cmpW (qx qy : Option Addr) (n cx m cy : Nat) (X Y : Nat → Int) (w : World) (hx : Sl w qx n cx X) (hy : Sl w qy m cy Y) (hn : n < 1000000000) (hm : m < 1000000000) (hNx : Nm X n) (hNy : Nm Y m) :
    ∀ w', Cd w w' → Calls Tryz.prog 90 [Value.slice qx n cx, Value.slice qy m cy].toArray w' fun e w'' => e = .returned (.int .i64 (cmpI (nv X n) (nv Y m))) ∧ Cd w w'' :=
  fun w' hw => (natCmp qx qy n cx m cy X Y w' (hx.cd hw) (hy.cd hw) hn hm hNx hNy).mono fun _ _ ⟨h, e⟩ => ⟨h, hw.trans e⟩
set_option maxHeartbeats 1000000 in
theorem intAdd (z x y : Nat) (rz rx ry : IR) (w : World) (hz : Ib w z rz) (hx : Ib w x rx) (hy : Ib w y ry) (hnx : rx.n < 1000) (hny : ry.n < 1000) :
    Calls Tryz.prog 75 #[.pointer (some ⟨z, 0, none⟩), .pointer (some ⟨x, 0, none⟩), .pointer (some ⟨y, 0, none⟩)] w fun e w' => ∃ r, e = .returned (.pointer (some ⟨z, 0, none⟩)) ∧ Zr w w' z rz r ∧ r.v = rx.v + ry.v ∧ r.n ≤ max rx.n ry.n + 1 := by
  obtain ⟨w0, hw0⟩ : ∃ w0, w0 = w := ⟨w, rfl⟩
  rw [← hw0]
  rw [← hw0] at hz hx hy
  clear hw0 w
  refine enterE (vs := [.pointer (some ⟨z, 0, none⟩), .pointer (some ⟨x, 0, none⟩), .pointer (some ⟨y, 0, none⟩)]) Tryz.func75 rfl rfl ?_
  intro a H
  replace H : Hd a 94 [] [(0, .pointer (some ⟨z, 0, none⟩)), (1, .pointer (some ⟨x, 0, none⟩)), (2, .pointer (some ⟨y, 0, none⟩))] := H
  refine wp_seq (wp_region_lit (l := [_]) (wl H (Ez.asn H rfl) rfl (kW (kS (kR [_, _, _, _, _] (kM rfl rfl (kN rfl rfl (kL (fun a H => Ez.fa82_0 H rfl) rfl (kL (fun a H => Ez.ld4 H rfl (hx.c0)) rfl (kA rfl rfl (kP [(0, _), (1, _), (2, _), (6, _), (7, _)] rfl (kW ?_)))))))))))); clear H a; intro a H
  refine wp_cut (fun a w => ∃ (s : Bool) (r : IR), Hd a 94 [] [(0, .pointer (some ⟨z, 0, none⟩)), (7, .bool s)] ∧ Zr w0 w z rz r ∧ (if s then -(nv r.X r.n) else nv r.X r.n) = rx.v + ry.v ∧ r.n ≤ max rx.n ry.n + 1) ?_ ?_
  · refine wp_seq (regionQ (ls := [_, _, _, _, _, _, _, _, _]) follows_mixed (by kernel_rfl) (wq H (fun w2 hw2 => Ez.mv H rfl) rfl (jN rfl rfl (jL (fun a H w2 hw2 => Ez.fa82_0 H rfl) rfl (jL (fun a H w2 hw2 => Ez.ld4 H rfl (hw2.cell hx.c0)) rfl (jM rfl rfl (jN rfl rfl (jL (fun a H w2 hw2 => Ez.fa82_0 H rfl) rfl (jL (fun a H w2 hw2 => Ez.ld4 H rfl (hw2.cell hy.c0)) rfl (jL (fun a H w2 hw2 => Ez.eqb H rfl rfl rfl) rfl ?_)))))))))); clear H a; intro a H
    refine wqe ?_
    intro w1 hw
    have hz := hz.cd hw
    have hx := hx.cd hw
    have hy := hy.cd hw
    have hC := hw
    clear hw
    replace H : Hd a 94 [] [(0, _), (1, _), (2, _), (6, _), (7, _), (20, _)] := H.pick [0, 1, 2, 6, 7, 20]
    refine wp_cond_split (H.o rfl) (fun hb0 => ?_) (fun hb0 => ?_)
    · have hs : rx.s = ry.s := by simpa using hb0
      refine regionM [_, _, _, _, _, _, _, _, _, _, _, _, _, _, _, _, _] 13 [(.p, 0), (.c, 1), (.c, 2), (.c, 3), (.c, 4), (.c, 5), (.c, 6), (.c, 7), (.c, 8), (.c, 9), (.c, 10), (.c, 11), (.c, 12), (.f, 13), (.f, 14), (.f, 15), (.f, 16)] follows_mixed (fun _ _ _ _ _ h => h) (by kernel_rfl) ?_
      intro w1 hw
      have hz := hz.cd hw
      have hx := hx.cd hw
      have hy := hy.cd hw
      have hC := hC.trans hw
      clear hw
      obtain ⟨wL, hwL⟩ : ∃ wL, wL = w1 := ⟨w1, rfl⟩
      rw [← hwL]
      rw [← hwL] at hz hx hy hC
      clear hwL w1
      refine mxp rfl H (fun _ => Ez.mv H rfl) rfl ?_; clear H a; intro a H
      refine mxc rfl H (Ez.mv H rfl) rfl ?_; clear H a; intro a H
      refine mxc rfl H (Ez.nc H rfl) rfl ?_; clear H a; intro a H
      refine mxc rfl H (Ez.fa82_1 H rfl) rfl ?_; clear H a; intro a H
      refine mxc rfl H (Ez.ld80 H rfl (hz.c1)) rfl ?_; clear H a; intro a H
      refine mxc rfl H (Ez.mv H rfl) rfl ?_; clear H a; intro a H
      refine mxc rfl H (Ez.nc H rfl) rfl ?_; clear H a; intro a H
      refine mxc rfl H (Ez.fa82_1 H rfl) rfl ?_; clear H a; intro a H
      refine mxc rfl H (Ez.ld80 H rfl (hx.c1)) rfl ?_; clear H a; intro a H
      refine mxc rfl H (Ez.mv H rfl) rfl ?_; clear H a; intro a H
      refine mxc rfl H (Ez.nc H rfl) rfl ?_; clear H a; intro a H
      refine mxc rfl H (Ez.fa82_1 H rfl) rfl ?_; clear H a; intro a H
      refine mxc rfl H (Ez.ld80 H rfl (hy.c1)) rfl ?_; clear H a; intro a H
      refine mxk rfl H cf92 (natAdd rz.q rx.q ry.q rz.n rz.c rx.n rx.c ry.n ry.c rz.X rx.X ry.X wL hz.sl hx.sl hy.sl (by omega) (by omega) hx.nm hy.nm) rfl rfl ?_
      rintro _ w1 ⟨q', k, c', X', rfl, h1, h2, h3, h4, h5, h6⟩
      refine ⟨_, rfl, ?_⟩; clear H a; intro a H
      have hA := hz.abs h6 h1 h4
      refine mxf rfl H (Ez.nc H rfl) rfl ?_; clear H a; intro a H
      refine mxf rfl H (Ez.fa82_1 H rfl) rfl ?_; clear H a; intro a H
      refine mxs rfl H (Ez.st80 H rfl rfl rfl hA.1 hA.2.1) ?_; clear H; intro H
      replace H : Hd a 94 [] [(0, _), (6, _), (7, _)] := H.pick [0, 6, 7]
      refine mxe ?_
      replace H : Hd a 94 [] [(0, _), (7, _)] := H.pick [0, 7]
      have hZ : Zr w0 _ z rz ⟨rz.s, q', k, c', X'⟩ := ⟨hA.2.2.1, fun k j h => (h5 k j h).imp id (fun h => by rw [← hC.heap]; exact h), (hC.fr _).trans hA.2.2.2⟩
      refine ⟨_, ⟨rz.s, q', k, c', X'⟩, H, hZ, ?_, by simp only; omega⟩
      simp only [IR.v]
      rw [h3]
      revert hs
      cases rx.s <;> cases ry.s <;> simp <;> omega
    have hs : rx.s ≠ ry.s := by simpa using hb0
    refine wp_seq (regionQ (ls := [_, _, _, _, _, _, _, _, _, _]) follows_mixed (by kernel_rfl) (wq H (fun w2 hw2 => Ez.mv H rfl) rfl (jN rfl rfl (jL (fun a H w2 hw2 => Ez.fa82_1 H rfl) rfl (jL (fun a H w2 hw2 => Ez.ld80 H rfl (hw2.cell hx.c1)) rfl (jM rfl rfl (jN rfl rfl (jL (fun a H w2 hw2 => Ez.fa82_1 H rfl) rfl (jL (fun a H w2 hw2 => Ez.ld80 H rfl (hw2.cell hy.c1)) rfl ?_))))))))); clear H a; intro a H
    refine wkq H cf90 (cmpW rx.q ry.q rx.n rx.c ry.n ry.c rx.X ry.X w1 hx.sl hy.sl (by omega) (by omega) hx.nm hy.nm) rfl rfl ?_; clear H a; intro a H
    refine wq H (fun w2 hw2 => Ez.geq H rfl rfl (rfl)) rfl ?_; clear H a; intro a H
    refine wqe ?_
    intro w1 hw
    have hz := hz.cd hw
    have hx := hx.cd hw
    have hy := hy.cd hw
    have hC := hC.trans hw
    clear hw
    replace H : Hd a 94 [] [(0, _), (1, _), (2, _), (6, _), (7, _), (46, _)] := H.pick [0, 1, 2, 6, 7, 46]
    refine wp_cond_split (H.o rfl) (fun hb1 => ?_) (fun hb1 => ?_)
    · have hge : nv ry.X ry.n ≤ nv rx.X rx.n := cmpI_ge.1 (of_decide_eq_true hb1)
      have hlen : ry.n ≤ rx.n := by
        rcases Nat.lt_or_ge rx.n ry.n with h | h
        · have := nv_lt_len (X := ry.X) (Y := rx.X) (fun j hj => hy.sl.u (by have := hy.sl.le; omega)) (fun j hj => hx.sl.u (by have := hx.sl.le; omega)) hy.nm h
          omega
        exact h
      refine regionM [_, _, _, _, _, _, _, _, _, _, _, _, _, _, _, _, _] 13 [(.p, 0), (.c, 1), (.c, 2), (.c, 3), (.c, 4), (.c, 5), (.c, 6), (.c, 7), (.c, 8), (.c, 9), (.c, 10), (.c, 11), (.c, 12), (.f, 13), (.f, 14), (.f, 15), (.f, 16)] follows_mixed (fun _ _ _ _ _ h => h) (by kernel_rfl) ?_
      intro w1 hw
      have hz := hz.cd hw
      have hx := hx.cd hw
      have hy := hy.cd hw
      have hC := hC.trans hw
      clear hw
      obtain ⟨wL, hwL⟩ : ∃ wL, wL = w1 := ⟨w1, rfl⟩
      rw [← hwL]
      rw [← hwL] at hz hx hy hC
      clear hwL w1
      refine mxp rfl H (fun _ => Ez.mv H rfl) rfl ?_; clear H a; intro a H
      refine mxc rfl H (Ez.mv H rfl) rfl ?_; clear H a; intro a H
      refine mxc rfl H (Ez.nc H rfl) rfl ?_; clear H a; intro a H
      refine mxc rfl H (Ez.fa82_1 H rfl) rfl ?_; clear H a; intro a H
      refine mxc rfl H (Ez.ld80 H rfl (hz.c1)) rfl ?_; clear H a; intro a H
      refine mxc rfl H (Ez.mv H rfl) rfl ?_; clear H a; intro a H
      refine mxc rfl H (Ez.nc H rfl) rfl ?_; clear H a; intro a H
      refine mxc rfl H (Ez.fa82_1 H rfl) rfl ?_; clear H a; intro a H
      refine mxc rfl H (Ez.ld80 H rfl (hx.c1)) rfl ?_; clear H a; intro a H
      refine mxc rfl H (Ez.mv H rfl) rfl ?_; clear H a; intro a H
      refine mxc rfl H (Ez.nc H rfl) rfl ?_; clear H a; intro a H
      refine mxc rfl H (Ez.fa82_1 H rfl) rfl ?_; clear H a; intro a H
      refine mxc rfl H (Ez.ld80 H rfl (hy.c1)) rfl ?_; clear H a; intro a H
      refine mxk rfl H cf93 (natSub rz.q rx.q ry.q rz.n rz.c rx.n rx.c ry.n ry.c rz.X rx.X ry.X wL hz.sl hx.sl hy.sl (by omega) hlen hx.nm hge) rfl rfl ?_
      rintro _ w1 ⟨q', k, c', X', rfl, h1, h2, h3, h4, h5, h6⟩
      refine ⟨_, rfl, ?_⟩; clear H a; intro a H
      have hA := hz.abs h6 h1 h4
      refine mxf rfl H (Ez.nc H rfl) rfl ?_; clear H a; intro a H
      refine mxf rfl H (Ez.fa82_1 H rfl) rfl ?_; clear H a; intro a H
      refine mxs rfl H (Ez.st80 H rfl rfl rfl hA.1 hA.2.1) ?_; clear H; intro H
      replace H : Hd a 94 [] [(0, _), (6, _), (7, _)] := H.pick [0, 6, 7]
      refine mxe ?_
      replace H : Hd a 94 [] [(0, _), (7, _)] := H.pick [0, 7]
      have hZ : Zr w0 _ z rz ⟨rz.s, q', k, c', X'⟩ := ⟨hA.2.2.1, fun k j h => (h5 k j h).imp id (fun h => by rw [← hC.heap]; exact h), (hC.fr _).trans hA.2.2.2⟩
      refine ⟨_, ⟨rz.s, q', k, c', X'⟩, H, hZ, ?_, by simp only; omega⟩
      simp only [IR.v]
      rw [h3]
      revert hs
      cases rx.s <;> cases ry.s <;> simp <;> omega
    have hge : nv rx.X rx.n ≤ nv ry.X ry.n := by
      have h := of_decide_eq_false hb1
      by_cases h2 : nv ry.X ry.n ≤ nv rx.X rx.n
      · exact absurd (cmpI_ge.2 h2) h
      omega
    have hlen : rx.n ≤ ry.n := by
      rcases Nat.lt_or_ge ry.n rx.n with h | h
      · have := nv_lt_len (X := rx.X) (Y := ry.X) (fun j hj => hx.sl.u (by have := hx.sl.le; omega)) (fun j hj => hy.sl.u (by have := hy.sl.le; omega)) hx.nm h
        omega
      exact h
    refine wp_seq (wp_region_lit (l := [_, _, _]) (wl H (Ez.mv H rfl) rfl (kL (fun a H => Ez.not H rfl rfl) rfl (kA rfl rfl (kP [(0, _), (1, _), (2, _), (6, _), (7, _)] rfl (kW ?_)))))); clear H a; intro a H
    refine regionM [_, _, _, _, _, _, _, _, _, _, _, _, _, _, _, _, _] 13 [(.p, 0), (.c, 1), (.c, 2), (.c, 3), (.c, 4), (.c, 5), (.c, 6), (.c, 7), (.c, 8), (.c, 9), (.c, 10), (.c, 11), (.c, 12), (.f, 13), (.f, 14), (.f, 15), (.f, 16)] follows_mixed (fun _ _ _ _ _ h => h) (by kernel_rfl) ?_
    intro w1 hw
    have hz := hz.cd hw
    have hx := hx.cd hw
    have hy := hy.cd hw
    have hC := hC.trans hw
    clear hw
    obtain ⟨wL, hwL⟩ : ∃ wL, wL = w1 := ⟨w1, rfl⟩
    rw [← hwL]
    rw [← hwL] at hz hx hy hC
    clear hwL w1
    refine mxp rfl H (fun _ => Ez.mv H rfl) rfl ?_; clear H a; intro a H
    refine mxc rfl H (Ez.mv H rfl) rfl ?_; clear H a; intro a H
    refine mxc rfl H (Ez.nc H rfl) rfl ?_; clear H a; intro a H
    refine mxc rfl H (Ez.fa82_1 H rfl) rfl ?_; clear H a; intro a H
    refine mxc rfl H (Ez.ld80 H rfl (hz.c1)) rfl ?_; clear H a; intro a H
    refine mxc rfl H (Ez.mv H rfl) rfl ?_; clear H a; intro a H
    refine mxc rfl H (Ez.nc H rfl) rfl ?_; clear H a; intro a H
    refine mxc rfl H (Ez.fa82_1 H rfl) rfl ?_; clear H a; intro a H
    refine mxc rfl H (Ez.ld80 H rfl (hy.c1)) rfl ?_; clear H a; intro a H
    refine mxc rfl H (Ez.mv H rfl) rfl ?_; clear H a; intro a H
    refine mxc rfl H (Ez.nc H rfl) rfl ?_; clear H a; intro a H
    refine mxc rfl H (Ez.fa82_1 H rfl) rfl ?_; clear H a; intro a H
    refine mxc rfl H (Ez.ld80 H rfl (hx.c1)) rfl ?_; clear H a; intro a H
    refine mxk rfl H cf93 (natSub rz.q ry.q rx.q rz.n rz.c ry.n ry.c rx.n rx.c rz.X ry.X rx.X wL hz.sl hy.sl hx.sl (by omega) hlen hy.nm hge) rfl rfl ?_
    rintro _ w1 ⟨q', k, c', X', rfl, h1, h2, h3, h4, h5, h6⟩
    refine ⟨_, rfl, ?_⟩; clear H a; intro a H
    have hA := hz.abs h6 h1 h4
    refine mxf rfl H (Ez.nc H rfl) rfl ?_; clear H a; intro a H
    refine mxf rfl H (Ez.fa82_1 H rfl) rfl ?_; clear H a; intro a H
    refine mxs rfl H (Ez.st80 H rfl rfl rfl hA.1 hA.2.1) ?_; clear H; intro H
    replace H : Hd a 94 [] [(0, _), (6, _), (7, _)] := H.pick [0, 6, 7]
    refine mxe ?_
    replace H : Hd a 94 [] [(0, _), (7, _)] := H.pick [0, 7]
    have hZ : Zr w0 _ z rz ⟨rz.s, q', k, c', X'⟩ := ⟨hA.2.2.1, fun k j h => (h5 k j h).imp id (fun h => by rw [← hC.heap]; exact h), (hC.fr _).trans hA.2.2.2⟩
    refine ⟨_, ⟨rz.s, q', k, c', X'⟩, H, hZ, ?_, by simp only; omega⟩
    simp only [IR.v]
    rw [h3]
    revert hs
    cases rx.s <;> cases ry.s <;> simp <;> omega
  clear H a
  intro a w hJ
  obtain ⟨s, r, H, hZ, hv, hn⟩ := hJ
  refine wp_seq ?_
  rcases Nat.eq_zero_or_pos r.n with h0 | h0
  · refine wp_region_lit (l := [_, _, _, _, _, _, _, _, _, _, _, _, _]) (wl H (Ez.mv H rfl) rfl (kM rfl rfl (kN rfl rfl (kL (fun a H => Ez.fa82_1 H rfl) rfl (kL (fun a H => Ez.ld80 H rfl (hZ.ib.c1)) rfl (kL (fun a H => Ez.len80 H rfl) rfl (kL (fun a H => Ez.gtr (r := false) H rfl rfl (by (simp; omega))) rfl (kM rfl rfl (kX rfl rfl rfl rfl rfl (kL (fun a H => Ez.pkF H rfl rfl) rfl (kN rfl rfl (kL (fun a H => Ez.fa82_0 H rfl) rfl ?_)))))))))))); clear H a; intro a H
    refine wls H (Ez.st4 H rfl rfl rfl hZ.ib.c0 (hZ.ib.fz _)) ?_; clear H; intro H
    refine kP [(0, _)] rfl (kW (kS (kR [_, _] (kM rfl rfl (kA rfl rfl (kP [(6, _)] rfl (kW ?_))))))) a H; clear H a; intro a H
    refine wp_ret ?_
    refine rt1 H rfl rfl ?_
    have hN := hZ.ib.neg false r.q
    exact ⟨_, rfl, hZ.trans ⟨hN.1, Own.refl _ _, hN.2⟩, by rw [← hv]; exact IR.v_len _ s _ _ _ (.inl ⟨h0, rfl⟩), hn⟩
  refine wp_region_lit (l := [_, _, _, _, _, _, _, _, _, _, _, _, _]) (wl H (Ez.mv H rfl) rfl (kM rfl rfl (kN rfl rfl (kL (fun a H => Ez.fa82_1 H rfl) rfl (kL (fun a H => Ez.ld80 H rfl (hZ.ib.c1)) rfl (kL (fun a H => Ez.len80 H rfl) rfl (kL (fun a H => Ez.gtr (r := true) H rfl rfl (by (simp; omega))) rfl (kM rfl rfl (kG (fun a H => Ez.mv H rfl) rfl rfl rfl rfl rfl (kL (fun a H => Ez.pkT H rfl rfl) rfl (kN rfl rfl (kL (fun a H => Ez.fa82_0 H rfl) rfl ?_)))))))))))); clear H a; intro a H
  refine wls H (Ez.st4 H rfl rfl rfl hZ.ib.c0 (hZ.ib.fz _)) ?_; clear H; intro H
  refine kP [(0, _)] rfl (kW (kS (kR [_, _] (kM rfl rfl (kA rfl rfl (kP [(6, _)] rfl (kW ?_))))))) a H; clear H a; intro a H
  refine wp_ret ?_
  refine rt1 H rfl rfl ?_
  have hN := hZ.ib.neg s r.q
  exact ⟨_, rfl, hZ.trans ⟨hN.1, Own.refl _ _, hN.2⟩, by rw [← hv]; exact IR.v_len _ s _ _ _ (.inr ⟨h0, rfl⟩), hn⟩
set_option maxHeartbeats 1000000 in
theorem intSub (z x y : Nat) (rz rx ry : IR) (w : World) (hz : Ib w z rz) (hx : Ib w x rx) (hy : Ib w y ry) (hnx : rx.n < 1000) (hny : ry.n < 1000) :
    Calls Tryz.prog 87 #[.pointer (some ⟨z, 0, none⟩), .pointer (some ⟨x, 0, none⟩), .pointer (some ⟨y, 0, none⟩)] w fun e w' => ∃ r, e = .returned (.pointer (some ⟨z, 0, none⟩)) ∧ Zr w w' z rz r ∧ r.v = rx.v - ry.v ∧ r.n ≤ max rx.n ry.n + 1 := by
  obtain ⟨w0, hw0⟩ : ∃ w0, w0 = w := ⟨w, rfl⟩
  rw [← hw0]
  rw [← hw0] at hz hx hy
  clear hw0 w
  refine enterE (vs := [.pointer (some ⟨z, 0, none⟩), .pointer (some ⟨x, 0, none⟩), .pointer (some ⟨y, 0, none⟩)]) Tryz.func87 rfl rfl ?_
  intro a H
  replace H : Hd a 94 [] [(0, .pointer (some ⟨z, 0, none⟩)), (1, .pointer (some ⟨x, 0, none⟩)), (2, .pointer (some ⟨y, 0, none⟩))] := H
  refine wp_seq (wp_region_lit (l := [_]) (wl H (Ez.asn H rfl) rfl (kW (kS (kR [_, _, _, _, _] (kM rfl rfl (kN rfl rfl (kL (fun a H => Ez.fa82_0 H rfl) rfl (kL (fun a H => Ez.ld4 H rfl (hx.c0)) rfl (kA rfl rfl (kP [(0, _), (1, _), (2, _), (6, _), (7, _)] rfl (kW ?_)))))))))))); clear H a; intro a H
  refine wp_cut (fun a w => ∃ (s : Bool) (r : IR), Hd a 94 [] [(0, .pointer (some ⟨z, 0, none⟩)), (7, .bool s)] ∧ Zr w0 w z rz r ∧ (if s then -(nv r.X r.n) else nv r.X r.n) = rx.v - ry.v ∧ r.n ≤ max rx.n ry.n + 1) ?_ ?_
  · refine wp_seq (regionQ (ls := [_, _, _, _, _, _, _, _, _]) follows_mixed (by kernel_rfl) (wq H (fun w2 hw2 => Ez.mv H rfl) rfl (jN rfl rfl (jL (fun a H w2 hw2 => Ez.fa82_0 H rfl) rfl (jL (fun a H w2 hw2 => Ez.ld4 H rfl (hw2.cell hx.c0)) rfl (jM rfl rfl (jN rfl rfl (jL (fun a H w2 hw2 => Ez.fa82_0 H rfl) rfl (jL (fun a H w2 hw2 => Ez.ld4 H rfl (hw2.cell hy.c0)) rfl (jL (fun a H w2 hw2 => Ez.neb H rfl rfl rfl) rfl ?_)))))))))); clear H a; intro a H
    refine wqe ?_
    intro w1 hw
    have hz := hz.cd hw
    have hx := hx.cd hw
    have hy := hy.cd hw
    have hC := hw
    clear hw
    replace H : Hd a 94 [] [(0, _), (1, _), (2, _), (6, _), (7, _), (20, _)] := H.pick [0, 1, 2, 6, 7, 20]
    refine wp_cond_split (H.o rfl) (fun hb0 => ?_) (fun hb0 => ?_)
    · have hs : rx.s = !ry.s := by revert hb0; cases rx.s <;> cases ry.s <;> simp
      refine regionM [_, _, _, _, _, _, _, _, _, _, _, _, _, _, _, _, _] 13 [(.p, 0), (.c, 1), (.c, 2), (.c, 3), (.c, 4), (.c, 5), (.c, 6), (.c, 7), (.c, 8), (.c, 9), (.c, 10), (.c, 11), (.c, 12), (.f, 13), (.f, 14), (.f, 15), (.f, 16)] follows_mixed (fun _ _ _ _ _ h => h) (by kernel_rfl) ?_
      intro w1 hw
      have hz := hz.cd hw
      have hx := hx.cd hw
      have hy := hy.cd hw
      have hC := hC.trans hw
      clear hw
      obtain ⟨wL, hwL⟩ : ∃ wL, wL = w1 := ⟨w1, rfl⟩
      rw [← hwL]
      rw [← hwL] at hz hx hy hC
      clear hwL w1
      refine mxp rfl H (fun _ => Ez.mv H rfl) rfl ?_; clear H a; intro a H
      refine mxc rfl H (Ez.mv H rfl) rfl ?_; clear H a; intro a H
      refine mxc rfl H (Ez.nc H rfl) rfl ?_; clear H a; intro a H
      refine mxc rfl H (Ez.fa82_1 H rfl) rfl ?_; clear H a; intro a H
      refine mxc rfl H (Ez.ld80 H rfl (hz.c1)) rfl ?_; clear H a; intro a H
      refine mxc rfl H (Ez.mv H rfl) rfl ?_; clear H a; intro a H
      refine mxc rfl H (Ez.nc H rfl) rfl ?_; clear H a; intro a H
      refine mxc rfl H (Ez.fa82_1 H rfl) rfl ?_; clear H a; intro a H
      refine mxc rfl H (Ez.ld80 H rfl (hx.c1)) rfl ?_; clear H a; intro a H
      refine mxc rfl H (Ez.mv H rfl) rfl ?_; clear H a; intro a H
      refine mxc rfl H (Ez.nc H rfl) rfl ?_; clear H a; intro a H
      refine mxc rfl H (Ez.fa82_1 H rfl) rfl ?_; clear H a; intro a H
      refine mxc rfl H (Ez.ld80 H rfl (hy.c1)) rfl ?_; clear H a; intro a H
      refine mxk rfl H cf92 (natAdd rz.q rx.q ry.q rz.n rz.c rx.n rx.c ry.n ry.c rz.X rx.X ry.X wL hz.sl hx.sl hy.sl (by omega) (by omega) hx.nm hy.nm) rfl rfl ?_
      rintro _ w1 ⟨q', k, c', X', rfl, h1, h2, h3, h4, h5, h6⟩
      refine ⟨_, rfl, ?_⟩; clear H a; intro a H
      have hA := hz.abs h6 h1 h4
      refine mxf rfl H (Ez.nc H rfl) rfl ?_; clear H a; intro a H
      refine mxf rfl H (Ez.fa82_1 H rfl) rfl ?_; clear H a; intro a H
      refine mxs rfl H (Ez.st80 H rfl rfl rfl hA.1 hA.2.1) ?_; clear H; intro H
      replace H : Hd a 94 [] [(0, _), (6, _), (7, _)] := H.pick [0, 6, 7]
      refine mxe ?_
      replace H : Hd a 94 [] [(0, _), (7, _)] := H.pick [0, 7]
      have hZ : Zr w0 _ z rz ⟨rz.s, q', k, c', X'⟩ := ⟨hA.2.2.1, fun k j h => (h5 k j h).imp id (fun h => by rw [← hC.heap]; exact h), (hC.fr _).trans hA.2.2.2⟩
      refine ⟨_, ⟨rz.s, q', k, c', X'⟩, H, hZ, ?_, by simp only; omega⟩
      simp only [IR.v]
      rw [h3]
      revert hs
      cases rx.s <;> cases ry.s <;> simp <;> omega
    have hs : rx.s ≠ !ry.s := by revert hb0; cases rx.s <;> cases ry.s <;> simp
    refine wp_seq (regionQ (ls := [_, _, _, _, _, _, _, _, _, _]) follows_mixed (by kernel_rfl) (wq H (fun w2 hw2 => Ez.mv H rfl) rfl (jN rfl rfl (jL (fun a H w2 hw2 => Ez.fa82_1 H rfl) rfl (jL (fun a H w2 hw2 => Ez.ld80 H rfl (hw2.cell hx.c1)) rfl (jM rfl rfl (jN rfl rfl (jL (fun a H w2 hw2 => Ez.fa82_1 H rfl) rfl (jL (fun a H w2 hw2 => Ez.ld80 H rfl (hw2.cell hy.c1)) rfl ?_))))))))); clear H a; intro a H
    refine wkq H cf90 (cmpW rx.q ry.q rx.n rx.c ry.n ry.c rx.X ry.X w1 hx.sl hy.sl (by omega) (by omega) hx.nm hy.nm) rfl rfl ?_; clear H a; intro a H
    refine wq H (fun w2 hw2 => Ez.geq H rfl rfl (rfl)) rfl ?_; clear H a; intro a H
    refine wqe ?_
    intro w1 hw
    have hz := hz.cd hw
    have hx := hx.cd hw
    have hy := hy.cd hw
    have hC := hC.trans hw
    clear hw
    replace H : Hd a 94 [] [(0, _), (1, _), (2, _), (6, _), (7, _), (46, _)] := H.pick [0, 1, 2, 6, 7, 46]
    refine wp_cond_split (H.o rfl) (fun hb1 => ?_) (fun hb1 => ?_)
    · have hge : nv ry.X ry.n ≤ nv rx.X rx.n := cmpI_ge.1 (of_decide_eq_true hb1)
      have hlen : ry.n ≤ rx.n := by
        rcases Nat.lt_or_ge rx.n ry.n with h | h
        · have := nv_lt_len (X := ry.X) (Y := rx.X) (fun j hj => hy.sl.u (by have := hy.sl.le; omega)) (fun j hj => hx.sl.u (by have := hx.sl.le; omega)) hy.nm h
          omega
        exact h
      refine regionM [_, _, _, _, _, _, _, _, _, _, _, _, _, _, _, _, _] 13 [(.p, 0), (.c, 1), (.c, 2), (.c, 3), (.c, 4), (.c, 5), (.c, 6), (.c, 7), (.c, 8), (.c, 9), (.c, 10), (.c, 11), (.c, 12), (.f, 13), (.f, 14), (.f, 15), (.f, 16)] follows_mixed (fun _ _ _ _ _ h => h) (by kernel_rfl) ?_
      intro w1 hw
      have hz := hz.cd hw
      have hx := hx.cd hw
      have hy := hy.cd hw
      have hC := hC.trans hw
      clear hw
      obtain ⟨wL, hwL⟩ : ∃ wL, wL = w1 := ⟨w1, rfl⟩
      rw [← hwL]
      rw [← hwL] at hz hx hy hC
      clear hwL w1
      refine mxp rfl H (fun _ => Ez.mv H rfl) rfl ?_; clear H a; intro a H
      refine mxc rfl H (Ez.mv H rfl) rfl ?_; clear H a; intro a H
      refine mxc rfl H (Ez.nc H rfl) rfl ?_; clear H a; intro a H
      refine mxc rfl H (Ez.fa82_1 H rfl) rfl ?_; clear H a; intro a H
      refine mxc rfl H (Ez.ld80 H rfl (hz.c1)) rfl ?_; clear H a; intro a H
      refine mxc rfl H (Ez.mv H rfl) rfl ?_; clear H a; intro a H
      refine mxc rfl H (Ez.nc H rfl) rfl ?_; clear H a; intro a H
      refine mxc rfl H (Ez.fa82_1 H rfl) rfl ?_; clear H a; intro a H
      refine mxc rfl H (Ez.ld80 H rfl (hx.c1)) rfl ?_; clear H a; intro a H
      refine mxc rfl H (Ez.mv H rfl) rfl ?_; clear H a; intro a H
      refine mxc rfl H (Ez.nc H rfl) rfl ?_; clear H a; intro a H
      refine mxc rfl H (Ez.fa82_1 H rfl) rfl ?_; clear H a; intro a H
      refine mxc rfl H (Ez.ld80 H rfl (hy.c1)) rfl ?_; clear H a; intro a H
      refine mxk rfl H cf93 (natSub rz.q rx.q ry.q rz.n rz.c rx.n rx.c ry.n ry.c rz.X rx.X ry.X wL hz.sl hx.sl hy.sl (by omega) hlen hx.nm hge) rfl rfl ?_
      rintro _ w1 ⟨q', k, c', X', rfl, h1, h2, h3, h4, h5, h6⟩
      refine ⟨_, rfl, ?_⟩; clear H a; intro a H
      have hA := hz.abs h6 h1 h4
      refine mxf rfl H (Ez.nc H rfl) rfl ?_; clear H a; intro a H
      refine mxf rfl H (Ez.fa82_1 H rfl) rfl ?_; clear H a; intro a H
      refine mxs rfl H (Ez.st80 H rfl rfl rfl hA.1 hA.2.1) ?_; clear H; intro H
      replace H : Hd a 94 [] [(0, _), (6, _), (7, _)] := H.pick [0, 6, 7]
      refine mxe ?_
      replace H : Hd a 94 [] [(0, _), (7, _)] := H.pick [0, 7]
      have hZ : Zr w0 _ z rz ⟨rz.s, q', k, c', X'⟩ := ⟨hA.2.2.1, fun k j h => (h5 k j h).imp id (fun h => by rw [← hC.heap]; exact h), (hC.fr _).trans hA.2.2.2⟩
      refine ⟨_, ⟨rz.s, q', k, c', X'⟩, H, hZ, ?_, by simp only; omega⟩
      simp only [IR.v]
      rw [h3]
      revert hs
      cases rx.s <;> cases ry.s <;> simp <;> omega
    have hge : nv rx.X rx.n ≤ nv ry.X ry.n := by
      have h := of_decide_eq_false hb1
      by_cases h2 : nv ry.X ry.n ≤ nv rx.X rx.n
      · exact absurd (cmpI_ge.2 h2) h
      omega
    have hlen : rx.n ≤ ry.n := by
      rcases Nat.lt_or_ge ry.n rx.n with h | h
      · have := nv_lt_len (X := rx.X) (Y := ry.X) (fun j hj => hx.sl.u (by have := hx.sl.le; omega)) (fun j hj => hy.sl.u (by have := hy.sl.le; omega)) hx.nm h
        omega
      exact h
    refine wp_seq (wp_region_lit (l := [_, _, _]) (wl H (Ez.mv H rfl) rfl (kL (fun a H => Ez.not H rfl rfl) rfl (kA rfl rfl (kP [(0, _), (1, _), (2, _), (6, _), (7, _)] rfl (kW ?_)))))); clear H a; intro a H
    refine regionM [_, _, _, _, _, _, _, _, _, _, _, _, _, _, _, _, _] 13 [(.p, 0), (.c, 1), (.c, 2), (.c, 3), (.c, 4), (.c, 5), (.c, 6), (.c, 7), (.c, 8), (.c, 9), (.c, 10), (.c, 11), (.c, 12), (.f, 13), (.f, 14), (.f, 15), (.f, 16)] follows_mixed (fun _ _ _ _ _ h => h) (by kernel_rfl) ?_
    intro w1 hw
    have hz := hz.cd hw
    have hx := hx.cd hw
    have hy := hy.cd hw
    have hC := hC.trans hw
    clear hw
    obtain ⟨wL, hwL⟩ : ∃ wL, wL = w1 := ⟨w1, rfl⟩
    rw [← hwL]
    rw [← hwL] at hz hx hy hC
    clear hwL w1
    refine mxp rfl H (fun _ => Ez.mv H rfl) rfl ?_; clear H a; intro a H
    refine mxc rfl H (Ez.mv H rfl) rfl ?_; clear H a; intro a H
    refine mxc rfl H (Ez.nc H rfl) rfl ?_; clear H a; intro a H
    refine mxc rfl H (Ez.fa82_1 H rfl) rfl ?_; clear H a; intro a H
    refine mxc rfl H (Ez.ld80 H rfl (hz.c1)) rfl ?_; clear H a; intro a H
    refine mxc rfl H (Ez.mv H rfl) rfl ?_; clear H a; intro a H
    refine mxc rfl H (Ez.nc H rfl) rfl ?_; clear H a; intro a H
    refine mxc rfl H (Ez.fa82_1 H rfl) rfl ?_; clear H a; intro a H
    refine mxc rfl H (Ez.ld80 H rfl (hy.c1)) rfl ?_; clear H a; intro a H
    refine mxc rfl H (Ez.mv H rfl) rfl ?_; clear H a; intro a H
    refine mxc rfl H (Ez.nc H rfl) rfl ?_; clear H a; intro a H
    refine mxc rfl H (Ez.fa82_1 H rfl) rfl ?_; clear H a; intro a H
    refine mxc rfl H (Ez.ld80 H rfl (hx.c1)) rfl ?_; clear H a; intro a H
    refine mxk rfl H cf93 (natSub rz.q ry.q rx.q rz.n rz.c ry.n ry.c rx.n rx.c rz.X ry.X rx.X wL hz.sl hy.sl hx.sl (by omega) hlen hy.nm hge) rfl rfl ?_
    rintro _ w1 ⟨q', k, c', X', rfl, h1, h2, h3, h4, h5, h6⟩
    refine ⟨_, rfl, ?_⟩; clear H a; intro a H
    have hA := hz.abs h6 h1 h4
    refine mxf rfl H (Ez.nc H rfl) rfl ?_; clear H a; intro a H
    refine mxf rfl H (Ez.fa82_1 H rfl) rfl ?_; clear H a; intro a H
    refine mxs rfl H (Ez.st80 H rfl rfl rfl hA.1 hA.2.1) ?_; clear H; intro H
    replace H : Hd a 94 [] [(0, _), (6, _), (7, _)] := H.pick [0, 6, 7]
    refine mxe ?_
    replace H : Hd a 94 [] [(0, _), (7, _)] := H.pick [0, 7]
    have hZ : Zr w0 _ z rz ⟨rz.s, q', k, c', X'⟩ := ⟨hA.2.2.1, fun k j h => (h5 k j h).imp id (fun h => by rw [← hC.heap]; exact h), (hC.fr _).trans hA.2.2.2⟩
    refine ⟨_, ⟨rz.s, q', k, c', X'⟩, H, hZ, ?_, by simp only; omega⟩
    simp only [IR.v]
    rw [h3]
    revert hs
    cases rx.s <;> cases ry.s <;> simp <;> omega
  clear H a
  intro a w hJ
  obtain ⟨s, r, H, hZ, hv, hn⟩ := hJ
  refine wp_seq ?_
  rcases Nat.eq_zero_or_pos r.n with h0 | h0
  · refine wp_region_lit (l := [_, _, _, _, _, _, _, _, _, _, _, _, _]) (wl H (Ez.mv H rfl) rfl (kM rfl rfl (kN rfl rfl (kL (fun a H => Ez.fa82_1 H rfl) rfl (kL (fun a H => Ez.ld80 H rfl (hZ.ib.c1)) rfl (kL (fun a H => Ez.len80 H rfl) rfl (kL (fun a H => Ez.gtr (r := false) H rfl rfl (by (simp; omega))) rfl (kM rfl rfl (kX rfl rfl rfl rfl rfl (kL (fun a H => Ez.pkF H rfl rfl) rfl (kN rfl rfl (kL (fun a H => Ez.fa82_0 H rfl) rfl ?_)))))))))))); clear H a; intro a H
    refine wls H (Ez.st4 H rfl rfl rfl hZ.ib.c0 (hZ.ib.fz _)) ?_; clear H; intro H
    refine kP [(0, _)] rfl (kW (kS (kR [_, _] (kM rfl rfl (kA rfl rfl (kP [(6, _)] rfl (kW ?_))))))) a H; clear H a; intro a H
    refine wp_ret ?_
    refine rt1 H rfl rfl ?_
    have hN := hZ.ib.neg false r.q
    exact ⟨_, rfl, hZ.trans ⟨hN.1, Own.refl _ _, hN.2⟩, by rw [← hv]; exact IR.v_len _ s _ _ _ (.inl ⟨h0, rfl⟩), hn⟩
  refine wp_region_lit (l := [_, _, _, _, _, _, _, _, _, _, _, _, _]) (wl H (Ez.mv H rfl) rfl (kM rfl rfl (kN rfl rfl (kL (fun a H => Ez.fa82_1 H rfl) rfl (kL (fun a H => Ez.ld80 H rfl (hZ.ib.c1)) rfl (kL (fun a H => Ez.len80 H rfl) rfl (kL (fun a H => Ez.gtr (r := true) H rfl rfl (by (simp; omega))) rfl (kM rfl rfl (kG (fun a H => Ez.mv H rfl) rfl rfl rfl rfl rfl (kL (fun a H => Ez.pkT H rfl rfl) rfl (kN rfl rfl (kL (fun a H => Ez.fa82_0 H rfl) rfl ?_)))))))))))); clear H a; intro a H
  refine wls H (Ez.st4 H rfl rfl rfl hZ.ib.c0 (hZ.ib.fz _)) ?_; clear H; intro H
  refine kP [(0, _)] rfl (kW (kS (kR [_, _] (kM rfl rfl (kA rfl rfl (kP [(6, _)] rfl (kW ?_))))))) a H; clear H a; intro a H
  refine wp_ret ?_
  refine rt1 H rfl rfl ?_
  have hN := hZ.ib.neg s r.q
  exact ⟨_, rfl, hZ.trans ⟨hN.1, Own.refl _ _, hN.2⟩, by rw [← hv]; exact IR.v_len _ s _ _ _ (.inr ⟨h0, rfl⟩), hn⟩
end
section
set_option maxRecDepth 8000
def sg (b : Bool) : Int := if b then -1 else 1
theorem IR.v_sg (r : IR) : r.v = sg r.s * nv r.X r.n := by
  unfold IR.v sg; cases r.s <;> simp
theorem sg_mul (a b : Bool) : sg (a != b) = sg a * sg b := by cases a <;> cases b <;> rfl
section
variable {w w' w1 : World} {z r : Nat} {rz rr : IR}
def ZT2 (z : Nat) (q : Option Addr) (r : Nat) (q' : Option Addr) : Nat → Nat → Prop := fun k j => ZT z q k j ∨ ZT r q' k j
theorem Ib.abs2 {q' p' : Option Addr} {n' c' m' d' : Nat} {X' Y' : Nat → Int} (hz : Ib w z rz) (hr : Ib w r rr) (hne : z ≠ r) (hF : Fr (T2 rz.q rr.q) w w1) (h1 : Sl w1 q' n' c' X') (h2 : Nm X' n') (g1 : Sl w1 p' m' d' Y') (g2 : Nm Y' m') :
    w1.cell? ⟨z, 1, none⟩ = some (.slice rz.q rz.n rz.c) ∧ w1.frozen? ⟨z, 1, none⟩ = false ∧ (w1.setCell ⟨z, 1, none⟩ (.slice q' n' c')).cell? ⟨r, 1, none⟩ = some (.slice rr.q rr.n rr.c) ∧ (w1.setCell ⟨z, 1, none⟩ (.slice q' n' c')).frozen? ⟨r, 1, none⟩ = false ∧
    Ib ((w1.setCell ⟨z, 1, none⟩ (.slice q' n' c')).setCell ⟨r, 1, none⟩ (.slice p' m' d')) z ⟨rz.s, q', n', c', X'⟩ ∧ Ib ((w1.setCell ⟨z, 1, none⟩ (.slice q' n' c')).setCell ⟨r, 1, none⟩ (.slice p' m' d')) r ⟨rr.s, p', m', d', Y'⟩ ∧
    Fr (ZT2 z rz.q r rr.q) w ((w1.setCell ⟨z, 1, none⟩ (.slice q' n' c')).setCell ⟨r, 1, none⟩ (.slice p' m' d')) := by
  have hbz : w1.heap[z]? = some (.cells #[.bool rz.s, .slice rz.q rz.n rz.c] 82 (0, 0)) := (hF.block z hz.lt (fun o h => by rcases h with h | h; exact hz.sl.neI hz o h; exact hr.sl.neI hz o h)).trans hz.blk
  have hbr : w1.heap[r]? = some (.cells #[.bool rr.s, .slice rr.q rr.n rr.c] 82 (0, 0)) := (hF.block r hr.lt (fun o h => by rcases h with h | h; exact hz.sl.neI hr o h; exact hr.sl.neI hr o h)).trans hr.blk
  have nI : ∀ {q : Option Addr} {n c : Nat} {X : Nat → Int} {k : Nat} {s : Bool} {v : Value}, Sl w1 q n c X → w1.heap[k]? = some (.cells #[.bool s, v] 82 (0, 0)) → ∀ j, ¬ TQ q k j := by
    intro q n c X k s v h hb j ht
    rcases h with ⟨h0, _⟩ | ⟨b, h0, _, hc, hW⟩
    · rw [h0] at ht; exact TQ_none ht
    rw [h0, TQ_some] at ht
    subst ht
    have := hW.cell (j := 0) hc
    simp [World.cell?, hb] at this
  have hbr2 : (w1.setCell ⟨z, 1, none⟩ (.slice q' n' c')).heap[r]? = some (.cells #[.bool rr.s, .slice rr.q rr.n rr.c] 82 (0, 0)) := by rw [Below.heap_setCell _ _ _ _ (fun e => hne (Eq.symm e))]; exact hbr
  refine ⟨by simp [World.cell?, hbz], by simp [World.frozen?, hbz], by simp [World.cell?, hbr2], by simp [World.frozen?, hbr2], ⟨?_, (h1.other (nI h1 hbz) _).other (nI h1 hbr) _, h2⟩, ⟨?_, (g1.other (nI g1 hbz) _).other (nI g1 hbr) _, g2⟩, ?_⟩
  · rw [Below.heap_setCell _ _ _ _ (fun e => hne e), heap_set_in hbz]; rfl
  · rw [heap_set_in hbr2]; rfl
  exact ((hF.mono fun k o _ h => by
    rcases h with h | h
    · exact .inl (.inr h)
    exact .inr (.inr h)).setCell (fun _ => .inl (.inl rfl)) _).setCell (fun _ => .inr (.inl rfl)) _
theorem Ih.upd2 {B m i j : Nat} {pp : Nat → Nat} {F : Nat → IR} {a b : IR} (h : Ih B m w pp F) (hi : i < m) (hj : j < m) (hij : i ≠ j) (ha : Ib w' (pp i) a) (hb : Ib w' (pp j) b) (oa : Own w (F i).q a.q) (ob : Own w (F j).q b.q) (hd : Dj a.q b.q) (hF : Fr (ZT2 (pp i) (F i).q (pp j) (F j).q) w w') :
    Ih B m w' pp (ui (ui F i a) j b) ∧ Fr (Hi B) w w' := by
  have hB : B ≤ w.heap.size := Nat.le_trans (h.lo i hi) (Nat.le_of_lt (h.ib i hi).lt)
  have hna : ∀ k, k < m → k ≠ i → Dj a.q (F k).q := fun k hk hne => (h.dj i hi k hk (Ne.symm hne)).own oa (h.ib k hk).sl
  have hnb : ∀ k, k < m → k ≠ j → Dj b.q (F k).q := fun k hk hne => (h.dj j hj k hk (Ne.symm hne)).own ob (h.ib k hk).sl
  have lo' : ∀ {f : IR} {k : Nat}, k < m → Own w (F k).q f.q → ∀ x o, TQ f.q x o → B ≤ x := fun {f k} hk ho x o ht => by
    rcases ho x o ht with h1 | h1
    · exact h.lor k hk x o h1
    omega
  have val : ∀ k, k = j ∧ ui (ui F i a) j b k = b ∨ k ≠ j ∧ k = i ∧ ui (ui F i a) j b k = a ∨ k ≠ j ∧ k ≠ i ∧ ui (ui F i a) j b k = F k := fun k => by
    by_cases e : k = j
    · subst e; exact .inl ⟨rfl, ui_eq _ _ _⟩
    by_cases e' : k = i
    · subst e'; exact .inr (.inl ⟨e, rfl, by rw [ui_ne e, ui_eq]⟩)
    exact .inr (.inr ⟨e, e', by rw [ui_ne e, ui_ne e']⟩)
  refine ⟨⟨fun k hk => ?_, h.lo, fun k hk x o ht => ?_, h.ne, fun k hk l hl hne => ?_⟩, hF.mono fun k o hk ht => ?_⟩
  · rcases val k with ⟨e, e2⟩ | ⟨_, e, e2⟩ | ⟨e, e', e2⟩
    · rw [e2, e]; exact hb
    · rw [e2, e]; exact ha
    rw [e2]
    refine (h.ib k hk).fr hF (fun o ht => ?_) (fun x o o' ht ht' => ?_)
    · rcases ht with (ht | ht) | (ht | ht)
      · exact h.ne k hk i hi e' ht
      · exact (h.ib i hi).sl.neI (h.ib k hk) o ht
      · exact h.ne k hk j hj e ht
      exact (h.ib j hj).sl.neI (h.ib k hk) o ht
    rcases ht' with (ht' | ht') | (ht' | ht')
    · subst ht'; exact (h.ib k hk).sl.neI (h.ib i hi) o ht
    · exact h.dj k hk i hi e' x o o' ht ht'
    · subst ht'; exact (h.ib k hk).sl.neI (h.ib j hj) o ht
    exact h.dj k hk j hj e x o o' ht ht'
  · rcases val k with ⟨e, e2⟩ | ⟨_, e, e2⟩ | ⟨e, e', e2⟩
    · rw [e2] at ht; exact lo' hj ob x o ht
    · rw [e2] at ht; exact lo' hi oa x o ht
    rw [e2] at ht; exact h.lor k hk x o ht
  · rcases val k with ⟨e, e2⟩ | ⟨e0, e, e2⟩ | ⟨e, e', e2⟩ <;> rcases val l with ⟨f, f2⟩ | ⟨f0, f, f2⟩ | ⟨f, f', f2⟩ <;> rw [e2, f2]
    · omega
    · exact hd.symm
    · exact hnb l hl f
    · exact hd
    · omega
    · exact hna l hl f'
    · exact (hnb k hk e).symm
    · exact (hna k hk e').symm
    exact h.dj k hk l hl hne
  rcases ht with (ht | ht) | (ht | ht)
  · subst ht; exact h.lo i hi
  · exact h.lor i hi k o ht
  · subst ht; exact h.lo j hj
  exact h.lor j hj k o ht
end
theorem intMulW (z x : Nat) (s : Bool) (y : Int) (rz rx : IR) (w : World) (hz : Ib w z rz) (hx : Ib w x rx) (hn : rx.n < 1000) (hy : U64 y) :
    Calls Tryz.prog 106 #[.pointer (some ⟨z, 0, none⟩), .pointer (some ⟨x, 0, none⟩), .bool s, .int .u64 y] w fun e w' => ∃ r, e = .returned (.tuple #[]) ∧ Zr w w' z rz r ∧ r.v = sg s * rx.v * y ∧ r.n ≤ rx.n + 1 ∧ r.s = (rx.s != s) := by
  refine enterE (vs := [.pointer (some ⟨z, 0, none⟩), .pointer (some ⟨x, 0, none⟩), .bool s, .int .u64 y]) Tryz.func106 rfl rfl ?_
  intro a H
  replace H : Hd a 30 [] [(0, .pointer (some ⟨z, 0, none⟩)), (1, .pointer (some ⟨x, 0, none⟩)), (2, .bool s), (3, .int .u64 y)] := H
  refine wp_seq ?_
  refine regionM [_, _, _, _, _, _, _, _, _, _, _, _, _, _] 10 [(.p, 0), (.c, 1), (.c, 2), (.c, 3), (.c, 4), (.c, 5), (.c, 6), (.c, 7), (.c, 8), (.c, 9), (.f, 10), (.f, 11), (.f, 12), (.f, 13)] follows_mixed (fun _ _ _ _ _ h => h) (by kernel_rfl) ?_
  intro w1 hw
  have hz := hz.cd hw
  have hx := hx.cd hw
  obtain ⟨wL, hwL⟩ : ∃ wL, wL = w1 := ⟨w1, rfl⟩
  rw [← hwL]
  rw [← hwL] at hz hx hw
  clear hwL w1
  refine mxp rfl H (fun _ => Ez.mv H rfl) rfl ?_; clear H a; intro a H
  refine mxc rfl H (Ez.mv H rfl) rfl ?_; clear H a; intro a H
  refine mxc rfl H (Ez.nc H rfl) rfl ?_; clear H a; intro a H
  refine mxc rfl H (Ez.fa82_1 H rfl) rfl ?_; clear H a; intro a H
  refine mxc rfl H (Ez.ld80 H rfl (hz.c1)) rfl ?_; clear H a; intro a H
  refine mxc rfl H (Ez.mv H rfl) rfl ?_; clear H a; intro a H
  refine mxc rfl H (Ez.nc H rfl) rfl ?_; clear H a; intro a H
  refine mxc rfl H (Ez.fa82_1 H rfl) rfl ?_; clear H a; intro a H
  refine mxc rfl H (Ez.ld80 H rfl (hx.c1)) rfl ?_; clear H a; intro a H
  refine mxc rfl H (Ez.mv H rfl) rfl ?_; clear H a; intro a H
  refine mxk rfl H cf121 (natMulAddWW rz.q rx.q rz.n rz.c rx.n rx.c rz.X rx.X y 0 wL hz.sl hx.sl (by omega) hy ⟨by decide, by decide⟩) rfl rfl ?_
  rintro _ w1 ⟨q', k, c', X', rfl, h1, h2, h3, h4, h5, h6⟩
  refine ⟨_, rfl, ?_⟩; clear H a; intro a H
  have hA := hz.abs h6 h1 h4
  have hc0 := hx.c0' hz h6 (.slice q' k c')
  refine mxf rfl H (Ez.nc H rfl) rfl ?_; clear H a; intro a H
  refine mxf rfl H (Ez.fa82_1 H rfl) rfl ?_; clear H a; intro a H
  refine mxs rfl H (Ez.st80 H rfl rfl rfl hA.1 hA.2.1) ?_; clear H; intro H
  replace H : Hd a 30 [] [(0, _), (1, _), (2, _)] := H.pick [0, 1, 2]
  refine mxe ?_
  refine wp_region_lit (l := [_, _, _, _, _, _, _, _, _, _]) (wl H (Ez.mv H rfl) rfl (kM rfl rfl (kN rfl rfl (kL (fun a H => Ez.fa82_0 H rfl) rfl (kL (fun a H => Ez.ld4 H rfl (hc0)) rfl (kM rfl rfl (kL (fun a H => Ez.neb H rfl rfl rfl) rfl (kN rfl rfl (kL (fun a H => Ez.fa82_0 H rfl) rfl ?_))))))))); clear H a; intro a H
  refine wls H (Ez.st4 H rfl rfl rfl hA.2.2.1.c0 (hA.2.2.1.fz _)) ?_; clear H; intro H
  replace H : Hd a 30 [] [] := H.pick []
  refine wpList_nil ?_
  refine rtn0 H rfl ?_
  have hN := hA.2.2.1.neg (rx.s != s) rz.q
  refine ⟨_, rfl, ⟨hN.1, fun k j h => (h5 k j h).imp id (fun h => by rw [← hw.heap]; exact h), (hw.fr _).trans (hA.2.2.2.trans hN.2)⟩, ?_, h2, rfl⟩
  rw [IR.v_sg, IR.v_sg]
  simp only
  rw [sg_mul, h3, Int.add_zero, Int.mul_comm (sg rx.s), Int.mul_assoc, Int.mul_assoc, Int.mul_assoc]
theorem intMul0 (z x y : Nat) (rz rx ry : IR) (w : World) (hz : Ib w z rz) (hx : Ib w x rx) (hy : Ib w y ry) (hne : x ≠ y) (hg : w.cell? ⟨4, 0, none⟩ = some (.int .i64 40)) (hnx : rx.n < 40) (hny : ry.n < 40) :
    Calls Tryz.prog 122 #[.pointer (some ⟨z, 0, none⟩), .pointer none, .pointer (some ⟨x, 0, none⟩), .pointer (some ⟨y, 0, none⟩)] w fun e w' => ∃ r, e = .returned (.tuple #[]) ∧ Zr w w' z rz r ∧ r.v = rx.v * ry.v ∧ r.n ≤ rx.n + ry.n + 1 := by
  refine enterE (vs := [.pointer (some ⟨z, 0, none⟩), .pointer none, .pointer (some ⟨x, 0, none⟩), .pointer (some ⟨y, 0, none⟩)]) Tryz.func122 rfl rfl ?_
  intro a H
  replace H : Hd a 64 [] [(0, .pointer (some ⟨z, 0, none⟩)), (1, .pointer none), (2, .pointer (some ⟨x, 0, none⟩)), (3, .pointer (some ⟨y, 0, none⟩))] := H
  refine wp_seq (wp_seq (wp_region_lit (l := [_, _, _]) (wl H (Ez.mv H rfl) rfl (kM rfl rfl (kL (fun a H => Ez.eqI H rfl rfl hx.blk hy.blk (r := false) (by simp [hne])) rfl (kP [(0, _), (1, _), (2, _), (3, _), (10, _)] rfl (kW ?_))))))); clear H a; intro a H
  refine wp_cond_false (H.o rfl) (wp_skip (thn (wp_seq ?_)))
  refine regionM [_, _, _, _, _, _, _, _, _, _, _, _, _, _, _, _, _, _] 14 [(.p, 0), (.c, 1), (.c, 2), (.c, 3), (.c, 4), (.c, 5), (.c, 6), (.c, 7), (.c, 8), (.c, 9), (.c, 10), (.c, 11), (.c, 12), (.c, 13), (.f, 14), (.f, 15), (.f, 16), (.f, 17)] follows_mixed (fun _ _ _ _ _ h => h) (by kernel_rfl) ?_
  intro w1 hw
  have hz := hz.cd hw
  have hx := hx.cd hw
  have hy := hy.cd hw
  have hg := hw.cell hg
  have hC := hw
  obtain ⟨wL, hwL⟩ : ∃ wL, wL = w1 := ⟨w1, rfl⟩
  rw [← hwL]
  rw [← hwL] at hz hx hy hg hC
  clear hw hwL w1
  refine mxp rfl H (fun _ => Ez.mv H rfl) rfl ?_; clear H a; intro a H
  refine mxc rfl H (Ez.mv H rfl) rfl ?_; clear H a; intro a H
  refine mxc rfl H (Ez.nc H rfl) rfl ?_; clear H a; intro a H
  refine mxc rfl H (Ez.fa82_1 H rfl) rfl ?_; clear H a; intro a H
  refine mxc rfl H (Ez.ld80 H rfl (hz.c1)) rfl ?_; clear H a; intro a H
  refine mxc rfl H (Ez.mv H rfl) rfl ?_; clear H a; intro a H
  refine mxc rfl H (Ez.mv H rfl) rfl ?_; clear H a; intro a H
  refine mxc rfl H (Ez.nc H rfl) rfl ?_; clear H a; intro a H
  refine mxc rfl H (Ez.fa82_1 H rfl) rfl ?_; clear H a; intro a H
  refine mxc rfl H (Ez.ld80 H rfl (hx.c1)) rfl ?_; clear H a; intro a H
  refine mxc rfl H (Ez.mv H rfl) rfl ?_; clear H a; intro a H
  refine mxc rfl H (Ez.nc H rfl) rfl ?_; clear H a; intro a H
  refine mxc rfl H (Ez.fa82_1 H rfl) rfl ?_; clear H a; intro a H
  refine mxc rfl H (Ez.ld80 H rfl (hy.c1)) rfl ?_; clear H a; intro a H
  refine mxk rfl H cf140 (natMul rz.q rx.q ry.q rz.n rz.c rx.n rx.c ry.n ry.c rz.X rx.X ry.X wL hz.sl hx.sl hy.sl hg (by omega) (by omega)) rfl rfl ?_
  rintro _ w1 ⟨q', k, c', X', rfl, h1, h2, h3, h4, h5, h6⟩
  refine ⟨_, rfl, ?_⟩; clear H a; intro a H
  have hA := hz.abs h6 h1 h4
  have hcx := hx.c0' hz h6 (.slice q' k c')
  have hcy := hy.c0' hz h6 (.slice q' k c')
  refine mxf rfl H (Ez.nc H rfl) rfl ?_; clear H a; intro a H
  refine mxf rfl H (Ez.fa82_1 H rfl) rfl ?_; clear H a; intro a H
  refine mxs rfl H (Ez.st80 H rfl rfl rfl hA.1 hA.2.1) ?_; clear H; intro H
  replace H : Hd a 64 [] [(0, _), (2, _), (3, _)] := H.pick [0, 2, 3]
  refine mxe ?_
  have hZ : Zr w _ z rz ⟨rz.s, q', k, c', X'⟩ := ⟨hA.2.2.1, fun k j h => (h5 k j h).imp id (fun h => by rw [← hC.heap]; exact h), (hC.fr _).trans hA.2.2.2⟩
  generalize wS : w1.setCell ⟨z, 1, none⟩ (.slice q' k c') = w2 at hZ hcx hcy
  clear hA
  rcases Nat.eq_zero_or_pos k with h0 | h0
  · refine regionM [_, _, _, _, _, _, _, _, _, _, _, _, _, _, _, _, _, _, _, _, _] 20 [(.c, 0), (.c, 1), (.c, 2), (.c, 3), (.c, 4), (.c, 5), (.c, 6), (.c, 7), (.c, 8), (.c, 9), (.c, 10), (.c, 11), (.c, 12), (.c, 13), (.c, 14), (.c, 15), (.c, 16), (.c, 17), (.c, 18), (.c, 19), (.f, 20)] follows_mixed (fun _ _ _ _ _ h => h) (by kernel_rfl) ?_
    intro w1 hw
    have hZi := hZ.ib.cd hw
    have hcx := hw.cell hcx
    have hcy := hw.cell hcy
    refine mxc rfl H (Ez.mv H rfl) rfl ?_; clear H a; intro a H
    refine mxc rfl H (Ez.mv H rfl) rfl ?_; clear H a; intro a H
    refine mxc rfl H (Ez.nc H rfl) rfl ?_; clear H a; intro a H
    refine mxc rfl H (Ez.fa82_1 H rfl) rfl ?_; clear H a; intro a H
    refine mxc rfl H (Ez.ld80 H rfl (hZi.c1)) rfl ?_; clear H a; intro a H
    refine mxc rfl H (Ez.len80 H rfl) rfl ?_; clear H a; intro a H
    refine mxc rfl H (Ez.gtr (r := false) H rfl rfl (by (simp; omega))) rfl ?_; clear H a; intro a H
    refine mxc rfl H (Ez.mv H rfl) rfl ?_; clear H a; intro a H
    refine mxcx rfl H rfl rfl rfl rfl rfl ?_; clear H a; intro a H
    refine mxcx rfl H rfl rfl rfl rfl rfl ?_; clear H a; intro a H
    refine mxcx rfl H rfl rfl rfl rfl rfl ?_; clear H a; intro a H
    refine mxcx rfl H rfl rfl rfl rfl rfl ?_; clear H a; intro a H
    refine mxcx rfl H rfl rfl rfl rfl rfl ?_; clear H a; intro a H
    refine mxcx rfl H rfl rfl rfl rfl rfl ?_; clear H a; intro a H
    refine mxcx rfl H rfl rfl rfl rfl rfl ?_; clear H a; intro a H
    refine mxcx rfl H rfl rfl rfl rfl rfl ?_; clear H a; intro a H
    refine mxcx rfl H rfl rfl rfl rfl rfl ?_; clear H a; intro a H
    refine mxc rfl H (Ez.pkF H rfl rfl) rfl ?_; clear H a; intro a H
    refine mxc rfl H (Ez.nc H rfl) rfl ?_; clear H a; intro a H
    refine mxc rfl H (Ez.fa82_0 H rfl) rfl ?_; clear H a; intro a H
    refine mxs rfl H (Ez.st4 H rfl rfl rfl hZi.c0 (hZi.fz _)) ?_; clear H; intro H
    replace H : Hd a 64 [] [] := H.pick []
    refine mxe' ?_
    refine rtn0 H rfl ?_
    have hN := hZi.neg false rz.q
    refine ⟨_, rfl, hZ.trans ⟨hN.1, Own.refl _ _, (hw.fr _).trans (hZi.neg false q').2⟩, ?_, h2⟩
    subst h0
    have e : nv rx.X rx.n * nv ry.X ry.n = 0 := by rw [← h3]; rfl
    rw [IR.v_sg, IR.v_sg rx, IR.v_sg ry]
    rw [show sg rx.s * nv rx.X rx.n * (sg ry.s * nv ry.X ry.n) = sg rx.s * sg ry.s * (nv rx.X rx.n * nv ry.X ry.n) by simp only [Int.mul_assoc, Int.mul_left_comm]]
    rw [e]; simp [nv]
  refine regionM [_, _, _, _, _, _, _, _, _, _, _, _, _, _, _, _, _, _, _, _, _] 20 [(.c, 0), (.c, 1), (.c, 2), (.c, 3), (.c, 4), (.c, 5), (.c, 6), (.c, 7), (.c, 8), (.c, 9), (.c, 10), (.c, 11), (.c, 12), (.c, 13), (.c, 14), (.c, 15), (.c, 16), (.c, 17), (.c, 18), (.c, 19), (.f, 20)] follows_mixed (fun _ _ _ _ _ h => h) (by kernel_rfl) ?_
  intro w1 hw
  have hZi := hZ.ib.cd hw
  have hcx := hw.cell hcx
  have hcy := hw.cell hcy
  refine mxc rfl H (Ez.mv H rfl) rfl ?_; clear H a; intro a H
  refine mxc rfl H (Ez.mv H rfl) rfl ?_; clear H a; intro a H
  refine mxc rfl H (Ez.nc H rfl) rfl ?_; clear H a; intro a H
  refine mxc rfl H (Ez.fa82_1 H rfl) rfl ?_; clear H a; intro a H
  refine mxc rfl H (Ez.ld80 H rfl (hZi.c1)) rfl ?_; clear H a; intro a H
  refine mxc rfl H (Ez.len80 H rfl) rfl ?_; clear H a; intro a H
  refine mxc rfl H (Ez.gtr (r := true) H rfl rfl (by (simp; omega))) rfl ?_; clear H a; intro a H
  refine mxc rfl H (Ez.mv H rfl) rfl ?_; clear H a; intro a H
  refine mxcg rfl H (Ez.mv H rfl) rfl rfl rfl rfl rfl ?_; clear H a; intro a H
  refine mxcg rfl H (Ez.nc H rfl) rfl rfl rfl rfl rfl ?_; clear H a; intro a H
  refine mxcg rfl H (Ez.fa82_0 H rfl) rfl rfl rfl rfl rfl ?_; clear H a; intro a H
  refine mxcg rfl H (Ez.ld4 H rfl (hcx)) rfl rfl rfl rfl rfl ?_; clear H a; intro a H
  refine mxcg rfl H (Ez.mv H rfl) rfl rfl rfl rfl rfl ?_; clear H a; intro a H
  refine mxcg rfl H (Ez.nc H rfl) rfl rfl rfl rfl rfl ?_; clear H a; intro a H
  refine mxcg rfl H (Ez.fa82_0 H rfl) rfl rfl rfl rfl rfl ?_; clear H a; intro a H
  refine mxcg rfl H (Ez.ld4 H rfl (hcy)) rfl rfl rfl rfl rfl ?_; clear H a; intro a H
  refine mxcg rfl H (Ez.neb H rfl rfl rfl) rfl rfl rfl rfl rfl ?_; clear H a; intro a H
  refine mxc rfl H (Ez.pkT H rfl rfl) rfl ?_; clear H a; intro a H
  refine mxc rfl H (Ez.nc H rfl) rfl ?_; clear H a; intro a H
  refine mxc rfl H (Ez.fa82_0 H rfl) rfl ?_; clear H a; intro a H
  refine mxs rfl H (Ez.st4 H rfl rfl rfl hZi.c0 (hZi.fz _)) ?_; clear H; intro H
  replace H : Hd a 64 [] [] := H.pick []
  refine mxe' ?_
  refine rtn0 H rfl ?_
  have hN := hZi.neg (rx.s != ry.s) q'
  refine ⟨_, rfl, hZ.trans ⟨hN.1, Own.refl _ _, (hw.fr _).trans hN.2⟩, ?_, h2⟩
  rw [IR.v_sg, IR.v_sg rx, IR.v_sg ry]
  simp only
  rw [sg_mul, h3]
  simp only [Int.mul_assoc, Int.mul_left_comm]
theorem intMul (z x y : Nat) (rz rx ry : IR) (w : World) (hz : Ib w z rz) (hx : Ib w x rx) (hy : Ib w y ry) (hne : x ≠ y) (hg : w.cell? ⟨4, 0, none⟩ = some (.int .i64 40)) (hnx : rx.n < 40) (hny : ry.n < 40) :
    Calls Tryz.prog 107 #[.pointer (some ⟨z, 0, none⟩), .pointer (some ⟨x, 0, none⟩), .pointer (some ⟨y, 0, none⟩)] w fun e w' => ∃ r, e = .returned (.pointer (some ⟨z, 0, none⟩)) ∧ Zr w w' z rz r ∧ r.v = rx.v * ry.v ∧ r.n ≤ rx.n + ry.n + 1 := by
  refine enterE (vs := [.pointer (some ⟨z, 0, none⟩), .pointer (some ⟨x, 0, none⟩), .pointer (some ⟨y, 0, none⟩)]) Tryz.func107 rfl rfl ?_
  intro a H
  replace H : Hd a 12 [] [(0, .pointer (some ⟨z, 0, none⟩)), (1, .pointer (some ⟨x, 0, none⟩)), (2, .pointer (some ⟨y, 0, none⟩))] := H
  refine wp_seq (wp_region_lit (l := [_]) (wl H (Ez.asn H rfl) rfl (kW (kS (kR [_, _, _, _] (kM rfl rfl (kM rfl rfl (kM rfl rfl ?_)))))))); clear H a; intro a H
  refine wk H cf122 (intMul0 z x y rz rx ry w hz hx hy hne hg hnx hny) rfl rfl ?_
  rintro _ w1 ⟨r, rfl, h1, h2, h3⟩
  refine ⟨_, rfl, ?_⟩; clear H a; intro a H
  refine kP [(0, _), (6, _)] rfl (kW (kS (kR [_, _] (kM rfl rfl (kA rfl rfl (kP [(6, _)] rfl (kW ?_))))))) a H; clear H a; intro a H
  refine wp_ret ?_
  refine rt1 H rfl rfl ?_
  exact ⟨r, rfl, h1, h2, h3⟩
end
section
set_option maxRecDepth 8000
def MixH (P : Program) (l : List Oper) (Q : Exit → Act → World → Prop) (S : World → Prop) : List (Bool × Nat) → Act → World → Prop
  | [], a, w => Q .normal a w
  | (true, i) :: r, a, w => ∃ o v, nth l i = some o ∧ o.dst.isSome = true ∧ YieldsIf P l.toArray S o v a ∧ MixH P l Q S r (a.put o.dst v) w
  | (false, i) :: r, a, w => wpOp P l.toArray Q i (fun a' w' => S w' ∧ MixH P l Q S r a' w') a w
def mixHB (md : Region.Mode) (ops : Array Oper) : List (Bool × Nat) → Array Bool → Bool
  | [], listed => (Region.ready md ops listed).isEmpty
  | (true, i) :: r, listed => Region.free md ops listed i && (Region.ready md ops listed).contains i && mixHB md ops r (listed.setIfInBounds i true)
  | (false, i) :: r, listed => decide (Region.ready md ops listed = [i]) && mixHB md ops r (listed.setIfInBounds i true)
section
variable {P : Program} {Q : Exit → Act → World → Prop} {md : Region.Mode} {l : List Oper} {S : World → Prop}
theorem mixH_all (hs : Region.noSelect l.toArray = true) (hQ : ∀ c d v a w, Q (.panic c) (Act.put a (some d) v) w → Q (.panic c) a w) : ∀ (ks : List (Bool × Nat)) (listed : Array Bool) (a : Act) (w : World), S w → mixHB md l.toArray ks listed = true → MixH P l Q S ks a w → wpAnyH P md l.toArray Q S ks.length listed a w
  | [], listed, a, w, hS, hB, h => ⟨by simpa [mixHB] using hB, h⟩
  | (true, i) :: r, listed, a, w, hS, hB, h => by
    obtain ⟨o, v, h0, hd, hy, h⟩ := h
    simp only [mixHB, Bool.and_eq_true] at hB
    obtain ⟨d, hd⟩ := Option.isSome_iff_exists.1 hd
    have ho : l.toArray[i]? = some o := by rw [nth_arr]; exact h0
    exact wpAnyH_take ho hs hB.1.1 hB.1.2 (by rw [hd]; exact fun c a w => hQ c d v a w) hy hS (mixH_all hs hQ r _ _ w hS hB.2 h)
  | (false, i) :: r, listed, a, w, hS, hB, h => by
    simp only [mixHB, Bool.and_eq_true, decide_eq_true_eq] at hB
    refine ⟨fun h1 => (by rw [hB.1] at h1; cases h1), fun j hj => ?_⟩
    rw [hB.1] at hj
    have e : j = i := by simpa using hj
    subst e
    exact wpOp_mono (fun a' w' h' => ⟨h'.1, mixH_all hs hQ r _ a' w' h'.1 hB.2 h'.2⟩) h
theorem regionH {id : Nat} {a : Act} {w : World} (S : World → Prop) (l : List Oper) (ks : List (Bool × Nat)) (hm : P.follows .mixedOrders = true) (hQ : ∀ c d v a w, Q (.panic c) (Act.put a (some d) v) w → Q (.panic c) a w)
    (hB : (Region.noSelect l.toArray && decide (ks.length = l.toArray.size) && mixHB .any l.toArray ks (Array.replicate l.toArray.size false)) = true)
    (h : ∀ w1, Cd w w1 → S w1 ∧ MixH P l Q S ks a w1) : (Code.region id l.toArray true).wp P Q a w := by
  simp only [Bool.and_eq_true, decide_eq_true_eq] at hB
  refine wp_region_any hm ?_
  rw [← hB.1.2]
  obtain ⟨h1, h2⟩ := h _ ⟨1, rfl⟩
  have := wpAny_of_held _ _ _ _ (mixH_all (P := P) (Q := Q) (w := { w with drawn := w.drawn + 1 }) hB.1.1 hQ ks _ a h1 hB.2 h2)
  rw [← hB.1.2] at this
  exact this
end
section
variable {P : Program} {os : List Oper} {Q : Exit → Act → World → Prop} {S : World → Prop} {a : Act} {w w' : World} {rest : List (Bool × Nat)} {op : Op} {d i : Nat} {ty : TypeId} {pos : String} {after : Array Edge} {g : Nat} {b : Bool} {N : Nat} {ds : List Deferred} {l : Env} {v : Value}
theorem mhp (ho : nth os i = some ⟨some d, op, ty, pos, after, none⟩) (H : Hd a N ds l) (hr : ∀ w, S w → (execOp a.eval ⟨some d, op, ty, pos, after, none⟩).run P w = .ok (.value v) w) (hd : Nat.blt d N = true)
    (h : ∀ a', Hd a' N ds ((d, v) :: l) → MixH P os Q S rest a' w) : MixH P os Q S ((true, i) :: rest) a w :=
  ⟨_, v, ho, rfl, .inl ⟨by simp [Region.wanted], fun w hS => hr w hS⟩, h _ (H.put v hd)⟩
theorem mhpg {og : Oper} {t : Nat} (ho : nth os i = some ⟨some d, op, ty, pos, after, some (g, b)⟩) (H : Hd a N ds l) (hr : ∀ w, S w → (execOp a.eval ⟨some d, op, ty, pos, after, some (g, b)⟩).run P w = .ok (.value v) w) (hd : Nat.blt d N = true)
    (hog : nth os g = some og) (ht : og.dst = some t) (hb : lk l t = some (.bool b)) (hN : Nat.blt t N = true)
    (h : ∀ a', Hd a' N ds ((d, v) :: l) → MixH P os Q S rest a' w) : MixH P os Q S ((true, i) :: rest) a w :=
  ⟨_, v, ho, rfl, .inl ⟨by simp [Region.wanted, yield_nth H hog ht hb hN], fun w hS => hr w hS⟩, h _ (H.put v hd)⟩
theorem mhpx {og : Oper} {t : Nat} (ho : nth os i = some ⟨some d, op, ty, pos, after, some (g, b)⟩) (H : Hd a N ds l) (hd : Nat.blt d N = true)
    (hog : nth os g = some og) (ht : og.dst = some t) (hb : lk l t = some (.bool (!b))) (hN : Nat.blt t N = true)
    (h : ∀ a', Hd a' N ds ((d, undef) :: l) → MixH P os Q S rest a' w) : MixH P os Q S ((true, i) :: rest) a w :=
  ⟨_, undef, ho, rfl, .inr ⟨by simp [Region.wanted, yield_nth H hog ht hb hN], rfl⟩, h _ (H.put undef hd)⟩
theorem mhs (ho : nth os i = some ⟨none, op, ty, pos, after, none⟩) (H : Hd a N ds l) (hr : (execOp a.eval ⟨none, op, ty, pos, after, none⟩).run P w = .ok .skip w') (hS : S w')
    (h : Hd a N ds l → MixH P os Q S rest a w') : MixH P os Q S ((false, i) :: rest) a w := by
  show wpOp P os.toArray Q i _ a w
  unfold wpOp
  rw [nth_arr, ho]
  simp only [Region.wanted, if_true]
  exact .inl (by unfold Oper.wp; rw [hr]; exact ⟨hS, h H⟩)
theorem mhe {K : Act → World → Prop} (h : K a w) : MixH P os (Exit.then K Q) S [] a w := h
end
end
section
set_option maxRecDepth 8000
theorem Ib.c0'' {w w1 : World} {z r x : Nat} {rz rr rx : IR} (hx : Ib w x rx) (hz : Ib w z rz) (hr : Ib w r rr) (hF : Fr (T2 rz.q rr.q) w w1) (v u : Value) : ((w1.setCell ⟨z, 1, none⟩ v).setCell ⟨r, 1, none⟩ u).cell? ⟨x, 0, none⟩ = some (.bool rx.s) := by
  rw [World.cell?_setCell_other _ _ _ _ (by intro e; injection e with _ e2; cases e2), World.cell?_setCell_other _ _ _ _ (by intro e; injection e with _ e2; cases e2)]
  exact hF.someCell hx.c0 (fun h => by rcases h with h | h; exact hz.sl.neI hx 0 h; exact hr.sl.neI hx 0 h)
theorem sgnO {w : World} {x z : Nat} {s : Value} (h : w.cell? ⟨x, 0, none⟩ = some s) (hne : z ≠ x) (v : Value) : (w.setCell ⟨z, 0, none⟩ v).cell? ⟨x, 0, none⟩ = some s := by
  rw [World.cell?_setCell_other _ _ _ _ (by intro e; injection e with e1 _; exact hne e1)]; exact h
theorem Ib.negO {w : World} {z r : Nat} {rz rr : IR} (hr : Ib w r rr) (hz : Ib w z rz) (hne : z ≠ r) (b : Bool) : Ib (w.setCell ⟨z, 0, none⟩ (.bool b)) r rr :=
  ⟨by rw [Below.heap_setCell _ _ _ _ (fun e => hne (Eq.symm e))]; exact hr.blk, hr.sl.other (fun j => hr.sl.neI hz j) _, hr.nm⟩
theorem Ib.negO' {w : World} {z r : Nat} {rz rr : IR} (hz : Ib w z rz) (hr : Ib w r rr) (hne : z ≠ r) (b : Bool) : Ib (w.setCell ⟨r, 0, none⟩ (.bool b)) z rz := hz.negO hr (Ne.symm hne) b
set_option maxHeartbeats 2000000 in
theorem intQuoRem (z x y r : Nat) (rz rx ry rr : IR) (w : World) (hz : Ib w z rz) (hx : Ib w x rx) (hy : Ib w y ry) (hr : Ib w r rr) (hne : z ≠ r) (hg : w.cell? ⟨1, 0, none⟩ = some (.int .i64 40)) (hdzr : Dj rz.q rr.q) (hdrx : Dj rr.q rx.q) (hdry : Dj rr.q ry.q) (hn : 1 ≤ ry.n) (hn4 : ry.n ≤ 4) (hm : rx.n < 30) (hxz : x ≠ z) (hxr : x ≠ r) (hyz : y ≠ z) (hyr : y ≠ r) (hxs : rx.s = false) (hys : ry.s = false) :
    Calls Tryz.prog 86 #[.pointer (some ⟨z, 0, none⟩), .pointer (some ⟨x, 0, none⟩), .pointer (some ⟨y, 0, none⟩), .pointer (some ⟨r, 0, none⟩)] w fun e w' => ∃ a b : IR, e = .returned (.tuple #[.pointer (some ⟨z, 0, none⟩), .pointer (some ⟨r, 0, none⟩)]) ∧ Ib w' z a ∧ Ib w' r b ∧ Own w rz.q a.q ∧ Own w rr.q b.q ∧ Dj a.q b.q ∧ a.n ≤ rx.n + 1 ∧ b.n ≤ ry.n ∧ nv a.X a.n * nv ry.X ry.n + nv b.X b.n = nv rx.X rx.n ∧ nv b.X b.n < nv ry.X ry.n ∧ a.s = false ∧ b.s = false ∧ Fr (ZT2 z rz.q r rr.q) w w' := by
  refine enterE (vs := [.pointer (some ⟨z, 0, none⟩), .pointer (some ⟨x, 0, none⟩), .pointer (some ⟨y, 0, none⟩), .pointer (some ⟨r, 0, none⟩)]) Tryz.func86 rfl rfl ?_
  intro a H
  replace H : Hd a 73 [] [(0, .pointer (some ⟨z, 0, none⟩)), (1, .pointer (some ⟨x, 0, none⟩)), (2, .pointer (some ⟨y, 0, none⟩)), (3, .pointer (some ⟨r, 0, none⟩))] := H
  refine wp_seq (wp_region_lit (l := [_, _]) (wl H (Ez.asn H rfl) rfl (kA rfl rfl (kW (kS ?_))))); clear H a; intro a H
  refine regionM [_, _, _, _, _, _, _, _, _, _, _, _, _, _, _, _, _, _, _, _, _, _, _, _, _, _, _, _] 18 [(.p, 0), (.p, 1), (.c, 2), (.c, 3), (.c, 4), (.c, 5), (.c, 6), (.c, 7), (.c, 8), (.c, 9), (.c, 10), (.c, 11), (.c, 12), (.c, 13), (.c, 14), (.c, 15), (.c, 16), (.c, 17), (.f, 18), (.f, 19), (.p, 20), (.p, 21), (.f, 22), (.f, 23), (.f, 24), (.f, 25), (.f, 26), (.f, 27)] follows_mixed (fun _ _ _ _ _ h => h) (by kernel_rfl) ?_
  intro w1 hw
  have hz := hz.cd hw
  have hx := hx.cd hw
  have hy := hy.cd hw
  have hr := hr.cd hw
  have hg := hw.cell hg
  have hC := hw
  obtain ⟨wL, hwL⟩ : ∃ wL, wL = w1 := ⟨w1, rfl⟩
  rw [← hwL]
  rw [← hwL] at hz hx hy hr hg hC
  clear hw hwL w1
  refine mxp rfl H (fun _ => Ez.mv H rfl) rfl ?_; clear H a; intro a H
  refine mxp rfl H (fun _ => Ez.mv H rfl) rfl ?_; clear H a; intro a H
  refine mxc rfl H (Ez.mv H rfl) rfl ?_; clear H a; intro a H
  refine mxc rfl H (Ez.nc H rfl) rfl ?_; clear H a; intro a H
  refine mxc rfl H (Ez.fa82_1 H rfl) rfl ?_; clear H a; intro a H
  refine mxc rfl H (Ez.ld80 H rfl (hz.c1)) rfl ?_; clear H a; intro a H
  refine mxc rfl H (Ez.mv H rfl) rfl ?_; clear H a; intro a H
  refine mxc rfl H (Ez.nc H rfl) rfl ?_; clear H a; intro a H
  refine mxc rfl H (Ez.fa82_1 H rfl) rfl ?_; clear H a; intro a H
  refine mxc rfl H (Ez.ld80 H rfl (hr.c1)) rfl ?_; clear H a; intro a H
  refine mxc rfl H (Ez.mv H rfl) rfl ?_; clear H a; intro a H
  refine mxc rfl H (Ez.nc H rfl) rfl ?_; clear H a; intro a H
  refine mxc rfl H (Ez.fa82_1 H rfl) rfl ?_; clear H a; intro a H
  refine mxc rfl H (Ez.ld80 H rfl (hx.c1)) rfl ?_; clear H a; intro a H
  refine mxc rfl H (Ez.mv H rfl) rfl ?_; clear H a; intro a H
  refine mxc rfl H (Ez.nc H rfl) rfl ?_; clear H a; intro a H
  refine mxc rfl H (Ez.fa82_1 H rfl) rfl ?_; clear H a; intro a H
  refine mxc rfl H (Ez.ld80 H rfl (hy.c1)) rfl ?_; clear H a; intro a H
  refine mxk rfl H cf99 (natDiv rz.q rr.q rx.q ry.q rz.n rz.c rr.n rr.c rx.n rx.c ry.n ry.c rz.X rr.X rx.X ry.X wL hz.sl hr.sl hx.sl hy.sl hg hdzr hdrx hdry hn hn4 hm hx.nm hy.nm) rfl rfl ?_
  rintro _ w1 ⟨q', k, c', Xq, r', kr, cr, Xr, rfl, d1, d2, d3, d4, d5, d6, d7, d8, d9, d10, d11, d12⟩
  refine ⟨_, rfl, ?_⟩; clear H a; intro a H
  have hA := hz.abs2 hr hne d12 d1 d7 d2 d8
  have hcx := hx.c0'' hz hr d12 (.slice q' k c') (.slice r' kr cr)
  have hcy := hy.c0'' hz hr d12 (.slice q' k c') (.slice r' kr cr)
  rw [hxs] at hcx
  rw [hys] at hcy
  refine mxf rfl H (Ez.mv H rfl) rfl ?_; clear H a; intro a H
  refine mxp rfl H (fun _ => Ez.ext0 H rfl) rfl ?_; clear H a; intro a H
  refine mxp rfl H (fun _ => Ez.ext1 H rfl) rfl ?_; clear H a; intro a H
  refine mxf rfl H (Ez.nc H rfl) rfl ?_; clear H a; intro a H
  refine mxf rfl H (Ez.fa82_1 H rfl) rfl ?_; clear H a; intro a H
  refine mxs rfl H (Ez.st80 H rfl rfl rfl hA.1 hA.2.1) ?_; clear H; intro H
  refine mxf rfl H (Ez.nc H rfl) rfl ?_; clear H a; intro a H
  refine mxf rfl H (Ez.fa82_1 H rfl) rfl ?_; clear H a; intro a H
  refine mxs rfl H (Ez.st80 H rfl rfl rfl hA.2.2.1 hA.2.2.2.1) ?_; clear H; intro H
  replace H : Hd a 73 [] [(0, _), (1, _), (2, _), (3, _), (8, _), (9, _)] := H.pick [0, 1, 2, 3, 8, 9]
  refine mxe ?_
  obtain ⟨_, _, _, _, hZ, hR, hF⟩ := hA
  have hF0 : Fr (ZT2 z rz.q r rr.q) w _ := (hC.fr _).trans hF
  have ho1 : Own w rz.q q' := fun k j h => (d9 k j h).imp id (fun h => by rw [← hC.heap]; exact h)
  have ho2 : Own w rr.q r' := fun k j h => (d10 k j h).imp id (fun h => by rw [← hC.heap]; exact h)
  generalize (w1.setCell ⟨z, 1, none⟩ (.slice q' k c')).setCell ⟨r, 1, none⟩ (.slice r' kr cr) = w2 at hZ hR hF hF0 hcx hcy
  refine wp_seq ?_
  rcases (show (k = 0 ∧ kr = 0) ∨ (k = 0 ∧ 0 < kr) ∨ (0 < k ∧ kr = 0) ∨ (0 < k ∧ 0 < kr) by omega) with h0 | h0 | h0 | h0
  · refine regionH (fun w => w.cell? ⟨z, 1, none⟩ = some (.slice q' k c') ∧ w.cell? ⟨r, 1, none⟩ = some (.slice r' kr cr) ∧ w.cell? ⟨x, 0, none⟩ = some (.bool false) ∧ w.cell? ⟨y, 0, none⟩ = some (.bool false)) [_, _, _, _, _, _, _, _, _, _, _, _, _, _, _, _, _, _, _, _, _, _, _, _, _, _, _, _, _, _, _, _, _, _, _, _, _] [(true, 0), (true, 1), (true, 2), (true, 3), (true, 4), (true, 5), (true, 6), (true, 7), (true, 8), (true, 9), (true, 10), (true, 11), (true, 12), (true, 13), (true, 14), (true, 15), (true, 16), (true, 17), (true, 18), (true, 19), (true, 20), (true, 21), (true, 22), (true, 23), (true, 24), (true, 25), (true, 26), (true, 27), (true, 28), (true, 29), (true, 30), (true, 31), (true, 32), (false, 33), (true, 34), (true, 35), (false, 36)] follows_mixed (fun _ _ _ _ _ h => h) (by kernel_rfl) ?_
    intro w1 hw
    have hZ := hZ.cd hw
    have hR := hR.cd hw
    have hcx := hw.cell hcx
    have hcy := hw.cell hcy
    have hF1 := hF0.trans (hw.fr _)
    refine ⟨⟨hZ.c1, hR.c1, hcx, hcy⟩, ?_⟩
    refine mhp rfl H (fun w2 hS => Ez.mv H rfl) rfl ?_; clear H a; intro a H
    refine mhp rfl H (fun w2 hS => Ez.mv H rfl) rfl ?_; clear H a; intro a H
    refine mhp rfl H (fun w2 hS => Ez.mv H rfl) rfl ?_; clear H a; intro a H
    refine mhp rfl H (fun w2 hS => Ez.nc H rfl) rfl ?_; clear H a; intro a H
    refine mhp rfl H (fun w2 hS => Ez.fa82_1 H rfl) rfl ?_; clear H a; intro a H
    refine mhp rfl H (fun w2 hS => Ez.ld80 H rfl (hS.1)) rfl ?_; clear H a; intro a H
    refine mhp rfl H (fun w2 hS => Ez.len80 H rfl) rfl ?_; clear H a; intro a H
    refine mhp rfl H (fun w2 hS => Ez.gtr (r := false) H rfl rfl (by (simp; omega))) rfl ?_; clear H a; intro a H
    refine mhp rfl H (fun w2 hS => Ez.mv H rfl) rfl ?_; clear H a; intro a H
    refine mhpx rfl H rfl rfl rfl rfl rfl ?_; clear H a; intro a H
    refine mhpx rfl H rfl rfl rfl rfl rfl ?_; clear H a; intro a H
    refine mhpx rfl H rfl rfl rfl rfl rfl ?_; clear H a; intro a H
    refine mhpx rfl H rfl rfl rfl rfl rfl ?_; clear H a; intro a H
    refine mhpx rfl H rfl rfl rfl rfl rfl ?_; clear H a; intro a H
    refine mhpx rfl H rfl rfl rfl rfl rfl ?_; clear H a; intro a H
    refine mhpx rfl H rfl rfl rfl rfl rfl ?_; clear H a; intro a H
    refine mhpx rfl H rfl rfl rfl rfl rfl ?_; clear H a; intro a H
    refine mhpx rfl H rfl rfl rfl rfl rfl ?_; clear H a; intro a H
    refine mhp rfl H (fun w2 hS => Ez.pkF H rfl rfl) rfl ?_; clear H a; intro a H
    refine mhp rfl H (fun w2 hS => Ez.mv H rfl) rfl ?_; clear H a; intro a H
    refine mhp rfl H (fun w2 hS => Ez.nc H rfl) rfl ?_; clear H a; intro a H
    refine mhp rfl H (fun w2 hS => Ez.fa82_1 H rfl) rfl ?_; clear H a; intro a H
    refine mhp rfl H (fun w2 hS => Ez.ld80 H rfl (hS.2.1)) rfl ?_; clear H a; intro a H
    refine mhp rfl H (fun w2 hS => Ez.len80 H rfl) rfl ?_; clear H a; intro a H
    refine mhp rfl H (fun w2 hS => Ez.gtr (r := false) H rfl rfl (by (simp; omega))) rfl ?_; clear H a; intro a H
    refine mhp rfl H (fun w2 hS => Ez.mv H rfl) rfl ?_; clear H a; intro a H
    refine mhpx rfl H rfl rfl rfl rfl rfl ?_; clear H a; intro a H
    refine mhpx rfl H rfl rfl rfl rfl rfl ?_; clear H a; intro a H
    refine mhpx rfl H rfl rfl rfl rfl rfl ?_; clear H a; intro a H
    refine mhpx rfl H rfl rfl rfl rfl rfl ?_; clear H a; intro a H
    refine mhp rfl H (fun w2 hS => Ez.pkF H rfl rfl) rfl ?_; clear H a; intro a H
    refine mhp rfl H (fun w2 hS => Ez.nc H rfl) rfl ?_; clear H a; intro a H
    refine mhp rfl H (fun w2 hS => Ez.fa82_0 H rfl) rfl ?_; clear H a; intro a H
    refine mhs rfl H (Ez.st4 H rfl rfl rfl hZ.c0 (hZ.fz _)) (⟨(hZ.neg _ none).1.c1, (hR.negO hZ hne _).c1, sgnO hcx (Ne.symm hxz) _, sgnO hcy (Ne.symm hyz) _⟩) ?_; clear H; intro H
    refine mhp rfl H (fun w2 hS => Ez.nc H rfl) rfl ?_; clear H a; intro a H
    refine mhp rfl H (fun w2 hS => Ez.fa82_0 H rfl) rfl ?_; clear H a; intro a H
    refine mhs rfl H (Ez.st4 H rfl rfl rfl (hR.negO hZ hne _).c0 ((hR.negO hZ hne _).fz _)) (⟨((hZ.neg _ none).1.negO' (hR.negO hZ hne _) hne _).c1, ((hR.negO hZ hne _).neg _ none).1.c1, sgnO (sgnO hcx (Ne.symm hxz) _) (Ne.symm hxr) _, sgnO (sgnO hcy (Ne.symm hyz) _) (Ne.symm hyr) _⟩) ?_; clear H; intro H
    replace H : Hd a 73 [] [(0, _), (3, _), (8, _), (9, _)] := H.pick [0, 3, 8, 9]
    refine mhe ?_
    refine wp_seq (wp_region_lit (l := [_, _, _, _]) (wl H (Ez.mv H rfl) rfl (kM rfl rfl (kA rfl rfl (kA rfl rfl (kP [(8, _), (9, _)] rfl (kW ?_))))))); clear H a; intro a H
    refine wp_ret ?_
    refine rt2 H rfl rfl rfl ?_
    refine ⟨⟨false, q', k, c', Xq⟩, ⟨false, r', kr, cr, Xr⟩, rfl, ((hZ.neg false none).1).negO' (hR.negO hZ hne false) hne false, (hR.negO hZ hne false).neg false none |>.1, ho1, ho2, d11, d3, d4, d5, d6, rfl, rfl, ?_⟩
    refine hF1.trans ((((hZ.neg false rz.q).2).mono fun k o _ h => .inl h).trans ((((hR.negO hZ hne false).neg false rr.q).2).mono fun k o _ h => .inr h))
  · refine regionH (fun w => w.cell? ⟨z, 1, none⟩ = some (.slice q' k c') ∧ w.cell? ⟨r, 1, none⟩ = some (.slice r' kr cr) ∧ w.cell? ⟨x, 0, none⟩ = some (.bool false) ∧ w.cell? ⟨y, 0, none⟩ = some (.bool false)) [_, _, _, _, _, _, _, _, _, _, _, _, _, _, _, _, _, _, _, _, _, _, _, _, _, _, _, _, _, _, _, _, _, _, _, _, _] [(true, 0), (true, 1), (true, 2), (true, 3), (true, 4), (true, 5), (true, 6), (true, 7), (true, 8), (true, 9), (true, 10), (true, 11), (true, 12), (true, 13), (true, 14), (true, 15), (true, 16), (true, 17), (true, 18), (true, 19), (true, 20), (true, 21), (true, 22), (true, 23), (true, 24), (true, 25), (true, 26), (true, 27), (true, 28), (true, 29), (true, 30), (true, 31), (true, 32), (false, 33), (true, 34), (true, 35), (false, 36)] follows_mixed (fun _ _ _ _ _ h => h) (by kernel_rfl) ?_
    intro w1 hw
    have hZ := hZ.cd hw
    have hR := hR.cd hw
    have hcx := hw.cell hcx
    have hcy := hw.cell hcy
    have hF1 := hF0.trans (hw.fr _)
    refine ⟨⟨hZ.c1, hR.c1, hcx, hcy⟩, ?_⟩
    refine mhp rfl H (fun w2 hS => Ez.mv H rfl) rfl ?_; clear H a; intro a H
    refine mhp rfl H (fun w2 hS => Ez.mv H rfl) rfl ?_; clear H a; intro a H
    refine mhp rfl H (fun w2 hS => Ez.mv H rfl) rfl ?_; clear H a; intro a H
    refine mhp rfl H (fun w2 hS => Ez.nc H rfl) rfl ?_; clear H a; intro a H
    refine mhp rfl H (fun w2 hS => Ez.fa82_1 H rfl) rfl ?_; clear H a; intro a H
    refine mhp rfl H (fun w2 hS => Ez.ld80 H rfl (hS.1)) rfl ?_; clear H a; intro a H
    refine mhp rfl H (fun w2 hS => Ez.len80 H rfl) rfl ?_; clear H a; intro a H
    refine mhp rfl H (fun w2 hS => Ez.gtr (r := false) H rfl rfl (by (simp; omega))) rfl ?_; clear H a; intro a H
    refine mhp rfl H (fun w2 hS => Ez.mv H rfl) rfl ?_; clear H a; intro a H
    refine mhpx rfl H rfl rfl rfl rfl rfl ?_; clear H a; intro a H
    refine mhpx rfl H rfl rfl rfl rfl rfl ?_; clear H a; intro a H
    refine mhpx rfl H rfl rfl rfl rfl rfl ?_; clear H a; intro a H
    refine mhpx rfl H rfl rfl rfl rfl rfl ?_; clear H a; intro a H
    refine mhpx rfl H rfl rfl rfl rfl rfl ?_; clear H a; intro a H
    refine mhpx rfl H rfl rfl rfl rfl rfl ?_; clear H a; intro a H
    refine mhpx rfl H rfl rfl rfl rfl rfl ?_; clear H a; intro a H
    refine mhpx rfl H rfl rfl rfl rfl rfl ?_; clear H a; intro a H
    refine mhpx rfl H rfl rfl rfl rfl rfl ?_; clear H a; intro a H
    refine mhp rfl H (fun w2 hS => Ez.pkF H rfl rfl) rfl ?_; clear H a; intro a H
    refine mhp rfl H (fun w2 hS => Ez.mv H rfl) rfl ?_; clear H a; intro a H
    refine mhp rfl H (fun w2 hS => Ez.nc H rfl) rfl ?_; clear H a; intro a H
    refine mhp rfl H (fun w2 hS => Ez.fa82_1 H rfl) rfl ?_; clear H a; intro a H
    refine mhp rfl H (fun w2 hS => Ez.ld80 H rfl (hS.2.1)) rfl ?_; clear H a; intro a H
    refine mhp rfl H (fun w2 hS => Ez.len80 H rfl) rfl ?_; clear H a; intro a H
    refine mhp rfl H (fun w2 hS => Ez.gtr (r := true) H rfl rfl (by (simp; omega))) rfl ?_; clear H a; intro a H
    refine mhp rfl H (fun w2 hS => Ez.mv H rfl) rfl ?_; clear H a; intro a H
    refine mhpg rfl H (fun w2 hS => Ez.mv H rfl) rfl rfl rfl rfl rfl ?_; clear H a; intro a H
    refine mhpg rfl H (fun w2 hS => Ez.nc H rfl) rfl rfl rfl rfl rfl ?_; clear H a; intro a H
    refine mhpg rfl H (fun w2 hS => Ez.fa82_0 H rfl) rfl rfl rfl rfl rfl ?_; clear H a; intro a H
    refine mhpg rfl H (fun w2 hS => Ez.ld4 H rfl (hS.2.2.1)) rfl rfl rfl rfl rfl ?_; clear H a; intro a H
    refine mhp rfl H (fun w2 hS => Ez.pkT H rfl rfl) rfl ?_; clear H a; intro a H
    refine mhp rfl H (fun w2 hS => Ez.nc H rfl) rfl ?_; clear H a; intro a H
    refine mhp rfl H (fun w2 hS => Ez.fa82_0 H rfl) rfl ?_; clear H a; intro a H
    refine mhs rfl H (Ez.st4 H rfl rfl rfl hZ.c0 (hZ.fz _)) (⟨(hZ.neg _ none).1.c1, (hR.negO hZ hne _).c1, sgnO hcx (Ne.symm hxz) _, sgnO hcy (Ne.symm hyz) _⟩) ?_; clear H; intro H
    refine mhp rfl H (fun w2 hS => Ez.nc H rfl) rfl ?_; clear H a; intro a H
    refine mhp rfl H (fun w2 hS => Ez.fa82_0 H rfl) rfl ?_; clear H a; intro a H
    refine mhs rfl H (Ez.st4 H rfl rfl rfl (hR.negO hZ hne _).c0 ((hR.negO hZ hne _).fz _)) (⟨((hZ.neg _ none).1.negO' (hR.negO hZ hne _) hne _).c1, ((hR.negO hZ hne _).neg _ none).1.c1, sgnO (sgnO hcx (Ne.symm hxz) _) (Ne.symm hxr) _, sgnO (sgnO hcy (Ne.symm hyz) _) (Ne.symm hyr) _⟩) ?_; clear H; intro H
    replace H : Hd a 73 [] [(0, _), (3, _), (8, _), (9, _)] := H.pick [0, 3, 8, 9]
    refine mhe ?_
    refine wp_seq (wp_region_lit (l := [_, _, _, _]) (wl H (Ez.mv H rfl) rfl (kM rfl rfl (kA rfl rfl (kA rfl rfl (kP [(8, _), (9, _)] rfl (kW ?_))))))); clear H a; intro a H
    refine wp_ret ?_
    refine rt2 H rfl rfl rfl ?_
    refine ⟨⟨false, q', k, c', Xq⟩, ⟨false, r', kr, cr, Xr⟩, rfl, ((hZ.neg false none).1).negO' (hR.negO hZ hne false) hne false, (hR.negO hZ hne false).neg false none |>.1, ho1, ho2, d11, d3, d4, d5, d6, rfl, rfl, ?_⟩
    refine hF1.trans ((((hZ.neg false rz.q).2).mono fun k o _ h => .inl h).trans ((((hR.negO hZ hne false).neg false rr.q).2).mono fun k o _ h => .inr h))
  · refine regionH (fun w => w.cell? ⟨z, 1, none⟩ = some (.slice q' k c') ∧ w.cell? ⟨r, 1, none⟩ = some (.slice r' kr cr) ∧ w.cell? ⟨x, 0, none⟩ = some (.bool false) ∧ w.cell? ⟨y, 0, none⟩ = some (.bool false)) [_, _, _, _, _, _, _, _, _, _, _, _, _, _, _, _, _, _, _, _, _, _, _, _, _, _, _, _, _, _, _, _, _, _, _, _, _] [(true, 0), (true, 1), (true, 2), (true, 3), (true, 4), (true, 5), (true, 6), (true, 7), (true, 8), (true, 9), (true, 10), (true, 11), (true, 12), (true, 13), (true, 14), (true, 15), (true, 16), (true, 17), (true, 18), (true, 19), (true, 20), (true, 21), (true, 22), (true, 23), (true, 24), (true, 25), (true, 26), (true, 27), (true, 28), (true, 29), (true, 30), (true, 31), (true, 32), (false, 33), (true, 34), (true, 35), (false, 36)] follows_mixed (fun _ _ _ _ _ h => h) (by kernel_rfl) ?_
    intro w1 hw
    have hZ := hZ.cd hw
    have hR := hR.cd hw
    have hcx := hw.cell hcx
    have hcy := hw.cell hcy
    have hF1 := hF0.trans (hw.fr _)
    refine ⟨⟨hZ.c1, hR.c1, hcx, hcy⟩, ?_⟩
    refine mhp rfl H (fun w2 hS => Ez.mv H rfl) rfl ?_; clear H a; intro a H
    refine mhp rfl H (fun w2 hS => Ez.mv H rfl) rfl ?_; clear H a; intro a H
    refine mhp rfl H (fun w2 hS => Ez.mv H rfl) rfl ?_; clear H a; intro a H
    refine mhp rfl H (fun w2 hS => Ez.nc H rfl) rfl ?_; clear H a; intro a H
    refine mhp rfl H (fun w2 hS => Ez.fa82_1 H rfl) rfl ?_; clear H a; intro a H
    refine mhp rfl H (fun w2 hS => Ez.ld80 H rfl (hS.1)) rfl ?_; clear H a; intro a H
    refine mhp rfl H (fun w2 hS => Ez.len80 H rfl) rfl ?_; clear H a; intro a H
    refine mhp rfl H (fun w2 hS => Ez.gtr (r := true) H rfl rfl (by (simp; omega))) rfl ?_; clear H a; intro a H
    refine mhp rfl H (fun w2 hS => Ez.mv H rfl) rfl ?_; clear H a; intro a H
    refine mhpg rfl H (fun w2 hS => Ez.mv H rfl) rfl rfl rfl rfl rfl ?_; clear H a; intro a H
    refine mhpg rfl H (fun w2 hS => Ez.nc H rfl) rfl rfl rfl rfl rfl ?_; clear H a; intro a H
    refine mhpg rfl H (fun w2 hS => Ez.fa82_0 H rfl) rfl rfl rfl rfl rfl ?_; clear H a; intro a H
    refine mhpg rfl H (fun w2 hS => Ez.ld4 H rfl (hS.2.2.1)) rfl rfl rfl rfl rfl ?_; clear H a; intro a H
    refine mhpg rfl H (fun w2 hS => Ez.mv H rfl) rfl rfl rfl rfl rfl ?_; clear H a; intro a H
    refine mhpg rfl H (fun w2 hS => Ez.nc H rfl) rfl rfl rfl rfl rfl ?_; clear H a; intro a H
    refine mhpg rfl H (fun w2 hS => Ez.fa82_0 H rfl) rfl rfl rfl rfl rfl ?_; clear H a; intro a H
    refine mhpg rfl H (fun w2 hS => Ez.ld4 H rfl (hS.2.2.2)) rfl rfl rfl rfl rfl ?_; clear H a; intro a H
    refine mhpg rfl H (fun w2 hS => Ez.neb H rfl rfl rfl) rfl rfl rfl rfl rfl ?_; clear H a; intro a H
    refine mhp rfl H (fun w2 hS => Ez.pkT H rfl rfl) rfl ?_; clear H a; intro a H
    refine mhp rfl H (fun w2 hS => Ez.mv H rfl) rfl ?_; clear H a; intro a H
    refine mhp rfl H (fun w2 hS => Ez.nc H rfl) rfl ?_; clear H a; intro a H
    refine mhp rfl H (fun w2 hS => Ez.fa82_1 H rfl) rfl ?_; clear H a; intro a H
    refine mhp rfl H (fun w2 hS => Ez.ld80 H rfl (hS.2.1)) rfl ?_; clear H a; intro a H
    refine mhp rfl H (fun w2 hS => Ez.len80 H rfl) rfl ?_; clear H a; intro a H
    refine mhp rfl H (fun w2 hS => Ez.gtr (r := false) H rfl rfl (by (simp; omega))) rfl ?_; clear H a; intro a H
    refine mhp rfl H (fun w2 hS => Ez.mv H rfl) rfl ?_; clear H a; intro a H
    refine mhpx rfl H rfl rfl rfl rfl rfl ?_; clear H a; intro a H
    refine mhpx rfl H rfl rfl rfl rfl rfl ?_; clear H a; intro a H
    refine mhpx rfl H rfl rfl rfl rfl rfl ?_; clear H a; intro a H
    refine mhpx rfl H rfl rfl rfl rfl rfl ?_; clear H a; intro a H
    refine mhp rfl H (fun w2 hS => Ez.pkF H rfl rfl) rfl ?_; clear H a; intro a H
    refine mhp rfl H (fun w2 hS => Ez.nc H rfl) rfl ?_; clear H a; intro a H
    refine mhp rfl H (fun w2 hS => Ez.fa82_0 H rfl) rfl ?_; clear H a; intro a H
    refine mhs rfl H (Ez.st4 H rfl rfl rfl hZ.c0 (hZ.fz _)) (⟨(hZ.neg _ none).1.c1, (hR.negO hZ hne _).c1, sgnO hcx (Ne.symm hxz) _, sgnO hcy (Ne.symm hyz) _⟩) ?_; clear H; intro H
    refine mhp rfl H (fun w2 hS => Ez.nc H rfl) rfl ?_; clear H a; intro a H
    refine mhp rfl H (fun w2 hS => Ez.fa82_0 H rfl) rfl ?_; clear H a; intro a H
    refine mhs rfl H (Ez.st4 H rfl rfl rfl (hR.negO hZ hne _).c0 ((hR.negO hZ hne _).fz _)) (⟨((hZ.neg _ none).1.negO' (hR.negO hZ hne _) hne _).c1, ((hR.negO hZ hne _).neg _ none).1.c1, sgnO (sgnO hcx (Ne.symm hxz) _) (Ne.symm hxr) _, sgnO (sgnO hcy (Ne.symm hyz) _) (Ne.symm hyr) _⟩) ?_; clear H; intro H
    replace H : Hd a 73 [] [(0, _), (3, _), (8, _), (9, _)] := H.pick [0, 3, 8, 9]
    refine mhe ?_
    refine wp_seq (wp_region_lit (l := [_, _, _, _]) (wl H (Ez.mv H rfl) rfl (kM rfl rfl (kA rfl rfl (kA rfl rfl (kP [(8, _), (9, _)] rfl (kW ?_))))))); clear H a; intro a H
    refine wp_ret ?_
    refine rt2 H rfl rfl rfl ?_
    refine ⟨⟨false, q', k, c', Xq⟩, ⟨false, r', kr, cr, Xr⟩, rfl, ((hZ.neg false none).1).negO' (hR.negO hZ hne false) hne false, (hR.negO hZ hne false).neg false none |>.1, ho1, ho2, d11, d3, d4, d5, d6, rfl, rfl, ?_⟩
    refine hF1.trans ((((hZ.neg false rz.q).2).mono fun k o _ h => .inl h).trans ((((hR.negO hZ hne false).neg false rr.q).2).mono fun k o _ h => .inr h))
  refine regionH (fun w => w.cell? ⟨z, 1, none⟩ = some (.slice q' k c') ∧ w.cell? ⟨r, 1, none⟩ = some (.slice r' kr cr) ∧ w.cell? ⟨x, 0, none⟩ = some (.bool false) ∧ w.cell? ⟨y, 0, none⟩ = some (.bool false)) [_, _, _, _, _, _, _, _, _, _, _, _, _, _, _, _, _, _, _, _, _, _, _, _, _, _, _, _, _, _, _, _, _, _, _, _, _] [(true, 0), (true, 1), (true, 2), (true, 3), (true, 4), (true, 5), (true, 6), (true, 7), (true, 8), (true, 9), (true, 10), (true, 11), (true, 12), (true, 13), (true, 14), (true, 15), (true, 16), (true, 17), (true, 18), (true, 19), (true, 20), (true, 21), (true, 22), (true, 23), (true, 24), (true, 25), (true, 26), (true, 27), (true, 28), (true, 29), (true, 30), (true, 31), (true, 32), (false, 33), (true, 34), (true, 35), (false, 36)] follows_mixed (fun _ _ _ _ _ h => h) (by kernel_rfl) ?_
  intro w1 hw
  have hZ := hZ.cd hw
  have hR := hR.cd hw
  have hcx := hw.cell hcx
  have hcy := hw.cell hcy
  have hF1 := hF0.trans (hw.fr _)
  refine ⟨⟨hZ.c1, hR.c1, hcx, hcy⟩, ?_⟩
  refine mhp rfl H (fun w2 hS => Ez.mv H rfl) rfl ?_; clear H a; intro a H
  refine mhp rfl H (fun w2 hS => Ez.mv H rfl) rfl ?_; clear H a; intro a H
  refine mhp rfl H (fun w2 hS => Ez.mv H rfl) rfl ?_; clear H a; intro a H
  refine mhp rfl H (fun w2 hS => Ez.nc H rfl) rfl ?_; clear H a; intro a H
  refine mhp rfl H (fun w2 hS => Ez.fa82_1 H rfl) rfl ?_; clear H a; intro a H
  refine mhp rfl H (fun w2 hS => Ez.ld80 H rfl (hS.1)) rfl ?_; clear H a; intro a H
  refine mhp rfl H (fun w2 hS => Ez.len80 H rfl) rfl ?_; clear H a; intro a H
  refine mhp rfl H (fun w2 hS => Ez.gtr (r := true) H rfl rfl (by (simp; omega))) rfl ?_; clear H a; intro a H
  refine mhp rfl H (fun w2 hS => Ez.mv H rfl) rfl ?_; clear H a; intro a H
  refine mhpg rfl H (fun w2 hS => Ez.mv H rfl) rfl rfl rfl rfl rfl ?_; clear H a; intro a H
  refine mhpg rfl H (fun w2 hS => Ez.nc H rfl) rfl rfl rfl rfl rfl ?_; clear H a; intro a H
  refine mhpg rfl H (fun w2 hS => Ez.fa82_0 H rfl) rfl rfl rfl rfl rfl ?_; clear H a; intro a H
  refine mhpg rfl H (fun w2 hS => Ez.ld4 H rfl (hS.2.2.1)) rfl rfl rfl rfl rfl ?_; clear H a; intro a H
  refine mhpg rfl H (fun w2 hS => Ez.mv H rfl) rfl rfl rfl rfl rfl ?_; clear H a; intro a H
  refine mhpg rfl H (fun w2 hS => Ez.nc H rfl) rfl rfl rfl rfl rfl ?_; clear H a; intro a H
  refine mhpg rfl H (fun w2 hS => Ez.fa82_0 H rfl) rfl rfl rfl rfl rfl ?_; clear H a; intro a H
  refine mhpg rfl H (fun w2 hS => Ez.ld4 H rfl (hS.2.2.2)) rfl rfl rfl rfl rfl ?_; clear H a; intro a H
  refine mhpg rfl H (fun w2 hS => Ez.neb H rfl rfl rfl) rfl rfl rfl rfl rfl ?_; clear H a; intro a H
  refine mhp rfl H (fun w2 hS => Ez.pkT H rfl rfl) rfl ?_; clear H a; intro a H
  refine mhp rfl H (fun w2 hS => Ez.mv H rfl) rfl ?_; clear H a; intro a H
  refine mhp rfl H (fun w2 hS => Ez.nc H rfl) rfl ?_; clear H a; intro a H
  refine mhp rfl H (fun w2 hS => Ez.fa82_1 H rfl) rfl ?_; clear H a; intro a H
  refine mhp rfl H (fun w2 hS => Ez.ld80 H rfl (hS.2.1)) rfl ?_; clear H a; intro a H
  refine mhp rfl H (fun w2 hS => Ez.len80 H rfl) rfl ?_; clear H a; intro a H
  refine mhp rfl H (fun w2 hS => Ez.gtr (r := true) H rfl rfl (by (simp; omega))) rfl ?_; clear H a; intro a H
  refine mhp rfl H (fun w2 hS => Ez.mv H rfl) rfl ?_; clear H a; intro a H
  refine mhpg rfl H (fun w2 hS => Ez.mv H rfl) rfl rfl rfl rfl rfl ?_; clear H a; intro a H
  refine mhpg rfl H (fun w2 hS => Ez.nc H rfl) rfl rfl rfl rfl rfl ?_; clear H a; intro a H
  refine mhpg rfl H (fun w2 hS => Ez.fa82_0 H rfl) rfl rfl rfl rfl rfl ?_; clear H a; intro a H
  refine mhpg rfl H (fun w2 hS => Ez.ld4 H rfl (hS.2.2.1)) rfl rfl rfl rfl rfl ?_; clear H a; intro a H
  refine mhp rfl H (fun w2 hS => Ez.pkT H rfl rfl) rfl ?_; clear H a; intro a H
  refine mhp rfl H (fun w2 hS => Ez.nc H rfl) rfl ?_; clear H a; intro a H
  refine mhp rfl H (fun w2 hS => Ez.fa82_0 H rfl) rfl ?_; clear H a; intro a H
  refine mhs rfl H (Ez.st4 H rfl rfl rfl hZ.c0 (hZ.fz _)) (⟨(hZ.neg _ none).1.c1, (hR.negO hZ hne _).c1, sgnO hcx (Ne.symm hxz) _, sgnO hcy (Ne.symm hyz) _⟩) ?_; clear H; intro H
  refine mhp rfl H (fun w2 hS => Ez.nc H rfl) rfl ?_; clear H a; intro a H
  refine mhp rfl H (fun w2 hS => Ez.fa82_0 H rfl) rfl ?_; clear H a; intro a H
  refine mhs rfl H (Ez.st4 H rfl rfl rfl (hR.negO hZ hne _).c0 ((hR.negO hZ hne _).fz _)) (⟨((hZ.neg _ none).1.negO' (hR.negO hZ hne _) hne _).c1, ((hR.negO hZ hne _).neg _ none).1.c1, sgnO (sgnO hcx (Ne.symm hxz) _) (Ne.symm hxr) _, sgnO (sgnO hcy (Ne.symm hyz) _) (Ne.symm hyr) _⟩) ?_; clear H; intro H
  replace H : Hd a 73 [] [(0, _), (3, _), (8, _), (9, _)] := H.pick [0, 3, 8, 9]
  refine mhe ?_
  refine wp_seq (wp_region_lit (l := [_, _, _, _]) (wl H (Ez.mv H rfl) rfl (kM rfl rfl (kA rfl rfl (kA rfl rfl (kP [(8, _), (9, _)] rfl (kW ?_))))))); clear H a; intro a H
  refine wp_ret ?_
  refine rt2 H rfl rfl rfl ?_
  refine ⟨⟨false, q', k, c', Xq⟩, ⟨false, r', kr, cr, Xr⟩, rfl, ((hZ.neg false none).1).negO' (hR.negO hZ hne false) hne false, (hR.negO hZ hne false).neg false none |>.1, ho1, ho2, d11, d3, d4, d5, d6, rfl, rfl, ?_⟩
  refine hF1.trans ((((hZ.neg false rz.q).2).mono fun k o _ h => .inl h).trans ((((hR.negO hZ hne false).neg false rr.q).2).mono fun k o _ h => .inr h))
end
section
set_option maxRecDepth 8000
def LS (A B u0 u1 v0 v1 : Int) (e : Bool) : Prop :=
  U64 u0 ∧ U64 u1 ∧ U64 v0 ∧ U64 v1 ∧ (v0 ≠ 0 → ∃ A' B' : Int, A' = -sg e * (u0 * A - v0 * B) ∧ B' = -sg e * (v1 * B - u1 * A) ∧ 0 < B' ∧ B' < A' ∧ v1 * A' + v0 * B' = A ∧ u1 * A' + u0 * B' = B ∧ 1 ≤ v1 ∧ 1 ≤ u1 ∧ u0 * v1 - u1 * v0 = -sg e)
structure LSt (A B D x y a1 a2 u1 u2 v1 v2 : Int) (e : Bool) : Prop where
  a21 : a2 ≤ a1
  a2p : 0 ≤ a2
  u1p : 0 ≤ u1
  u2p : 0 ≤ u2
  v1p : 0 ≤ v1
  v2p : 1 ≤ v2
  ux : x = v2 * a1 + v1 * a2
  uy : y = u2 * a1 + u1 * a2
  det : u1 * v2 - u2 * v1 = sg e
  uv : u2 ≤ v2
  uvs : u1 + u2 ≤ v1 + v2
  one : (v1 = 0 ∧ 1 ≤ u1) ∨ 1 ≤ u2
theorem sg_sq (e : Bool) : sg e * sg e = 1 := by cases e <;> rfl
theorem sg_not (e : Bool) : sg (!e) = -sg e := by cases e <;> rfl
section
variable {A B D x y a1 a2 u1 u2 v1 v2 : Int} {e : Bool}
theorem LSt.a (h : LSt A B D x y a1 a2 u1 u2 v1 v2 e) : a1 = sg e * (u1 * x - v1 * y) ∧ a2 = sg e * (v2 * y - u2 * x) := by
  have h1 := h.ux
  have h2 := h.uy
  have h3 := h.det
  have h4 := sg_sq e
  constructor <;> grind
theorem LSt.le (h : LSt A B D x y a1 a2 u1 u2 v1 v2 e) (ht : v2 ≤ a2) : v2 ≤ x ∧ v1 + v2 ≤ x := by
  have h1 := h.ux
  have h2 := h.v2p
  have h3 := h.v1p
  have p1 := Int.mul_le_mul_of_nonneg_left (show 1 ≤ a1 by have := h.a21; omega) (show 0 ≤ v2 by omega)
  have p2 := Int.mul_le_mul_of_nonneg_left (show 1 ≤ a2 by omega) h3
  omega
theorem LSt.step0 (h : LSt A B D x y a1 a2 u1 u2 v1 v2 e) (hp : 0 < a2) : LSt A B D x y a2 (a1 % a2) u2 (u1 + a1 / a2 * u2) v2 (v1 + a1 / a2 * v2) (!e) ∧ 1 ≤ a1 / a2 ∧ v1 + a1 / a2 * v2 ≤ x ∧ u1 + a1 / a2 * u2 ≤ x := by
  have hm1 := Int.emod_nonneg a1 (show a2 ≠ 0 by omega)
  have hm2 := Int.emod_lt_of_pos a1 hp
  have hd := Int.mul_ediv_add_emod a1 a2
  have hq : 1 ≤ a1 / a2 := by
    have := h.a21
    exact (Int.le_ediv_iff_mul_le hp).2 (by omega)
  generalize a1 / a2 = q at *
  generalize a1 % a2 = r at *
  have e1 : a1 = q * a2 + r := by rw [Int.mul_comm]; omega
  have pu := Int.mul_nonneg (show 0 ≤ q by omega) h.u2p
  have pv := Int.mul_le_mul_of_nonneg_right hq (show 0 ≤ v2 by have := h.v2p; omega)
  have puv := Int.mul_le_mul_of_nonneg_left h.uv (show 0 ≤ q - 1 by omega)
  rw [Int.sub_mul, Int.sub_mul, Int.one_mul, Int.one_mul] at puv
  rw [Int.one_mul] at pv
  have g1 := h.u1p; have g2 := h.u2p; have g3 := h.v1p; have g4 := h.v2p; have g5 := h.uvs; have g6 := h.uv
  have hx : x = (v1 + q * v2) * a2 + v2 * r := by have := h.ux; grind
  have hy : y = (u1 + q * u2) * a2 + u2 * r := by have := h.uy; grind
  have hvx : v1 + q * v2 ≤ x := by
    have p1 := Int.mul_le_mul_of_nonneg_left (show 1 ≤ a2 by omega) (show 0 ≤ v1 + q * v2 by omega)
    have p2 := Int.mul_nonneg (show 0 ≤ v2 by omega) hm1
    omega
  refine ⟨⟨by omega, hm1, g2, by omega, by omega, by omega, hx, hy, ?_, by omega, by omega, ?_⟩, hq, hvx, by omega⟩
  · have h3 := h.det
    rw [sg_not, ← h3]; grind
  rcases h.one with ⟨h1, h2⟩ | h2
  · exact .inr (by omega)
  have := Int.mul_le_mul_of_nonneg_left h2 (show 0 ≤ q by omega)
  exact .inr (by omega)
theorem LSt.step (h : LSt A B D x y a1 a2 u1 u2 v1 v2 e) (ht : v2 ≤ a2) : LSt A B D x y a2 (a1 % a2) u2 (u1 + a1 / a2 * u2) v2 (v1 + a1 / a2 * v2) (!e) ∧ 1 ≤ a1 / a2 ∧ v1 + a1 / a2 * v2 ≤ x ∧ u1 + a1 / a2 * u2 ≤ x := h.step0 (by have := h.v2p; omega)
theorem LSt.out {α β : Int} (h : LSt A B D x y a1 a2 u1 u2 v1 v2 e) (hD : 0 < D) (hA : A = x * D + α) (hB : B = y * D + β) (hα : 0 ≤ α ∧ α < D) (hβ : 0 ≤ β ∧ β < D) (ht : v2 ≤ a2) (ht2 : v1 + v2 ≤ a1 - a2) (hx64 : x < 18446744073709551616) :
    LS A B u1 u2 v1 v2 (!e) := by
  obtain ⟨k1, k2⟩ := h.a
  obtain ⟨l1, l2⟩ := h.le ht
  have g1 := h.u1p; have g2 := h.u2p; have g3 := h.v1p; have g4 := h.v2p; have g5 := h.uvs; have g6 := h.uv
  have hsq := sg_sq e
  refine ⟨⟨g1, by omega⟩, ⟨g2, by omega⟩, ⟨g3, by omega⟩, ⟨by omega, by omega⟩, fun hv => ?_⟩
  refine ⟨_, _, rfl, rfl, ?_, ?_, ?_, ?_, g4, ?_, ?_⟩
  · -- R2 = a2 D + s (v2 β - u2 α)
    rw [sg_not, Int.neg_neg]
    have e1 : sg e * (v2 * B - u2 * A) = a2 * D + sg e * (v2 * β - u2 * α) := by rw [hA, hB, k2]; grind
    rw [e1]
    have p1 := Int.mul_nonneg (show 0 ≤ v2 by omega) hβ.1
    have p2 := Int.mul_nonneg g2 hα.1
    have p3 := Int.mul_lt_mul_of_pos_left hβ.2 (show 0 < v2 by omega)
    have p4 := Int.mul_le_mul_of_nonneg_left (Int.le_of_lt hα.2) g2
    have p5 := Int.mul_le_mul_of_nonneg_right g6 (Int.le_of_lt hD)
    have p6 := Int.mul_le_mul_of_nonneg_right ht (Int.le_of_lt hD)
    have p7 := Int.mul_lt_mul_of_pos_left hα.2 (show 0 < v2 by omega)
    have p8 := Int.mul_le_mul_of_nonneg_right g6 hα.1
    cases e <;> simp only [sg] <;> simp <;> omega
  · rw [sg_not, Int.neg_neg]
    have e1 : sg e * (u1 * A - v1 * B) - sg e * (v2 * B - u2 * A) = (a1 - a2) * D + sg e * ((u1 + u2) * α - (v1 + v2) * β) := by rw [hA, hB, k1, k2]; grind
    have p1 := Int.mul_nonneg (show 0 ≤ v1 + v2 by omega) hβ.1
    have p2 := Int.mul_nonneg (show 0 ≤ u1 + u2 by omega) hα.1
    have p3 := Int.mul_lt_mul_of_pos_left hβ.2 (show 0 < v1 + v2 by omega)
    have p4 := Int.mul_lt_mul_of_pos_left hα.2 (show 0 < v1 + v2 by omega)
    have p5 := Int.mul_le_mul_of_nonneg_right g5 hα.1
    have p6 := Int.mul_le_mul_of_nonneg_right ht2 (Int.le_of_lt hD)
    generalize sg e * (u1 * A - v1 * B) = R1 at e1 ⊢
    generalize sg e * (v2 * B - u2 * A) = R2 at e1 ⊢
    cases e <;> simp only [sg] at e1 <;> simp at e1 <;> omega
  · rw [sg_not, Int.neg_neg]; have h3 := h.det; grind
  · rw [sg_not, Int.neg_neg]; have h3 := h.det; grind
  · rcases h.one with ⟨h1, h2⟩ | h2
    · omega
    exact h2
  rw [sg_not, Int.neg_neg]; have h3 := h.det; grind
end
theorem LSt.start {A B D x y : Int} (hy : 0 ≤ y) (hyx : y ≤ x) : LSt A B D x y x y 1 0 0 1 false :=
  ⟨hyx, hy, by decide, by decide, by decide, by decide, by omega, by omega, by decide, by decide, by decide, .inl ⟨rfl, by decide⟩⟩
theorem wqe' {P : Program} {ops : Array Oper} {a : Act} {w : World} {Q : Exit → Act → World → Prop} (h : ∀ w', Cd w w' → Q .normal a w') : wpQuiet P ops (Cd w) (fun a' => ∀ w', Cd w w' → Q .normal a' w') [] a := h
end
section
set_option maxRecDepth 8000
theorem rt5 {P : Program} {fn : Func} {R : Ending → World → Prop} {a : Act} {w : World} {N : Nat} {l : Env} {t1 t2 t3 t4 t5 : Tmp} {v1 v2 v3 v4 v5 : Value} (H : Hd a N [] l) (h : fn.results = #[.tmp t1, .tmp t2, .tmp t3, .tmp t4, .tmp t5])
    (h1 : lk l t1 = some v1) (h2 : lk l t2 = some v2) (h3 : lk l t3 = some v3) (h4 : lk l t4 = some v4) (h5 : lk l t5 = some v5) (hR : R (.returned (.tuple #[v1, v2, v3, v4, v5])) w) : bodyPost P fn R .ret a w := by
  refine ⟨H.df, _, ?_, hR⟩
  rw [← H.g _ _ h1, ← H.g _ _ h2, ← H.g _ _ h3, ← H.g _ _ h4, ← H.g _ _ h5]
  simp [Go.results, h, Act.eval]
theorem rt3 {P : Program} {fn : Func} {R : Ending → World → Prop} {a : Act} {w : World} {N : Nat} {l : Env} {t1 t2 t3 : Tmp} {v1 v2 v3 : Value} (H : Hd a N [] l) (h : fn.results = #[.tmp t1, .tmp t2, .tmp t3])
    (h1 : lk l t1 = some v1) (h2 : lk l t2 = some v2) (h3 : lk l t3 = some v3) (hR : R (.returned (.tuple #[v1, v2, v3])) w) : bodyPost P fn R .ret a w := by
  refine ⟨H.df, _, ?_, hR⟩
  rw [← H.g _ _ h1, ← H.g _ _ h2, ← H.g _ _ h3]
  exact results_tmp3 h _ _ _
theorem head_shift {X : Nat → Int} {n h : Nat} (hn : 2 ≤ n) (hX : ∀ j, j < n → U64 (X j)) (hh : h < 64) (ht : X (n - 1) * 2 ^ h < 18446744073709551616) :
    U64 (X (n - 1) * 2 ^ h) ∧ (X (n - 1) * 2 ^ h) % 2 ^ h = 0 ∧ (0 ≤ X (n - 2) / 2 ^ (64 - h) ∧ X (n - 2) / 2 ^ (64 - h) < 2 ^ h) ∧ U64 (X (n - 1) * 2 ^ h + X (n - 2) / 2 ^ (64 - h)) ∧
    ∃ α, nv X n = (X (n - 1) * 2 ^ h + X (n - 2) / 2 ^ (64 - h)) * (2 ^ (64 - h) * BB ^ (n - 2)) + α ∧ 0 ≤ α ∧ α < 2 ^ (64 - h) * BB ^ (n - 2) := by
  obtain ⟨k, rfl⟩ : ∃ k, n = k + 2 := ⟨n - 2, by omega⟩
  simp only [show k + 2 - 1 = k + 1 by omega, show k + 2 - 2 = k by omega] at *
  have hS : (0 : Int) < 2 ^ h := Int.pow_pos (by decide)
  have hR : (0 : Int) < 2 ^ (64 - h) := Int.pow_pos (by decide)
  have hSR : (2 : Int) ^ h * 2 ^ (64 - h) = 18446744073709551616 := by rw [← Int.pow_add, show h + (64 - h) = 64 by omega]; rfl
  have u0 := hX k (by omega)
  have u1 := hX (k + 1) (by omega)
  have hP := BBn_pos k
  have d1 := Int.mul_ediv_add_emod (X k) (2 ^ (64 - h))
  have d2 := Int.emod_nonneg (X k) (show (2 : Int) ^ (64 - h) ≠ 0 by omega)
  have d3 := Int.emod_lt_of_pos (X k) hR
  have q0 : 0 ≤ X k / 2 ^ (64 - h) := Int.ediv_nonneg u0.1 (by omega)
  have q1 : X k / 2 ^ (64 - h) < 2 ^ h := Int.ediv_lt_of_lt_mul hR (by rw [hSR]; exact u0.2)
  have t0 := Int.mul_nonneg u1.1 (Int.le_of_lt hS)
  have l0 := nv_nonneg k (fun j hj => hX j (by omega))
  have l1 := nv_lt k (fun j hj => hX j (by omega))
  generalize hq : X k / 2 ^ (64 - h) = q at *
  generalize hr : X k % 2 ^ (64 - h) = r at *
  have htop : X (k + 1) * 2 ^ h + q < 18446744073709551616 := by
    have : X (k + 1) * 2 ^ h ≤ (18446744073709551616 : Int) - 2 ^ h := by
      have e : (18446744073709551616 : Int) - 2 ^ h = ((2 : Int) ^ (64 - h) - 1) * 2 ^ h := by rw [Int.sub_mul, Int.one_mul, Int.mul_comm (2 ^ (64 - h)), hSR]
      rw [e]
      refine Int.mul_le_mul_of_nonneg_right ?_ (Int.le_of_lt hS)
      have : X (k + 1) * 2 ^ h < 2 ^ (64 - h) * 2 ^ h := by rw [Int.mul_comm (2 ^ (64 - h)), hSR]; exact ht
      have := Int.lt_of_mul_lt_mul_right this (Int.le_of_lt hS)
      omega
    omega
  refine ⟨⟨t0, ht⟩, Int.mul_emod_left _ _, ⟨q0, q1⟩, ⟨by omega, htop⟩, r * BB ^ k + nv X k, ?_, ?_, ?_⟩
  · simp only [nv]
    have e1 : BB ^ (k + 1) = 18446744073709551616 * BB ^ k := by rw [Int.pow_succ, Int.mul_comm]; rfl
    rw [e1, ← hSR, ← d1]
    grind
  · have := Int.mul_nonneg d2 (Int.le_of_lt hP); omega
  have := Int.mul_le_mul_of_nonneg_right (show r + 1 ≤ 2 ^ (64 - h) by omega) (Int.le_of_lt hP)
  rw [Int.add_mul, Int.one_mul] at this
  omega
theorem head_next {Y : Nat → Int} {n h : Nat} (hn : 2 ≤ n) (hY : ∀ j, j < n - 1 → U64 (Y j)) (hh : h < 64) :
    (0 ≤ Y (n - 2) / 2 ^ (64 - h)) ∧ ∃ β, nv Y (n - 1) = (Y (n - 2) / 2 ^ (64 - h)) * (2 ^ (64 - h) * BB ^ (n - 2)) + β ∧ 0 ≤ β ∧ β < 2 ^ (64 - h) * BB ^ (n - 2) := by
  obtain ⟨k, rfl⟩ : ∃ k, n = k + 2 := ⟨n - 2, by omega⟩
  simp only [show k + 2 - 1 = k + 1 by omega, show k + 2 - 2 = k by omega] at *
  have hR : (0 : Int) < 2 ^ (64 - h) := Int.pow_pos (by decide)
  have u0 := hY k (by omega)
  have hP := BBn_pos k
  have d1 := Int.mul_ediv_add_emod (Y k) (2 ^ (64 - h))
  have d2 := Int.emod_nonneg (Y k) (show (2 : Int) ^ (64 - h) ≠ 0 by omega)
  have d3 := Int.emod_lt_of_pos (Y k) hR
  have l0 := nv_nonneg k (fun j hj => hY j (by omega))
  have l1 := nv_lt k (fun j hj => hY j (by omega))
  refine ⟨Int.ediv_nonneg u0.1 (by omega), (Y k % 2 ^ (64 - h)) * BB ^ k + nv Y k, ?_, ?_, ?_⟩
  · simp only [nv]
    generalize Y k / 2 ^ (64 - h) = q at *
    generalize Y k % 2 ^ (64 - h) = r at *
    rw [← d1]; grind
  · have := Int.mul_nonneg d2 (Int.le_of_lt hP); omega
  have := Int.mul_le_mul_of_nonneg_right (show Y k % 2 ^ (64 - h) + 1 ≤ 2 ^ (64 - h) by omega) (Int.le_of_lt hP)
  rw [Int.add_mul, Int.one_mul] at this
  omega
set_option maxHeartbeats 2000000 in
theorem lehmerSim (pa pb : Nat) (ra rb : IR) (w0 : World) (hA : Ib w0 pa ra) (hB : Ib w0 pb rb) (hn2 : 2 ≤ ra.n) (hm2 : 1 ≤ rb.n) (hna : ra.n < 1000) (hBA : nv rb.X rb.n ≤ nv ra.X ra.n) :
    Calls Tryz.prog 103 #[.pointer (some ⟨pa, 0, none⟩), .pointer (some ⟨pb, 0, none⟩)] w0 fun e w' => ∃ u0 u1 v0 v1 e', e = .returned (.tuple #[.int .u64 u0, .int .u64 u1, .int .u64 v0, .int .u64 v1, .bool e']) ∧ LS (nv ra.X ra.n) (nv rb.X rb.n) u0 u1 v0 v1 e' ∧ Cd w0 w' := by
  refine enterE (vs := [.pointer (some ⟨pa, 0, none⟩), .pointer (some ⟨pb, 0, none⟩)]) Tryz.func103 rfl rfl ?_
  intro a H
  replace H : Hd a 137 [] [(0, .pointer (some ⟨pa, 0, none⟩)), (1, .pointer (some ⟨pb, 0, none⟩))] := H
  refine wp_seq (wp_region_lit (l := [_, _, _, _, _]) (wl H (Ez.asn H rfl) rfl (kA rfl rfl (kA rfl rfl (kA rfl rfl (kA rfl rfl (kW (kS (kR [_, _, _, _] (kA rfl rfl (kA rfl rfl (kA rfl rfl (kA rfl rfl (kW (kS ?_))))))))))))))); clear H a; intro a H
  obtain ⟨n, hn⟩ : ∃ n, n = ra.n := ⟨_, rfl⟩
  obtain ⟨m, hm⟩ : ∃ m, m = rb.n := ⟨_, rfl⟩
  rw [← hn] at hn2 hBA
  rw [← hm] at hm2 hBA
  have hac := hA.c1
  have hbc := hB.c1
  have hasl := hA.sl
  have hbsl := hB.sl
  have hanm := hA.nm
  have hbnm := hB.nm
  rw [← hn] at hac hasl hanm
  rw [← hm] at hbc hbsl hbnm
  have hXu : ∀ j, j < n → U64 (ra.X j) := fun j hj => hasl.u (by have := hasl.le; omega)
  have hYu : ∀ j, j < m → U64 (rb.X j) := fun j hj => hbsl.u (by have := hbsl.le; omega)
  have hmn : m ≤ n := by
    rcases Nat.lt_or_ge n m with h | h
    · have := nv_lt_len (X := rb.X) (Y := ra.X) hYu hXu hbnm h; omega
    exact h
  have hal := hasl.le
  have hbl := hbsl.le
  obtain ⟨ba, hba, _, hWa⟩ := hasl.blk (by omega)
  obtain ⟨bb, hbb, _, hWb⟩ := hbsl.blk (by omega)
  rw [hba] at hac
  rw [hbb] at hbc
  obtain ⟨xt, hxt⟩ := Int.eq_ofNat_of_zero_le (hXu (n - 1) (by omega)).1
  have hxtB := (hXu (n - 1) (by omega)).2
  have hxt0 : 0 < xt := by
    rcases hanm with h | h
    · omega
    omega
  refine wp_region_lit (l := [_, _, _, _, _, _]) (wl H (Ez.mv H rfl) rfl (kN rfl rfl (kL (fun a H => Ez.fa82_1 H rfl) rfl (kL (fun a H => Ez.ld80 H rfl (hbc)) rfl (kL (fun a H => Ez.len80 H rfl) rfl (kA rfl rfl (kP [(0, _), (1, _), (4, _), (5, _), (6, _), (7, _), (8, _), (9, _), (10, _), (11, _), (12, _), (13, _)] rfl (kW (kS (kR [_, _, _, _, _, _] (kM rfl rfl (kN rfl rfl (kL (fun a H => Ez.fa82_1 H rfl) rfl (kL (fun a H => Ez.ld80 H rfl (hac)) rfl (kL (fun a H => Ez.len80 H rfl) rfl (kA rfl rfl (kP [(0, _), (1, _), (4, _), (5, _), (6, _), (7, _), (8, _), (9, _), (10, _), (11, _), (12, _), (13, _), (14, _)] rfl (kW (kS (kR [_, _, _, _, _, _, _, _, _, _] (kM rfl rfl (kN rfl rfl (kL (fun a H => Ez.fa82_1 H rfl) rfl (kL (fun a H => Ez.ld80 H rfl (hac)) rfl (kM rfl rfl (kL (fun a H => Ez.subI (r := ((n - 1 : Nat) : Int)) H rfl rfl (by omega) (by omega)) rfl (kL (fun a H => Ez.ix80 H rfl rfl (n - 1) rfl (by omega)) rfl ?_))))))))))))))))))))))))))); clear H a; intro a H
  refine wl H (Ez.ld103 H rfl ((by rw [Nat.zero_add]; exact hWa.cell (by omega)))) rfl ?_; clear H a; intro a H
  rw [hxt] at H
  refine wk H cf120 (nlz xt (by omega) hxt0 w0) rfl rfl ?_
  rintro _ w1 ⟨s, rfl, hL, rfl⟩
  refine ⟨_, rfl, ?_⟩; clear H a; intro a H
  have hs64 := hL.1
  have hxs : ra.X (n - 1) * 2 ^ s < 18446744073709551616 := by
    have h := hL.2.2
    have e : ((xt * 2 ^ s : Nat) : Int) = (xt : Int) * 2 ^ s := by simp [Int.natCast_mul, Int.natCast_pow]
    rw [hxt, ← e]; generalize xt * 2 ^ s = p at h ⊢; omega
  obtain ⟨x1, x2, x3, x4, α, x5, x6⟩ := head_shift hn2 hXu hs64 hxs
  have xmod : ra.X (n - 1) * 2 ^ s % 18446744073709551616 = ra.X (n - 1) * 2 ^ s := Int.emod_eq_of_lt x1.1 x1.2
  have xor := orJ s (by omega) x1 x2 x3
  refine wl H (Ez.asn H rfl) rfl (kP [(0, _), (1, _), (4, _), (5, _), (6, _), (7, _), (8, _), (9, _), (10, _), (11, _), (12, _), (13, _), (14, _), (15, _)] rfl (kW (kS ?_))); clear H a; intro a H
  refine regionQ (ls := [_, _, _, _, _, _, _, _, _, _, _, _, _, _, _, _, _, _, _, _, _, _, _]) follows_mixed (by kernel_rfl) (wq H (fun w2 hw2 => Ez.mv H rfl) rfl (jN rfl rfl (jL (fun a H w2 hw2 => Ez.fa82_1 H rfl) rfl (jL (fun a H w2 hw2 => Ez.ld80 H rfl (hw2.cell hac)) rfl (jM rfl rfl (jL (fun a H w2 hw2 => Ez.subI (r := ((n - 1 : Nat) : Int)) H rfl rfl (by omega) (by omega)) rfl (jL (fun a H w2 hw2 => Ez.ix80 H rfl rfl (n - 1) rfl (by omega)) rfl (jL (fun a H w2 hw2 => Ez.ld103 H rfl ((by rw [Nat.zero_add]; exact hw2.cell (hWa.cell (by omega))))) rfl (jM rfl rfl (jL (fun a H w2 hw2 => Ez.shlU H rfl rfl s rfl (by omega) xmod) rfl (jM rfl rfl (jN rfl rfl (jL (fun a H w2 hw2 => Ez.fa82_1 H rfl) rfl (jL (fun a H w2 hw2 => Ez.ld80 H rfl (hw2.cell hac)) rfl (jM rfl rfl (jL (fun a H w2 hw2 => Ez.subI (r := ((n - 2 : Nat) : Int)) H rfl rfl (by omega) (by omega)) rfl (jL (fun a H w2 hw2 => Ez.ix80 H rfl rfl (n - 2) rfl (by omega)) rfl (jL (fun a H w2 hw2 => Ez.ld103 H rfl ((by rw [Nat.zero_add]; exact hw2.cell (hWa.cell (by omega))))) rfl (jM rfl rfl (jL (fun a H w2 hw2 => Ez.subU (r := ((64 - s : Nat) : Int)) H rfl rfl (by omega)) rfl (jL (fun a H w2 hw2 => Ez.shrU H rfl rfl (64 - s) rfl (by show 64 - s ≤ 64; omega) rfl) rfl (jL (fun a H w2 hw2 => Ez.or H rfl rfl (xor)) rfl (jA rfl rfl ?_))))))))))))))))))))))); clear H a; intro a H
  refine wqe ?_
  intro w1 hw
  have hC := hw
  clear hw
  obtain ⟨x, hxe⟩ : ∃ x, x = ra.X (n - 1) * 2 ^ s + ra.X (n - 2) / 2 ^ (64 - s) := ⟨_, rfl⟩
  rw [← hxe] at H x4 x5
  replace H : Hd a 137 [] [(1, _), (4, _), (5, _), (6, _), (7, _), (8, _), (9, _), (10, _), (11, _), (12, _), (13, _), (14, _), (15, _)] := H.pick [1, 4, 5, 6, 7, 8, 9, 10, 11, 12, 13, 14, 15]
  refine wp_cut (fun a w => ∃ y : Int, Hd a 137 [] [(9, .int .u64 x), (10, .int .u64 y)] ∧ (U64 y ∧ ∃ β, nv rb.X m = y * (2 ^ (64 - s) * BB ^ (n - 2)) + β ∧ 0 ≤ β ∧ β < 2 ^ (64 - s) * BB ^ (n - 2)) ∧ Cd w0 w) ?_ ?_
  · refine wp_block (wp_seq (wp_region_lit (l := [_, _, _, _]) (wl H (Ez.mv H rfl) rfl (kM rfl rfl (kL (fun a H => Ez.eql H rfl rfl (rfl)) rfl (kA rfl rfl (kP [(1, _), (4, _), (5, _), (6, _), (7, _), (8, _), (9, _), (10, _), (11, _), (12, _), (13, _), (14, _), (15, _), (59, _)] rfl (kW ?_)))))))); clear H a; intro a H
    refine wp_cond_split (H.o rfl) (fun hb0 => ?_) (fun hb0 => ?_)
    · have hnm : n = m := by have := of_decide_eq_true hb0; omega
      subst hnm
      have hle : rb.X (n - 1) ≤ ra.X (n - 1) := by
        by_cases h : rb.X (n - 1) ≤ ra.X (n - 1)
        · exact h
        have hd := nv_digit (X := ra.X) (Y := rb.X) (i := n - 1) (fun j hj => hXu j (by omega)) (fun j hj => hYu j (by omega)) (by omega)
        rw [show n - 1 + 1 = n by omega] at hd; omega
      have hys : rb.X (n - 1) * 2 ^ s < 18446744073709551616 := by
        have := Int.mul_le_mul_of_nonneg_right hle (show (0 : Int) ≤ 2 ^ s from Int.le_of_lt (Int.pow_pos (by decide)))
        omega
      obtain ⟨y1, y2, y3, y4, β, y5, y6⟩ := head_shift hn2 hYu hs64 hys
      have ymod : rb.X (n - 1) * 2 ^ s % 18446744073709551616 = rb.X (n - 1) * 2 ^ s := Int.emod_eq_of_lt y1.1 y1.2
      have yor := orJ s (by omega) y1 y2 y3
      refine regionQ (ls := [_, _, _, _, _, _, _, _, _, _, _, _, _, _, _, _, _, _, _, _, _, _, _]) follows_mixed (by kernel_rfl) (wq H (fun w2 hw2 => Ez.mv H rfl) rfl (jN rfl rfl (jL (fun a H w2 hw2 => Ez.fa82_1 H rfl) rfl (jL (fun a H w2 hw2 => Ez.ld80 H rfl (hw2.cell (hC.cell hbc))) rfl (jM rfl rfl (jL (fun a H w2 hw2 => Ez.subI (r := ((n - 1 : Nat) : Int)) H rfl rfl (by omega) (by omega)) rfl (jL (fun a H w2 hw2 => Ez.ix80 H rfl rfl (n - 1) rfl (by omega)) rfl (jL (fun a H w2 hw2 => Ez.ld103 H rfl ((by rw [Nat.zero_add]; exact hw2.cell (hC.cell (hWb.cell (by omega)))))) rfl (jM rfl rfl (jL (fun a H w2 hw2 => Ez.shlU H rfl rfl s rfl (by omega) ymod) rfl (jM rfl rfl (jN rfl rfl (jL (fun a H w2 hw2 => Ez.fa82_1 H rfl) rfl (jL (fun a H w2 hw2 => Ez.ld80 H rfl (hw2.cell (hC.cell hbc))) rfl (jM rfl rfl (jL (fun a H w2 hw2 => Ez.subI (r := ((n - 2 : Nat) : Int)) H rfl rfl (by omega) (by omega)) rfl (jL (fun a H w2 hw2 => Ez.ix80 H rfl rfl (n - 2) rfl (by omega)) rfl (jL (fun a H w2 hw2 => Ez.ld103 H rfl ((by rw [Nat.zero_add]; exact hw2.cell (hC.cell (hWb.cell (by omega)))))) rfl (jM rfl rfl (jL (fun a H w2 hw2 => Ez.subU (r := ((64 - s : Nat) : Int)) H rfl rfl (by omega)) rfl (jL (fun a H w2 hw2 => Ez.shrU H rfl rfl (64 - s) rfl (by show 64 - s ≤ 64; omega) rfl) rfl (jL (fun a H w2 hw2 => Ez.or H rfl rfl (yor)) rfl (jA rfl rfl ?_))))))))))))))))))))))); clear H a; intro a H
      refine wqe' ?_
      intro w1 hw
      have hC := hC.trans hw
      clear hw
      have hyf : U64 (rb.X (n - 1) * 2 ^ s + rb.X (n - 2) / 2 ^ (64 - s)) ∧ ∃ β, nv rb.X n = (rb.X (n - 1) * 2 ^ s + rb.X (n - 2) / 2 ^ (64 - s)) * (2 ^ (64 - s) * BB ^ (n - 2)) + β ∧ 0 ≤ β ∧ β < 2 ^ (64 - s) * BB ^ (n - 2) := ⟨y4, β, y5, y6⟩
      replace H : Hd a 137 [] [(4, _), (5, _), (6, _), (7, _), (8, _), (9, _), (10, _), (11, _), (12, _)] := H.pick [4, 5, 6, 7, 8, 9, 10, 11, 12]
      refine bn (thn ?_)
      replace H : Hd a 137 [] [(9, _), (10, _)] := H.pick [9, 10]
      exact ⟨_, H, hyf, hC⟩
    have hnm : n ≠ m := by have := of_decide_eq_false hb0; omega
    refine wp_seq (wp_region_lit (l := [_, _, _, _, _]) (wl H (Ez.mv H rfl) rfl (kM rfl rfl (kL (fun a H => Ez.addI (r := ((m + 1 : Nat) : Int)) H rfl rfl (by omega) (by omega)) rfl (kL (fun a H => Ez.eql H rfl rfl (rfl)) rfl (kA rfl rfl (kP [(1, _), (4, _), (5, _), (6, _), (7, _), (8, _), (9, _), (10, _), (11, _), (12, _), (14, _), (15, _), (85, _)] rfl (kW ?_)))))))); clear H a; intro a H
    refine wp_cond_split (H.o rfl) (fun hb1 => ?_) (fun hb1 => ?_)
    · have hnm2 : n = m + 1 := by have := of_decide_eq_true hb1; omega
      refine wp_region_lit (l := [_, _, _, _, _, _, _, _, _, _, _, _]) (wl H (Ez.mv H rfl) rfl (kN rfl rfl (kL (fun a H => Ez.fa82_1 H rfl) rfl (kL (fun a H => Ez.ld80 H rfl (hC.cell hbc)) rfl (kM rfl rfl (kL (fun a H => Ez.subI (r := ((n - 2 : Nat) : Int)) H rfl rfl (by omega) (by omega)) rfl (kL (fun a H => Ez.ix80 H rfl rfl (n - 2) rfl (by omega)) rfl (kL (fun a H => Ez.ld103 H rfl ((by rw [Nat.zero_add]; exact hC.cell (hWb.cell (by omega))))) rfl (kM rfl rfl (kL (fun a H => Ez.subU (r := ((64 - s : Nat) : Int)) H rfl rfl (by omega)) rfl (kL (fun a H => Ez.shrU H rfl rfl (64 - s) rfl (by show 64 - s ≤ 64; omega) rfl) rfl (kA rfl rfl (kP [(4, _), (5, _), (6, _), (7, _), (8, _), (9, _), (10, _), (11, _), (12, _)] rfl ?_))))))))))))); clear H a; intro a H
      refine wpList_nil ?_
      have hyf : U64 (rb.X (n - 2) / 2 ^ (64 - s)) ∧ ∃ β, nv rb.X m = (rb.X (n - 2) / 2 ^ (64 - s)) * (2 ^ (64 - s) * BB ^ (n - 2)) + β ∧ 0 ≤ β ∧ β < 2 ^ (64 - s) * BB ^ (n - 2) := by
        have hn1 : n - 1 = m := by omega
        obtain ⟨y1, y2⟩ := head_next (Y := rb.X) hn2 (fun j hj => hYu j (by omega)) hs64
        rw [hn1] at y2
        refine ⟨⟨y1, ?_⟩, y2⟩
        have := (hYu (n - 2) (by omega)).2
        have h2 := Int.ediv_le_self (2 ^ (64 - s)) (hYu (n - 2) (by omega)).1
        omega
      refine bn (thn ?_)
      replace H : Hd a 137 [] [(9, _), (10, _)] := H.pick [9, 10]
      exact ⟨_, H, hyf, hC⟩
    have hnm2 : n ≠ m + 1 := by have := of_decide_eq_false hb1; omega
    refine wp_region_lit (l := [_]) (wl H (Ez.asn H rfl) rfl (kP [(4, _), (5, _), (6, _), (7, _), (8, _), (9, _), (10, _), (11, _), (12, _)] rfl ?_)); clear H a; intro a H
    refine wpList_nil ?_
    have hyf : U64 0 ∧ ∃ β, nv rb.X m = 0 * (2 ^ (64 - s) * BB ^ (n - 2)) + β ∧ 0 ≤ β ∧ β < 2 ^ (64 - s) * BB ^ (n - 2) := by
      refine ⟨⟨by decide, by decide⟩, nv rb.X m, by omega, nv_nonneg m hYu, ?_⟩
      have h1 := nv_lt m hYu
      have h2 := BBn_le (show m ≤ n - 2 by omega)
      have h3 : (1 : Int) ≤ 2 ^ (64 - s) := by have : (0 : Int) < 2 ^ (64 - s) := Int.pow_pos (by decide)
                                               omega
      have h4 := Int.mul_le_mul_of_nonneg_right h3 (Int.le_of_lt (BBn_pos (n - 2)))
      omega
    refine bn (thn ?_)
    replace H : Hd a 137 [] [(9, _), (10, _)] := H.pick [9, 10]
    exact ⟨_, H, hyf, hC⟩
  clear H a
  intro a w hJ
  obtain ⟨y, H, ⟨hyu, β, hyv, hβ⟩, hC⟩ := hJ
  have hD0 : (0 : Int) < 2 ^ (64 - s) * BB ^ (n - 2) := Int.mul_pos (Int.pow_pos (by decide)) (BBn_pos _)
  generalize (2 : Int) ^ (64 - s) * BB ^ (n - 2) = D at hD0 hyv hβ x5 x6
  have hyx : y ≤ x := by
    by_cases h : y ≤ x
    · exact h
    have := Int.mul_le_mul_of_nonneg_right (show x + 1 ≤ y by omega) (Int.le_of_lt hD0)
    rw [Int.add_mul, Int.one_mul] at this
    omega
  have hst := LSt.start (A := nv ra.X n) (B := nv rb.X m) (D := D) hyu.1 hyx
  have hxu : x < 18446744073709551616 := x4.2
  refine wp_seq (wp_region_lit (l := [_]) (wl H (Ez.asn H rfl) rfl (kW (kS (kR [_, _, _] (kA rfl rfl (kA rfl rfl (kA rfl rfl (kW (kS (kR [_, _, _] (kA rfl rfl (kA rfl rfl (kA rfl rfl (kW (kS ?_)))))))))))))))); clear H a; intro a H
  refine wp_block ?_
  refine wp_loopN (fun mm a w => ∃ (a1 a2 u0 u1 u2 v0 v1 v2 : Int) (e : Bool), mm = a2.toNat ∧ Hd a 137 [] [(4, .int .u64 u0), (5, .int .u64 u1), (6, .int .u64 v0), (7, .int .u64 v1), (8, .bool e), (9, .int .u64 a1), (10, .int .u64 a2), (11, .int .u64 u2), (12, .int .u64 v2)] ∧ LSt (nv ra.X n) (nv rb.X m) D x y a1 a2 u1 u2 v1 v2 e ∧ LS (nv ra.X n) (nv rb.X m) u0 u1 v0 v1 e ∧ U64 a1 ∧ U64 u2 ∧ v2 < 18446744073709551616 ∧ Cd w0 w) (y.toNat) ?_ ?_
  · replace H : Hd a 137 [] [(4, _), (5, _), (6, _), (7, _), (8, _), (9, _), (10, _), (11, _), (12, _)] := H.pick [4, 5, 6, 7, 8, 9, 10, 11, 12]
    exact ⟨x, y, 0, 1, 0, 0, 0, 1, false, rfl, H, hst, ⟨⟨by decide, by decide⟩, ⟨by decide, by decide⟩, ⟨by decide, by decide⟩, ⟨by decide, by decide⟩, fun h => absurd rfl h⟩, ⟨by omega, hxu⟩, ⟨by decide, by decide⟩, by decide, hC⟩
  clear H a
  intro mm a w hI
  clear hC
  obtain ⟨a1, a2, u0, u1, u2, v0, v1, v2, e, hmm, H, hs, hls, ha1, hu2, hv2, hC⟩ := hI
  obtain ⟨wL, rfl⟩ : ∃ wL, wL = w := ⟨w, rfl⟩
  have g1 := hs.a21; have g2 := hs.a2p; have g3 := hs.v2p; have g4 := hs.v1p; have g5 := hs.u1p
  have g6 := hls.2.1; have g7 := hls.2.2.2.1
  unfold U64 at ha1 g6 g7
  refine wp_seq (wp_seq ?_)
  by_cases ht : v2 ≤ a2
  · have hvx := (hs.le ht).2
    refine wp_region_lit (l := [_, _, _, _, _, _, _, _, _, _, _, _]) (wl H (Ez.mv H rfl) rfl (kM rfl rfl (kL (fun a H => Ez.geq (r := true) H rfl rfl (by (simp; omega))) rfl (kM rfl rfl (kG (fun a H => Ez.mv H rfl) rfl rfl rfl rfl rfl (kG (fun a H => Ez.mv H rfl) rfl rfl rfl rfl rfl (kG (fun a H => Ez.subU (r := (a1 - a2)) H rfl rfl (by omega)) rfl rfl rfl rfl rfl (kG (fun a H => Ez.mv H rfl) rfl rfl rfl rfl rfl (kG (fun a H => Ez.mv H rfl) rfl rfl rfl rfl rfl (kG (fun a H => Ez.addU (r := (v1 + v2)) H rfl rfl (by omega)) rfl rfl rfl rfl rfl (kG (fun a H => Ez.geq H rfl rfl (rfl)) rfl rfl rfl rfl rfl (kL (fun a H => Ez.pkT H rfl rfl) rfl (kP [(4, _), (5, _), (6, _), (7, _), (8, _), (9, _), (10, _), (11, _), (12, _), (112, _)] rfl (kW ?_)))))))))))))); clear H a; intro a H
    refine wp_cond_split (H.o rfl) (fun hb2 => ?_) (fun hb2 => ?_)
    · have ht2 : v1 + v2 ≤ a1 - a2 := of_decide_eq_true hb2
      obtain ⟨h1, hq1, hvx2, hux2⟩ := hs.step ht
      have hls' := hs.out hD0 x5 hyv x6 hβ ht ht2 hxu
      have hm1 := Int.emod_nonneg a1 (show a2 ≠ 0 by omega)
      have hm2 := Int.emod_lt_of_pos a1 (show 0 < a2 by omega)
      have hqa : a1 / a2 ≤ a1 := Int.ediv_le_self a2 (by omega)
      have hw64 : IntKind.u64.wrap (a1 / a2) = a1 / a2 := by rw [IntKind.wrap_u64]; exact Int.emod_eq_of_lt (by omega) (by omega)
      have hpu := Int.mul_nonneg (show 0 ≤ a1 / a2 by omega) hu2.1
      have hpv := Int.mul_nonneg (show 0 ≤ a1 / a2 by omega) (show 0 ≤ v2 by omega)
      refine wp_skip (thn (wp_block (wp_seq (regionQ (ls := [_, _, _, _, _, _, _, _]) follows_mixed (by kernel_rfl) (wq H (fun w2 hw2 => Ez.mv H rfl) rfl (jM rfl rfl (jL (fun a H w2 hw2 => Ez.quo H rfl rfl (by omega) (by omega) hw64 rfl) rfl (jM rfl rfl (jM rfl rfl (jL (fun a H w2 hw2 => Ez.rem H rfl rfl (by omega) (by omega) rfl) rfl (jA rfl rfl (jA rfl rfl ?_)))))))))))); clear H a; intro a H
      refine wqe ?_
      intro w1 hw
      have hC := hC.trans hw
      clear hw
      refine kP [(4, _), (5, _), (6, _), (7, _), (8, _), (9, _), (10, _), (11, _), (12, _), (16, _), (17, _)] rfl (kS (kR [_, _, _, _] (kM rfl rfl (kM rfl rfl (kA rfl rfl (kA rfl rfl (kP [(4, _), (5, _), (6, _), (7, _), (8, _), (9, _), (10, _), (11, _), (12, _), (16, _)] rfl (kW (kS (kR [_, _, _, _, _, _, _, _, _, _] (kM rfl rfl (kM rfl rfl (kM rfl rfl (kM rfl rfl (kM rfl rfl (kL (fun a H => Ez.mulU (r := (a1 / a2 * u2)) H rfl rfl (by (exact Int.emod_eq_of_lt hpu (by omega)))) rfl (kL (fun a H => Ez.addU (r := (u1 + a1 / a2 * u2)) H rfl rfl (by omega)) rfl (kA rfl rfl (kA rfl rfl (kA rfl rfl (kP [(4, _), (5, _), (6, _), (7, _), (8, _), (9, _), (10, _), (11, _), (12, _), (16, _)] rfl (kW (kS (kR [_, _, _, _, _, _, _, _, _, _] (kM rfl rfl (kM rfl rfl (kM rfl rfl ?_))))))))))))))))))))))))))) a H; clear H a; intro a H
      refine wl H (Ez.mv H rfl) rfl (kM rfl rfl (kL (fun a H => Ez.mulU (r := (a1 / a2 * v2)) H rfl rfl (by (exact Int.emod_eq_of_lt hpv (by omega)))) rfl (kL (fun a H => Ez.addU (r := (v1 + a1 / a2 * v2)) H rfl rfl (by omega)) rfl (kA rfl rfl (kA rfl rfl (kA rfl rfl (kP [(4, _), (5, _), (6, _), (7, _), (8, _), (9, _), (10, _), (11, _), (12, _)] rfl (kW (kR [_, _, _] (kM rfl rfl (kL (fun a H => Ez.not H rfl rfl) rfl (kA rfl rfl (kP [(4, _), (5, _), (6, _), (7, _), (8, _), (9, _), (10, _), (11, _), (12, _)] rfl ?_))))))))))))); clear H a; intro a H
      refine wpList_nil ?_
      refine bn (thn ?_)
      replace H : Hd a 137 [] [(4, _), (5, _), (6, _), (7, _), (8, _), (9, _), (10, _), (11, _), (12, _)] := H.pick [4, 5, 6, 7, 8, 9, 10, 11, 12]
      exact ⟨(a1 % a2).toNat, by omega, a2, a1 % a2, u1, u2, u1 + a1 / a2 * u2, v1, v2, v1 + a1 / a2 * v2, !e, rfl, H, h1, hls', ⟨by omega, by omega⟩, ⟨h1.u2p, by omega⟩, by omega, hC⟩
    refine wp_exit (thx (thx (bxe (thn (wp_ret ?_)))))
    refine rt5 H rfl rfl rfl rfl rfl rfl ?_
    refine ⟨u0, u1, v0, v1, e, rfl, by rw [← hn, ← hm]; exact hls, hC⟩
  refine wp_region_lit (l := [_, _, _, _, _, _, _, _, _, _, _, _]) (wl H (Ez.mv H rfl) rfl (kM rfl rfl (kL (fun a H => Ez.geq (r := false) H rfl rfl (by (simp; omega))) rfl (kM rfl rfl (kX rfl rfl rfl rfl rfl (kX rfl rfl rfl rfl rfl (kX rfl rfl rfl rfl rfl (kX rfl rfl rfl rfl rfl (kX rfl rfl rfl rfl rfl (kX rfl rfl rfl rfl rfl (kX rfl rfl rfl rfl rfl (kL (fun a H => Ez.pkF H rfl rfl) rfl (kP [(4, _), (5, _), (6, _), (7, _), (8, _), (9, _), (10, _), (11, _), (12, _), (112, _)] rfl (kW ?_)))))))))))))); clear H a; intro a H
  refine wp_cond_false (H.o rfl) (wp_exit (thx (thx (bxe (thn (wp_ret ?_))))))
  refine rt5 H rfl rfl rfl rfl rfl rfl ?_
  refine ⟨u0, u1, v0, v1, e, rfl, by rw [← hn, ← hm]; exact hls, hC⟩
end
section
set_option maxRecDepth 8000
theorem Ih.upd' {B m i : Nat} {pp : Nat → Nat} {F : Nat → IR} {w w' : World} {r : IR} (h : Ih B m w pp F) (hi : i < m) (hz : Zr w w' (pp i) (F i) r) : ∃ F', Ih B m w' pp F' ∧ F' i = r ∧ (∀ j, j ≠ i → F' j = F j) ∧ Fr (Hi B) w w' :=
  ⟨ui F i r, (h.upd hi hz).1, ui_eq _ _ _, fun j hj => ui_ne hj, (h.upd hi hz).2⟩
theorem Fr.glob {B : Nat} {w w' : World} (h : Fr (Hi B) w w') {k : Nat} {v : Value} (hk : k < B) (hc : w.cell? ⟨k, 0, none⟩ = some v) : w'.cell? ⟨k, 0, none⟩ = some v := h.someCell hc (fun e => by have : B ≤ k := e; omega)
theorem IR.pos {r : IR} (hu : ∀ j, j < r.n → U64 (r.X j)) (h : 0 < r.v) : r.s = false ∧ nv r.X r.n = r.v := by
  unfold IR.v at *
  cases hs : r.s with
  | false => rw [hs] at h; simp
  | true => rw [hs] at h; simp at h; have := nv_nonneg r.n hu; omega
theorem Ib.u {w : World} {p : Nat} {r : IR} (h : Ib w p r) : ∀ j, j < r.n → U64 (r.X j) := fun j hj => h.sl.u (by have := h.sl.le; omega)
theorem Ib.abs_le {w : World} {p : Nat} {r : IR} (h : Ib w p r) {k : Nat} (hv : -(BB ^ k) < r.v ∧ r.v < BB ^ k) : r.n ≤ k := by
  refine len_le h.u h.nm ?_
  unfold IR.v at hv
  cases hs : r.s <;> rw [hs] at hv <;> simp at hv <;> omega
theorem lehmerUpd (B m : Nat) (p : Nat → Nat) (F : Nat → IR) (ia ib iq ir : Nat) (u0 u1 v0 v1 : Int) (E : Bool) (w : World) (h : Ih B m w p F) (ha : ia < m) (hb : ib < m) (hq : iq < m) (hr : ir < m) (hab : ia ≠ ib) (haq : ia ≠ iq) (har : ia ≠ ir) (hbq : ib ≠ iq) (hbr : ib ≠ ir) (hqr : iq ≠ ir) (hu0 : U64 u0) (hu1 : U64 u1) (hv0 : U64 v0) (hv1 : U64 v1) (hna : (F ia).n < 500) (hnb : (F ib).n < 500) :
    Calls Tryz.prog 104 #[.pointer (some ⟨p ia, 0, none⟩), .pointer (some ⟨p ib, 0, none⟩), .pointer (some ⟨p iq, 0, none⟩), .pointer (some ⟨p ir, 0, none⟩), .int .u64 u0, .int .u64 u1, .int .u64 v0, .int .u64 v1, .bool E] w fun e w' => ∃ F', e = .returned (.tuple #[]) ∧ Ih B m w' p F' ∧ (∀ j, j ≠ ia → j ≠ ib → j ≠ iq → j ≠ ir → F' j = F j) ∧ (F' ia).v = -sg E * (u0 * (F ia).v - v0 * (F ib).v) ∧ (F' ib).v = -sg E * (v1 * (F ib).v - u1 * (F ia).v) ∧ (F' ia).n ≤ max (F ia).n (F ib).n + 2 ∧ (F' ib).n ≤ max (F ia).n (F ib).n + 2 ∧ Fr (Hi B) w w' := by
  refine enterE (vs := [.pointer (some ⟨p ia, 0, none⟩), .pointer (some ⟨p ib, 0, none⟩), .pointer (some ⟨p iq, 0, none⟩), .pointer (some ⟨p ir, 0, none⟩), .int .u64 u0, .int .u64 u1, .int .u64 v0, .int .u64 v1, .bool E]) Tryz.func104 rfl rfl ?_
  intro a H
  replace H : Hd a 48 [] [(0, .pointer (some ⟨p ia, 0, none⟩)), (1, .pointer (some ⟨p ib, 0, none⟩)), (2, .pointer (some ⟨p iq, 0, none⟩)), (3, .pointer (some ⟨p ir, 0, none⟩)), (4, .int .u64 u0), (5, .int .u64 u1), (6, .int .u64 v0), (7, .int .u64 v1), (8, .bool E)] := H
  refine wp_seq (wp_region_lit (l := [_, _, _, _, _]) (wl H (Ez.mv H rfl) rfl (kM rfl rfl (kM rfl rfl (kM rfl rfl ?_))))); clear H a; intro a H
  refine wk H cf106 (intMulW (p iq) (p ib) E v0 (F iq) (F ib) w (h.ib iq hq) (h.ib ib hb) (by omega) hv0) rfl rfl ?_
  rintro _ w1 ⟨r1, rfl, k1, k1v, k1n, _⟩
  refine ⟨_, rfl, ?_⟩; clear H a; intro a H
  obtain ⟨F1, h1, e1, o1, f1⟩ := h.upd' hq k1
  obtain ⟨wA, rfl⟩ : ∃ wA, wA = w1 := ⟨w1, rfl⟩
  have a1 := o1 ia haq; have b1 := o1 ib hbq; have c1 := o1 ir (Ne.symm hqr)
  refine kP [(0, _), (1, _), (2, _), (3, _), (4, _), (5, _), (7, _), (8, _)] rfl (kW (kS (kR [_, _, _, _, _] (kM rfl rfl (kM rfl rfl (kM rfl rfl (kM rfl rfl ?_))))))) a H; clear H a; intro a H
  refine wk H cf106 (intMulW (p ir) (p ia) E u1 (F1 ir) (F1 ia) wA (h1.ib ir hr) (h1.ib ia ha) (by rw [a1]; omega) hu1) rfl rfl ?_
  rintro _ w1 ⟨r2, rfl, k2, k2v, k2n, _⟩
  refine ⟨_, rfl, ?_⟩; clear H a; intro a H
  rw [a1] at k2v k2n
  obtain ⟨F2, h2, e2, o2, f2⟩ := h1.upd' hr k2
  obtain ⟨wB, rfl⟩ : ∃ wB, wB = w1 := ⟨w1, rfl⟩
  have a2 := (o2 ia har).trans a1; have b2 := (o2 ib hbr).trans b1; have q2 := (o2 iq hqr).trans e1
  refine kP [(0, _), (1, _), (2, _), (3, _), (4, _), (7, _), (8, _)] rfl (kW (kS (kR [_, _, _, _, _, _] (kM rfl rfl (kM rfl rfl (kM rfl rfl (kL (fun a H => Ez.not H rfl rfl) rfl (kM rfl rfl ?_)))))))) a H; clear H a; intro a H
  refine wk H cf106 (intMulW (p ia) (p ia) (!E) u0 (F2 ia) (F2 ia) wB (h2.ib ia ha) (h2.ib ia ha) (by rw [a2]; omega) hu0) rfl rfl ?_
  rintro _ w1 ⟨r3, rfl, k3, k3v, k3n, _⟩
  refine ⟨_, rfl, ?_⟩; clear H a; intro a H
  rw [a2] at k3v k3n
  obtain ⟨F3, h3, e3, o3, f3⟩ := h2.upd' ha k3
  obtain ⟨wC, rfl⟩ : ∃ wC, wC = w1 := ⟨w1, rfl⟩
  have b3 := (o3 ib (Ne.symm hab)).trans b2; have q3 := (o3 iq (Ne.symm haq)).trans q2; have r3' := (o3 ir (Ne.symm har)).trans e2
  refine kP [(0, _), (1, _), (2, _), (3, _), (7, _), (8, _)] rfl (kW (kS (kR [_, _, _, _, _, _] (kM rfl rfl (kM rfl rfl (kM rfl rfl (kL (fun a H => Ez.not H rfl rfl) rfl (kM rfl rfl ?_)))))))) a H; clear H a; intro a H
  refine wk H cf106 (intMulW (p ib) (p ib) (!E) v1 (F3 ib) (F3 ib) wC (h3.ib ib hb) (h3.ib ib hb) (by rw [b3]; omega) hv1) rfl rfl ?_
  rintro _ w1 ⟨r4, rfl, k4, k4v, k4n, _⟩
  refine ⟨_, rfl, ?_⟩; clear H a; intro a H
  rw [b3] at k4v k4n
  obtain ⟨F4, h4, e4, o4, f4⟩ := h3.upd' hb k4
  obtain ⟨wD, rfl⟩ : ∃ wD, wD = w1 := ⟨w1, rfl⟩
  have a4 := (o4 ia hab).trans e3; have q4 := (o4 iq (Ne.symm hbq)).trans q3; have r4' := (o4 ir (Ne.symm hbr)).trans r3'
  refine kP [(0, _), (1, _), (2, _), (3, _)] rfl (kW (kS (kR [_, _, _, _] (kM rfl rfl (kM rfl rfl (kM rfl rfl ?_)))))) a H; clear H a; intro a H
  refine wk H cf75 (intAdd (p ia) (p ia) (p iq) (F4 ia) (F4 ia) (F4 iq) wD (h4.ib ia ha) (h4.ib ia ha) (h4.ib iq hq) (by rw [a4]; omega) (by rw [q4]; omega)) rfl rfl ?_
  rintro _ w1 ⟨r5, rfl, k5, k5v, k5n⟩
  refine ⟨_, rfl, ?_⟩; clear H a; intro a H
  rw [a4, q4] at k5v k5n
  obtain ⟨F5, h5, e5, o5, f5⟩ := h4.upd' ha k5
  obtain ⟨wE, rfl⟩ : ∃ wE, wE = w1 := ⟨w1, rfl⟩
  have b5 := (o5 ib (Ne.symm hab)).trans e4; have r5' := (o5 ir (Ne.symm har)).trans r4'
  refine kP [(1, _), (3, _)] rfl (kW (kR [_, _, _, _] (kM rfl rfl (kM rfl rfl (kM rfl rfl ?_))))) a H; clear H a; intro a H
  refine wk H cf75 (intAdd (p ib) (p ib) (p ir) (F5 ib) (F5 ib) (F5 ir) wE (h5.ib ib hb) (h5.ib ib hb) (h5.ib ir hr) (by rw [b5]; omega) (by rw [r5']; omega)) rfl rfl ?_
  rintro _ w1 ⟨r6, rfl, k6, k6v, k6n⟩
  refine ⟨_, rfl, ?_⟩; clear H a; intro a H
  rw [b5, r5'] at k6v k6n
  obtain ⟨F6, h6, e6, o6, f6⟩ := h5.upd' hb k6
  replace H : Hd a 48 [] [] := H.pick []
  refine wpList_nil ?_
  refine rtn0 H rfl ?_
  refine ⟨F6, rfl, h6, fun j j1 j2 j3 j4 => ?_, ?_, ?_, ?_, ?_, ((((f1.trans f2).trans f3).trans f4).trans f5).trans f6⟩
  · rw [o6 j j2, o5 j j1, o4 j j2, o3 j j1, o2 j j4, o1 j j3]
  · rw [o6 ia hab, e5, k5v, k3v, k1v, sg_not]; grind
  · rw [e6, k6v, k4v, k2v, sg_not]; grind
  · rw [o6 ia hab, e5]; omega
  rw [e6]; omega
theorem euclidUpd (B m : Nat) (p : Nat → Nat) (F : Nat → IR) (ia ib iu iv iq ir : Nat) (w : World) (h : Ih B m w p F) (hB5 : 4 < B) (ha : ia < m) (hb : ib < m) (hu : iu < m) (hv : iv < m) (hq : iq < m) (hr : ir < m) (hab : ia ≠ ib) (haq : ia ≠ iq) (har : ia ≠ ir) (hbq : ib ≠ iq) (hbr : ib ≠ ir) (hqr : iq ≠ ir) (huq : iu ≠ iq) (hur : iu ≠ ir) (hvq : iv ≠ iq) (hvr : iv ≠ ir) (hg1 : w.cell? ⟨1, 0, none⟩ = some (.int .i64 40)) (hg4 : w.cell? ⟨4, 0, none⟩ = some (.int .i64 40)) (hn : 1 ≤ (F ib).n) (hn4 : (F ib).n ≤ 4) (hna : (F ia).n < 30) (hnu : (F iu).n < 40) (hnv : (F iv).n < 40) (has : (F ia).s = false) (hbs : (F ib).s = false) :
    Calls Tryz.prog 105 #[.pointer (some ⟨p ia, 0, none⟩), .pointer (some ⟨p ib, 0, none⟩), .pointer (some ⟨p iu, 0, none⟩), .pointer (some ⟨p iv, 0, none⟩), .pointer (some ⟨p iq, 0, none⟩), .pointer (some ⟨p ir, 0, none⟩), .bool true] w fun e w' => ∃ F' q, e = .returned (.tuple #[.pointer (some ⟨p ib, 0, none⟩), .pointer (some ⟨p ir, 0, none⟩), .pointer (some ⟨p ia, 0, none⟩), .pointer (some ⟨p iv, 0, none⟩), .pointer (some ⟨p iu, 0, none⟩)]) ∧ Ih B m w' p F' ∧ (∀ j, j ≠ iq → j ≠ ir → j ≠ iu → F' j = F j) ∧ q * (F ib).v + (F' ir).v = (F ia).v ∧ (0 ≤ (F' ir).v ∧ (F' ir).v < (F ib).v) ∧ (F' ir).s = false ∧ (F' ir).n ≤ (F ib).n ∧ (F' iu).v = (F iu).v - q * (F iv).v ∧ (F' iu).n ≤ 100 ∧ Fr (Hi B) w w' := by
  refine enterE (vs := [.pointer (some ⟨p ia, 0, none⟩), .pointer (some ⟨p ib, 0, none⟩), .pointer (some ⟨p iu, 0, none⟩), .pointer (some ⟨p iv, 0, none⟩), .pointer (some ⟨p iq, 0, none⟩), .pointer (some ⟨p ir, 0, none⟩), .bool true]) Tryz.func105 rfl rfl ?_
  intro a H
  replace H : Hd a 40 [] [(0, .pointer (some ⟨p ia, 0, none⟩)), (1, .pointer (some ⟨p ib, 0, none⟩)), (2, .pointer (some ⟨p iu, 0, none⟩)), (3, .pointer (some ⟨p iv, 0, none⟩)), (4, .pointer (some ⟨p iq, 0, none⟩)), (5, .pointer (some ⟨p ir, 0, none⟩)), (6, .bool true)] := H
  refine wp_seq (wp_region_lit (l := [_, _, _, _, _]) (wl H (Ez.asn H rfl) rfl (kA rfl rfl (kA rfl rfl (kA rfl rfl (kA rfl rfl (kW (kS (kR [_, _, _, _, _] (kM rfl rfl (kM rfl rfl (kM rfl rfl (kM rfl rfl ?_))))))))))))); clear H a; intro a H
  refine wk H cf86 (intQuoRem (p iq) (p ia) (p ib) (p ir) (F iq) (F ia) (F ib) (F ir) w (h.ib iq hq) (h.ib ia ha) (h.ib ib hb) (h.ib ir hr) (h.ne iq hq ir hr hqr) hg1 (h.dj iq hq ir hr hqr) (h.dj ir hr ia ha (Ne.symm har)) (h.dj ir hr ib hb (Ne.symm hbr)) hn hn4 (by omega) (h.ne ia ha iq hq haq) (h.ne ia ha ir hr har) (h.ne ib hb iq hq hbq) (h.ne ib hb ir hr hbr) has hbs) rfl rfl ?_
  rintro _ w1 ⟨rq, rr, rfl, d1, d2, d3, d4, d5, d6, d7, d8, d9, d10, d11, d12⟩
  refine ⟨_, rfl, ?_⟩; clear H a; intro a H
  obtain ⟨h1, f1⟩ := h.upd2 hq hr hqr d1 d2 d3 d4 d5 d12
  obtain ⟨F1, hF1⟩ : ∃ F1, F1 = ui (ui F iq rq) ir rr := ⟨_, rfl⟩
  rw [← hF1] at h1
  have q1 : F1 iq = rq := by rw [hF1, ui_ne hqr, ui_eq]
  have r1 : F1 ir = rr := by rw [hF1, ui_eq]
  have o1 : ∀ j, j ≠ iq → j ≠ ir → F1 j = F j := fun j h1 h2 => by rw [hF1, ui_ne h2, ui_ne h1]
  clear hF1
  have v1 := o1 iv hvq hvr; have u1 := o1 iu huq hur
  obtain ⟨wA, rfl⟩ : ∃ wA, wA = w1 := ⟨w1, rfl⟩
  refine kP [(0, _), (1, _), (2, _), (3, _), (4, _), (5, _), (6, _), (14, _), (15, _), (16, _), (17, _), (18, _)] rfl (kW (kS (kS (kR [_] (kM rfl rfl (kP [(0, _), (1, _), (2, _), (3, _), (4, _), (5, _), (14, _), (15, _), (16, _), (17, _), (18, _), (24, _)] rfl (kW ?_))))))) a H; clear H a; intro a H
  refine wp_cond_true (H.o rfl) (wp_seq (wp_region_lit (l := [_, _, _, _]) (wl H (Ez.mv H rfl) rfl (kM rfl rfl (kM rfl rfl ?_))))); clear H a; intro a H
  refine wk H cf107 (intMul (p iq) (p iq) (p iv) (F1 iq) (F1 iq) (F1 iv) wA (h1.ib iq hq) (h1.ib iq hq) (h1.ib iv hv) (h.ne iq hq iv hv (Ne.symm hvq)) (f1.glob (by omega) hg4) (by rw [q1]; omega) (by rw [v1]; omega)) rfl rfl ?_
  rintro _ w1 ⟨r2, rfl, k2, k2v, k2n⟩
  refine ⟨_, rfl, ?_⟩; clear H a; intro a H
  rw [q1, v1] at k2v k2n
  obtain ⟨F2, h2, e2, o2, f2⟩ := h1.upd' hq k2
  obtain ⟨wB, rfl⟩ : ∃ wB, wB = w1 := ⟨w1, rfl⟩
  have u2 := (o2 iu huq).trans u1
  refine kP [(0, _), (1, _), (2, _), (3, _), (4, _), (5, _), (14, _), (15, _), (16, _), (17, _), (18, _)] rfl (kW (kS (kR [_, _, _, _] (kM rfl rfl (kM rfl rfl (kA rfl rfl (kA rfl rfl (kP [(0, _), (1, _), (2, _), (3, _), (4, _), (5, _), (14, _), (15, _), (16, _), (17, _), (18, _)] rfl (kW (kR [_, _, _, _] (kM rfl rfl (kM rfl rfl (kM rfl rfl ?_))))))))))))) a H; clear H a; intro a H
  refine wk H cf87 (intSub (p iu) (p iu) (p iq) (F2 iu) (F2 iu) (F2 iq) wB (h2.ib iu hu) (h2.ib iu hu) (h2.ib iq hq) (by rw [u2]; omega) (by rw [e2]; omega)) rfl rfl ?_
  rintro _ w1 ⟨r3, rfl, k3, k3v, k3n⟩
  refine ⟨_, rfl, ?_⟩; clear H a; intro a H
  rw [u2, e2] at k3v k3n
  obtain ⟨F3, h3, e3, o3, f3⟩ := h2.upd' hu k3
  refine kP [(0, _), (1, _), (2, _), (3, _), (5, _), (14, _), (15, _), (16, _), (17, _), (18, _)] rfl (kW (kS (kR [_, _, _, _, _, _, _, _, _, _] (kM rfl rfl (kM rfl rfl (kM rfl rfl (kM rfl rfl (kM rfl rfl (kA rfl rfl (kA rfl rfl (kA rfl rfl (kA rfl rfl (kA rfl rfl (kP [(14, _), (15, _), (16, _), (17, _), (18, _)] rfl (kW ?_))))))))))))))) a H; clear H a; intro a H
  refine wp_ret ?_
  refine rt5 H rfl rfl rfl rfl rfl rfl ?_
  have hAv : (F ia).v = nv (F ia).X (F ia).n := by unfold IR.v; rw [has]; simp
  have hBv : (F ib).v = nv (F ib).X (F ib).n := by unfold IR.v; rw [hbs]; simp
  have hRv : rr.v = nv rr.X rr.n := by unfold IR.v; rw [d11]; simp
  have hQv : rq.v = nv rq.X rq.n := by unfold IR.v; rw [d10]; simp
  have hr0 := nv_nonneg rr.n d2.u
  have er : F3 ir = rr := by rw [o3 ir (Ne.symm hur), o2 ir (Ne.symm hqr), r1]
  refine ⟨F3, rq.v, rfl, h3, fun j j1 j2 j3 => ?_, ?_, ?_, ?_, ?_, ?_, ?_, (f1.trans f2).trans f3⟩
  · rw [o3 j j3, o2 j j1, o1 j j1 j2]
  · rw [er, hAv, hBv, hRv, hQv]; exact d8
  · rw [er, hRv, hBv]; exact ⟨hr0, d9⟩
  · rw [er]; exact d11
  · rw [er]; exact d7
  · rw [e3, k3v, k2v]
  rw [e3]; omega
end
section
set_option maxRecDepth 8000
theorem sg_or (e : Bool) {t n : Int} (h : t = n ∨ t = -n) : -sg e * t = n ∨ -sg e * t = -n := by
  cases e <;> simp only [sg] <;> simp <;> omega
theorem sg_pm (e : Bool) {a b : Int} (h : (0 ≤ a ∧ b ≤ 0) ∨ (a ≤ 0 ∧ 0 ≤ b)) : (0 ≤ -sg e * a ∧ -sg e * b ≤ 0) ∨ (-sg e * a ≤ 0 ∧ 0 ≤ -sg e * b) := by
  cases e <;> simp only [sg] <;> simp <;> omega
theorem sg_abs (e : Bool) {t n : Int} (h : -n ≤ t ∧ t ≤ n) : -n ≤ sg e * t ∧ sg e * t ≤ n := by
  cases e <;> simp only [sg] <;> simp <;> omega
structure Inv (a n A B U V : Int) : Prop where
  bp : 0 ≤ B
  ba : B < A
  an : A ≤ n
  ma : n ∣ A - U * a
  mb : n ∣ B - V * a
  det : U * B - V * A = n ∨ U * B - V * A = -n
  sgn : (0 ≤ U ∧ V ≤ 0) ∨ (U ≤ 0 ∧ 0 ≤ V)
  gcd : ∀ d, d ∣ A → d ∣ B → d ∣ n ∧ d ∣ a
  ub : -n ≤ U ∧ U ≤ n
  vb : -n ≤ V ∧ V ≤ n
section
variable {a n A B U V : Int}
theorem Inv.start (h : 0 < a ∧ a < n) : Inv a n n a 0 1 :=
  ⟨by omega, h.2, Int.le_refl _, by simp, by simp, .inr (by omega), .inr ⟨by omega, by omega⟩, fun d h1 h2 => ⟨h1, h2⟩, by omega, by omega⟩
theorem bound_of {n A B U V : Int} (hB : 0 ≤ B) (hA : 0 < A) (det : U * B - V * A = n ∨ U * B - V * A = -n) (hn : 0 < n) (sgn : (0 ≤ U ∧ V ≤ 0) ∨ (U ≤ 0 ∧ 0 ≤ V)) : (-n ≤ V ∧ V ≤ n) ∧ (0 < B → -n ≤ U ∧ U ≤ n) := by
  have key : ∀ U V : Int, 0 ≤ U → V ≤ 0 → (U * B - V * A = n ∨ U * B - V * A = -n) → (-n ≤ V ∧ V ≤ 0) ∧ (0 < B → U ≤ n) := by
    intro U V hU hV hd
    have p1 := Int.mul_nonneg hU hB
    have p2 := Int.mul_le_mul_of_nonneg_left (show 1 ≤ A by omega) (show 0 ≤ -V by omega)
    rw [Int.neg_mul, Int.neg_mul, Int.mul_one] at p2
    refine ⟨⟨?_, hV⟩, fun hB => ?_⟩
    · rcases hd with h | h
      · omega
      have := Int.mul_nonneg (show 0 ≤ -V by omega) (show 0 ≤ A by omega)
      rw [Int.neg_mul] at this; omega
    have p3 := Int.mul_le_mul_of_nonneg_left (show 1 ≤ B by omega) hU
    have p4 := Int.mul_nonneg (show 0 ≤ -V by omega) (show 0 ≤ A by omega)
    rw [Int.neg_mul] at p4
    rcases hd with h | h <;> omega
  rcases sgn with ⟨h1, h2⟩ | ⟨h1, h2⟩
  · obtain ⟨k1, k2⟩ := key U V h1 h2 det
    exact ⟨by omega, fun h => by have := k2 h; omega⟩
  obtain ⟨k1, k2⟩ := key (-U) (-V) (by omega) (by omega) (by rw [Int.neg_mul, Int.neg_mul]; omega)
  exact ⟨by omega, fun h => by have := k2 h; omega⟩
theorem Inv.euclid {q r : Int} (h : Inv a n A B U V) (hB : 0 < B) (hq : q * B + r = A) (hr : 0 ≤ r ∧ r < B) : Inv a n B r V (U - q * V) := by
  have hq0 : 0 ≤ q := by
    by_cases h0 : 0 ≤ q
    · exact h0
    have := Int.mul_le_mul_of_nonneg_right (show q ≤ -1 by omega) (Int.le_of_lt hB)
    have := h.ba; omega
  have hdet : V * r - (U - q * V) * B = n ∨ V * r - (U - q * V) * B = -n := by
    have e : V * r - (U - q * V) * B = -(U * B - V * A) := by rw [← hq]; grind
    rw [e]; have := h.det; omega
  have hs : (0 ≤ V ∧ U - q * V ≤ 0) ∨ (V ≤ 0 ∧ 0 ≤ U - q * V) := by
    rcases h.sgn with ⟨h1, h2⟩ | ⟨h1, h2⟩
    · have := Int.mul_nonneg hq0 (show 0 ≤ -V by omega)
      rw [Int.mul_neg] at this
      exact .inr ⟨h2, by omega⟩
    have := Int.mul_nonneg hq0 h2
    exact .inl ⟨h2, by omega⟩
  have hn : 0 < n := by have := h.ba; have := h.an; omega
  refine ⟨hr.1, hr.2, by have := h.ba; have := h.an; omega, h.mb, ?_, hdet, hs, fun d h1 h2 => ?_, h.vb, (bound_of hr.1 hB hdet hn hs).1⟩
  · have e : r - (U - q * V) * a = (A - U * a) - q * (B - V * a) := by rw [← hq]; grind
    rw [e]; exact Int.dvd_sub h.ma (Int.dvd_mul_of_dvd_right h.mb)
  exact h.gcd d (by rw [← hq]; exact Int.dvd_add (Int.dvd_mul_of_dvd_right h1) h2) h1
theorem Inv.lehmer {u0 u1 v0 v1 : Int} {e : Bool} (h : Inv a n A B U V) (hl : LS A B u0 u1 v0 v1 e) (hv : v0 ≠ 0) :
    Inv a n (-sg e * (u0 * A - v0 * B)) (-sg e * (v1 * B - u1 * A)) (-sg e * (u0 * U - v0 * V)) (-sg e * (v1 * V - u1 * U)) ∧ -sg e * (u0 * A - v0 * B) + -sg e * (v1 * B - u1 * A) < A + B := by
  obtain ⟨hu0, hu1, hv0, hv1, hh⟩ := hl
  obtain ⟨A', B', hA', hB', h1, h2, h3, h4, h5, h6, h7⟩ := hh hv
  clear hh
  rw [← hA', ← hB']
  have hsq := sg_sq e
  have v0p : 1 ≤ v0 := by have := hv0.1; omega
  have p1 := Int.mul_le_mul_of_nonneg_right h5 (show 0 ≤ A' by omega)
  have p2 := Int.mul_le_mul_of_nonneg_right v0p (show 0 ≤ B' by omega)
  rw [Int.one_mul] at p1 p2
  have hlt : A' + B' < A + B := by
    have p3 := Int.mul_le_mul_of_nonneg_right h6 (show 0 ≤ A' by omega)
    have p4 := Int.mul_nonneg hu0.1 (show 0 ≤ B' by omega)
    omega
  have hdet : (-sg e * (u0 * U - v0 * V)) * B' - (-sg e * (v1 * V - u1 * U)) * A' = n ∨ (-sg e * (u0 * U - v0 * V)) * B' - (-sg e * (v1 * V - u1 * U)) * A' = -n := by
    have e1 : (-sg e * (u0 * U - v0 * V)) * B' - (-sg e * (v1 * V - u1 * U)) * A' = -sg e * (U * B - V * A) := by rw [← h3, ← h4]; grind
    rw [e1]
    exact sg_or e h.det
  have hs : (0 ≤ -sg e * (u0 * U - v0 * V) ∧ -sg e * (v1 * V - u1 * U) ≤ 0) ∨ (-sg e * (u0 * U - v0 * V) ≤ 0 ∧ 0 ≤ -sg e * (v1 * V - u1 * U)) := by
    have key : (0 ≤ u0 * U - v0 * V ∧ v1 * V - u1 * U ≤ 0) ∨ (u0 * U - v0 * V ≤ 0 ∧ 0 ≤ v1 * V - u1 * U) := by
      rcases h.sgn with ⟨g1, g2⟩ | ⟨g1, g2⟩
      · have q1 := Int.mul_nonneg hu0.1 g1
        have q2 := Int.mul_nonneg hv0.1 (show 0 ≤ -V by omega)
        have q3 := Int.mul_nonneg hv1.1 (show 0 ≤ -V by omega)
        have q4 := Int.mul_nonneg hu1.1 g1
        rw [Int.mul_neg] at q2 q3
        exact .inl ⟨by omega, by omega⟩
      have q1 := Int.mul_nonneg hu0.1 (show 0 ≤ -U by omega)
      have q2 := Int.mul_nonneg hv0.1 g2
      have q3 := Int.mul_nonneg hv1.1 g2
      have q4 := Int.mul_nonneg hu1.1 (show 0 ≤ -U by omega)
      rw [Int.mul_neg] at q1 q4
      exact .inr ⟨by omega, by omega⟩
    exact sg_pm e key
  have hn : 0 < n := by have := h.ba; have := h.bp; have := h.an; omega
  have hb := bound_of (Int.le_of_lt h1) (by omega) hdet hn hs
  refine ⟨⟨by omega, h2, by have := h.an; have := h.ba; omega, ?_, ?_, hdet, hs, fun d d1 d2 => ?_, hb.2 h1, hb.1⟩, hlt⟩
  · have e1 : A' - (-sg e * (u0 * U - v0 * V)) * a = -sg e * (u0 * (A - U * a) - v0 * (B - V * a)) := by rw [hA']; grind
    rw [e1]; exact Int.dvd_mul_of_dvd_right (Int.dvd_sub (Int.dvd_mul_of_dvd_right h.ma) (Int.dvd_mul_of_dvd_right h.mb))
  · have e1 : B' - (-sg e * (v1 * V - u1 * U)) * a = -sg e * (v1 * (B - V * a) - u1 * (A - U * a)) := by rw [hB']; grind
    rw [e1]; exact Int.dvd_mul_of_dvd_right (Int.dvd_sub (Int.dvd_mul_of_dvd_right h.mb) (Int.dvd_mul_of_dvd_right h.ma))
  exact h.gcd d (by rw [← h3]; exact Int.dvd_add (Int.dvd_mul_of_dvd_right d1) (Int.dvd_mul_of_dvd_right d2)) (by rw [← h4]; exact Int.dvd_add (Int.dvd_mul_of_dvd_right d1) (Int.dvd_mul_of_dvd_right d2))
def Gx (a n g u : Int) : Prop := 0 < g ∧ g ∣ n ∧ g ∣ a ∧ n ∣ g - u * a ∧ -n ≤ u ∧ u ≤ n
theorem Inv.done (h : Inv a n A 0 U V) : Gx a n A U := by
  obtain ⟨h1, h2⟩ := h.gcd A (Int.dvd_refl _) (Int.dvd_zero _)
  exact ⟨h.ba, h1, h2, h.ma, h.ub.1, h.ub.2⟩
theorem Inv.word {D a1 u1 u2 v1 v2 : Int} {e : Bool} (h : Inv a n A B U V) (hs : LSt A B D A B a1 0 u1 u2 v1 v2 e) (ha1 : 0 < a1) (hu : u1 ≤ u2) (hv : v1 ≤ v2) : Gx a n a1 (sg e * U * u1 + sg (!e) * V * v1) := by
  have hx := hs.ux
  have hy := hs.uy
  rw [Int.mul_zero, Int.add_zero] at hx hy
  obtain ⟨h1, h2⟩ := h.gcd a1 (by rw [hx]; exact Int.dvd_mul_left _ _) (by rw [hy]; exact Int.dvd_mul_left _ _)
  have hk := hs.a.1
  have g1 := hs.u1p; have g2 := hs.v1p; have g3 := hs.u2p; have g4 := hs.v2p
  refine ⟨ha1, h1, h2, ?_, ?_⟩
  · have e1 : a1 - (sg e * U * u1 + sg (!e) * V * v1) * a = sg e * (u1 * (A - U * a) - v1 * (B - V * a)) := by rw [sg_not]; grind
    rw [e1]; exact Int.dvd_mul_of_dvd_right (Int.dvd_sub (Int.dvd_mul_of_dvd_right h.ma) (Int.dvd_mul_of_dvd_right h.mb))
  have hu1B : u1 ≤ B := by
    have := Int.mul_le_mul_of_nonneg_left (show 1 ≤ a1 by omega) g3
    omega
  have hv1A : v1 ≤ A := by
    have := Int.mul_le_mul_of_nonneg_left (show 1 ≤ a1 by omega) (show 0 ≤ v2 by omega)
    omega
  have key : ∀ U V : Int, 0 ≤ U → V ≤ 0 → (U * B - V * A = n ∨ U * B - V * A = -n) → 0 ≤ U * u1 - V * v1 ∧ U * u1 - V * v1 ≤ n := by
    intro U V hU hV hd
    have p1 := Int.mul_le_mul_of_nonneg_left hu1B hU
    have p2 := Int.mul_le_mul_of_nonneg_left hv1A (show 0 ≤ -V by omega)
    have p3 := Int.mul_nonneg hU g1
    have p4 := Int.mul_nonneg (show 0 ≤ -V by omega) g2
    have p5 := Int.mul_nonneg hU h.bp
    have p6 := Int.mul_nonneg (show 0 ≤ -V by omega) (show 0 ≤ A by have := h.ba; have := h.bp; omega)
    rw [Int.neg_mul] at p2 p4 p6
    rw [Int.neg_mul] at p2
    have : 0 < n := by have := h.ba; have := h.bp; have := h.an; omega
    rcases hd with hd | hd <;> omega
  have e2 : sg e * U * u1 + sg (!e) * V * v1 = sg e * (U * u1 - V * v1) := by rw [sg_not]; grind
  rw [e2]
  rcases h.sgn with ⟨s1, s2⟩ | ⟨s1, s2⟩
  · have := key U V s1 s2 h.det
    exact sg_abs e (by omega)
  have := key (-U) (-V) (by omega) (by omega) (by rw [Int.neg_mul, Int.neg_mul]; have := h.det; omega)
  rw [Int.neg_mul, Int.neg_mul] at this
  exact sg_abs e (by omega)
end
end
section
set_option maxRecDepth 8000
theorem Ez.neN78 {a : Act} {N : Nat} {ds : List Deferred} {l : Env} {w : World} {d : Option Nat} {ty : TypeId} {pos : String} {after : Array Edge} {g : Option (Nat × Bool)} (H : Hd a N ds l) {x y : Operand} {u : TypeId} {q : Option Addr} {r : Bool} (h : ov l x = some (.pointer q)) (h' : ov l y = some (.pointer none)) (hr : q.isSome = r) : (execOp a.eval ⟨d, .binOp .neq 78 x y u, ty, pos, after, g⟩).run Tryz.prog w = .ok (.value (.bool r)) w := by
  have e := H.o h
  have e' := H.o h'
  subst hr
  cases q <;> (simp only [execOp, e, e']; go_simp)
theorem Ih.al {B m : Nat} {w : World} {pp : Nat → Nat} {F : Nat → IR} (h : Ih B m w pp F) (hB : B ≤ w.heap.size) : ∃ b, b = w.heap.size ∧ Ih B (m + 1) (w.alloc (.cells #[.bool false, .slice none 0 0] 82)) (un pp m b) (ui F m r0) ∧ Fr (Hi B) w (w.alloc (.cells #[.bool false, .slice none 0 0] 82)) ∧ B ≤ (w.alloc (.cells #[.bool false, .slice none 0 0] 82)).heap.size :=
  ⟨_, rfl, h.push hB, (Fr.refl _ _).alloc _, Nat.le_trans hB ((Fr.refl NoT w).alloc _).size⟩
theorem Ih.cut {B m k : Nat} {w : World} {pp : Nat → Nat} {F : Nat → IR} (h : Ih B m w pp F) (hk : k ≤ m) : Ih B k w pp F :=
  ⟨fun i hi => h.ib i (by omega), fun i hi => h.lo i (by omega), fun i hi => h.lor i (by omega), fun i hi j hj => h.ne i (by omega) j (by omega), fun i hi j hj => h.dj i (by omega) j (by omega)⟩
theorem Ih.congr {B m : Nat} {w : World} {pp pq : Nat → Nat} {F : Nat → IR} (h : Ih B m w pp F) (he : ∀ i, i < m → pp i = pq i) : Ih B m w pq F :=
  ⟨fun i hi => by rw [← he i hi]; exact h.ib i hi, fun i hi => by rw [← he i hi]; exact h.lo i hi, h.lor, fun i hi j hj hne => by rw [← he i hi, ← he j hj]; exact h.ne i hi j hj hne, h.dj⟩
def s1 (i : Nat) : Nat := if i = 2 then 3 else if i = 3 then 2 else if i = 4 then 5 else if i = 5 then 4 else i
def s2 (i : Nat) : Nat := if i = 2 then 3 else if i = 3 then 7 else if i = 7 then 2 else if i = 4 then 5 else if i = 5 then 4 else i
theorem Ih.p1 {B : Nat} {w : World} {pp : Nat → Nat} {F : Nat → IR} (h : Ih B 8 w pp F) : Ih B 8 w (fun i => pp (s1 i)) (fun i => F (s1 i)) := h.perm s1 (by decide) (by decide)
theorem Ih.p2 {B : Nat} {w : World} {pp : Nat → Nat} {F : Nat → IR} (h : Ih B 8 w pp F) : Ih B 8 w (fun i => pp (s2 i)) (fun i => F (s2 i)) := h.perm s2 (by decide) (by decide)
theorem Ib.word {w : World} {z b c : Nat} {r : IR} {v : Int} (hz : Ib w z r) (hq : r.q = some ⟨b, 0, none⟩) (hW : Wk w b c r.X) (hc : r.c = c) (hn : r.n = 1) (hv : U64 v) (hv0 : v ≠ 0) :
    Zr w (w.setCell ⟨b, 0 + 0, none⟩ (.int .u64 v)) z r ⟨r.s, r.q, r.n, r.c, up r.X (0 + 0) v⟩ := by
  have hc0 : 0 < c := by have := hz.sl.le; omega
  have hbz : b ≠ z := fun e => hz.sl.neI hz 0 (by rw [hq, TQ_some]; exact e.symm)
  refine ⟨⟨?_, ?_, ?_⟩, Own.refl _ _, (Fr.refl _ _).setCell (fun _ => .inr (by rw [hq]; exact TQ_some.2 rfl)) _⟩
  · rw [Below.heap_setCell _ _ _ _ (fun e => hbz (Eq.symm e))]; exact hz.blk
  · show Sl _ r.q r.n r.c _
    rw [hq, hc]
    exact Sl.of (hW.set (by omega) hv) (by omega) hc0
  show Nm _ r.n
  rw [hn]; exact .inr (by simpa [up] using hv0)
theorem IR.v_one {r : IR} (hs : r.s = false) (hn : r.n = 1) : r.v = r.X 0 := by simp [IR.v, hs, hn, nv]
theorem IR.v_zero {r : IR} (hn : r.n = 0) : r.v = 0 := by simp [IR.v, hn, nv]
theorem IR.v_pos {r : IR} (hu : ∀ j, j < r.n → U64 (r.X j)) (hN : Nm r.X r.n) (hn : 0 < r.n) (h : 0 ≤ r.v) : 0 < r.v := by
  have h1 := nv_ge hn hu (by rcases hN with h | h; omega; exact h)
  have h2 := BBn_pos (r.n - 1)
  unfold IR.v at *
  cases hs : r.s <;> rw [hs] at h <;> simp at h ⊢ <;> omega
set_option maxHeartbeats 4000000 in
theorem lehmerGCD (B : Nat) (p0 : Nat → Nat) (F0 : Nat → IR) (pa pb : Nat) (ra rb : IR) (w : World) (h2 : Ih B 2 w p0 F0) (hB5 : 4 < B) (haI : Ib w pa ra) (hbI : Ib w pb rb) (hpaB : pa < B) (hpbB : pb < B) (hraB : ∀ k j, TQ ra.q k j → k < B) (hrbB : ∀ k j, TQ rb.q k j → k < B) (hg1 : w.cell? ⟨1, 0, none⟩ = some (.int .i64 40)) (hg4 : w.cell? ⟨4, 0, none⟩ = some (.int .i64 40)) (has : ra.s = false) (hap : 0 < nv ra.X ra.n) (hab : nv ra.X ra.n < nv rb.X rb.n) (hna : ra.n ≤ 4) (hnb : rb.n ≤ 4) :
    Calls Tryz.prog 89 #[.pointer (some ⟨p0 0, 0, none⟩), .pointer (some ⟨p0 1, 0, none⟩), .pointer none, .pointer (some ⟨pa, 0, none⟩), .pointer (some ⟨pb, 0, none⟩)] w fun e w' => ∃ F', e = .returned (.pointer (some ⟨p0 0, 0, none⟩)) ∧ Ih B 2 w' p0 F' ∧ Gx (nv ra.X ra.n) (nv rb.X rb.n) (F' 0).v (F' 1).v ∧ (F' 0).n ≤ 4 ∧ (F' 1).n ≤ 500 ∧ Fr (Hi B) w w' := by
  obtain ⟨w0, hw0⟩ : ∃ w0, w0 = w := ⟨w, rfl⟩
  rw [← hw0]
  rw [← hw0] at h2 haI hbI hg1 hg4
  clear hw0 w
  have hF0 := Fr.refl (Hi B) w0
  have sB : B ≤ w0.heap.size := Nat.le_trans (h2.lo 0 (by decide)) (Nat.le_of_lt (h2.ib 0 (by decide)).lt)
  have hnB : nv rb.X rb.n < BB ^ 4 := Int.lt_of_lt_of_le (nv_lt rb.n hbI.u) (BBn_le hnb)
  refine enterE (vs := [.pointer (some ⟨p0 0, 0, none⟩), .pointer (some ⟨p0 1, 0, none⟩), .pointer none, .pointer (some ⟨pa, 0, none⟩), .pointer (some ⟨pb, 0, none⟩)]) Tryz.func89 rfl rfl ?_
  intro a H
  replace H : Hd a 265 [] [(0, .pointer (some ⟨p0 0, 0, none⟩)), (1, .pointer (some ⟨p0 1, 0, none⟩)), (2, .pointer none), (3, .pointer (some ⟨pa, 0, none⟩)), (4, .pointer (some ⟨pb, 0, none⟩))] := H
  refine wp_seq (wp_region_lit (l := [_]) (wl H (Ez.asn H rfl) rfl (kW (kS (kR [_, _, _, _] (kA rfl rfl (kA rfl rfl (kA rfl rfl (kA rfl rfl (kW (kS (kR [_, _, _, _] (kL (fun a H => Ez.al82) rfl ?_))))))))))))); clear H a; intro a H
  obtain ⟨b2, hb, h3, fA, sA⟩ := h2.al sB
  rw [← hb] at H
  clear hb sB
  obtain ⟨wA, hwA⟩ : ∃ x, x = World.alloc w0 (.cells #[.bool false, .slice none 0 0] 82) := ⟨_, rfl⟩
  rw [← hwA] at h3 fA sA ⊢
  clear hwA
  have sB := sA
  have hF := hF0.trans fA
  clear fA sA
  refine wl H (Ez.mv H rfl) rfl ?_; clear H a; intro a H
  refine wk H cf101 (intAbs b2 pa r0 ra wA (h3.ib 2 (by decide)) (haI.hi hF hpaB hraB) (by have : B ≤ b2 := h3.lo 2 (by decide); omega) (by omega)) rfl rfl ?_
  rintro _ w1 ⟨rA, rfl, k, rAv, rAs, rAn⟩
  refine ⟨_, rfl, ?_⟩; clear H a; intro a H
  obtain ⟨F3, h3, e3, o3, f3⟩ := h3.upd' (i := 2) (by decide) k
  have hF := hF.trans f3
  have sB := Nat.le_trans sB f3.size
  clear k f3 o3
  obtain ⟨wX, rfl⟩ : ∃ wX, wX = w1 := ⟨w1, rfl⟩
  refine wl H (Ez.asn H rfl) rfl (kP [(0, _), (1, _), (2, _), (3, _), (4, _), (10, _), (11, _), (12, _), (13, _), (14, _)] rfl (kW (kS (kR [_, _, _, _] (kL (fun a H => Ez.al82) rfl ?_))))); clear H a; intro a H
  obtain ⟨b3, hb, h4, fA, sA⟩ := h3.al sB
  rw [← hb] at H
  clear hb sB
  obtain ⟨wA, hwA⟩ : ∃ x, x = World.alloc wX (.cells #[.bool false, .slice none 0 0] 82) := ⟨_, rfl⟩
  rw [← hwA] at h4 fA sA ⊢
  clear hwA
  have sB := sA
  have hF := hF.trans fA
  clear fA sA
  refine wl H (Ez.mv H rfl) rfl ?_; clear H a; intro a H
  refine wk H cf101 (intAbs b3 pb r0 rb wA (h4.ib 3 (by decide)) (hbI.hi hF hpbB hrbB) (by have : B ≤ b3 := h4.lo 3 (by decide); omega) (by omega)) rfl rfl ?_
  rintro _ w1 ⟨rB, rfl, k, rBv, rBs, rBn⟩
  refine ⟨_, rfl, ?_⟩; clear H a; intro a H
  obtain ⟨F4, h4, e4, o4, f4⟩ := h4.upd' (i := 3) (by decide) k
  have hF := hF.trans f4
  have sB := Nat.le_trans sB f4.size
  have e4A : F4 2 = rA := (o4 2 (by decide)).trans e3
  clear k f4 o4
  obtain ⟨wX, rfl⟩ : ∃ wX, wX = w1 := ⟨w1, rfl⟩
  refine wl H (Ez.asn H rfl) rfl (kP [(0, _), (1, _), (2, _), (3, _), (4, _), (10, _), (11, _), (12, _), (13, _), (14, _)] rfl (kW (kS (kR [_, _, _, _, _, _, _] (kM rfl rfl (kL (fun a H => Ez.neN78 H rfl rfl (r := true) rfl) rfl (kM rfl rfl (kX rfl rfl rfl rfl rfl (kX rfl rfl rfl rfl rfl (kL (fun a H => Ez.pkT H rfl rfl) rfl (kA rfl rfl (kP [(0, _), (1, _), (2, _), (3, _), (4, _), (10, _), (11, _), (12, _), (13, _), (14, _), (15, _)] rfl (kW (kS (kS (kR [_] (kM rfl rfl (kW ?_)))))))))))))))))); clear H a; intro a H
  refine wp_cond_true (H.o rfl) (wp_seq (wp_region_lit (l := [_, _, _]) (wl H (Ez.al82) rfl ?_))); clear H a; intro a H
  obtain ⟨b4, hb, h5, fA, sA⟩ := h4.al sB
  rw [← hb] at H
  clear hb sB
  obtain ⟨wA, hwA⟩ : ∃ x, x = World.alloc wX (.cells #[.bool false, .slice none 0 0] 82) := ⟨_, rfl⟩
  rw [← hwA] at h5 fA sA ⊢
  clear hwA
  have sB := sA
  have hF := hF.trans fA
  clear fA sA
  refine wk H cf102 (intSetInt64 b4 1 r0 wA (h5.ib 4 (by decide)) (by decide)) rfl rfl ?_
  rintro _ w1 ⟨rU, rfl, k, rUv, rUs, rUn⟩
  refine ⟨_, rfl, ?_⟩; clear H a; intro a H
  obtain ⟨F5, h5, e5, o5, f5⟩ := h5.upd' (i := 4) (by decide) k
  have hF := hF.trans f5
  have sB := Nat.le_trans sB f5.size
  have e5A : F5 2 = rA := (o5 2 (by decide)).trans e4A
  have e5B : F5 3 = rB := (o5 3 (by decide)).trans e4
  clear k f5 o5
  obtain ⟨wX, rfl⟩ : ∃ wX, wX = w1 := ⟨w1, rfl⟩
  refine wl H (Ez.asn H rfl) rfl (kP [(0, _), (1, _), (2, _), (3, _), (4, _), (10, _), (11, _), (12, _), (13, _), (14, _), (15, _)] rfl (kW (kR [_, _] (kL (fun a H => Ez.al82) rfl ?_)))); clear H a; intro a H
  obtain ⟨b5, hb, h6, fA, sA⟩ := h5.al sB
  rw [← hb] at H
  clear hb sB
  obtain ⟨wA, hwA⟩ : ∃ x, x = World.alloc wX (.cells #[.bool false, .slice none 0 0] 82) := ⟨_, rfl⟩
  rw [← hwA] at h6 fA sA ⊢
  clear hwA
  have sB := sA
  have hF := hF.trans fA
  clear fA sA
  refine wl H (Ez.asn H rfl) rfl (kP [(0, _), (1, _), (2, _), (3, _), (4, _), (10, _), (11, _), (12, _), (13, _), (14, _), (15, _)] rfl (kW (kS (kR [_, _] (kL (fun a H => Ez.al82) rfl ?_))))); clear H a; intro a H
  obtain ⟨b6, hb, h7, fA, sA⟩ := h6.al sB
  rw [← hb] at H
  clear hb sB
  obtain ⟨wA, hwA⟩ : ∃ x, x = World.alloc wA (.cells #[.bool false, .slice none 0 0] 82) := ⟨_, rfl⟩
  rw [← hwA] at h7 fA sA ⊢
  clear hwA
  have sB := sA
  have hF := hF.trans fA
  clear fA sA
  refine wl H (Ez.asn H rfl) rfl (kP [(0, _), (1, _), (2, _), (3, _), (4, _), (10, _), (11, _), (12, _), (13, _), (14, _), (15, _), (16, _)] rfl (kW (kS (kR [_, _] (kL (fun a H => Ez.al82) rfl ?_))))); clear H a; intro a H
  obtain ⟨b7, hb, h8, fA, sA⟩ := h7.al sB
  rw [← hb] at H
  clear hb sB
  obtain ⟨wA, hwA⟩ : ∃ x, x = World.alloc wA (.cells #[.bool false, .slice none 0 0] 82) := ⟨_, rfl⟩
  rw [← hwA] at h8 fA sA ⊢
  clear hwA
  have sB := sA
  have hF := hF.trans fA
  clear fA sA
  refine wl H (Ez.asn H rfl) rfl (kP [(0, _), (1, _), (2, _), (3, _), (4, _), (10, _), (11, _), (12, _), (13, _), (14, _), (15, _), (16, _), (17, _)] rfl (kW ?_)); clear H a; intro a H
  obtain ⟨p, hp⟩ : ∃ p, p = un (un (un (un (un (un p0 2 b2) 3 b3) 4 b4) 5 b5) 6 b6) 7 b7 := ⟨_, rfl⟩
  have hp0 : p 0 = p0 0 := by rw [hp]; rfl
  have hp1 : p 1 = p0 1 := by rw [hp]; rfl
  have hp2 : p 2 = b2 := by rw [hp]; rfl
  have hp3 : p 3 = b3 := by rw [hp]; rfl
  have hp4 : p 4 = b4 := by rw [hp]; rfl
  have hp5 : p 5 = b5 := by rw [hp]; rfl
  have hp6 : p 6 = b6 := by rw [hp]; rfl
  have hp7 : p 7 = b7 := by rw [hp]; rfl
  obtain ⟨F, hFF⟩ : ∃ F, F = ui (ui (ui F5 5 r0) 6 r0) 7 r0 := ⟨_, rfl⟩
  have E2 : F 2 = rA := by rw [hFF, ← e5A]; rfl
  have E3 : F 3 = rB := by rw [hFF, ← e5B]; rfl
  have E4 : F 4 = rU := by rw [hFF, ← e5]; rfl
  have E5 : F 5 = r0 := by rw [hFF]; rfl
  have h : Ih B 8 wA p F := by rw [hp, hFF]; exact h8
  clear h8 h7 h6 h5 h4 h3 hp hFF
  subst hp2; subst hp3; subst hp4; subst hp5; subst hp6; subst hp7
  rw [← E2] at rAv rAs rAn
  rw [← E3] at rBv rBs rBn
  rw [← E4] at rUv rUn
  have hAv : nv (F 2).X (F 2).n = (F 2).v := by unfold IR.v; rw [rAs]; simp
  have hBv : nv (F 3).X (F 3).n = (F 3).v := by unfold IR.v; rw [rBs]; simp
  obtain ⟨wS, hwS⟩ : ∃ x, x = wA := ⟨_, rfl⟩
  rw [← hwS]
  rw [← hwS] at h hF
  clear hwS
  refine wp_seq (wp_seq (regionQ (ls := [_, _, _, _, _, _, _, _, _, _]) follows_mixed (by kernel_rfl) (wq H (fun w2 hw2 => Ez.mv H rfl) rfl (jN rfl rfl (jL (fun a H w2 hw2 => Ez.fa82_1 H rfl) rfl (jL (fun a H w2 hw2 => Ez.ld80 H rfl (hw2.cell (h.ib 2 (by decide)).c1)) rfl (jM rfl rfl (jN rfl rfl (jL (fun a H w2 hw2 => Ez.fa82_1 H rfl) rfl (jL (fun a H w2 hw2 => Ez.ld80 H rfl (hw2.cell (h.ib 3 (by decide)).c1)) rfl ?_)))))))))); clear H a; intro a H
  refine wkq H cf90 (cmpW (F 2).q (F 3).q (F 2).n (F 2).c (F 3).n (F 3).c (F 2).X (F 3).X wS (h.ib 2 (by decide)).sl (h.ib 3 (by decide)).sl (by omega) (by omega) (h.ib 2 (by decide)).nm (h.ib 3 (by decide)).nm) rfl rfl ?_; clear H a; intro a H
  refine wq H (fun w2 hw2 => Ez.lss (r := true) H rfl rfl (by (rw [hAv, hBv, rAv, rBv]; simp [cmpI, hab]))) rfl ?_; clear H a; intro a H
  refine wqe ?_
  intro w1 hw
  have h := h.cd hw
  have hF := hF.trans (hw.fr _)
  replace H : Hd a 265 [] [(0, _), (1, _), (2, _), (3, _), (4, _), (10, _), (11, _), (12, _), (13, _), (14, _), (15, _), (16, _), (17, _), (60, _)] := H.pick [0, 1, 2, 3, 4, 10, 11, 12, 13, 14, 15, 16, 17, 60]
  refine wp_cond_true (H.o rfl) (wp_seq (wp_region_lit (l := [_, _, _, _]) (wl H (Ez.mv H rfl) rfl (kM rfl rfl (kA rfl rfl (kA rfl rfl (kP [(0, _), (1, _), (2, _), (3, _), (4, _), (10, _), (11, _), (12, _), (13, _), (14, _), (15, _), (16, _), (17, _)] rfl (kW (kR [_, _, _, _] (kM rfl rfl (kM rfl rfl (kA rfl rfl (kA rfl rfl (kP [(0, _), (1, _), (2, _), (3, _), (4, _), (10, _), (11, _), (12, _), (13, _), (14, _), (15, _), (16, _), (17, _)] rfl (kW (kS ?_)))))))))))))))); clear H a; intro a H
  refine wp_block ?_
  refine wp_loopN (fun mm a w => ∃ (p : Nat → Nat) (F : Nat → IR), mm = ((F 2).v + (F 3).v).toNat ∧ Hd a 265 [] [(0, .pointer (some ⟨p0 0, 0, none⟩)), (1, .pointer (some ⟨p0 1, 0, none⟩)), (2, .pointer none), (3, .pointer (some ⟨pa, 0, none⟩)), (4, .pointer (some ⟨pb, 0, none⟩)), (11, .pointer (some ⟨p 2, 0, none⟩)), (12, .pointer (some ⟨p 3, 0, none⟩)), (13, .pointer (some ⟨p 4, 0, none⟩)), (14, .pointer (some ⟨p 5, 0, none⟩)), (15, .bool true), (16, .pointer (some ⟨p 6, 0, none⟩)), (17, .pointer (some ⟨p 7, 0, none⟩))] ∧ Ih B 8 w p F ∧ p 0 = p0 0 ∧ p 1 = p0 1 ∧ Inv (nv ra.X ra.n) (nv rb.X rb.n) (F 2).v (F 3).v (F 4).v (F 5).v ∧ Fr (Hi B) w0 w) (((F 3).v + (F 2).v).toNat) ?_ ?_
  · replace H : Hd a 265 [] [(0, _), (1, _), (2, _), (3, _), (4, _), (11, _), (12, _), (13, _), (14, _), (15, _), (16, _), (17, _)] := H.pick [0, 1, 2, 3, 4, 11, 12, 13, 14, 15, 16, 17]
    refine ⟨fun i => p (s1 i), fun i => F (s1 i), rfl, H, h.p1, hp0, hp1, ?_, hF⟩
    show Inv _ _ (F 3).v (F 2).v (F 5).v (F 4).v
    rw [rAv, rBv, rUv, E5]
    exact Inv.start ⟨hap, hab⟩
  clear H a
  intro mm a w hI
  clear E2 E3 E4 E5 rAv rAs rAn rBv rBs rBn rUv rUn hAv hBv
  obtain ⟨p, F, hmm, H, h, hp0, hp1, hI, hF⟩ := hI
  obtain ⟨wL, rfl⟩ : ∃ wL, wL = w := ⟨w, rfl⟩
  have hn4 : (F 2).n ≤ 4 := (h.ib 2 (by decide)).abs_le (by have := hI.an; have := hI.ba; have := hI.bp; omega)
  have hm4 : (F 3).n ≤ 4 := (h.ib 3 (by decide)).abs_le (by have := hI.an; have := hI.ba; have := hI.bp; omega)
  have hu4 : (F 4).n ≤ 4 := (h.ib 4 (by decide)).abs_le (by have := hI.ub; omega)
  have hv4 : (F 5).n ≤ 4 := (h.ib 5 (by decide)).abs_le (by have := hI.vb; omega)
  have hAp : 0 < (F 2).v := by have := hI.ba; have := hI.bp; omega
  obtain ⟨hAs, hAv⟩ := IR.pos (h.ib 2 (by decide)).u hAp
  refine wp_seq (wp_seq (wp_region_lit (l := [_, _, _, _, _, _]) (wl H (Ez.mv H rfl) rfl (kN rfl rfl (kL (fun a H => Ez.fa82_1 H rfl) rfl (kL (fun a H => Ez.ld80 H rfl ((h.ib 3 (by decide)).c1)) rfl (kL (fun a H => Ez.len80 H rfl) rfl (kL (fun a H => Ez.gtr H rfl rfl (rfl)) rfl (kP [(0, _), (1, _), (2, _), (3, _), (4, _), (11, _), (12, _), (13, _), (14, _), (15, _), (16, _), (17, _), (70, _)] rfl (kW ?_)))))))))); clear H a; intro a H
  refine wp_cond_split (H.o rfl) (fun hb2 => ?_) (fun hb2 => ?_)
  · have hB2 : 2 ≤ (F 3).n := by have := of_decide_eq_true hb2; omega
    have hBp : 0 < (F 3).v := IR.v_pos (h.ib 3 (by decide)).u (h.ib 3 (by decide)).nm (by omega) hI.bp
    obtain ⟨hBs, hBv⟩ := IR.pos (h.ib 3 (by decide)).u hBp
    have hBA := hI.ba
    have hA2 : 2 ≤ (F 2).n := by
      rcases Nat.lt_or_ge (F 2).n (F 3).n with h' | h'
      · have := nv_lt_len (h.ib 3 (by decide)).u (h.ib 2 (by decide)).u (h.ib 3 (by decide)).nm h'
        omega
      omega
    refine wp_skip (thn (wp_block (wp_seq (wp_region_lit (l := [_, _, _, _, _, _, _, _, _, _, _, _, _, _]) (wl H (Ez.mv H rfl) rfl (kM rfl rfl ?_)))))); clear H a; intro a H
    refine wk H cf103 (lehmerSim (p 2) (p 3) (F 2) (F 3) wL (h.ib 2 (by decide)) (h.ib 3 (by decide)) hA2 (by omega) (by omega) (by omega)) rfl rfl ?_
    rintro _ w1 ⟨u0, u1, v0, v1, e', rfl, hls, hC⟩
    refine ⟨_, rfl, ?_⟩; clear H a; intro a H
    have h := h.cd hC
    have hF := hF.trans (hC.fr _)
    rw [hAv, hBv] at hls
    obtain ⟨wL, rfl⟩ : ∃ wL, wL = w1 := ⟨w1, rfl⟩
    refine wl H (Ez.mv H rfl) rfl (kL (fun a H => Ez.extN H rfl rfl) rfl (kL (fun a H => Ez.extN H rfl rfl) rfl (kL (fun a H => Ez.extN H rfl rfl) rfl (kL (fun a H => Ez.extN H rfl rfl) rfl (kL (fun a H => Ez.extN H rfl rfl) rfl (kA rfl rfl (kA rfl rfl (kA rfl rfl (kA rfl rfl (kA rfl rfl (kP [(0, _), (1, _), (2, _), (3, _), (4, _), (11, _), (12, _), (13, _), (14, _), (15, _), (16, _), (17, _), (18, _), (19, _), (20, _), (21, _), (22, _)] rfl (kW (kS (kR [_, _] (kM rfl rfl (kL (fun a H => Ez.neq H rfl rfl (rfl)) rfl (kP [(0, _), (1, _), (2, _), (3, _), (4, _), (11, _), (12, _), (13, _), (14, _), (15, _), (16, _), (17, _), (18, _), (19, _), (20, _), (21, _), (22, _), (81, _)] rfl (kW ?_)))))))))))))))))); clear H a; intro a H
    refine wp_cond_split (H.o rfl) (fun hb3 => ?_) (fun hb3 => ?_)
    · have hv0 : v0 ≠ 0 := by simpa using hb3
      have hinv := hI.lehmer hls hv0
      refine wp_seq (wp_region_lit (l := [_, _, _, _, _, _, _, _, _, _]) (wl H (Ez.mv H rfl) rfl (kM rfl rfl (kM rfl rfl (kM rfl rfl (kM rfl rfl (kM rfl rfl (kM rfl rfl (kM rfl rfl (kM rfl rfl ?_)))))))))); clear H a; intro a H
      refine wk H cf104 (lehmerUpd B 8 p F 2 3 6 7 u0 u1 v0 v1 e' wL h (by decide) (by decide) (by decide) (by decide) (by decide) (by decide) (by decide) (by decide) (by decide) (by decide) hls.1 hls.2.1 hls.2.2.1 hls.2.2.2.1 (by omega) (by omega)) rfl rfl ?_
      rintro _ w1 ⟨F1, rfl, h1, o1, k2, k3, k4, k5, f1⟩
      refine ⟨_, rfl, ?_⟩; clear H a; intro a H
      have hF1 := hF.trans f1
      have c4 := o1 4 (by decide) (by decide) (by decide) (by decide); have c5 := o1 5 (by decide) (by decide) (by decide) (by decide)
      obtain ⟨wM, rfl⟩ : ∃ wM, wM = w1 := ⟨w1, rfl⟩
      refine kP [(0, _), (1, _), (2, _), (3, _), (4, _), (11, _), (12, _), (13, _), (14, _), (15, _), (16, _), (17, _), (18, _), (19, _), (20, _), (21, _), (22, _)] rfl (kW (kS (kR [_] (kM rfl rfl (kW ?_))))) a H; clear H a; intro a H
      refine wp_cond_true (H.o rfl) (wp_region_lit (l := [_, _, _, _, _, _, _, _, _, _]) (wl H (Ez.mv H rfl) rfl (kM rfl rfl (kM rfl rfl (kM rfl rfl (kM rfl rfl (kM rfl rfl (kM rfl rfl (kM rfl rfl (kM rfl rfl ?_)))))))))); clear H a; intro a H
      refine wk H cf104 (lehmerUpd B 8 p F1 4 5 6 7 u0 u1 v0 v1 e' wM h1 (by decide) (by decide) (by decide) (by decide) (by decide) (by decide) (by decide) (by decide) (by decide) (by decide) hls.1 hls.2.1 hls.2.2.1 hls.2.2.2.1 (by rw [c4]; omega) (by rw [c5]; omega)) rfl rfl ?_
      rintro _ w1 ⟨F2, rfl, h2, o2, l2, l3, l4, l5, f2⟩
      refine ⟨_, rfl, ?_⟩; clear H a; intro a H
      have hF2 := hF1.trans f2
      rw [c4, c5] at l2 l3
      have g2 : (F2 2).v = (F1 2).v := by rw [o2 2 (by decide) (by decide) (by decide) (by decide)]
      have g3 : (F2 3).v = (F1 3).v := by rw [o2 3 (by decide) (by decide) (by decide) (by decide)]
      have hinv2 : Inv (nv ra.X ra.n) (nv rb.X rb.n) (F2 2).v (F2 3).v (F2 4).v (F2 5).v := by rw [g2, g3, k2, k3, l2, l3]; exact hinv.1
      replace H : Hd a 265 [] [(0, _), (1, _), (2, _), (3, _), (4, _), (11, _), (12, _), (13, _), (14, _), (15, _), (16, _), (17, _)] := H.pick [0, 1, 2, 3, 4, 11, 12, 13, 14, 15, 16, 17]
      refine wpList_nil ?_
      refine bn (thn ?_)
      replace H : Hd a 265 [] [(0, _), (1, _), (2, _), (3, _), (4, _), (11, _), (12, _), (13, _), (14, _), (15, _), (16, _), (17, _)] := H.pick [0, 1, 2, 3, 4, 11, 12, 13, 14, 15, 16, 17]
      first
        | (refine ⟨_, ?_, p, F2, rfl, H, h2, hp0, hp1, hinv2, hF2⟩
           rw [g2, g3, k2, k3]
           have := hinv.2; have := hI.bp; have := hinv2.bp; have := hinv2.ba; rw [g2, g3, k2, k3] at *
           omega)
        | exact ⟨((F1 (s2 2)).v + (F1 (s2 3)).v).toNat, by show ((F1 3).v + (F1 7).v).toNat < mm; rw [e3] at r1 ⊢; omega, fun i => p (s2 i), fun i => F1 (s2 i), rfl, H, h1.p2, hp0, hp1, hinv, hF1⟩
    refine wp_region_lit (l := [_, _, _, _, _, _, _, _, _, _, _, _, _, _, _, _, _, _, _]) (wl H (Ez.mv H rfl) rfl (kM rfl rfl (kM rfl rfl (kM rfl rfl (kM rfl rfl (kM rfl rfl (kM rfl rfl ?_))))))); clear H a; intro a H
    refine wk H cf105 (euclidUpd B 8 p F 2 3 4 5 6 7 wL h hB5 (by decide) (by decide) (by decide) (by decide) (by decide) (by decide) (by decide) (by decide) (by decide) (by decide) (by decide) (by decide) (by decide) (by decide) (by decide) (by decide) (hF.glob (by omega) hg1) (hF.glob (by omega) hg4) (by omega) hm4 (by omega) (by omega) (by omega) hAs hBs) rfl rfl ?_
    rintro _ w1 ⟨F1, q, rfl, h1, o1, q1, r1, rs, rn, u1, un', f1⟩
    refine ⟨_, rfl, ?_⟩; clear H a; intro a H
    have e3 := o1 3 (by decide) (by decide) (by decide); have e5 := o1 5 (by decide) (by decide) (by decide)
    have hinv := hI.euclid hBp q1 r1
    rw [← u1, ← e5, ← e3] at hinv
    rw [← e3] at q1 r1 rn
    have hF1 := hF.trans f1
    refine wl H (Ez.mv H rfl) rfl (kL (fun a H => Ez.extN H rfl rfl) rfl (kL (fun a H => Ez.extN H rfl rfl) rfl (kL (fun a H => Ez.extN H rfl rfl) rfl (kL (fun a H => Ez.extN H rfl rfl) rfl (kL (fun a H => Ez.extN H rfl rfl) rfl (kA rfl rfl (kA rfl rfl (kA rfl rfl (kA rfl rfl (kA rfl rfl (kP [(0, _), (1, _), (2, _), (3, _), (4, _), (11, _), (12, _), (13, _), (14, _), (15, _), (16, _), (17, _)] rfl ?_))))))))))); clear H a; intro a H
    refine wpList_nil ?_
    refine bn (thn ?_)
    replace H : Hd a 265 [] [(0, _), (1, _), (2, _), (3, _), (4, _), (11, _), (12, _), (13, _), (14, _), (15, _), (16, _), (17, _)] := H.pick [0, 1, 2, 3, 4, 11, 12, 13, 14, 15, 16, 17]
    first
      | (refine ⟨_, ?_, p, F2, rfl, H, h2, hp0, hp1, hinv2, hF2⟩
         rw [g2, g3, k2, k3]
         have := hinv.2; have := hI.bp; have := hinv2.bp; have := hinv2.ba; rw [g2, g3, k2, k3] at *
         omega)
      | exact ⟨((F1 (s2 2)).v + (F1 (s2 3)).v).toNat, by show ((F1 3).v + (F1 7).v).toNat < mm; rw [e3] at r1 ⊢; omega, fun i => p (s2 i), fun i => F1 (s2 i), rfl, H, h1.p2, hp0, hp1, hinv, hF1⟩
  have hB2 : (F 3).n ≤ 1 := by have := of_decide_eq_false hb2; omega
  refine wp_exit (thx (thx (bxe (thn ?_))))
  refine wp_cut (fun a w => ∃ (p : Nat → Nat) (F : Nat → IR), Hd a 265 [] [(0, .pointer (some ⟨p0 0, 0, none⟩)), (1, .pointer (some ⟨p0 1, 0, none⟩)), (2, .pointer none), (3, .pointer (some ⟨pa, 0, none⟩)), (11, .pointer (some ⟨p 2, 0, none⟩)), (13, .pointer (some ⟨p 4, 0, none⟩))] ∧ Ih B 8 w p F ∧ p 0 = p0 0 ∧ p 1 = p0 1 ∧ Gx (nv ra.X ra.n) (nv rb.X rb.n) (F 2).v (F 4).v ∧ (F 2).n ≤ 4 ∧ (F 4).n ≤ 500 ∧ Fr (Hi B) w0 w) ?_ ?_
  · refine wp_seq (wp_region_lit (l := [_, _, _, _, _, _]) (wl H (Ez.mv H rfl) rfl (kN rfl rfl (kL (fun a H => Ez.fa82_1 H rfl) rfl (kL (fun a H => Ez.ld80 H rfl ((h.ib 3 (by decide)).c1)) rfl (kL (fun a H => Ez.len80 H rfl) rfl (kL (fun a H => Ez.gtr H rfl rfl (rfl)) rfl (kP [(0, _), (1, _), (2, _), (3, _), (4, _), (11, _), (12, _), (13, _), (14, _), (15, _), (16, _), (17, _), (122, _)] rfl (kW ?_))))))))); clear H a; intro a H
    refine wp_cond_split (H.o rfl) (fun hb5 => ?_) (fun hb5 => ?_)
    · have hB1 : 1 ≤ (F 3).n := by have := of_decide_eq_true hb5; omega
      have hBp : 0 < (F 3).v := IR.v_pos (h.ib 3 (by decide)).u (h.ib 3 (by decide)).nm (by omega) hI.bp
      obtain ⟨hBs, hBv⟩ := IR.pos (h.ib 3 (by decide)).u hBp
      have hBA := hI.ba
      refine wp_cut (fun a w => ∃ (p : Nat → Nat) (F : Nat → IR), Hd a 265 [] [(0, .pointer (some ⟨p0 0, 0, none⟩)), (1, .pointer (some ⟨p0 1, 0, none⟩)), (2, .pointer none), (3, .pointer (some ⟨pa, 0, none⟩)), (4, .pointer (some ⟨pb, 0, none⟩)), (11, .pointer (some ⟨p 2, 0, none⟩)), (12, .pointer (some ⟨p 3, 0, none⟩)), (13, .pointer (some ⟨p 4, 0, none⟩)), (14, .pointer (some ⟨p 5, 0, none⟩)), (15, .bool true)] ∧ Ih B 8 w p F ∧ p 0 = p0 0 ∧ p 1 = p0 1 ∧ Inv (nv ra.X ra.n) (nv rb.X rb.n) (F 2).v (F 3).v (F 4).v (F 5).v ∧ (F 2).n = 1 ∧ (F 3).n ≤ 1 ∧ Fr (Hi B) w0 w) ?_ ?_
      · refine wp_seq (wp_region_lit (l := [_, _, _, _, _, _]) (wl H (Ez.mv H rfl) rfl (kN rfl rfl (kL (fun a H => Ez.fa82_1 H rfl) rfl (kL (fun a H => Ez.ld80 H rfl ((h.ib 2 (by decide)).c1)) rfl (kL (fun a H => Ez.len80 H rfl) rfl (kL (fun a H => Ez.gtr H rfl rfl (rfl)) rfl (kP [(0, _), (1, _), (2, _), (3, _), (4, _), (11, _), (12, _), (13, _), (14, _), (15, _), (16, _), (17, _), (128, _)] rfl (kW ?_))))))))); clear H a; intro a H
        refine wp_cond_split (H.o rfl) (fun hb6 => ?_) (fun hb6 => ?_)
        · have hA2 : 2 ≤ (F 2).n := by have := of_decide_eq_true hb6; omega
          refine wp_region_lit (l := [_, _, _, _, _, _, _, _, _, _, _, _, _, _, _, _, _, _, _]) (wl H (Ez.mv H rfl) rfl (kM rfl rfl (kM rfl rfl (kM rfl rfl (kM rfl rfl (kM rfl rfl (kM rfl rfl ?_))))))); clear H a; intro a H
          refine wk H cf105 (euclidUpd B 8 p F 2 3 4 5 6 7 wL h hB5 (by decide) (by decide) (by decide) (by decide) (by decide) (by decide) (by decide) (by decide) (by decide) (by decide) (by decide) (by decide) (by decide) (by decide) (by decide) (by decide) (hF.glob (by omega) hg1) (hF.glob (by omega) hg4) (by omega) hm4 (by omega) (by omega) (by omega) hAs hBs) rfl rfl ?_
          rintro _ w1 ⟨F1, q, rfl, h1, o1, q1, r1, rs, rn, u1, un', f1⟩
          refine ⟨_, rfl, ?_⟩; clear H a; intro a H
          have e3 := o1 3 (by decide) (by decide) (by decide); have e5 := o1 5 (by decide) (by decide) (by decide)
          have hinv := hI.euclid hBp q1 r1
          rw [← u1, ← e5, ← e3] at hinv
          rw [← e3] at q1 r1 rn
          have hF1 := hF.trans f1
          refine wl H (Ez.mv H rfl) rfl (kL (fun a H => Ez.extN H rfl rfl) rfl (kL (fun a H => Ez.extN H rfl rfl) rfl (kL (fun a H => Ez.extN H rfl rfl) rfl (kL (fun a H => Ez.extN H rfl rfl) rfl (kL (fun a H => Ez.extN H rfl rfl) rfl (kA rfl rfl (kA rfl rfl (kA rfl rfl (kA rfl rfl (kA rfl rfl (kP [(0, _), (1, _), (2, _), (3, _), (4, _), (11, _), (12, _), (13, _), (14, _), (15, _)] rfl (kW (kP [(0, _), (1, _), (2, _), (3, _), (4, _), (11, _), (12, _), (13, _), (14, _), (15, _)] rfl ?_))))))))))))); clear H a; intro a H
          first
            | exact ⟨fun i => p (s2 i), fun i => F1 (s2 i), H, h1.p2, hp0, hp1, hinv, by show (F1 3).n = 1; rw [e3]; omega, by show (F1 7).n ≤ 1; rw [e3] at rn; omega, hF1⟩
            | exact ⟨p, F, H, h, hp0, hp1, hI, hA1, hB2, hF⟩
        have hA1 : (F 2).n = 1 := by
          have := of_decide_eq_false hb6
          rcases Nat.eq_zero_or_pos (F 2).n with h0 | h0
          · rw [IR.v_zero h0] at hAp; omega
          omega
        refine wp_skip (thn ?_)
        replace H : Hd a 265 [] [(0, _), (1, _), (2, _), (3, _), (4, _), (11, _), (12, _), (13, _), (14, _), (15, _)] := H.pick [0, 1, 2, 3, 4, 11, 12, 13, 14, 15]
        first
          | exact ⟨fun i => p (s2 i), fun i => F1 (s2 i), H, h1.p2, hp0, hp1, hinv, by show (F1 3).n = 1; rw [e3]; omega, by show (F1 7).n ≤ 1; rw [e3] at rn; omega, hF1⟩
          | exact ⟨p, F, H, h, hp0, hp1, hI, hA1, hB2, hF⟩
      clear H a
      intro a w hJ
      obtain ⟨p, F, H, h, hp0, hp1, hI, hA1, hB2, hF⟩ := hJ
      obtain ⟨wL, rfl⟩ : ∃ wL, wL = w := ⟨w, rfl⟩
      have hn4 : (F 2).n ≤ 4 := (h.ib 2 (by decide)).abs_le (by have := hI.an; have := hI.ba; have := hI.bp; omega)
      have hm4 : (F 3).n ≤ 4 := (h.ib 3 (by decide)).abs_le (by have := hI.an; have := hI.ba; have := hI.bp; omega)
      have hu4 : (F 4).n ≤ 4 := (h.ib 4 (by decide)).abs_le (by have := hI.ub; omega)
      have hv4 : (F 5).n ≤ 4 := (h.ib 5 (by decide)).abs_le (by have := hI.vb; omega)
      have hAp : 0 < (F 2).v := by have := hI.ba; have := hI.bp; omega
      obtain ⟨hAs, hAv⟩ := IR.pos (h.ib 2 (by decide)).u hAp
      refine wp_seq (wp_region_lit (l := [_, _, _, _, _, _]) (wl H (Ez.mv H rfl) rfl (kN rfl rfl (kL (fun a H => Ez.fa82_1 H rfl) rfl (kL (fun a H => Ez.ld80 H rfl ((h.ib 3 (by decide)).c1)) rfl (kL (fun a H => Ez.len80 H rfl) rfl (kL (fun a H => Ez.gtr H rfl rfl (rfl)) rfl (kP [(0, _), (1, _), (2, _), (3, _), (4, _), (11, _), (12, _), (13, _), (14, _), (15, _), (148, _)] rfl (kW ?_))))))))); clear H a; intro a H
      refine wp_cond_split (H.o rfl) (fun hb7 => ?_) (fun hb7 => ?_)
      · have hB1 : (F 3).n = 1 := by have := of_decide_eq_true hb7; omega
        have hBp : 0 < (F 3).v := IR.v_pos (h.ib 3 (by decide)).u (h.ib 3 (by decide)).nm (by omega) hI.bp
        obtain ⟨hBs, hBv⟩ := IR.pos (h.ib 3 (by decide)).u hBp
        have hBA := hI.ba
        refine wp_seq ?_
        obtain ⟨ba, hba, _, hWa⟩ := (h.ib 2 (by decide)).sl.blk (by have := (h.ib 2 (by decide)).sl.le; omega)
        obtain ⟨bb, hbb, _, hWb⟩ := (h.ib 3 (by decide)).sl.blk (by have := (h.ib 3 (by decide)).sl.le; omega)
        have hac := (h.ib 2 (by decide)).c1
        have hbc := (h.ib 3 (by decide)).c1
        rw [hba, hA1] at hac
        rw [hbb, hB1] at hbc
        have hca : 0 < (F 2).c := by have := (h.ib 2 (by decide)).sl.le; omega
        have hcb : 0 < (F 3).c := by have := (h.ib 3 (by decide)).sl.le; omega
        have hA0 := IR.v_one hAs hA1
        have hB0 := IR.v_one hBs hB1
        have hAu := hWa.u 0 hca
        unfold U64 at hAu
        refine regionQ (ls := [_, _, _, _, _, _, _, _, _, _, _, _, _, _]) follows_mixed (by kernel_rfl) (wq H (fun w2 hw2 => Ez.mv H rfl) rfl (jN rfl rfl (jL (fun a H w2 hw2 => Ez.fa82_1 H rfl) rfl (jL (fun a H w2 hw2 => Ez.ld80 H rfl (hw2.cell hac)) rfl (jL (fun a H w2 hw2 => Ez.ix80 H rfl rfl 0 rfl (by omega)) rfl (jL (fun a H w2 hw2 => Ez.ld103 H rfl ((by rw [Nat.zero_add]; exact hw2.cell (hWa.cell hca)))) rfl (jM rfl rfl (jN rfl rfl (jL (fun a H w2 hw2 => Ez.fa82_1 H rfl) rfl (jL (fun a H w2 hw2 => Ez.ld80 H rfl (hw2.cell hbc)) rfl (jL (fun a H w2 hw2 => Ez.ix80 H rfl rfl 0 rfl (by omega)) rfl (jL (fun a H w2 hw2 => Ez.ld103 H rfl ((by rw [Nat.zero_add]; exact hw2.cell (hWb.cell hcb)))) rfl (jA rfl rfl (jA rfl rfl ?_)))))))))))))); clear H a; intro a H
        refine wqe ?_
        intro w1 hw
        have h := h.cd hw
        have hF := hF.trans (hw.fr _)
        clear hw
        rw [← hA0, ← hB0] at H
        rw [← hA0] at hAu
        refine kP [(0, _), (1, _), (2, _), (3, _), (4, _), (11, _), (12, _), (13, _), (14, _), (15, _), (23, _), (24, _)] rfl (kS (kS (kR [_] (kM rfl rfl (kP [(0, _), (1, _), (2, _), (3, _), (4, _), (11, _), (12, _), (13, _), (14, _), (23, _), (24, _), (161, _)] rfl (kW ?_)))))) a H; clear H a; intro a H
        refine wp_cond_true (H.o rfl) (wp_seq (wp_region_lit (l := [_, _, _, _]) (wl H (Ez.asn H rfl) rfl (kA rfl rfl (kA rfl rfl (kA rfl rfl (kP [(0, _), (1, _), (2, _), (3, _), (4, _), (11, _), (12, _), (13, _), (14, _), (23, _), (24, _), (25, _), (26, _), (27, _), (28, _)] rfl (kW (kS (kR [_, _] (kA rfl rfl (kA rfl rfl (kW (kS (kR [_, _] (kA rfl rfl (kA rfl rfl (kW (kS (kR [_] (kA rfl rfl (kW (kS ?_))))))))))))))))))))))); clear H a; intro a H
        refine wp_block ?_
        refine wp_loopN (fun mm a w => ∃ (a1 a2 u1 u2 v1 v2 : Int) (e : Bool), mm = a2.toNat ∧ Hd a 265 [] [(0, .pointer (some ⟨p0 0, 0, none⟩)), (1, .pointer (some ⟨p0 1, 0, none⟩)), (2, .pointer none), (3, .pointer (some ⟨pa, 0, none⟩)), (4, .pointer (some ⟨pb, 0, none⟩)), (11, .pointer (some ⟨p 2, 0, none⟩)), (12, .pointer (some ⟨p 3, 0, none⟩)), (13, .pointer (some ⟨p 4, 0, none⟩)), (14, .pointer (some ⟨p 5, 0, none⟩)), (23, .int .u64 a1), (24, .int .u64 a2), (25, .int .u64 u1), (26, .int .u64 u2), (27, .int .u64 v1), (28, .int .u64 v2), (29, .bool (!e))] ∧ LSt (F 2).v (F 3).v 1 (F 2).v (F 3).v a1 a2 u1 u2 v1 v2 e ∧ (0 < a2 ∨ (u1 ≤ u2 ∧ v1 ≤ v2)) ∧ U64 a1 ∧ u2 < 18446744073709551616 ∧ v2 < 18446744073709551616 ∧ U64 u1 ∧ U64 v1 ∧ Ih B 8 w p F ∧ Fr (Hi B) w0 w) ((F 3).v.toNat) ?_ ?_
        · replace H : Hd a 265 [] [(0, _), (1, _), (2, _), (3, _), (4, _), (11, _), (12, _), (13, _), (14, _), (23, _), (24, _), (25, _), (26, _), (27, _), (28, _), (29, _)] := H.pick [0, 1, 2, 3, 4, 11, 12, 13, 14, 23, 24, 25, 26, 27, 28, 29]
          exact ⟨(F 2).v, (F 3).v, 1, 0, 0, 1, false, rfl, H, LSt.start (by omega) (by omega), .inl hBp, hAu, by decide, by decide, ⟨by decide, by decide⟩, ⟨by decide, by decide⟩, h, hF⟩
        clear H a
        intro mm a w hI9
        obtain ⟨a1, a2, u1, u2, v1, v2, e, hmm, H, hs, hor, ha1, hu2, hv2, hu1, hv1, h, hF⟩ := hI9
        obtain ⟨wW, rfl⟩ : ∃ wW, wW = w := ⟨w, rfl⟩
        have g1 := hs.a21; have g2 := hs.a2p; have g3 := hs.u2p; have g4 := hs.v2p; have g5 := hs.u1p; have g6 := hs.v1p
        unfold U64 at ha1
        refine wp_seq (wp_seq (wp_region_lit (l := [_, _]) (wl H (Ez.mv H rfl) rfl (kL (fun a H => Ez.neq H rfl rfl (rfl)) rfl (kP [(0, _), (1, _), (2, _), (3, _), (4, _), (11, _), (12, _), (13, _), (14, _), (23, _), (24, _), (25, _), (26, _), (27, _), (28, _), (29, _), (163, _)] rfl (kW ?_)))))); clear H a; intro a H
        refine wp_cond_split (H.o rfl) (fun hb9 => ?_) (fun hb9 => ?_)
        · have ha2 : 0 < a2 := by have : a2 ≠ 0 := by simpa using hb9
                                  omega
          obtain ⟨hs1, hq1, hvx, hux⟩ := hs.step0 ha2
          have hm1 := Int.emod_nonneg a1 (show a2 ≠ 0 by omega)
          have hm2 := Int.emod_lt_of_pos a1 ha2
          have hqa : a1 / a2 ≤ a1 := Int.ediv_le_self a2 (by omega)
          have hw64 : IntKind.u64.wrap (a1 / a2) = a1 / a2 := by rw [IntKind.wrap_u64]; exact Int.emod_eq_of_lt (by omega) (by omega)
          have hpu := Int.mul_le_mul_of_nonneg_right hq1 g3
          have hpv := Int.mul_le_mul_of_nonneg_right hq1 (show 0 ≤ v2 by omega)
          rw [Int.one_mul] at hpu hpv
          refine wp_skip (thn (wp_block (wp_seq (regionQ (ls := [_, _, _, _, _, _, _, _]) follows_mixed (by kernel_rfl) (wq H (fun w2 hw2 => Ez.mv H rfl) rfl (jM rfl rfl (jL (fun a H w2 hw2 => Ez.quo H rfl rfl (by omega) (by omega) hw64 rfl) rfl (jM rfl rfl (jM rfl rfl (jL (fun a H w2 hw2 => Ez.rem H rfl rfl (by omega) (by omega) rfl) rfl (jA rfl rfl (jA rfl rfl ?_)))))))))))); clear H a; intro a H
          refine wqe ?_
          intro w1 hw
          have h := h.cd hw
          have hF := hF.trans (hw.fr _)
          clear hw
          refine kP [(0, _), (1, _), (2, _), (3, _), (4, _), (11, _), (12, _), (13, _), (14, _), (23, _), (24, _), (25, _), (26, _), (27, _), (28, _), (29, _), (30, _), (31, _)] rfl (kS (kR [_, _, _, _] (kM rfl rfl (kM rfl rfl (kA rfl rfl (kA rfl rfl (kP [(0, _), (1, _), (2, _), (3, _), (4, _), (11, _), (12, _), (13, _), (14, _), (23, _), (24, _), (25, _), (26, _), (27, _), (28, _), (29, _), (30, _)] rfl (kW (kS (kR [_, _, _, _, _, _, _, _] (kM rfl rfl (kM rfl rfl (kM rfl rfl (kM rfl rfl (kL (fun a H => Ez.mulU (r := (a1 / a2 * u2)) H rfl rfl (by (exact Int.emod_eq_of_lt (by omega) (by omega)))) rfl (kL (fun a H => Ez.addU (r := (u1 + a1 / a2 * u2)) H rfl rfl (by omega)) rfl (kA rfl rfl (kA rfl rfl (kP [(0, _), (1, _), (2, _), (3, _), (4, _), (11, _), (12, _), (13, _), (14, _), (23, _), (24, _), (25, _), (26, _), (27, _), (28, _), (29, _), (30, _)] rfl (kW (kS (kR [_, _, _, _, _, _, _, _] (kM rfl rfl (kM rfl rfl (kM rfl rfl (kM rfl rfl (kL (fun a H => Ez.mulU (r := (a1 / a2 * v2)) H rfl rfl (by (exact Int.emod_eq_of_lt (by omega) (by omega)))) rfl ?_))))))))))))))))))))))))))) a H; clear H a; intro a H
          refine wl H (Ez.addU (r := (v1 + a1 / a2 * v2)) H rfl rfl (by omega)) rfl (kA rfl rfl (kA rfl rfl (kP [(0, _), (1, _), (2, _), (3, _), (4, _), (11, _), (12, _), (13, _), (14, _), (23, _), (24, _), (25, _), (26, _), (27, _), (28, _), (29, _)] rfl (kW (kR [_, _, _] (kM rfl rfl (kL (fun a H => Ez.not H rfl rfl) rfl (kA rfl rfl (kP [(0, _), (1, _), (2, _), (3, _), (4, _), (11, _), (12, _), (13, _), (14, _), (23, _), (24, _), (25, _), (26, _), (27, _), (28, _), (29, _)] rfl ?_))))))))); clear H a; intro a H
          refine wpList_nil ?_
          refine bn (thn ?_)
          replace H : Hd a 265 [] [(0, _), (1, _), (2, _), (3, _), (4, _), (11, _), (12, _), (13, _), (14, _), (23, _), (24, _), (25, _), (26, _), (27, _), (28, _), (29, _)] := H.pick [0, 1, 2, 3, 4, 11, 12, 13, 14, 23, 24, 25, 26, 27, 28, 29]
          exact ⟨(a1 % a2).toNat, by omega, a2, a1 % a2, u2, u1 + a1 / a2 * u2, v2, v1 + a1 / a2 * v2, !e, rfl, H, hs1, .inr ⟨by omega, by omega⟩, ⟨by omega, by omega⟩, by omega, by omega, ⟨by omega, by omega⟩, ⟨by omega, by omega⟩, h, hF⟩
        have ha2 : a2 = 0 := by simpa using hb9
        have hw1 : u1 ≤ u2 ∧ v1 ≤ v2 := by rcases hor with h' | h'; omega; exact h'
        have ha1p : 0 < a1 := by
          by_cases h0 : 0 < a1
          · exact h0
          exfalso
          have h1 : a1 = 0 := by omega
          have hux := hs.ux
          rw [h1, ha2] at hux
          simp at hux; omega
        have hG0 := hI.word (by rw [← ha2]; exact hs) ha1p hw1.1 hw1.2
        refine wp_exit (thx (thx (bxe (thn (wp_seq (wp_region_lit (l := [_, _, _, _, _, _]) (wl H (Ez.mv H rfl) rfl (kM rfl rfl (kM rfl rfl (kL (fun a H => Ez.not H rfl rfl) rfl (kM rfl rfl ?_))))))))))); clear H a; intro a H
        refine wk H cf106 (intMulW (p 4) (p 4) (!(!e)) u1 (F 4) (F 4) wW (h.ib 4 (by decide)) (h.ib 4 (by decide)) (by omega) hu1) rfl rfl ?_
        rintro _ w1 ⟨r1, rfl, k1, k1v, k1n, _⟩
        refine ⟨_, rfl, ?_⟩; clear H a; intro a H
        obtain ⟨F1, h1, e1, o1, f1⟩ := h.upd' (i := 4) (by decide) k1
        obtain ⟨wX, rfl⟩ : ∃ wX, wX = w1 := ⟨w1, rfl⟩
        have x5 := o1 5 (by decide); have x2 := o1 2 (by decide)
        refine kP [(0, _), (1, _), (2, _), (3, _), (4, _), (11, _), (12, _), (13, _), (14, _), (23, _), (27, _), (29, _)] rfl (kW (kS (kR [_, _, _, _, _] (kM rfl rfl (kM rfl rfl (kM rfl rfl (kM rfl rfl ?_))))))) a H; clear H a; intro a H
        refine wk H cf106 (intMulW (p 5) (p 5) (!e) v1 (F1 5) (F1 5) wX (h1.ib 5 (by decide)) (h1.ib 5 (by decide)) (by rw [x5]; omega) hv1) rfl rfl ?_
        rintro _ w1 ⟨r2, rfl, k2, k2v, k2n, _⟩
        refine ⟨_, rfl, ?_⟩; clear H a; intro a H
        rw [x5] at k2v k2n
        obtain ⟨F2, h2, e2, o2, f2⟩ := h1.upd' (i := 5) (by decide) k2
        obtain ⟨wY, rfl⟩ : ∃ wY, wY = w1 := ⟨w1, rfl⟩
        have y4 := (o2 4 (by decide)).trans e1; have y2 := (o2 2 (by decide)).trans x2
        refine kP [(0, _), (1, _), (2, _), (3, _), (4, _), (11, _), (12, _), (13, _), (14, _), (23, _)] rfl (kW (kR [_, _, _, _] (kM rfl rfl (kM rfl rfl (kM rfl rfl ?_))))) a H; clear H a; intro a H
        refine wk H cf75 (intAdd (p 4) (p 4) (p 5) (F2 4) (F2 4) (F2 5) wY (h2.ib 4 (by decide)) (h2.ib 4 (by decide)) (h2.ib 5 (by decide)) (by rw [y4]; omega) (by rw [e2]; omega)) rfl rfl ?_
        rintro _ w1 ⟨r3, rfl, k3, k3v, k3n⟩
        refine ⟨_, rfl, ?_⟩; clear H a; intro a H
        rw [y4, e2] at k3v k3n
        obtain ⟨F3, h3, e3, o3, f3⟩ := h2.upd' (i := 4) (by decide) k3
        obtain ⟨wZ, rfl⟩ : ∃ wZ, wZ = w1 := ⟨w1, rfl⟩
        have z2 := (o3 2 (by decide)).trans y2
        have hF3 := ((hF.trans f1).trans f2).trans f3
        refine kP [(0, _), (1, _), (2, _), (3, _), (4, _), (11, _), (12, _), (13, _), (23, _)] rfl (kW ?_) a H; clear H a; intro a H
        have hA3 := (h3.ib 2 (by decide))
        rw [z2] at hA3
        obtain ⟨ba, hba, _, hWa⟩ := hA3.sl.blk hca
        have hac := hA3.c1
        rw [hba, hA1] at hac
        have hZw := hA3.word hba hWa rfl hA1 ha1 (by omega)
        rw [← z2] at hZw
        refine wp_region_lit (l := [_, _, _, _, _, _, _]) (wl H (Ez.mv H rfl) rfl (kN rfl rfl (kL (fun a H => Ez.fa82_1 H rfl) rfl (kL (fun a H => Ez.ld80 H rfl (hac)) rfl (kM rfl rfl (kL (fun a H => Ez.ix80 H rfl rfl 0 rfl (by omega)) rfl ?_)))))); clear H a; intro a H
        refine wls H (Ez.st103 H rfl rfl rfl (hWa.cell (by omega)) (hWa.fz _)) ?_; clear H; intro H
        refine kP [(0, _), (1, _), (2, _), (3, _), (4, _), (11, _), (12, _), (13, _)] rfl (kW ?_) a H; clear H a; intro a H
        obtain ⟨F4, h, e4, o4, f4⟩ := h3.upd' (i := 2) (by decide) hZw
        have hF := hF3.trans f4
        have hG : Gx (nv ra.X ra.n) (nv rb.X rb.n) (F4 2).v (F4 4).v := by
          have g2 : (F4 2).v = a1 := by rw [e4]; simp [IR.v, z2, hAs, hA1, nv, up]
          have g4 : (F4 4).v = sg e * (F 4).v * u1 + sg (!e) * (F 5).v * v1 := by rw [o4 4 (by decide), e3, k3v, k1v, k2v, Bool.not_not]
          rw [g2, g4]; exact hG0
        have hn4 : (F4 2).n ≤ 4 := by rw [e4]; show (F3 2).n ≤ 4; rw [z2]; exact hn4
        have hu4 : (F4 4).n ≤ 500 := by rw [o4 4 (by decide), e3]; omega
        replace H : Hd a 265 [] [(0, _), (1, _), (2, _), (3, _), (11, _), (13, _)] := H.pick [0, 1, 2, 3, 11, 13]
        exact ⟨p, _, H, h, hp0, hp1, hG, hn4, by omega, hF⟩
      have hB0 : (F 3).n = 0 := by have := of_decide_eq_false hb7; omega
      have hG : Gx (nv ra.X ra.n) (nv rb.X rb.n) (F 2).v (F 4).v := by have hh := hI; rw [IR.v_zero hB0] at hh; exact hh.done
      refine wp_skip (thn ?_)
      replace H : Hd a 265 [] [(0, _), (1, _), (2, _), (3, _), (11, _), (13, _)] := H.pick [0, 1, 2, 3, 11, 13]
      exact ⟨p, _, H, h, hp0, hp1, hG, hn4, by omega, hF⟩
    have hB0 : (F 3).n = 0 := by have := of_decide_eq_false hb5; omega
    have hG : Gx (nv ra.X ra.n) (nv rb.X rb.n) (F 2).v (F 4).v := by have hh := hI; rw [IR.v_zero hB0] at hh; exact hh.done
    refine wp_skip (thn ?_)
    replace H : Hd a 265 [] [(0, _), (1, _), (2, _), (3, _), (11, _), (13, _)] := H.pick [0, 1, 2, 3, 11, 13]
    exact ⟨p, _, H, h, hp0, hp1, hG, hn4, by omega, hF⟩
  clear H a
  intro a w hJ
  obtain ⟨p, F, H, h, hp0, hp1, hG, hn4, hu4, hF⟩ := hJ
  obtain ⟨wL, rfl⟩ : ∃ wL, wL = w := ⟨w, rfl⟩
  have hcn := (haI.hi hF hpaB hraB).c0
  rw [has] at hcn
  rw [← hp0, ← hp1] at H
  refine wp_seq (wp_region_lit (l := [_, _, _, _, _]) (wl H (Ez.mv H rfl) rfl (kN rfl rfl (kL (fun a H => Ez.fa82_0 H rfl) rfl (kL (fun a H => Ez.ld4 H rfl (hcn)) rfl (kA rfl rfl (kP [(0, _), (1, _), (2, _), (3, _), (11, _), (13, _), (32, _)] rfl (kW (kS (kS (kR [_, _] (kM rfl rfl (kL (fun a H => Ez.neN78 H rfl rfl (r := false) rfl) rfl (kP [(0, _), (1, _), (2, _), (3, _), (11, _), (13, _), (32, _), (218, _)] rfl (kW ?_))))))))))))))); clear H a; intro a H
  refine wp_cond_false (H.o rfl) (wp_skip (thn (wp_seq (wp_seq (wp_region_lit (l := [_, _]) (wl H (Ez.mv H rfl) rfl (kL (fun a H => Ez.neN78 H rfl rfl (r := true) rfl) rfl (kP [(0, _), (1, _), (11, _), (13, _), (32, _), (248, _)] rfl (kW ?_))))))))); clear H a; intro a H
  refine wp_cond_true (H.o rfl) (wp_seq (wp_region_lit (l := [_, _, _]) (wl H (Ez.mv H rfl) rfl (kM rfl rfl ?_)))); clear H a; intro a H
  refine wk H cf76 (intSet (p 1) (p 4) (F 1) (F 4) wL (h.ib 1 (by decide)) (h.ib 4 (by decide)) (h.ne 1 (by decide) 4 (by decide) (by decide)) (by omega)) rfl rfl ?_
  rintro _ w1 ⟨r1, rfl, k1, k1v, k1s, k1n⟩
  refine ⟨_, rfl, ?_⟩; clear H a; intro a H
  obtain ⟨F1, h1, e1, o1, f1⟩ := h.upd' (i := 1) (by decide) k1
  obtain ⟨wX, rfl⟩ : ∃ wX, wX = w1 := ⟨w1, rfl⟩
  have x2 := o1 2 (by decide)
  refine kP [(0, _), (1, _), (11, _), (32, _)] rfl (kW (kS (kR [_] (kM rfl rfl (kP [(0, _), (1, _), (11, _), (252, _)] rfl (kW ?_)))))) a H; clear H a; intro a H
  refine wp_cond_false (H.o rfl) (wp_skip (thn (wp_seq (wp_region_lit (l := [_, _, _]) (wl H (Ez.mv H rfl) rfl (kM rfl rfl ?_)))))); clear H a; intro a H
  refine wk H cf76 (intSet (p 0) (p 2) (F1 0) (F1 2) wX (h1.ib 0 (by decide)) (h1.ib 2 (by decide)) (h1.ne 0 (by decide) 2 (by decide) (by decide)) (by rw [x2]; omega)) rfl rfl ?_
  rintro _ w1 ⟨r2, rfl, k2, k2v, k2s, k2n⟩
  refine ⟨_, rfl, ?_⟩; clear H a; intro a H
  obtain ⟨F2, h2, e2, o2, f2⟩ := h1.upd' (i := 0) (by decide) k2
  rw [x2] at k2v k2s k2n
  refine kP [(0, _)] rfl (kW (kS (kR [_, _] (kM rfl rfl (kA rfl rfl (kP [(10, _)] rfl (kW ?_))))))) a H; clear H a; intro a H
  refine wp_ret ?_
  refine rt1 H rfl rfl ?_
  have hg2 : (F2 0).v = (F 2).v := by rw [e2, k2v]
  have hg1' : (F2 1).v = (F 4).v := by rw [o2 1 (by decide), e1, k1v]
  refine ⟨F2, by rw [hp0], (h2.cut (by decide)).congr (fun i hi => ?_), by rw [hg2, hg1']; exact hG, by rw [e2, k2n]; exact hn4, by rw [o2 1 (by decide), e1, k1n]; exact hu4, (hF.trans f1).trans f2⟩
  match i, hi with
  | 0, _ => exact hp0
  | 1, _ => exact hp1
end
end Go.Proofs.YtijgloklmiokhaaGreatDoor
