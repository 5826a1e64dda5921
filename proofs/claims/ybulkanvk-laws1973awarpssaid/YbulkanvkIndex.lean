/-
  Seat b1973a: LawS1973AIndex: the walk.
-/
import Derived.Test.YbulkanvkCta1
namespace Go.Proofs.Ybulkanvk
open Go.RowKit

theorem index_back (X Y n : Nat) : n % X + X * (n / X % Y + Y * (n / (X * Y))) = n := by
  rw [← Nat.div_div_eq_div_mul, Nat.mod_add_div, Nat.mod_add_div]

theorem emod_nat' (x : Int) (n : Nat) (hn : 0 < n) : ∃ s : Nat, x % (n : Int) = (s : Int) ∧ s < n := by
  refine ⟨(x % (n : Int)).toNat, ?_, ?_⟩
  · have := Int.emod_nonneg x (show (n : Int) ≠ 0 by omega); omega
  · have := Int.emod_lt_of_pos x (show (0 : Int) < (n : Int) by omega); have := Int.emod_nonneg x (show (n : Int) ≠ 0 by omega); omega

/-- The kernel that the law makes: two new blocks. -/
theorem kat_new (w : World) (E : Array Value) (gx gy gz bx by' bz dy eo nr : Nat) (ra : Option Addr) (rc : Nat) (h5 : E[5]? = some (.slice ra nr rc)) (h9 : E[9]? = some (.int .i64 eo)) :
    KAt ((w.alloc (.cells E 30)).alloc (.cells #[.pointer (some ⟨w.heap.size, 0, none⟩), .int .u32 gx, .int .u32 gy, .int .u32 gz, .int .u32 bx, .int .u32 by', .int .u32 bz, .slice none 0 0, .pointer none, .int .i64 dy, .int .i64 0] 37))
      (w.heap.size + 1) w.heap.size gx gy gz bx by' bz dy eo nr := by
  have n1 := one_new w (.cells E 30)
  have n2 := one_new (w.alloc (.cells E 30)) (.cells #[.pointer (some ⟨w.heap.size, 0, none⟩), .int .u32 gx, .int .u32 gy, .int .u32 gz, .int .u32 bx, .int .u32 by', .int .u32 bz, .slice none 0 0, .pointer none, .int .i64 dy, .int .i64 0] 37)
  rw [n1.2] at n2
  have m1 := ((Ext.refl (w.alloc (.cells E 30))).alloc (.cells #[.pointer (some ⟨w.heap.size, 0, none⟩), .int .u32 gx, .int .u32 gy, .int .u32 gz, .int .u32 bx, .int .u32 by', .int .u32 bz, .slice none 0 0, .pointer none, .int .i64 dy, .int .i64 0] 37)).blk n1.1
  refine ⟨?_, ?_, ?_, ?_, ?_, ?_, ?_, ?_, ⟨ra, rc, ?_⟩, ?_⟩
  all_goals first
    | (rw [cell_of_row _ _ _ _ 37 (0, 0) n2.1]; rfl)
    | (rw [cell_of_row _ _ _ _ 30 (0, 0) m1]; first | exact h5 | exact h9)

set_option maxHeartbeats 1000000 in
set_option maxRecDepth 100000 in
theorem walkI (x0 x1 x2 x3 : Int) (w : World) (h0 : 0 ≤ x0) (h0' : x0 ≤ 255) (h1 : 0 ≤ x1) (h1' : x1 ≤ 255) (h2 : 0 ≤ x2) (h2' : x2 ≤ 255) (h3 : 0 ≤ x3) :
    Calls Yba.prog 4 #[.int .u8 x0, .int .u8 x1, .int .u8 x2, .int .u64 x3] w fun e w' => e = .returned (.bool true) ∧ Below w.heap.size w w' := by
  obtain ⟨X, eX, hX0, hX1⟩ : ∃ X : Nat, 1 + x0 % 16 = (X : Int) ∧ 0 < X ∧ X ≤ 16 := ⟨(1 + x0 % 16).toNat, by omega, by omega, by omega⟩
  obtain ⟨Y, eY, hY0, hY1⟩ : ∃ Y : Nat, 1 + x1 % 16 = (Y : Int) ∧ 0 < Y ∧ Y ≤ 16 := ⟨(1 + x1 % 16).toNat, by omega, by omega, by omega⟩
  obtain ⟨Z, eZ, hZ0, hZ1⟩ : ∃ Z : Nat, 1 + x2 % 16 = (Z : Int) ∧ 0 < Z ∧ Z ≤ 16 := ⟨(1 + x2 % 16).toNat, by omega, by omega, by omega⟩
  have hXY := Nat.mul_le_mul hX1 hY1
  have hXYZ := Nat.mul_le_mul hXY hZ1
  obtain ⟨N, hN⟩ : ∃ N, N = X * Y * Z := ⟨_, rfl⟩
  have hN0 : 0 < N := by rw [hN]; exact Nat.mul_pos (Nat.mul_pos hX0 hY0) hZ0
  have eN : (X : Int) * (Y : Int) * (Z : Int) = (N : Int) := by rw [hN]; simp
  have p0 : (0 : Int) ≤ (X : Int) * (Y : Int) := by rw [← Int.natCast_mul]; omega
  have p1 : (X : Int) * (Y : Int) ≤ 256 := by rw [← Int.natCast_mul]; omega
  have hN1 : N ≤ 4096 := by omega
  obtain ⟨n, en, hn⟩ := emod_nat' x3 N hN0
  have hNz : ¬ N = 0 := by omega
  have hNp : (0 : Int) < (N : Int) := by omega
  have HC := Hid.mk (index_back X Y n)
  have hcz : n / (X * Y) < Z := by
    rw [Nat.div_lt_iff_lt_mul (Nat.mul_pos hX0 hY0), Nat.mul_comm]; omega
  have haX : n % X < X := Nat.mod_lt _ hX0
  have hbY : n / X % Y < Y := Nat.mod_lt _ hY0
  obtain ⟨a, ha⟩ : ∃ a, a = n % X := ⟨_, rfl⟩
  obtain ⟨b, hb⟩ : ∃ b, b = n / X % Y := ⟨_, rfl⟩
  obtain ⟨c, hc⟩ : ∃ c, c = n / (X * Y) := ⟨_, rfl⟩
  rw [← ha] at haX HC
  rw [← hb] at hbY HC
  rw [← hc] at hcz HC
  have HA := Hid.mk ha
  have HB := Hid.mk hb
  have HCC := Hid.mk hc
  clear ha hb hc hN hXY hXYZ
  go_enter Yba.func4, Yba.ntmps4
  go_wp2_with fail
  refine (newCTA_any (w.heap.size + 1) w.heap.size X Y Z 1 1 1 0 0 0 n a b c _ (kat_new w _ X Y Z 1 1 1 0 0 0 none 0 rfl rfl) hX0 hY0 (by omega) (by omega) (by omega) HA.out HB.out HCC.out (by omega) (by omega) (by omega) (by omega) (by omega) (by omega) (by omega)).mono ?_
  rintro e w2 ⟨cq, sm, wm, d, v, ps, rfl, hD⟩
  have hbel : Below w.heap.size w w2 := (((Ext.refl w).alloc _).alloc _).trans hD.made.ext |>.below
  have c0 : w2.cell? ⟨cq, 0, none⟩ = some (.int .u32 a) := by rw [cell_of_row w2 cq 0 _ 42 (0, 0) hD.made.cta]; rfl
  have c1 : w2.cell? ⟨cq, 1, none⟩ = some (.int .u32 b) := by rw [cell_of_row w2 cq 1 _ 42 (0, 0) hD.made.cta]; rfl
  have c2 : w2.cell? ⟨cq, 2, none⟩ = some (.int .u32 c) := by rw [cell_of_row w2 cq 2 _ 42 (0, 0) hD.made.cta]; rfl
  have HBel := Hid.mk hbel
  clear hD hbel HA HB HCC
  have hYc := Nat.mul_le_mul hY1 (show c ≤ 16 by omega)
  have hXc := Nat.mul_le_mul hX1 (show b + Y * c ≤ 272 by omega)
  have r0 : (0 : Int) ≤ (Y : Int) * (c : Int) := by rw [← Int.natCast_mul]; omega
  have r1 : (Y : Int) * (c : Int) ≤ 256 := by rw [← Int.natCast_mul]; omega
  have r2 : (X : Int) * ((b : Int) + (Y : Int) * (c : Int)) = (n : Int) - (a : Int) := by
    have h := HC.out
    have h' : ((a + X * (b + Y * c) : Nat) : Int) = (n : Int) := by rw [h]
    simp only [Int.natCast_add, Int.natCast_mul] at h'
    omega
  clear hYc hXc HC
  go_wp2
  go_ret
  exact ⟨ret_bool (by rw [beq_iff_eq]; omega), HBel.out.alloc HBel.out.size _⟩

end Go.Proofs.Ybulkanvk
