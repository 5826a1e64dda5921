/-
  Seat b1973a: LawS1973CNotJustUsed: the walk.
-/
import Derived.Test.YbulkanvkVictim
namespace Go.Proofs.Ybulkanvk
open Go.RowKit

/-- A slice of steps that came in: the element j's set and way. -/
structure Steps (w : World) (a : Option Addr) (len : Nat) (S W : Nat → Int) : Prop where
  bd : ∀ j, 0 ≤ S j ∧ S j ≤ 255 ∧ 0 ≤ W j ∧ W j ≤ 255
  cell : ∀ j, j < len → ∃ b off, a = some ⟨b, off, none⟩ ∧ b < w.heap.size ∧ w.cell? ⟨b, off + j * 2, none⟩ = some (.int .u8 (S j)) ∧ w.cell? ⟨b, off + j * 2 + 1, none⟩ = some (.int .u8 (W j))

theorem emod_nat (x : Int) (n : Nat) (hn : 0 < n) : ∃ s : Nat, x % (n : Int) = (s : Int) ∧ s < n := by
  refine ⟨(x % (n : Int)).toNat, ?_, ?_⟩
  · have := Int.emod_nonneg x (show (n : Int) ≠ 0 by omega); omega
  · have := Int.emod_lt_of_pos x (show (0 : Int) < (n : Int) by omega); have := Int.emod_nonneg x (show (n : Int) ≠ 0 by omega); omega

theorem tmod_nat (x : Int) (n s : Nat) (h0 : 0 ≤ x) (h1 : x ≤ 255) (h : x % (n : Int) = (s : Int)) : (IntKind.i64.wrap x).tmod (n : Int) = (s : Int) := by
  have e : IntKind.i64.wrap x = x := by rw [IntKind.wrap_i64]; omega
  rw [e, Int.tmod_eq_emod_of_nonneg h0]; exact h

theorem walkNJ_big (x0 x1 : Int) (a : Option Addr) (len cap : Nat) (ls lw : Int) (w : World) (h : 1024 < len) :
    Calls Yba.prog 6 #[.int .u8 x0, .int .u8 x1, .slice a len cap, .agg #[.int .u8 ls, .int .u8 lw]] w fun e w' => e = .returned (.bool true) ∧ Below w.heap.size w w' := by
  have g1 : (1024 : Int) < (len : Int) := by omega
  go_enter Yba.func6, Yba.ntmps6
  go_wp2
  go_ret
  exact ⟨rfl, (Below.refl _ _).alloc (Nat.le_refl _) _⟩

theorem idx_lt {s ns wy na : Nat} (h1 : s < ns) (h2 : wy < na) : s * na + wy < ns * na := by
  have : (s + 1) * na ≤ ns * na := Nat.mul_le_mul_right _ h1
  rw [Nat.add_mul] at this; omega

theorem idx_le {s ns na : Nat} (h1 : s < ns) : s * na + na ≤ ns * na := by
  have : (s + 1) * na ≤ ns * na := Nat.mul_le_mul_right _ h1
  rw [Nat.add_mul] at this; omega

theorem below_drewN {B : Nat} {a w : World} (h : Below B a w) (m : Nat) : Below B a (w.drewN m) := ⟨h.os, h.tape, h.output, h.size, h.block⟩

theorem getD_set (L : List Int) (i j : Nat) (v : Int) : (L.set i v).getD j 0 = if i = j ∧ j < L.length then v else L.getD j 0 := by
  simp only [List.getD, List.getElem?_set]
  by_cases h : i = j
  · subst h
    by_cases hl : i < L.length
    · simp [hl]
    · simp [hl]
  · simp [h]

theorem set_bd (L : List Int) (i : Nat) (k : Nat) (h : ∀ j, L.getD j 0 ≤ (k : Int)) : ∀ j, (L.set i ((k : Int) + 1)).getD j 0 ≤ ((k + 1 : Nat) : Int) := by
  intro j
  rw [getD_set]
  split
  · omega
  · have := h j; omega

/-- The way just used is not the victim. -/
theorem not_just (L : List Int) (o na wy k : Nat) (hna : 2 ≤ na) (h : ∀ j, L.getD j 0 ≤ (k : Int)) (hl : o + wy < L.length) : vicTo (L.set (o + wy) ((k : Int) + 1)) o na ≠ wy := by
  intro e
  obtain ⟨j, hj, hne⟩ : ∃ j, j < na ∧ j ≠ wy := by
    by_cases h0 : wy = 0
    · exact ⟨1, by omega, by omega⟩
    · exact ⟨0, by omega, by omega⟩
  have h1 := vicTo_le (L.set (o + wy) ((k : Int) + 1)) o na j hj
  rw [e, getD_set, getD_set, if_pos ⟨rfl, hl⟩, if_neg (by omega)] at h1
  have := h (o + j)
  omega

set_option maxHeartbeats 1000000 in
set_option maxRecDepth 100000 in
theorem walkNJ (x0 x1 : Int) (a : Option Addr) (len cap : Nat) (S W : Nat → Int) (ls lw : Int) (w : World) (h0 : 0 ≤ x0) (h0' : x0 ≤ 255) (h1 : 0 ≤ x1) (h1' : x1 ≤ 255) (hlen : len ≤ 1024)
    (hS : Steps w a len S W) (hl0 : 0 ≤ ls) (hl1 : ls ≤ 255) (hw0 : 0 ≤ lw) (hw1 : lw ≤ 255) :
    Calls Yba.prog 6 #[.int .u8 x0, .int .u8 x1, .slice a len cap, .agg #[.int .u8 ls, .int .u8 lw]] w fun e w' => e = .returned (.bool true) ∧ Below w.heap.size w w' := by
  obtain ⟨ns, ens, hns0, hns1⟩ : ∃ ns : Nat, x0 % 8 + 1 = (ns : Int) ∧ 0 < ns ∧ ns ≤ 8 := ⟨(x0 % 8 + 1).toNat, by omega, by omega, by omega⟩
  obtain ⟨na, ena, hna0, hna1⟩ : ∃ na : Nat, x1 % 7 + 2 = (na : Int) ∧ 2 ≤ na ∧ na ≤ 8 := ⟨(x1 % 7 + 2).toNat, by omega, by omega, by omega⟩
  obtain ⟨s, es, hs⟩ := emod_nat ls ns hns0
  obtain ⟨wy, ew, hw⟩ := emod_nat lw na (by omega)
  have hg : decide ((1024 : Int) < (len : Int)) = false := decide_eq_false (by omega)
  have hnp : (0 : Int) < (ns : Int) := by omega
  have hap : (0 : Int) < (na : Int) := by omega
  have hnz : ¬ ns = 0 := by omega
  have haz : ¬ na = 0 := by omega
  go_enter Yba.func6, Yba.ntmps6
  go_wp2_with fail
  refine (newLRU_any ns na _ (by omega) (by omega)).mono ?_
  rintro e w1 ⟨rfl, hL0, hb0, hz0⟩
  have hsz : (w.alloc (Obj.cells #[Value.int IntKind.u8 ls, Value.int IntKind.u8 lw] 61)).heap.size = w.heap.size + 1 := by simp
  have h12 : w.heap.size + 1 + 1 = w.heap.size + 2 := rfl
  rw [hsz] at hL0 hb0 hz0
  rw [h12] at hL0
  rw [hsz, h12]
  have hbw : Below w.heap.size w w1 := ((Below.refl _ _).alloc (Nat.le_refl _) _).trans (hb0.mono (by omega))
  have f0 : w1.cell? ⟨w.heap.size, 0, none⟩ = some (.int .u8 ls) := by
    rw [hb0.cell (p := ⟨w.heap.size, 0, none⟩) (by simp), World.cell?_alloc_at _ _ _ _ rfl]; rfl
  have f1 : w1.cell? ⟨w.heap.size, 1, none⟩ = some (.int .u8 lw) := by
    rw [hb0.cell (p := ⟨w.heap.size, 1, none⟩) (by simp), World.cell?_alloc_at _ _ _ _ rfl]; rfl
  have HL0 := Hid.mk hL0
  have HBW := Hid.mk hbw
  have HF0 := Hid.mk f0
  have HF1 := Hid.mk f1
  have HS := Hid.mk hS
  have hz1 : w.heap.size + 3 ≤ w1.heap.size := by omega
  clear hL0 hb0 hz0 hsz hbw f0 f1 hS h12
  go_wp2
  go_loopg [32] len (fun gk tk wx => ∃ (k : Nat) (L : List Int), k ≤ len ∧ gk = len - k ∧ tk = .int .i64 k ∧ Hid (Lru (w.heap.size + 1) (w.heap.size + 2) na (ns * na) wx L k) ∧ Hid (∀ j, L.getD j 0 ≤ (k : Int)) ∧ Hid (Kept (fun j => j ≠ w.heap.size + 1 ∧ j ≠ w.heap.size + 2) w1 wx))
  case atStart => exact ⟨0, _, by omega, rfl, rfl, HL0, (by intro j; simp only [List.getD, List.getElem?_replicate]; split <;> simp), Kept.refl _ _⟩
  case round =>
    obtain ⟨k, L, hk, rfl, rfl, HL, HB, HK⟩ := hrel
    clear HL0
    by_cases hlt : k < len
    · obtain ⟨b, off, rfl, hbb, hc1, hc2⟩ := HS.out.cell k hlt
      obtain ⟨sv, HSV, b1, b2, hc1⟩ : ∃ sv, Hid (sv = S k) ∧ 0 ≤ sv ∧ sv ≤ 255 ∧ w.cell? ⟨b, off + k * 2, none⟩ = some (.int .u8 sv) := ⟨_, rfl, (HS.out.bd k).1, (HS.out.bd k).2.1, hc1⟩
      obtain ⟨wv, HWV, b3, b4, hc2⟩ : ∃ wv, Hid (wv = W k) ∧ 0 ≤ wv ∧ wv ≤ 255 ∧ w.cell? ⟨b, off + k * 2 + 1, none⟩ = some (.int .u8 wv) := ⟨_, rfl, (HS.out.bd k).2.2.1, (HS.out.bd k).2.2.2, hc2⟩
      have d1 : wr.cell? ⟨b, off + k * 2, none⟩ = some (.int .u8 sv) := HK.out.cell ((HBW.out.cell (p := ⟨b, off + k * 2, none⟩) hbb).trans hc1) (by simp; omega)
      have d2 : wr.cell? ⟨b, off + k * 2 + 1, none⟩ = some (.int .u8 wv) := HK.out.cell ((HBW.out.cell (p := ⟨b, off + k * 2 + 1, none⟩) hbb).trans hc2) (by simp; omega)
      obtain ⟨si, esi, hsi⟩ := emod_nat sv ns hns0
      obtain ⟨wi, ewi, hwi⟩ := emod_nat wv na (by omega)
      clear hc1 hc2 HSV HWV
      have HT1 := Hid.mk (tmod_nat sv ns si b1 b2 esi)
      have HT2 := Hid.mk (tmod_nat wv na wi b3 b4 ewi)
      have hU := Hid.mk (used_any (w.heap.size + 1) (w.heap.size + 2) na (ns * na) L k si wi (si * na + wi) wr.drew HL.out.drew (by omega) (by omega) (by omega) rfl (idx_lt hsi hwi) (by omega) (by omega))
      go_wp2
      go_region_held3 (fun w' => w'.cell? ⟨b, off + k * 2, none⟩ = some (.int .u8 sv) ∧ w'.cell? ⟨b, off + k * 2 + 1, none⟩ = some (.int .u8 wv)) (go_keep)
        (first | (go_at_call 11; rw [HT1.out, HT2.out]; refine hU.out.mono ?_; rintro e w' ⟨rfl, hL', hK'⟩; have j1 := hK'.cell (ad := ⟨b, off + k * 2, none⟩) d1 (by simp; omega); have j2 := hK'.cell (ad := ⟨b, off + k * 2 + 1, none⟩) d2 (by simp; omega)))
      go_wp2
      go_roundg (len - (k + 1))
      case measure => omega
      case rel => exact ⟨k + 1, L.set (si * na + wi) (k + 1), by omega, rfl, by go_num, Hid.mk (by simpa using hL'), set_bd L (si * na + wi) k HB.out, HK.out.drew.trans hK'⟩
    · obtain rfl : k = len := by omega
      have f0 : wr.cell? ⟨w.heap.size, 0, none⟩ = some (.int .u8 ls) := HK.out.cell HF0.out (by simp)
      have f1 : wr.cell? ⟨w.heap.size, 1, none⟩ = some (.int .u8 lw) := HK.out.cell HF1.out (by simp)
      have hU := Hid.mk (used_any (w.heap.size + 1) (w.heap.size + 2) na (ns * na) L k s wy (s * na + wy) wr HL.out (by omega) (by omega) (by omega) rfl (idx_lt hs hw) (by omega) (by omega))
      go_wp2_with fail
      refine hU.out.mono ?_
      rintro e w2 ⟨rfl, hL2, hK2⟩
      have hV := Hid.mk (victim_any (w.heap.size + 1) (w.heap.size + 2) na (ns * na) _ _ s (s * na) w2 hL2 (by omega) (by omega) (by omega) rfl (idx_le hs))
      have hvl := vicTo_lt (L.set (s * na + wy) ((k : Int) + 1)) (s * na) na
      have hvn := not_just L (s * na) na wy k (by omega) HB.out (by have := HL.out.len; have := idx_lt hs hw; omega)
      generalize vicTo (L.set (s * na + wy) ((k : Int) + 1)) (s * na) na = v at hV hvl hvn
      have HK2 := Hid.mk (HK.out.trans hK2)
      clear hL2 hK2 hU f0 f1
      go_wp2_with fail
      refine hV.out.mono ?_
      rintro e w3 ⟨rfl, m, hw3⟩
      rw [hw3]
      have hb0 : (0 : Int) ≤ (v : Int) := by omega
      have hb1 : (v : Int) < (na : Int) := by omega
      have hb2 : ((v : Int) != (wy : Int)) = true := by rw [bne_iff_ne]; omega
      clear hV hw3 w3
      go_wp2
      go_ret
      exact ⟨rfl, below_drewN (HBW.out.trans ((HK2.out.mono (fun j hj hj2 => ⟨by omega, by omega⟩)).below (by omega))) m⟩

end Go.Proofs.Ybulkanvk
