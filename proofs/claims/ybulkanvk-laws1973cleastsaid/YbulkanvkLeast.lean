/-
  Seat b1973a: LawS1973CLeast: the walk.
-/
import Derived.Test.YbulkanvkNotJust
namespace Go.Proofs.Ybulkanvk
open Go.RowKit

theorem walkL_big (x0 x1 : Int) (a : Option Addr) (len cap : Nat) (w : World) (h : 1024 < len) :
    Calls Yba.prog 5 #[.int .u8 x0, .int .u8 x1, .slice a len cap] w fun e w' => e = .returned (.bool true) ∧ Below w.heap.size w w' := by
  have g1 : (1024 : Int) < (len : Int) := by omega
  go_enter Yba.func5, Yba.ntmps5
  go_wp2
  go_ret
  exact ⟨rfl, Below.refl _ _⟩

/-- The policy and the model's own stamps, one list. -/
structure Both (B na n : Nat) (w : World) (L : List Int) (u : Int) : Prop where
  lru : Lru B (B + 1) na n w L u
  mod : w.heap[B + 2]? = some (.cells (L.map (Value.int .u64)).toArray 23 (0, 0))

theorem Both.mAt {B na n : Nat} {w : World} {L : List Int} {u : Int} (h : Both B na n w L u) (j : Nat) (hj : j < n) : w.cell? ⟨B + 2, j, none⟩ = some (.int .u64 (L.getD j 0)) := by
  rw [cell_of_row w (B + 2) j _ 23 (0, 0) h.mod]
  have := h.lru.len
  simp [List.getD, show j < L.length by omega]

theorem Both.step {B na n : Nat} {w w1 : World} {L : List Int} {u : Int} (h : Both B na n w L u) (j : Nat) (hL : Lru B (B + 1) na n w1 (L.set j (u + 1)) (u + 1)) (hK : Kept (fun k => k ≠ B ∧ k ≠ B + 1) w w1) :
    Both B na n (w1.setCell ⟨B + 2, j, none⟩ (.int .u64 (u + 1))) (L.set j (u + 1)) (u + 1) ∧ Kept (· < B) w (w1.setCell ⟨B + 2, j, none⟩ (.int .u64 (u + 1))) := by
  have hm : w1.heap[B + 2]? = some (.cells (L.map (Value.int .u64)).toArray 23 (0, 0)) := (hK.block (B + 2) (Array.getElem?_eq_some_iff.1 h.mod).1 ⟨by omega, by omega⟩).trans h.mod
  refine ⟨⟨⟨hL.len, hL.ne, ?_, ?_⟩, ?_⟩, (hK.mono (fun k _ hk => ⟨by omega, by omega⟩)).setCell _ _ (by simp)⟩
  · rw [heap_setCell_other _ _ _ _ (by simp)]; exact hL.row
  · rw [heap_setCell_other _ _ _ _ (by simp)]; exact hL.obj
  · rw [heap_setCell_same w1 (B + 2) j _ 23 _ hm]; simp [List.map_set]

theorem drewN_drewN (w : World) (m m' : Nat) : (w.drewN m).drewN m' = w.drewN (m + m') := by simp [World.drewN, Nat.add_assoc]
theorem Both.drewN {B na n : Nat} {w : World} {L : List Int} {u : Int} (h : Both B na n w L u) (m : Nat) : Both B na n (w.drewN m) L u := ⟨h.lru.drewN m, h.mod⟩

set_option maxHeartbeats 2000000 in
set_option maxRecDepth 100000 in
theorem walkL (x0 x1 : Int) (a : Option Addr) (len cap : Nat) (S W : Nat → Int) (w : World) (h0 : 0 ≤ x0) (h0' : x0 ≤ 255) (h1 : 0 ≤ x1) (h1' : x1 ≤ 255) (hlen : len ≤ 1024) (hS : Steps w a len S W) :
    Calls Yba.prog 5 #[.int .u8 x0, .int .u8 x1, .slice a len cap] w fun e w' => e = .returned (.bool true) ∧ Below w.heap.size w w' := by
  obtain ⟨i0, hi, hz0, hz1, hz2⟩ := info_parts info23
  obtain ⟨ns, ens, hns0, hns1⟩ : ∃ ns : Nat, x0 % 8 + 1 = (ns : Int) ∧ 0 < ns ∧ ns ≤ 8 := ⟨(x0 % 8 + 1).toNat, by omega, by omega, by omega⟩
  obtain ⟨na, ena, hna0, hna1⟩ : ∃ na : Nat, x1 % 8 + 1 = (na : Int) ∧ 0 < na ∧ na ≤ 8 := ⟨(x1 % 8 + 1).toNat, by omega, by omega, by omega⟩
  have hg : decide ((1024 : Int) < (len : Int)) = false := decide_eq_false (by omega)
  have hnp : (0 : Int) < (ns : Int) := by omega
  have hap : (0 : Int) < (na : Int) := by omega
  have hnz : ¬ ns = 0 := by omega
  have haz : ¬ na = 0 := by omega
  have hb : ns * na ≤ 8 * 8 := Nat.mul_le_mul hns1 hna1
  have p0 : (0 : Int) ≤ (ns : Int) * (na : Int) := by rw [← Int.natCast_mul]; omega
  have p1 : (ns : Int) * (na : Int) ≤ 64 := by rw [← Int.natCast_mul]; omega
  have HS := Hid.mk hS
  clear hS
  go_enter Yba.func5, Yba.ntmps5
  go_wp2_with fail
  refine (newLRU_any ns na _ (by omega) (by omega)).mono ?_
  rintro e w1 ⟨rfl, hL0, hb0, hz0'⟩
  have HL0 := Hid.mk hL0
  have HB0 := Hid.mk hb0
  have HZ0 := Hid.mk hz0'
  clear hL0 hb0 hz0'
  go_wp2_with (at_make; refine wpList_make_row _ rfl _ _ 50 rfl 23 i0 (.int .u64 0) rfl Yba.underlying50 hi hz0 hz1 _ _ _ _ (ns * na) rfl rfl ?c1 ?c2 ?c3 ?c4 ?_)
  case c1 => rw [Int.natCast_mul]
  case c2 => rw [Int.natCast_mul]
  case c3 => rw [hz2]; omega
  case c4 => omega
  have HM : Hid (Both w.heap.size na (ns * na) (w1.alloc (.cells (row (ns * na) (.int .u64 0)) 23)) (List.replicate (ns * na) 0) 0 ∧ Below w.heap.size w (w1.alloc (.cells (row (ns * na) (.int .u64 0)) 23))) := by
    refine ⟨⟨HL0.out.kept ((Kept.refl (fun _ => True) _).alloc _) trivial trivial, ?_⟩, HB0.out.alloc (by rw [HZ0.out]; omega) _⟩
    rw [← HZ0.out, heap_alloc_new]; simp [row]
  rw [HZ0.out]
  clear HL0 HB0 HZ0
  generalize w1.alloc (.cells (row (ns * na) (.int .u64 0)) 23) = wm at HM ⊢
  clear w1
  obtain ⟨n, hn⟩ : ∃ n, n = ns * na := ⟨_, rfl⟩
  rw [← hn] at HM ⊢
  have HN := Hid.mk hn
  have hn64 : n ≤ 64 := by omega
  clear hn hb
  go_wp2
  go_loopg [11, 38] len (fun gk tn tk wx => ∃ (k : Nat) (L : List Int), k ≤ len ∧ gk = len - k ∧ tk = .int .i64 k ∧ tn = .int .u64 k ∧ Hid (Both w.heap.size na n wx L k) ∧ Hid (Below w.heap.size w wx))
  case atStart => exact ⟨0, _, by omega, rfl, rfl, rfl, HM.out.1, HM.out.2⟩
  case round =>
    obtain ⟨k, L, hk, rfl, rfl, rfl, HB, HW⟩ := hrel
    clear HM
    by_cases hlt : k < len
    · obtain ⟨b, off, rfl, hbb, hc1, hc2⟩ := HS.out.cell k hlt
      obtain ⟨sv, HSV, b1, b2, hc1⟩ : ∃ sv, Hid (sv = S k) ∧ 0 ≤ sv ∧ sv ≤ 255 ∧ w.cell? ⟨b, off + k * 2, none⟩ = some (.int .u8 sv) := ⟨_, rfl, (HS.out.bd k).1, (HS.out.bd k).2.1, hc1⟩
      obtain ⟨wv, HWV, b3, b4, hc2⟩ : ∃ wv, Hid (wv = W k) ∧ 0 ≤ wv ∧ wv ≤ 255 ∧ w.cell? ⟨b, off + k * 2 + 1, none⟩ = some (.int .u8 wv) := ⟨_, rfl, (HS.out.bd k).2.2.1, (HS.out.bd k).2.2.2, hc2⟩
      have d1 : wr.cell? ⟨b, off + k * 2, none⟩ = some (.int .u8 sv) := (HW.out.cell (p := ⟨b, off + k * 2, none⟩) hbb).trans hc1
      have d2 : wr.cell? ⟨b, off + k * 2 + 1, none⟩ = some (.int .u8 wv) := (HW.out.cell (p := ⟨b, off + k * 2 + 1, none⟩) hbb).trans hc2
      obtain ⟨si, esi, hsi⟩ := emod_nat sv ns hns0
      obtain ⟨wi, ewi, hwi⟩ := emod_nat wv na (by omega)
      clear hc1 hc2 HSV HWV
      have hij := idx_lt hsi hwi
      rw [← HN.out] at hij
      obtain ⟨j, hj⟩ : ∃ j, j = si * na + wi := ⟨_, rfl⟩
      rw [← hj] at hij
      have hU := Hid.mk (used_any w.heap.size (w.heap.size + 1) na n L k si wi j wr HB.out.lru (by omega) (by omega) (by omega) hj hij (by omega) (by omega))
      have e1 : (si : Int) * (na : Int) + (wi : Int) = (j : Int) := by rw [hj]; simp
      have q0 : (0 : Int) ≤ (si : Int) * (na : Int) := by rw [← Int.natCast_mul]; omega
      have q1 : (si : Int) * (na : Int) ≤ 64 := by omega
      clear hj
      go_wp2_with fail
      refine hU.out.mono ?_
      rintro e w2 ⟨rfl, hL2, hK2⟩
      have HT := Hid.mk (HB.out.step j hL2 hK2)
      have mo : w2.cell? ⟨w.heap.size + 2, j, none⟩ = some (.int .u64 (L.getD j 0)) := hK2.cell (HB.out.mAt j hij) (by simp)
      have mf : w2.frozen? ⟨w.heap.size + 2, j, none⟩ = false := by
        refine frozen_of_row w2 (w.heap.size + 2) j _ 23 ((hK2.block (w.heap.size + 2) (Array.getElem?_eq_some_iff.1 HB.out.mod).1 ⟨by omega, by omega⟩).trans HB.out.mod)
      clear hL2 hK2 hU d1 d2
      go_wp2
      go_roundg (len - (k + 1))
      case measure => omega
      case rel => exact ⟨k + 1, L.set j (k + 1), by omega, rfl, by go_num, by go_num, Hid.mk (by simpa using HT.out.1), HW.out.trans (HT.out.2.below (by have := HW.out.size; omega))⟩
    · obtain rfl : k = len := by omega
      obtain ⟨w5, rfl⟩ : ∃ w5, w5 = wr := ⟨_, rfl⟩
      go_wp2
      go_loopg [15] ns (fun gk tk wx => ∃ s m : Nat, s ≤ ns ∧ gk = ns - s ∧ tk = .int .i64 s ∧ wx = w5.drewN m)
      case atStart => exact ⟨0, 0, by omega, rfl, rfl, rfl⟩
      case round =>
        obtain ⟨s, m, hs, rfl, rfl, rfl⟩ := hrel
        by_cases hlt2 : s < ns
        · have hso := idx_le (na := na) hlt2
          rw [← HN.out] at hso
          have hV := Hid.mk (victim_any w.heap.size (w.heap.size + 1) na n L k s (s * na) (w5.drewN m) (HB.out.lru.drewN m) (by omega) (by omega) (by omega) rfl hso)
          have hO : Hid (∀ m', Calls Yba.prog 13 #[.slice (some ⟨w.heap.size + 2, 0, none⟩) n n, .int .i64 s, .int .i64 na] (w5.drewN m') fun e w' => e = .returned (.int .i64 (vicTo L (s * na) na)) ∧ w' = w5.drewN m') :=
            fun m' => oldest_any (w.heap.size + 2) na n L s (s * na) (w5.drewN m') (fun j hj => by rw [World.cell?_drewN]; exact HB.out.mAt j hj) (by omega) (by omega) (by omega) rfl hso (by omega)
          have hvl := vicTo_lt L (s * na) na
          generalize vicTo L (s * na) na = v at hV hO hvl
          have hb0 : (0 : Int) ≤ (v : Int) := by omega
          have hb1 : (v : Int) < (na : Int) := by omega
          clear hso
          go_wp2_with fail
          refine hV.out.mono ?_
          rintro e w3 ⟨rfl, m', hw3⟩
          rw [hw3, drewN_drewN]
          clear hw3 w3 hV
          go_wp2_with fail
          refine (hO.out (m + m')).mono ?_
          rintro e w3 ⟨rfl, hw3⟩
          rw [hw3]
          clear hw3 w3 hO
          go_wp2
          go_roundg (ns - (s + 1))
          case measure => omega
          case rel => exact ⟨s + 1, m + m', by omega, rfl, by go_num, rfl⟩
        · obtain rfl : s = ns := by omega
          have o1 := HB.out.lru.o1
          have o2 := HB.out.lru.o2
          go_wp2
          go_loopg [17] n (fun gk tk wx => ∃ i m : Nat, i ≤ n ∧ gk = n - i ∧ tk = .int .i64 i ∧ wx = w5.drewN m)
          case atStart => exact ⟨0, m, by omega, rfl, rfl, rfl⟩
          case round =>
            obtain ⟨i, m, hi', rfl, rfl, rfl⟩ := hrel
            by_cases hlt3 : i < n
            · obtain ⟨x, hx1, hx2⟩ : ∃ x, w5.cell? ⟨w.heap.size, i, none⟩ = some (.int .u64 x) ∧ w5.cell? ⟨w.heap.size + 2, i, none⟩ = some (.int .u64 x) := ⟨_, HB.out.lru.at i hlt3, HB.out.mAt i hlt3⟩
              go_wp2
              go_quiet (fail)
              go_wp2
              go_roundg (n - (i + 1))
              case measure => omega
              case rel => exact ⟨i + 1, _, by omega, rfl, by go_num, rfl⟩
            · obtain rfl : i = n := by omega
              go_wp2
              go_ret
              exact ⟨rfl, below_drewN HW.out m⟩

end Go.Proofs.Ybulkanvk
