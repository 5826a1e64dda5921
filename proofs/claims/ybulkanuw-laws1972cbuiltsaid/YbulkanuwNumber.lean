/-
  numberEnd BY ITS CONTRACT: it returns 'Pl.numEnd zs i', and turns nothing.
-/
import Derived.Test.YbulkanuwDigits
import Derived.Deep.DeepCutAuto
import Derived.Deep.CutBlock
namespace Go.Proofs.Ybulkanuw
open Go.RowKit

theorem Hid.mk {p : Prop} (h : p) : Hid p := h
theorem ret_pair {k : IntKind} {a b : Int} {p q : Bool} (h : a = b) (h2 : p = q) : Ending.returned (.tuple #[.int k a, .bool p]) = .returned (.tuple #[.int k b, .bool q]) := by rw [h, h2]

theorem byte_at (zs : List Int) (b off len : Nat) (w : World) (HC : Hid (∀ j, j < len → w.cell? ⟨b, off + j, none⟩ = some (.int .u8 (zs.getD j 0)))) (j : Nat) (hj : j < len) :
    ∃ c, Hid (c = zs.getD j 0) ∧ w.cell? ⟨b, off + j, none⟩ = some (.int .u8 c) := ⟨_, rfl, HC.out j hj⟩

set_option maxHeartbeats 1000000 in
set_option maxRecDepth 100000 in
theorem numberEnd_any (b off len cap : Nat) (zs : List Int) (i : Nat) (w : World) (hz : zs.length = len) (hlen : len ≤ 1000000) (hi : i < len)
    (hc : ∀ j, j < len → w.cell? ⟨b, off + j, none⟩ = some (.int .u8 (zs.getD j 0))) :
    Calls Yba.prog 5 #[.slice (some ⟨b, off, none⟩) len cap, .int .i64 i] w fun e w' => e = .returned (.tuple #[.int .i64 (Pl.numEnd zs i).1, .bool (Pl.numEnd zs i).2]) ∧ w' = w := by
  have HZ : Hid (zs.length = len) := hz
  have HC : Hid (∀ j, j < len → w.cell? ⟨b, off + j, none⟩ = some (.int .u8 (zs.getD j 0))) := hc
  have D : Hid (∀ j, j ≤ len → Calls Yba.prog 7 #[.slice (some ⟨b, off, none⟩) len cap, .int .i64 j] w fun e w' => e = .returned (.int .i64 (Pl.de zs j)) ∧ w' = w) := fun j hj => digitsEnd_any b off len cap zs j w hz hlen hj hc
  clear hz hc
  obtain ⟨r, hr⟩ : ∃ r, r = Pl.numEnd zs i := ⟨_, rfl⟩
  rw [← hr]
  have HR : Hid (r = Pl.numEnd zs i) := hr
  clear hr
  obtain ⟨c0, HC0, hc0⟩ := byte_at zs b off len w HC i hi
  go_enter Yba.func5, Yba.ntmps5
  go_upto_if 12 with fail
  go_cut [1] (fun t wx => w = wx ∧ ∃ i1 : Nat, i1 ≤ len ∧ t = .int .i64 i1 ∧ Hid (r = Pl.intp zs i1))
  case first =>
    by_cases h : c0 = 45
    · have hb : (c0 == 45) = true := by simp [h]
      have H : Hid (c0 = 45) := h
      clear h
      go_wp2
      go_meet
      case rel => exact ⟨rfl, i + 1, by omega, by go_num, by show r = _; rw [HR.out, Pl.numEnd, if_pos (by rw [← HC0.out]; exact H.out)]⟩
    · have hb : (c0 == 45) = false := by simp [h]
      have H : Hid (¬ c0 = 45) := h
      clear h
      go_wp2
      go_meet
      case rel => exact ⟨rfl, i, by omega, by go_num, by show r = _; rw [HR.out, Pl.numEnd, if_neg (by rw [← HC0.out]; exact H.out)]⟩
  case rest =>
    obtain ⟨rfl, i1, hi1, rfl, HI⟩ := hcut
    clear hc0 HC0 HR
    go_upto_block 0 with fail
    go_cut [1] (fun t wx => w = wx ∧ ∃ i2 : Nat, i2 ≤ len ∧ t = .int .i64 i2 ∧ Hid (r = Pl.frac zs i2))
    case first =>
      by_cases hl : i1 < len
      · obtain ⟨c, HCc, hcc⟩ := byte_at zs b off len w HC i1 hl
        by_cases h0 : c = 48
        · have hb : (c == 48) = true := by simp [h0]
          have H : Hid (c = 48) := h0
          clear h0
          go_wp2
          go_meet
          case rel => exact ⟨rfl, i1 + 1, by omega, by go_num, by show r = _; rw [HI.out, Pl.intp, if_pos ⟨by rw [HZ.out]; exact hl, by rw [← HCc.out]; exact H.out⟩]⟩
        · have hb : (c == 48) = false := by simp [h0]
          have H : Hid (¬ c = 48) := h0
          clear h0
          have e1 : r = if 49 ≤ c ∧ c ≤ 57 then Pl.frac zs (Pl.de zs i1) else (0, false) := by
            rw [HI.out, Pl.intp, if_neg (by rw [← HCc.out]; exact fun h => H.out h.2), ← HCc.out]
            by_cases hh : 49 ≤ c ∧ c ≤ 57
            · rw [if_pos hh, if_pos ⟨by rw [HZ.out]; exact hl, hh⟩]
            · rw [if_neg hh, if_neg (fun x => hh x.2)]
          have E : Hid (r = if 49 ≤ c ∧ c ≤ 57 then Pl.frac zs (Pl.de zs i1) else (0, false)) := e1
          clear e1
          by_cases h1 : 49 ≤ c
          · by_cases h2 : c ≤ 57
            · have hd := Pl.de_le zs i1 (by rw [HZ.out]; omega)
              rw [HZ.out] at hd
              go_wp2_with (go_at_call 7; refine (D.out i1 (by omega)).mono ?_; rintro e w' ⟨rfl, hw⟩; rw [hw])
              go_meet
              case rel => exact ⟨rfl, Pl.de zs i1, hd.2, rfl, by show r = _; rw [E.out, if_pos ⟨h1, h2⟩]⟩
            · go_wp2
              go_ret2
              have e : r = (0, false) := by rw [E.out, if_neg (by omega)]
              exact ⟨ret_pair (by rw [e]; rfl) (by rw [e]), rfl⟩
          · go_wp2
            go_ret2
            have e : r = (0, false) := by rw [E.out, if_neg (by omega)]
            exact ⟨ret_pair (by rw [e]; rfl) (by rw [e]), rfl⟩
      · have e : r = (0, false) := by rw [HI.out, Pl.intp, if_neg (by rw [HZ.out]; omega), if_neg (by rw [HZ.out]; omega)]
        have E : Hid (r = (0, false)) := e
        clear e
        go_wp2
        go_ret2
        exact ⟨ret_pair (by rw [E.out]; rfl) (by rw [E.out]), rfl⟩
    case rest =>
      obtain ⟨rfl, i2, hi2, rfl, HF⟩ := hcut
      clear HI
      go_upto_region 8 with fail
      go_cut [61] (fun t wx => w = wx ∧ ∃ B : Bool, t = .bool B ∧ Hid (B = true ↔ (i2 < len ∧ zs.getD i2 0 = 46)))
      case first =>
        by_cases hl : i2 < len
        · obtain ⟨c, HCc, hcc⟩ := byte_at zs b off len w HC i2 hl
          go_wp2
          go_meet
          case rel => exact ⟨rfl, c == 46, rfl, by show _ ↔ _; rw [← HCc.out]; simp [hl]⟩
        · go_wp2
          go_meet
          case rel => exact ⟨rfl, false, rfl, by show _ ↔ _; simp [hl]⟩
      case rest =>
        obtain ⟨rfl, B, rfl, HB⟩ := hcut
        go_upto_if 61 with fail
        go_cut [1, 61] (fun t _ wx => w = wx ∧ ∃ i3 : Nat, i3 ≤ len ∧ t = .int .i64 i3 ∧ Hid (r = Pl.expo zs i3))
        case first =>
          cases B
          · go_wp2
            go_meet
            case rel => exact ⟨rfl, i2, by omega, rfl, by show r = _; rw [HF.out, Pl.frac, if_neg (by rw [HZ.out]; exact fun h => by simpa using HB.out.2 h)]⟩
          · have hh := HB.out.1 rfl
            have hl : i2 < len := hh.1
            have e1 : r = if Pl.de zs (i2 + 1) = i2 + 1 then (0, false) else Pl.expo zs (Pl.de zs (i2 + 1)) := by
              rw [HF.out, Pl.frac, if_pos (by rw [HZ.out]; exact hh)]
            have E : Hid (r = if Pl.de zs (i2 + 1) = i2 + 1 then (0, false) else Pl.expo zs (Pl.de zs (i2 + 1))) := e1
            clear e1 hh
            have hd := Pl.de_le zs (i2 + 1) (by rw [HZ.out]; omega)
            rw [HZ.out] at hd
            have D1 : Hid (Calls Yba.prog 7 #[.slice (some ⟨b, off, none⟩) len cap, .int .i64 ((i2 : Int) + 1)] w fun e w' => e = .returned (.int .i64 (Pl.de zs (i2 + 1))) ∧ w' = w) := by
              have := D.out (i2 + 1) (by omega); exact Hid.mk (by simpa using this)
            generalize Pl.de zs (i2 + 1) = d at hd E D1
            by_cases hdd : d = i2 + 1
            · have hb2 : ((d : Int) == (i2 : Int) + 1) = true := by simp; omega
              have HD : Hid (d = i2 + 1) := hdd
              clear hdd
              go_wp2_with (go_at_call 7; refine D1.out.mono ?_; rintro e w' ⟨rfl, hw⟩; rw [hw])
              go_ret2
              have e : r = (0, false) := by rw [E.out, if_pos HD.out]
              exact ⟨ret_pair (by rw [e]; rfl) (by rw [e]), rfl⟩
            · have hb2 : ((d : Int) == (i2 : Int) + 1) = false := by simp; omega
              go_wp2_with (go_at_call 7; refine D1.out.mono ?_; rintro e w' ⟨rfl, hw⟩; rw [hw])
              go_meet
              case rel => exact ⟨rfl, d, by omega, rfl, by show r = _; rw [E.out, if_neg hdd]⟩
        case rest =>
          obtain ⟨rfl, i3, hi3, rfl, HE⟩ := hcut
          clear HF HB
          go_upto_region 13 with fail
          go_cut [88] (fun t wx => w = wx ∧ ∃ B : Bool, t = .bool B ∧ Hid (B = true ↔ (i3 < len ∧ (zs.getD i3 0 = 101 ∨ zs.getD i3 0 = 69))))
          case first =>
            by_cases hl : i3 < len
            · obtain ⟨c, HCc, hcc⟩ := byte_at zs b off len w HC i3 hl
              by_cases h0 : c = 101
              · have hb : (c == 101) = true := by simp [h0]
                have H0 : Hid (c = 101) := h0
                clear h0
                go_wp2
                go_meet
                case rel => exact ⟨rfl, true, rfl, by show _ ↔ _; rw [← HCc.out]; simp [hl, H0.out]⟩
              · have hb : (c == 101) = false := by simp [h0]
                go_wp2
                go_meet
                case rel => exact ⟨rfl, c == 69, rfl, by show _ ↔ _; rw [← HCc.out]; simp [hl, h0]⟩
            · go_wp2
              go_meet
              case rel => exact ⟨rfl, false, rfl, by show _ ↔ _; simp [hl]⟩
          case rest =>
            obtain ⟨rfl, B, rfl, HB⟩ := hcut
            cases B
            · have e : r = (i3, true) := by rw [HE.out, Pl.expo, if_neg (by rw [HZ.out]; exact fun h => by simpa using HB.out.2 h)]
              have E : Hid (r = (i3, true)) := e
              clear e
              go_wp2
              go_ret2
              exact ⟨ret_pair (by rw [E.out]) (by rw [E.out]), rfl⟩
            · have hh := HB.out.1 rfl
              have hl : i3 < len := hh.1
              have ee : r = if i3 + 1 < len ∧ (zs.getD (i3 + 1) 0 = 43 ∨ zs.getD (i3 + 1) 0 = 45) then (if Pl.de zs (i3 + 2) = i3 + 2 then (0, false) else (Pl.de zs (i3 + 2), true))
                   else (if Pl.de zs (i3 + 1) = i3 + 1 then (0, false) else (Pl.de zs (i3 + 1), true)) := by
                rw [HE.out, Pl.expo, HZ.out, if_pos hh]
              have E := (show Hid _ from ee)
              clear ee HE hh HB
              go_upto_region 15 with fail
              go_cut [108] (fun t wx => w = wx ∧ ∃ B : Bool, t = .bool B ∧ Hid (B = true ↔ (i3 + 1 < len ∧ (zs.getD (i3 + 1) 0 = 43 ∨ zs.getD (i3 + 1) 0 = 45))))
              case first =>
                by_cases hl1 : i3 + 1 < len
                · obtain ⟨c, HCc, hcc⟩ := byte_at zs b off len w HC (i3 + 1) hl1
                  by_cases h0 : c = 43
                  · have hb : (c == 43) = true := by simp [h0]
                    have H0 : Hid (c = 43) := h0
                    clear h0
                    go_wp2
                    go_meet
                    case rel => exact ⟨rfl, true, rfl, by show _ ↔ _; rw [← HCc.out]; simp [hl1, H0.out]⟩
                  · have hb : (c == 43) = false := by simp [h0]
                    go_wp2
                    go_meet
                    case rel => exact ⟨rfl, c == 45, rfl, by show _ ↔ _; rw [← HCc.out]; simp [hl1, h0]⟩
                · go_wp2
                  go_meet
                  case rel => exact ⟨rfl, false, rfl, by show _ ↔ _; simp [hl1]⟩
              case rest =>
                obtain ⟨rfl, B, rfl, HB⟩ := hcut
                go_upto_if 108 with fail
                go_cut [1, 108] (fun t _ wx => w = wx ∧ ∃ i4 : Nat, i4 ≤ len ∧ t = .int .i64 i4 ∧ Hid (r = if Pl.de zs i4 = i4 then (0, false) else (Pl.de zs i4, true)))
                case first =>
                  cases B
                  · go_wp2
                    go_meet
                    case rel => exact ⟨rfl, i3 + 1, by omega, by go_num, by show r = _; rw [E.out, if_neg (fun h => by simpa using HB.out.2 h)]⟩
                  · have hh := HB.out.1 rfl
                    have hl1 : i3 + 1 < len := hh.1
                    have E2 : Hid (r = if Pl.de zs (i3 + 2) = i3 + 2 then (0, false) else (Pl.de zs (i3 + 2), true)) := by show r = _; rw [E.out, if_pos hh]
                    clear hh
                    go_wp2
                    go_meet
                    case rel => exact ⟨rfl, i3 + 2, by omega, by go_num, E2⟩
                case rest =>
                  obtain ⟨rfl, i4, hi4, rfl, E4⟩ := hcut
                  have D1 := Hid.mk (D.out i4 hi4)
                  have hd := Pl.de_le zs i4 (by rw [HZ.out]; omega)
                  rw [HZ.out] at hd
                  generalize Pl.de zs i4 = d at hd E4 D1
                  by_cases hdd : d = i4
                  · have hb2 : ((d : Int) == (i4 : Int)) = true := by simp; omega
                    have e : r = (0, false) := by rw [E4.out, if_pos hdd]
                    have HE : Hid (r = (0, false)) := e
                    clear hdd e
                    go_wp2_with (go_at_call 7; refine D1.out.mono ?_; rintro e w' ⟨rfl, hw⟩; rw [hw])
                    go_ret2
                    exact ⟨ret_pair (by rw [HE.out]; rfl) (by rw [HE.out]), rfl⟩
                  · have hb2 : ((d : Int) == (i4 : Int)) = false := by simp; omega
                    have e : r = (d, true) := by rw [E4.out, if_neg hdd]
                    have HE : Hid (r = (d, true)) := e
                    clear e
                    go_wp2_with (go_at_call 7; refine D1.out.mono ?_; rintro e w' ⟨rfl, hw⟩; rw [hw])
                    go_ret2
                    exact ⟨ret_pair (by rw [HE.out]) (by rw [HE.out]), rfl⟩

end Go.Proofs.Ybulkanuw
