/-
  zzs1972cdfa BY ITS CONTRACT: it returns 'Pl.fin (Pl.run ..)', and turns nothing.
-/
import Derived.Test.YbulkanuwNumber
namespace Go.Proofs.Ybulkanuw
open Go.RowKit

theorem nxt_lt (s c : Int) : Pl.nxt s c ≤ 8 := by
  unfold Pl.nxt; repeat' split
  all_goals omega

/-- The step, its tests as Booleans. -/
def nx (s c : Int) (dg ex : Bool) : Int :=
  if s = 0 then (if (c == 45) = true then 1 else if (c == 48) = true then 2 else if dg = true then 3 else -1)
  else if s = 1 then (if (c == 48) = true then 2 else if dg = true then 3 else -1)
  else if s = 2 then (if (c == 46) = true then 4 else if ex = true then 6 else -1)
  else if s = 3 then (if dg = true then 3 else if (c == 46) = true then 4 else if ex = true then 6 else -1)
  else if s = 4 then (if dg = true then 5 else -1)
  else if s = 5 then (if dg = true then 5 else if ex = true then 6 else -1)
  else if s = 6 then (if (c == 43) = true then 7 else if (c == 45) = true then 7 else if dg = true then 8 else -1)
  else if s = 7 then (if dg = true then 8 else -1)
  else if s = 8 then (if dg = true then 8 else -1)
  else -1
theorem nxt_nx (s c : Int) (dg ex : Bool) (h1 : dg = true ↔ (48 ≤ c ∧ c ≤ 57)) (h2 : ex = true ↔ (c = 101 ∨ c = 69)) : Pl.nxt s c = nx s c dg ex := by
  have e1 : (dg = true) = (48 ≤ c ∧ c ≤ 57) := propext h1
  have e2 : (ex = true) = (c = 101 ∨ c = 69) := propext h2
  by_cases s0 : s = 0
  · subst s0; simp only [Pl.nxt, nx, beq_iff_eq, e1, e2, if_true]
  by_cases s1 : s = 1
  · subst s1; simp only [Pl.nxt, nx, beq_iff_eq, e1, e2, if_true, s0, if_false]
  by_cases s2 : s = 2
  · subst s2; simp only [Pl.nxt, nx, beq_iff_eq, e1, e2, if_true, s0, s1, if_false]
  by_cases s3 : s = 3
  · subst s3; simp only [Pl.nxt, nx, beq_iff_eq, e1, e2, if_true, s0, s1, s2, if_false]
  by_cases s4 : s = 4
  · subst s4; simp only [Pl.nxt, nx, e1, if_true, s0, s1, s2, s3, if_false]
  by_cases s5 : s = 5
  · subst s5; simp only [Pl.nxt, nx, e1, e2, if_true, s0, s1, s2, s3, s4, if_false]
  by_cases s6 : s = 6
  · subst s6; simp only [Pl.nxt, nx, beq_iff_eq, e1, if_true, s0, s1, s2, s3, s4, s5, if_false]; repeat' split
    all_goals first | rfl | omega
  by_cases s7 : s = 7
  · subst s7; simp only [Pl.nxt, nx, e1, if_true, s0, s1, s2, s3, s4, s5, s6, if_false, true_or]
  by_cases s8 : s = 8
  · subst s8; simp only [Pl.nxt, nx, e1, if_true, s0, s1, s2, s3, s4, s5, s6, s7, if_false, or_true]
  · simp only [Pl.nxt, nx, s0, s1, s2, s3, s4, s5, s6, s7, s8, if_false, or_self]

set_option maxHeartbeats 2000000 in
set_option maxRecDepth 100000 in
theorem dfa_any (b off len cap : Nat) (zs : List Int) (i : Nat) (w : World) (hz : zs.length = len) (hlen : len ≤ 1000000) (hi : i < len)
    (hc : ∀ j, j < len → w.cell? ⟨b, off + j, none⟩ = some (.int .u8 (zs.getD j 0))) :
    Calls Yba.prog 6 #[.slice (some ⟨b, off, none⟩) len cap, .int .i64 i] w fun e w' => e = .returned (.tuple #[.int .i64 (Pl.fin (Pl.run (zs.drop i) 0 i)).1, .bool (Pl.fin (Pl.run (zs.drop i) 0 i)).2]) ∧ w' = w := by
  have HZ : Hid (zs.length = len) := hz
  have HC : Hid (∀ j, j < len → w.cell? ⟨b, off + j, none⟩ = some (.int .u8 (zs.getD j 0))) := hc
  clear hz hc
  obtain ⟨r, hr⟩ : ∃ r, r = Pl.run (zs.drop i) 0 i := ⟨_, rfl⟩
  rw [← hr]
  have HR : Hid (r = Pl.run (zs.drop i) 0 i) := hr
  clear hr
  go_enter Yba.func6, Yba.ntmps6
  go_upto_block 0 with fail
  go_cut [6, 7] (fun st p wx => w = wx ∧ ∃ (s : Int) (k : Nat), 0 ≤ s ∧ s ≤ 8 ∧ k ≤ len ∧ st = .int .i64 s ∧ p = .int .i64 k ∧ Hid (r = (s, k)))
  case first =>
    go_wp2_with fail
    go_loopg [6, 7] (len - i) (fun g st p wx => w = wx ∧ ∃ (s : Int) (k : Nat), 0 ≤ s ∧ s ≤ 8 ∧ k ≤ len ∧ g = len - k ∧ st = .int .i64 s ∧ p = .int .i64 k ∧ Hid (r = Pl.run (zs.drop k) s k))
    case atStart => exact ⟨rfl, 0, i, by omega, by omega, by omega, rfl, rfl, rfl, HR⟩
    case round =>
      obtain ⟨rfl, s, k, hs0, hs8, hk, rfl, rfl, rfl, HK⟩ := hrel
      by_cases hlt : k < len
      · obtain ⟨c, HCc, hcc⟩ := byte_at zs b off len w HC k hlt
        have HS : Hid (r = if Pl.nxt s c < 0 then (s, k) else Pl.run (zs.drop (k + 1)) (Pl.nxt s c) (k + 1)) := by
          show r = _; rw [HK.out, Pl.run_at zs k s (by rw [HZ.out]; exact hlt), ← HCc.out]
        clear HK HCc
        go_upto_region 5 with fail
        go_cut [9] (fun t wx => w = wx ∧ ∃ dg : Bool, t = .bool dg ∧ Hid (dg = true ↔ (48 ≤ c ∧ c ≤ 57)))
        case first =>
          by_cases h1 : 48 ≤ c
          · go_wp2
            go_meet
            case rel => exact ⟨rfl, decide (c ≤ 57), rfl, by show _ ↔ _; simp [h1]⟩
          · go_wp2
            go_meet
            case rel => exact ⟨rfl, false, rfl, by show _ ↔ _; simp; omega⟩
        case rest =>
          obtain ⟨rfl, dg, rfl, HDG⟩ := hcut
          go_upto_region 6 with fail
          go_cut [10] (fun t wx => w = wx ∧ ∃ ex : Bool, t = .bool ex ∧ Hid (ex = true ↔ (c = 101 ∨ c = 69)))
          case first =>
            by_cases h0 : c = 101
            · have hb : (c == 101) = true := by simp [h0]
              have H0 := Hid.mk h0
              clear h0
              go_wp2
              go_meet
              case rel => exact ⟨rfl, true, rfl, by show _ ↔ _; simp [H0.out]⟩
            · have hb : (c == 101) = false := by simp [h0]
              go_wp2
              go_meet
              case rel => exact ⟨rfl, c == 69, rfl, by show _ ↔ _; simp [h0]⟩
          case rest =>
            obtain ⟨rfl, ex, rfl, HEX⟩ := hcut
            go_upto_block 2 with fail
            have HN : Hid (Pl.nxt s c = nx s c dg ex) := nxt_nx s c dg ex HDG.out HEX.out
            clear HDG HEX
            go_cut [11] (fun t wx => w = wx ∧ t = .int .i64 (nx s c dg ex))
            case first =>
              clear HN HS HR HC HZ hcc
              rcases (show s = 0 ∨ s = 1 ∨ s = 2 ∨ s = 3 ∨ s = 4 ∨ s = 5 ∨ s = 6 ∨ s = 7 ∨ s = 8 by omega) with rfl | rfl | rfl | rfl | rfl | rfl | rfl | rfl | rfl
              · cases q45 : (c == 45)
                · cases q48 : (c == 48)
                  · cases dg
                    all_goals (go_wp2; go_meet; case rel => exact ⟨rfl, by simp [nx, q45, q48]⟩)
                  · go_wp2; go_meet; case rel => exact ⟨rfl, by simp [nx, q45, q48]⟩
                · go_wp2; go_meet; case rel => exact ⟨rfl, by simp [nx, q45]⟩
              · cases q48 : (c == 48)
                · cases dg
                  all_goals (go_wp2; go_meet; case rel => exact ⟨rfl, by simp [nx, q48]⟩)
                · go_wp2; go_meet; case rel => exact ⟨rfl, by simp [nx, q48]⟩
              · cases q46 : (c == 46)
                · cases ex
                  all_goals (go_wp2; go_meet; case rel => exact ⟨rfl, by simp [nx, q46]⟩)
                · go_wp2; go_meet; case rel => exact ⟨rfl, by simp [nx, q46]⟩
              · cases dg
                · cases q46 : (c == 46)
                  · cases ex
                    all_goals (go_wp2; go_meet; case rel => exact ⟨rfl, by simp [nx, q46]⟩)
                  · go_wp2; go_meet; case rel => exact ⟨rfl, by simp [nx, q46]⟩
                · go_wp2; go_meet; case rel => exact ⟨rfl, by simp [nx]⟩
              · cases dg
                all_goals (go_wp2; go_meet; case rel => exact ⟨rfl, by simp [nx]⟩)
              · cases dg
                · cases ex
                  all_goals (go_wp2; go_meet; case rel => exact ⟨rfl, by simp [nx]⟩)
                · go_wp2; go_meet; case rel => exact ⟨rfl, by simp [nx]⟩
              · cases q43 : (c == 43)
                · cases q45 : (c == 45)
                  · cases dg
                    all_goals (go_wp2; go_meet; case rel => exact ⟨rfl, by simp [nx, q43, q45]⟩)
                  · go_wp2; go_meet; case rel => exact ⟨rfl, by simp [nx, q43, q45]⟩
                · go_wp2; go_meet; case rel => exact ⟨rfl, by simp [nx, q43]⟩
              · cases dg
                all_goals (go_wp2; go_meet; case rel => exact ⟨rfl, by simp [nx]⟩)
              · cases dg
                all_goals (go_wp2; go_meet; case rel => exact ⟨rfl, by simp [nx]⟩)
            case rest =>
              obtain ⟨rfl, rfl⟩ := hcut
              rw [HN.out] at HS
              have hn8 := nxt_lt s c
              rw [HN.out] at hn8
              clear HN
              generalize nx s c dg ex = n at HS hn8
              by_cases hn : n < 0
              · have e : r = (s, k) := by rw [HS.out, if_pos hn]
                have E := Hid.mk e
                clear e
                go_wp2
                go_meet
                case rel => exact ⟨rfl, s, k, hs0, hs8, hk, rfl, rfl, E⟩
              · have E : Hid (r = Pl.run (zs.drop (k + 1)) n (k + 1)) := by show r = _; rw [HS.out, if_neg hn]
                go_wp2
                go_roundg (len - (k + 1))
                case measure => omega
                case rel => exact ⟨rfl, n, k + 1, by omega, by omega, by omega, rfl, rfl, by go_num, E⟩
      · have e : r = (s, k) := by rw [HK.out, Pl.run_end zs k s (by rw [HZ.out]; exact hlt)]
        have E := Hid.mk e
        clear e
        go_wp2
        go_meet
        case rel => exact ⟨rfl, s, k, hs0, hs8, hk, rfl, rfl, E⟩
  case rest =>
    obtain ⟨rfl, s, k, hs0, hs8, hk, rfl, rfl, HK⟩ := hcut
    clear HR HC HZ
    rcases (show s = 0 ∨ s = 1 ∨ s = 2 ∨ s = 3 ∨ s = 4 ∨ s = 5 ∨ s = 6 ∨ s = 7 ∨ s = 8 by omega) with rfl | rfl | rfl | rfl | rfl | rfl | rfl | rfl | rfl
    all_goals
      go_wp2
      go_ret2
      exact ⟨ret_pair (by rw [HK.out]; simp [Pl.fin]) (by rw [HK.out]; simp [Pl.fin]), rfl⟩

end Go.Proofs.Ybulkanuw
