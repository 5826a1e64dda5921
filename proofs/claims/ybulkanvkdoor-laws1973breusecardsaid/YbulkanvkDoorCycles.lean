/-
  Seat b1973aD: (*smemPort).cycles by its contract.
-/
import Derived.Test.YbulkanvkDoorModel
namespace Go.Proofs.YbulkanvkDoor
open Go.RowKit

/-- The port in the midst of an access: its words Ws, its counters P; all older memory but the port's own is as it was in w. -/
structure St (w wx : World) (pq cfq gb n bb base : Nat) (v : Value) (Ws : List Nat) (P : List Int) : Prop where
  port : Port wx pq cfq gb n bb v P
  owns : Owns wx base v Ws
  kept : Kept (fun k => k < base ∧ k ≠ pq ∧ k ≠ gb) w wx
  size : base ≤ wx.heap.size
  lp : pq < base
  lc : cfq < base
  lg : gb < base

theorem St.ne1 {w wx : World} {pq cfq gb n bb base : Nat} {v : Value} {Ws : List Nat} {P : List Int} (h : St w wx pq cfq gb n bb base v Ws P) : gb ≠ pq := by
  obtain ⟨c1, c2, c3, c4, c5, c6, c7, ho⟩ := h.port.obj; exact blk_ne h.port.per ho (by decide)
theorem St.ne2 {w wx : World} {pq cfq gb n bb base : Nat} {v : Value} {Ws : List Nat} {P : List Int} (h : St w wx pq cfq gb n bb base v Ws P) : cfq ≠ pq := by
  obtain ⟨c1, c2, c3, c4, c5, c6, c7, ho⟩ := h.port.obj; exact blk_ne h.port.cfg ho (by decide)
theorem St.ne3 {w wx : World} {pq cfq gb n bb base : Nat} {v : Value} {Ws : List Nat} {P : List Int} (h : St w wx pq cfq gb n bb base v Ws P) : cfq ≠ gb := blk_ne h.port.cfg h.port.per (by decide)

/-- p.words = v'. -/
theorem St.words {w wx : World} {pq cfq gb n bb base : Nat} {v : Value} {Ws : List Nat} {P : List Int} (h : St w wx pq cfq gb n bb base v Ws P) (v' : Value) (Ws' : List Nat) (ho' : Owns wx base v' Ws') :
    St w (wx.setCell ⟨pq, 8, none⟩ v') pq cfq gb n bb base v' Ws' P := by
  refine ⟨⟨h.port.len, ?_, ?_, ?_⟩, ?_, h.kept.setCell _ _ (fun hh => hh.2.1 rfl), by have := h.size; simp [World.setCell]; exact this, h.lp, h.lc, h.lg⟩
  · obtain ⟨c1, c2, c3, c4, c5, c6, c7, ho⟩ := h.port.obj
    refine ⟨c1, c2, c3, c4, c5, c6, c7, ?_⟩
    rw [heap_setCell_same wx pq 8 _ 38 _ ho]; rfl
  · rw [heap_setCell_other _ _ _ _ h.ne2]; exact h.port.cfg
  · rw [heap_setCell_other _ _ _ _ h.ne1]; exact h.port.per
  · exact ownsRow_setCell_below ho' h.lp _

/-- p.perBank[j] = y. -/
theorem St.bank {w wx : World} {pq cfq gb n bb base : Nat} {v : Value} {Ws : List Nat} {P : List Int} (h : St w wx pq cfq gb n bb base v Ws P) (j : Nat) (y : Int) :
    St w (wx.setCell ⟨gb, j, none⟩ (.int .i64 y)) pq cfq gb n bb base v Ws (P.set j y) := by
  refine ⟨⟨by simpa using h.port.len, ?_, ?_, ?_⟩, ?_, h.kept.setCell _ _ (fun hh => hh.2.2 rfl), by have := h.size; simp [World.setCell]; exact this, h.lp, h.lc, h.lg⟩
  · obtain ⟨c1, c2, c3, c4, c5, c6, c7, ho⟩ := h.port.obj
    refine ⟨c1, c2, c3, c4, c5, c6, c7, ?_⟩
    rw [heap_setCell_other _ _ _ _ (Ne.symm h.ne1)]; exact ho
  · rw [heap_setCell_other _ _ _ _ h.ne3]; exact h.port.cfg
  · rw [heap_setCell_same wx gb j _ 3 _ h.port.per]; simp [List.map_set]
  · exact ownsRow_setCell_below h.owns h.lg _

/-- Behind an append: the older blocks are as they were. -/
theorem St.grown {w wx w' : World} {pq cfq gb n bb base : Nat} {v : Value} {Ws : List Nat} {P : List Int} (h : St w wx pq cfq gb n bb base v Ws P) (k : Kept (· < base) wx w') :
    Port w' pq cfq gb n bb v P ∧ Kept (fun k => k < base ∧ k ≠ pq ∧ k ≠ gb) w w' ∧ base ≤ w'.heap.size := by
  have hb : ∀ {b : Nat} {o : Obj}, wx.heap[b]? = some o → b < base → w'.heap[b]? = some o := fun hh hl => (k.block _ (Array.getElem?_eq_some_iff.1 hh).1 hl).trans hh
  refine ⟨⟨h.port.len, ?_, hb h.port.cfg h.lc, hb h.port.per h.lg⟩, h.kept.trans (k.mono (fun j _ hj => hj.1)), Nat.le_trans h.size k.size⟩
  obtain ⟨c1, c2, c3, c4, c5, c6, c7, ho'⟩ := h.port.obj
  exact ⟨c1, c2, c3, c4, c5, c6, c7, hb ho' h.lp⟩

/-- p.words = append(p.words, ..). -/
theorem St.appended {w wx w' : World} {pq cfq gb n bb base : Nat} {v v' : Value} {Ws Ws' : List Nat} {P : List Int} (h : St w wx pq cfq gb n bb base v Ws P) (k : Kept (· < base) wx w') (ho : Owns w' base v' Ws') :
    St w (w'.setCell ⟨pq, 8, none⟩ v') pq cfq gb n bb base v' Ws' P := by
  obtain ⟨hp, hk, hz⟩ := h.grown k
  obtain ⟨c1, c2, c3, c4, c5, c6, c7, ho'⟩ := hp.obj
  refine ⟨⟨hp.len, ⟨c1, c2, c3, c4, c5, c6, c7, ?_⟩, ?_, ?_⟩, ownsRow_setCell_below ho h.lp _, hk.setCell _ _ (fun hh => hh.2.1 rfl), by simp [World.setCell]; exact hz, h.lp, h.lc, h.lg⟩
  · rw [heap_setCell_same w' pq 8 _ 38 _ ho']; rfl
  · rw [heap_setCell_other _ _ _ _ h.ne2]; exact hp.cfg
  · rw [heap_setCell_other _ _ _ _ h.ne1]; exact hp.per

theorem St.drewN {w wx : World} {pq cfq gb n bb base : Nat} {v : Value} {Ws : List Nat} {P : List Int} (h : St w wx pq cfq gb n bb base v Ws P) (m : Nat) : St w (wx.drewN m) pq cfq gb n bb base v Ws P :=
  ⟨⟨h.port.len, h.port.obj, h.port.cfg, h.port.per⟩, h.owns, h.kept.drewN m, h.size, h.lp, h.lc, h.lg⟩
theorem St.drew {w wx : World} {pq cfq gb n bb base : Nat} {v : Value} {Ws : List Nat} {P : List Int} (h : St w wx pq cfq gb n bb base v Ws P) : St w wx.drew pq cfq gb n bb base v Ws P :=
  ⟨⟨h.port.len, h.port.obj, h.port.cfg, h.port.per⟩, h.owns, h.kept.drew, h.size, h.lp, h.lc, h.lg⟩

set_option maxHeartbeats 4000000 in
set_option maxRecDepth 100000 in
theorem cycles_any (pq cfq gb n bb base size m aq kk : Nat) (am : Bool) (A : Nat → Nat) (v : Value) (Ws0 : List Nat) (w : World) (hS : St w w pq cfq gb n bb base v Ws0 (List.replicate n 0))
    (hA : ∀ i, i < 32 → w.cell? ⟨aq, i, none⟩ = some (.int .u64 ((A i : Nat) : Int))) (hA1 : ∀ i, A i ≤ 65535) (ham : am = (kk == 3 || kk == 4))
    (hT : Go.Proofs.TabAt 0 Lib.deBruijn32tab w) (hab : aq < base ∧ aq ≠ pq ∧ aq ≠ gb) (h0b : 0 < base ∧ 0 ≠ pq ∧ 0 ≠ gb)
    (hn : 0 < n) (hn1 : n ≤ 32) (hb : 0 < bb) (hb1 : bb ≤ 8) (hs : 0 < size) (hs1 : size ≤ 16) (hm : m < 4294967296) :
    Calls Ybad.prog 7 #[.pointer (some ⟨pq, 0, none⟩), .int .i64 kk, .int .i64 size, .int .u32 m, .pointer (some ⟨aq, 0, none⟩)] w fun e w' =>
      ∃ v', e = .returned (.int .i64 (Pl.best n (Pl.runL am bb size A (Pl.lanesFrom m 0) []))) ∧ St w w' pq cfq gb n bb base v' (Pl.runL am bb size A (Pl.lanesFrom m 0) []) (List.replicate n 0) := by
  have HA := Hid.mk hA
  have HA1 := Hid.mk hA1
  have HTab := Hid.mk hT
  have HS0 := Hid.mk hS
  obtain ⟨WW, hWW⟩ : ∃ WW, WW = Pl.runL am bb size A (Pl.lanesFrom m 0) [] := ⟨_, rfl⟩
  rw [← hWW]
  have HW := Hid.mk hWW
  have o0 := hS.port.o0
  have g0 := hS.port.g0
  have g1 := hS.port.g1
  have hbp : (0 : Int) < (bb : Int) := by omega
  have hnp : (0 : Int) < (n : Int) := by omega
  have hbz : ¬ bb = 0 := by omega
  have hnz : ¬ n = 0 := by omega
  have HAM := Hid.mk ham
  clear hA hA1 hT hWW hS ham
  go_enter Ybad.func7, Ybad.ntmps7
  go_wp2
  go_quiet (fail)
  clear o0 g0 g1
  have HS1 := Hid.mk (HS0.out.drewN nq)
  generalize w.drewN nq = wq at HS1 ⊢
  clear HS0
  go_upto_region 2 with fail
  go_cut [13] (fun t wx => wq = wx ∧ t = .bool am)
  case first =>
    by_cases h3 : kk = 3
    · have q3 : ((kk : Int) == 3) = true := by simp; omega
      have HAt : Hid (am = true) := by show am = true; rw [HAM.out, h3]; rfl
      have H3 := Hid.mk h3
      clear h3
      go_wp2
      go_meet
      case rel => exact ⟨rfl, by rw [HAt.out]⟩
    · have q3 : ((kk : Int) == 3) = false := by simp; omega
      by_cases h4 : kk = 4
      · have q4 : ((kk : Int) == 4) = true := by simp; omega
        have HAt : Hid (am = true) := by show am = true; rw [HAM.out, h4]; rfl
        have H4 := Hid.mk h4
        clear h4
        go_wp2
        go_meet
        case rel => exact ⟨rfl, by rw [HAt.out]⟩
      · have q4 : ((kk : Int) == 4) = false := by simp; omega
        have HAt : Hid (am = false) := by show am = false; rw [HAM.out]; simp [h3, h4]
        go_wp2
        go_meet
        case rel => exact ⟨rfl, by rw [HAt.out]⟩
  case rest =>
  obtain ⟨rfl, rfl⟩ := hcut
  clear HAM
  go_upto_region 4 with fail
  go_cut [] (fun wx => ∃ v0, Hid (St w wx pq cfq gb n bb base v0 [] (List.replicate n 0)))
  case first =>
    have o8 := HS1.out.port.o8
    have f8 := HS1.out.port.f8
    rcases HS1.out.owns.2 with ⟨hv, _⟩ | ⟨g, cap, cur, hv, hbg, hg, hnc, hcm, hcs, htake⟩
    · subst hv
      go_wp2
      go_meet
      case rel => exact ⟨_, HS1.out.words (.slice none 0 0) [] (World.ownsRow_nil _ _ _ _)⟩
    · subst hv
      have HO0 : Hid (Owns wq base (.slice (some ⟨g, 0, none⟩) 0 cap) []) := ⟨rfl, .inr ⟨g, cap, cur, rfl, hbg, hg, Nat.zero_le _, hcm, hcs, by simp [u64s]⟩⟩
      clear hbg hg hnc hcm hcs htake
      go_wp2
      go_meet
      case rel => exact ⟨_, HS1.out.words (.slice (some ⟨g, 0, none⟩) 0 cap) [] HO0.out⟩
  case rest =>
  obtain ⟨v0, HS2⟩ := hcut
  clear HS1 wq
  have HK0 : Hid (∀ wx, Kept (fun k => k < base ∧ k ≠ pq ∧ k ≠ gb) w wx → (∀ i, i < 32 → wx.cell? ⟨aq, i, none⟩ = some (.int .u64 ((A i : Nat) : Int))) ∧ Go.Proofs.TabAt 0 Lib.deBruijn32tab wx) := by
    intro wx hk
    exact ⟨fun i hi => hk.cell (HA.out i hi) hab, fun j hj => hk.cell (HTab.out j hj) h0b⟩
  clear HA HTab
  go_upto_block 0 with fail
  go_cut [14] (fun tm wx => ∃ v', tm = .int .i64 (Pl.best n WW : Nat) ∧ WW.length ≤ 512 ∧ Hid (St w wx pq cfq gb n bb base v' WW (Pl.banks n WW)))
  case first =>
    go_wp2_with fail
    go_loopg [14, 15] m (fun gk tm t wx => ∃ (m' q bs : Nat) (Ws : List Nat) (v : Value), gk = m' ∧ m' < 4294967296 ∧ q + (Pl.lanesFrom m' 0).length ≤ 32 ∧ Ws.length ≤ 16 * q ∧ bs ≤ Ws.length ∧ t = .int .u32 m' ∧ tm = .int .i64 bs ∧ Hid (bs = Pl.best n Ws) ∧
      Hid (St w wx pq cfq gb n bb base v Ws (Pl.banks n Ws)) ∧ Hid (Pl.runL am bb size A (Pl.lanesFrom m' 0) Ws = WW))
    case atStart => exact ⟨m, 0, 0, [], v0, rfl, hm, by have := Pl.lanes_len m 0; omega, by simp, by simp, rfl, rfl, (Pl.best_nil n).symm, by rw [Pl.banks_nil]; exact HS2, HW.out.symm⟩
    case round =>
      obtain ⟨m', q, bs, Ws, v, rfl, hm', hq, hWl, hbs, rfl, rfl, HBS, HSr, HR⟩ := hrel
      by_cases hm0 : gk = 0
      · subst hm0
        have e : Ws = WW := by
          have h := HR.out
          rw [Pl.lanes_zero] at h
          exact h
        subst e
        have HE := HBS.out
        subst HE
        go_wp2
        go_meet
        case rel => exact ⟨v, rfl, by omega, HSr⟩
      · have hmb : ((gk : Int) != 0) = true := by rw [bne_iff_ne]; omega
        obtain ⟨hl1, hl2, hl3⟩ := Pl.lanes_low gk hm0 (by omega)
        obtain ⟨hcA, hcT⟩ := HK0.out wr HSr.out.kept
        have HTZ : Hid (∀ mm, Calls Ybad.prog 10 #[.int .u32 gk] (wr.drewN mm) fun e w' => e = .returned (.int .i64 (Lib.ctz 32 gk)) ∧ w' = wr.drewN mm) := fun mm => tz32_any gk hm' hm0 (wr.drewN mm) hcT
        obtain ⟨i, hi⟩ : ∃ i, i = Lib.ctz 32 gk := ⟨_, rfl⟩
        obtain ⟨m2, hm2⟩ : ∃ m2, m2 = gk &&& (gk - 1) := ⟨_, rfl⟩
        rw [← hi] at HTZ hl1 hl2
        rw [← hm2] at hl1 hl3
        have HM2 := Hid.mk hm2
        have ci := hcA i hl2
        have HR1 := HR.out
        rw [hl1] at HR1
        have HR2 : Hid (Pl.runL am bb size A (Pl.lanesFrom m2 0) (Pl.addLane am bb size Ws (A i)) = WW) := HR1
        have hq2 : q + 1 + (Pl.lanesFrom m2 0).length ≤ 32 := by rw [hl1] at hq; simp only [List.length_cons] at hq; omega
        have hAi := HA1.out i
        clear hcA hcT hi hm2 hl1 HR1 HR
        have hii : (i : Int) < 32 := by omega
        go_upto_block 1 with fail
        go_cut [14] (fun tm wx => ∃ (bs' : Nat) (Ws' : List Nat) (v' : Value), Ws'.length ≤ 16 * (q + 1) ∧ bs' ≤ Ws'.length ∧ tm = .int .i64 bs' ∧ Hid (bs' = Pl.best n Ws') ∧ Hid (St w wx pq cfq gb n bb base v' Ws' (Pl.banks n Ws')) ∧ Hid (Pl.runL am bb size A (Pl.lanesFrom m2 0) Ws' = WW))
        case first =>
          obtain ⟨a, HAi, ha1⟩ : ∃ a, Hid (a = A i) ∧ a ≤ 65535 := ⟨_, rfl, hAi⟩
          rw [← HAi.out] at ci HR2
          go_wp2
          go_quiet ((go_at_call 10; exact Calls.quiet_of_same (HTZ.out _)))
          have HS3 := Hid.mk (HSr.out.drewN nq)
          clear HTZ ci hii
          generalize wr.drewN nq = w3 at HS3 ⊢
          obtain ⟨lo, hlo⟩ : ∃ lo, lo = a / bb := ⟨_, rfl⟩
          obtain ⟨hi, hhi⟩ : ∃ hi, hi = (a + size - 1) / bb := ⟨_, rfl⟩
          have e1 : (a : Int) / (bb : Int) = (lo : Int) := by rw [hlo]; simp
          have e2 : ((a : Int) + (size : Int) - 1) / (bb : Int) = (hi : Int) := by
            rw [hhi, Int.natCast_ediv]; congr 1; omega
          have hlh : lo ≤ hi := by rw [hlo, hhi]; exact Nat.div_le_div_right (by omega)
          have hhb : hi ≤ 65551 := by rw [hhi]; have := Nat.div_le_self (a + size - 1) bb; omega
          have hsp : hi + 1 - lo ≤ 16 := by have := Pl.span_le bb size a hb hs; unfold Pl.span at this; rw [← hlo, ← hhi] at this; omega
          have HAL : Hid (Pl.addLane am bb size Ws a = Pl.addTo am Ws lo (hi + 1 - lo)) := by show _ = _; unfold Pl.addLane Pl.span; rw [← hlo, ← hhi]
          rw [HAL.out] at HR2
          clear hlo hhi HAi HAL
          go_upto_region 9 with fail
          go_cut [17] (fun t wx => w3 = wx ∧ t = .int .u64 ((lo : Nat) : Int))
          case first =>
            go_wp2
            go_meet
            case rel => exact ⟨rfl, by rw [← e1]⟩
          case rest =>
          obtain ⟨rfl, rfl⟩ := hcut
          clear e1
          go_wp2
          go_loopg [14, 17] (hi + 1 - lo) (fun gk tm t wx => ∃ (k x bs : Nat) (Wk : List Nat) (v : Value), k ≤ hi + 1 - lo ∧ gk = hi + 1 - lo - k ∧ Hid (x = lo + k) ∧ t = .int .u64 ((x : Nat) : Int) ∧ tm = .int .i64 bs ∧ Wk.length ≤ Ws.length + k ∧ bs ≤ Wk.length ∧
            Hid (Wk = Pl.addTo am Ws lo k) ∧ Hid (bs = Pl.best n Wk) ∧ Hid (St w wx pq cfq gb n bb base v Wk (Pl.banks n Wk)))
          case atStart => exact ⟨0, lo, bs, Ws, v, by omega, rfl, rfl, rfl, rfl, by omega, hbs, rfl, HBS, HS3⟩
          case round =>
            obtain ⟨k, x, bk, Wk, vk, hk, rfl, HX0, rfl, rfl, hWk, hbk, HWk, HBk, HSk⟩ := hrel
            have hxlo : lo ≤ x := by rw [HX0.out]; omega
            by_cases hlt2 : x ≤ hi
            · go_upto_block 3 with fail
              go_cut [14] (fun tm wx => ∃ (bs' : Nat) (Wn : List Nat) (v' : Value), tm = .int .i64 bs' ∧ Wn.length ≤ Ws.length + (k + 1) ∧ bs' ≤ Wn.length ∧ Hid (Wn = Pl.addTo am Ws lo (k + 1)) ∧ Hid (bs' = Pl.best n Wn) ∧ Hid (St w wx pq cfq gb n bb base v' Wn (Pl.banks n Wn)))
              case first =>
                have HST : Hid (Pl.addTo am Ws lo (k + 1) = Pl.addW am Wk x) := by
                  show Pl.addW am (Pl.addTo am Ws lo k) (lo + k) = _
                  rw [HWk.out, HX0.out]
                have hxb : x ≤ 100000 := by omega
                obtain ⟨w4, rfl⟩ : ∃ w4, w4 = wr := ⟨_, rfl⟩
                have hsz : base ≤ w4.heap.size := HSk.out.size
                clear e2
                go_upto_region 12 with fail
                go_cut [87] (fun t wx => w4 = wx ∧ t = .bool (decide (am = false ∧ x ∈ Wk)))
                case first =>
                  obtain ⟨ao, cap, hv, hWA⟩ := HSk.out.owns.words
                  have o8 := HSk.out.port.o8
                  rw [hv] at o8
                  have HHW := Hid.mk (holdsWord_any ao cap Wk x w4 hWA (by omega))
                  clear hv hWA
                  cases am
                  · go_wp2_with (go_at_call 11; refine HHW.out.mono ?_; rintro e w' ⟨rfl, hw'⟩; rw [hw'])
                    go_meet
                    case rel => exact ⟨rfl, by simp⟩
                  · go_wp2
                    go_meet
                    case rel => exact ⟨rfl, by simp⟩
                case rest =>
                obtain ⟨rfl, rfl⟩ := hcut
                cases hd : decide (am = false ∧ x ∈ Wk)
                · have e : Pl.addTo am Ws lo (k + 1) = Wk ++ [x] := by
                    rw [HST.out, Pl.addW, if_neg (decide_eq_false_iff_not.1 hd)]
                  have HEq := Hid.mk e
                  clear hd e
                  obtain ⟨r, hr⟩ : ∃ r, r = x % n := ⟨_, rfl⟩
                  have er : (x : Int) % (n : Int) = (r : Int) := by rw [hr]; simp
                  have hrn : r < n := by rw [hr]; exact Nat.mod_lt _ hn
                  have HR0 := Hid.mk hr
                  clear hr
                  go_upto_region 13 with fail
                  go_cut [] (fun wx => ∃ v', Hid (St w wx pq cfq gb n bb base v' (Wk ++ [x]) (Pl.banks n Wk)))
                  case first =>
                    have o8 := HSk.out.port.o8
                    go_wp2_with (at_builtin; refine wpList_appW w4 base _ Wk x rfl _ _ rfl rfl rfl HSk.out.owns (by omega) hsz ?_; intro v' w' HO' HK'; obtain ⟨ao', cap', hv', _⟩ := HO'.out.words; subst hv'; have p8 := (HSk.out.grown HK'.out).1.o8; have pf := (HSk.out.grown HK'.out).1.f8)
                    go_meet
                    case rel => exact ⟨_, HSk.out.appended HK'.out (by have h := HO'.out; rw [List.length_append] at h; exact h)⟩
                  case rest =>
                  obtain ⟨v1, HS5⟩ := hcut
                  clear HSk hsz
                  have hcl : Pl.cnt n Wk r ≤ Wk.length := Pl.cnt_le n Wk r
                  have hc2 := Pl.cnt_snoc n Wk x r
                  rw [if_pos HR0.out.symm] at hc2
                  have hbs := Pl.best_snoc n hn Wk x
                  rw [← HR0.out, hc2, ← HBk.out] at hbs
                  have hbk2 := Pl.banks_snoc n Wk x
                  rw [← HR0.out] at hbk2
                  have o9 := HS5.out.port.o9
                  have pa := HS5.out.port.at r hrn
                  rw [Pl.banks_at n Wk r hrn] at pa
                  have pf := HS5.out.port.fr r
                  obtain ⟨cN, hcN⟩ : ∃ cN, cN = Pl.cnt n Wk r := ⟨_, rfl⟩
                  rw [← hcN] at hcl hbs hbk2 pa
                  have HBS2 := Hid.mk hbs
                  have HB2 := Hid.mk hbk2
                  have HC2 := Hid.mk hc2
                  have HCN := Hid.mk hcN
                  clear hbs hbk2 hc2 hcN
                  go_upto_region 15 with fail
                  go_cut [] (fun wx => Hid (St w wx pq cfq gb n bb base v1 (Wk ++ [x]) (Pl.banks n (Wk ++ [x]))))
                  case first =>
                    go_wp2
                    go_meet
                    case rel => exact Hid.mk (by rw [← HB2.out]; exact HS5.out.bank r _)
                  case rest =>
                  have HS6 := hcut
                  clear o9 pa pf HS5 hcut
                  have o9 := HS6.out.port.o9
                  have pa := HS6.out.port.at r hrn
                  rw [Pl.banks_at n (Wk ++ [x]) r hrn, HC2.out, ← HCN.out] at pa
                  have pa2 : wc.cell? ⟨gb, r, none⟩ = some (.int .i64 ((cN : Int) + 1)) := by rw [pa]; simp
                  clear pa
                  by_cases hmx : (bk : Int) < (cN : Int) + 1
                  · go_wp2
                    go_meet
                    case rel => exact ⟨cN + 1, Wk ++ [x], v1, by go_num, by simp; omega, by simp; omega, by show _ = _; rw [HEq.out], by show _ = _; rw [HBS2.out]; omega, HS6⟩
                  · go_wp2
                    go_meet
                    case rel => exact ⟨bk, Wk ++ [x], v1, rfl, by simp; omega, by simp; omega, by show _ = _; rw [HEq.out], by show _ = _; rw [HBS2.out]; omega, HS6⟩
                · have e : Pl.addTo am Ws lo (k + 1) = Wk := by
                    rw [HST.out, Pl.addW, if_pos (decide_eq_true_iff.1 hd)]
                  have HEq := Hid.mk e
                  clear hd e
                  go_wp2
                  go_meet
                  case rel => exact ⟨bk, Wk, vk, rfl, by omega, hbk, by show _ = _; rw [HEq.out], HBk, HSk⟩
              case rest =>
                obtain ⟨bs', Wn, v', rfl, hWn, hbn, HWn, HBn, HSn⟩ := hcut
                go_wp2
                go_roundg (hi + 1 - lo - (k + 1))
                case measure => have := HX0.out; omega
                case rel => exact ⟨k + 1, x + 1, bs', Wn, v', by have := HX0.out; omega, rfl, by show x + 1 = _; have := HX0.out; omega, by go_num, rfl, hWn, hbn, HWn, HBn, HSn⟩
            · obtain rfl : k = hi + 1 - lo := by have := HX0.out; omega
              go_wp2
              go_meet
              case rel => exact ⟨bk, Wk, vk, by omega, hbk, rfl, HBk, HSk, by rw [HWk.out]; exact HR2⟩
        case rest =>
          obtain ⟨bs', Ws', v', hWl', hbs', rfl, HBS', HS', HR'⟩ := hcut
          have hx1 := Go.Proofs.bits_and_u32_nat gk (gk - 1) (by omega) (by omega)
          rw [← HM2.out, show ((gk - 1 : Nat) : Int) = (gk : Int) - 1 by omega] at hx1
          go_wp2
          go_roundg m2
          case measure => exact hl3
          case rel => exact ⟨m2, q + 1, bs', Ws', v', rfl, by omega, hq2, hWl', hbs', rfl, rfl, HBS', HS', HR'⟩
  case rest =>
  obtain ⟨v1, rfl, hWl, HS7⟩ := hcut
  clear HS2
  obtain ⟨ao, cap, hv, hWA⟩ := HS7.out.owns.words
  subst hv
  have o8 := HS7.out.port.o8
  obtain ⟨w7, rfl⟩ : ∃ w7, w7 = wc := ⟨_, rfl⟩
  clear hWA
  go_wp2
  go_loopg [124] WW.length (fun gk t wx => ∃ j : Nat, j ≤ WW.length ∧ gk = WW.length - j ∧ t = .int .i64 j ∧ Hid (St w wx pq cfq gb n bb base (.slice ao WW.length cap) WW (Pl.struck n WW j)))
  case atStart => exact ⟨0, by omega, rfl, rfl, by rw [Pl.struck_zero]; exact HS7⟩
  case round =>
    obtain ⟨j, hj, rfl, rfl, HSj⟩ := hrel
    clear o8
    by_cases hlt : j < WW.length
    · obtain ⟨ao', cap', hv', hWA⟩ := HSj.out.owns.words
      obtain ⟨rfl, _, rfl⟩ := Value.slice.inj hv'
      obtain ⟨g, rfl, hc0⟩ := hWA j hlt
      obtain ⟨y, HY, hc⟩ : ∃ y : Nat, Hid (y = WW.getD j 0) ∧ wr.cell? ⟨g, j, none⟩ = some (.int .u64 (y : Int)) := ⟨_, rfl, hc0⟩
      clear hc0 hWA hv'
      obtain ⟨r, hr⟩ : ∃ r, r = y % n := ⟨_, rfl⟩
      have er : (y : Int) % (n : Int) = (r : Int) := by rw [hr]; simp
      have hrn : r < n := by rw [hr]; exact Nat.mod_lt _ hn
      have HSU := Hid.mk (Pl.struck_succ n WW j hlt)
      rw [← HY.out, ← hr] at HSU
      clear hr
      have o9 := HSj.out.port.o9
      have pa := HSj.out.port.at r hrn
      have pf := HSj.out.port.fr r
      have hrI : (r : Int) < (n : Int) := by omega
      go_wp2
      go_region
      all_goals
        go_wp2
        go_roundg (WW.length - (j + 1))
        case measure => omega
        case rel => exact ⟨j + 1, by omega, rfl, by go_num, Hid.mk (by rw [← HSU.out]; exact (HSj.out.bank r 0).drew)⟩
    · obtain rfl : j = WW.length := by omega
      have HSf := HSj.out
      rw [Pl.struck_all] at HSf
      have HF := Hid.mk HSf
      clear HSf
      go_wp2
      go_ret
      exact ⟨_, rfl, HF.out⟩

end Go.Proofs.YbulkanvkDoor
