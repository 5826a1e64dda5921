/-
  Seat b1973aD: zzs1973bmodel by its contract.
-/
import Derived.Test.YbulkanvkDoorMake
namespace Go.Proofs.YbulkanvkDoor
open Go.RowKit

theorem info40 : (Ybad.prog.info? 40).map (fun i => (i.zero, i.size, i.bytes)) = some (some (.int .u64 0), 1, 8) := by kernel_rfl

def u64s (Ws : List Nat) : List Value := Ws.map (fun x => Value.int .u64 ((x : Nat) : Int))

/-- The slice v owns the words Ws among the blocks from 'base' on. -/
def Owns (w : World) (base : Nat) (v : Value) (Ws : List Nat) : Prop := w.ownsRow base 40 1 v Ws.length (u64s Ws)

theorem Owns.words {w : World} {base : Nat} {v : Value} {Ws : List Nat} (h : Owns w base v Ws) : ∃ ao cap, v = .slice ao Ws.length cap ∧ WordsAt w ao Ws := by
  rcases h.2 with ⟨rfl, h0⟩ | ⟨g, cap, cur, rfl, hb, hg, r⟩
  · exact ⟨none, 0, by rw [h0], fun j hj => by omega⟩
  · refine ⟨some ⟨g, 0, none⟩, cap, rfl, fun j hj => ⟨g, rfl, ?_⟩⟩
    rw [World.ownsRow.cellAt (w := w) (cap := cap) h j (by omega)]
    simp [u64s, List.getD, hj]

theorem Owns.ge {w : World} {base : Nat} {v : Value} {Ws : List Nat} (h : Owns w base v Ws) : ∀ k, v.ownBlock = some k → base ≤ k := fun k hk => (h.lt k hk).1

/-- One word more. -/
theorem wpList_appW {ops : Array Oper} {rest : List Oper} {o : Oper} {a : Act} {Q : Exit → Act → World → Prop} (wx : World) (base : Nat) (v : Value) (Ws : List Nat) (x : Nat)
    (hgd : o.guard = none) (s y : Operand) (hop : o.op = Op.call { callee := Callee.builtin Builtin.append, args := #[s, y], argTypes := #[35, 35] })
    (hs : a.eval s = v) (hy : a.eval y = .slice (some ⟨wx.heap.size, 0, none⟩) 1 1) (hO : Owns wx base v Ws) (hl : Ws.length ≤ 100000) (hbase : base ≤ wx.heap.size)
    (hK : ∀ v' w', Hid (Owns w' base v' (Ws ++ [x])) → Hid (Kept (· < base) wx w') → wpList Ybad.prog ops Q rest (a.put o.dst v') w') :
    wpList Ybad.prog ops Q (o :: rest) a (wx.alloc (.cells #[.int .u64 ((x : Nat) : Int)] 40)) := by
  obtain ⟨i0, hi, hz0, hz1, hz2⟩ := info_parts info40
  refine wpList_append_own _ hgd s y 35 hop base 40 i0 (.int .u64 0) 1 8 Ybad.underlying35 hi hz0 hz1 hz2 rfl (by decide) v Ws.length (u64s Ws) hs (hO.alloc _) ⟨wx.heap.size, 0, none⟩ 1 1 [.int .u64 ((x : Nat) : Int)] hy rfl ?_ ?_ ?_ ?_ ?_ ?_
  · intro j u hj
    match j, hj with
    | 0, hj =>
      simp at hj; subst hj
      rw [show ((⟨wx.heap.size, 0, none⟩ : Addr).add 0) = ⟨wx.heap.size, 0, none⟩ from rfl, World.cell?_alloc_at _ _ _ _ rfl]; rfl
  · intro u hu; simp at hu; subst hu; rfl
  · unfold maxLen; omega
  · omega
  · simp; omega
  · intro v' w1 hown hgr _
    refine hK v' w1 ?_ ?_
    · show w1.ownsRow base 40 1 v' (Ws ++ [x]).length (u64s (Ws ++ [x]))
      simpa [u64s] using hown
    · have h1 : Kept (· < base) wx (wx.alloc (.cells #[.int .u64 ((x : Nat) : Int)] 40)) := (Kept.refl _ _).alloc _
      refine h1.trans ⟨hgr.os, hgr.tape, hgr.output, hgr.size, fun k hk hkb => hgr.block k hk ?_⟩
      intro e
      have := hO.ge k e.symm
      omega

theorem Ext.of_kept {a w w' : World} {base : Nat} (h : Ext a w) (k : Kept (· < base) w w') (hb : a.heap.size ≤ base) : Ext a w' :=
  ⟨k.os.trans h.os, k.tape.trans h.tape, k.output.trans h.output, Nat.le_trans h.size k.size, fun j hj _ => (k.block j (Nat.lt_of_lt_of_le hj h.size) (by show j < base; omega)).trans (h.block j hj trivial)⟩

theorem mem_take_succ (W : List Nat) (j x : Nat) (h : j < W.length) : decide (x ∈ W.take (j + 1)) = (decide (x ∈ W.take j) || decide (x = W.getD j 0)) := by
  rw [List.take_succ_eq_append_getElem h, ← Bool.decide_or]
  apply decide_eq_decide.2
  rw [List.mem_append, List.mem_singleton]
  simp [List.getD, h]

theorem bit_low (m i : Nat) (hm : m < 4294967296) : bits BinOp.and IntKind.u32 ((m : Int) / 2 ^ i) 1 = if m.testBit i = true then 1 else 0 := by
  have e : (m : Int) / 2 ^ i = ((m / 2 ^ i : Nat) : Int) := by simp
  have hle : m / 2 ^ i ≤ m := Nat.div_le_self _ _
  have h1 := Go.Proofs.bits_and_u32_nat (m / 2 ^ i) 1 (by omega) (by omega)
  rw [e]
  rw [show ((1 : Nat) : Int) = 1 from rfl] at h1
  rw [h1, Nat.and_one_is_mod, Nat.testBit_eq_decide_div_mod_eq]
  by_cases h : m / 2 ^ i % 2 = 1
  · simp [h]
  · have : m / 2 ^ i % 2 = 0 := by omega
    simp [this]

set_option maxHeartbeats 4000000 in
set_option maxRecDepth 100000 in
theorem model_any (am : Bool) (n bb size m aq : Nat) (A : Nat → Nat) (w : World) (hA : ∀ i, i < 32 → w.cell? ⟨aq, i, none⟩ = some (.int .u64 ((A i : Nat) : Int))) (hA1 : ∀ i, A i ≤ 65535)
    (hn : 0 < n) (hn1 : n ≤ 32) (hb : 0 < bb) (hb1 : bb ≤ 8) (hs : 0 < size) (hs1 : size ≤ 16) (hm : m < 4294967296) :
    Calls Ybad.prog 8 #[.bool am, .int .i64 n, .int .i64 bb, .int .i64 size, .int .u32 m, .pointer (some ⟨aq, 0, none⟩)] w fun e w' =>
      e = .returned (.int .i64 (Pl.best n (Pl.runL am bb size A (Pl.lanesFrom m 0) []))) ∧ Ext w w' := by
  have HA := Hid.mk hA
  have HA1 := Hid.mk hA1
  clear hA hA1
  obtain ⟨WW, hWW⟩ : ∃ WW, WW = Pl.runL am bb size A (Pl.lanesFrom m 0) [] := ⟨_, rfl⟩
  rw [← hWW]
  have HW := Hid.mk hWW
  clear hWW
  have hbp : (0 : Int) < (bb : Int) := by omega
  have hnp : (0 : Int) < (n : Int) := by omega
  have hbz : ¬ bb = 0 := by omega
  have hnz : ¬ n = 0 := by omega
  go_enter Ybad.func8, Ybad.ntmps8
  go_upto_block 0 with fail
  go_cut [13] (fun tv wx => WW.length ≤ 512 ∧ Hid (Owns wx w.heap.size tv WW) ∧ Hid (Ext w wx))
  case first =>
    go_wp2_with fail
    go_loopg [13, 14] 32 (fun gk tv t wx => ∃ (i : Nat) (Ws : List Nat), i ≤ 32 ∧ gk = 32 - i ∧ t = .int .i64 i ∧ Ws.length ≤ 16 * i ∧ Hid (Owns wx w.heap.size tv Ws) ∧ Hid (Ext w wx) ∧ Hid (Pl.runL am bb size A (Pl.lanesFrom m i) Ws = WW))
    case atStart => exact ⟨0, [], by omega, rfl, rfl, by simp, World.ownsRow_nil _ _ _ _, Ext.refl w, HW.out.symm⟩
    case round =>
      obtain ⟨i, Ws, hi32, rfl, rfl, hWl, HO, HE, HR⟩ := hrel
      by_cases hlt : i < 32
      · have hd32 : decide ((i : Int) < 32) = true := decide_eq_true (by omega)
        go_upto_block 1 with fail
        go_cut [13] (fun tv wx => ∃ (Ws' : List Nat), Ws'.length ≤ 16 * (i + 1) ∧ Hid (Owns wx w.heap.size tv Ws') ∧ Hid (Ext w wx) ∧ Hid (Pl.runL am bb size A (Pl.lanesFrom m (i + 1)) Ws' = WW))
        case first =>
          have hst := Pl.lanes_step m i hlt
          have hbit := bit_low m i hm
          cases hbt : m.testBit i
          · rw [hbt] at hst hbit
            have hb0 : (bits BinOp.and IntKind.u32 ((m : Int) / 2 ^ i) 1 == 0) = true := by rw [hbit]; rfl
            have HR2 : Hid (Pl.runL am bb size A (Pl.lanesFrom m (i + 1)) Ws = WW) := by
              have := HR.out; rw [hst] at this; exact this
            clear hst hbit hbt
            go_wp2
            go_meet
            case rel => exact ⟨Ws, by omega, HO, HE, HR2⟩
          · rw [hbt] at hst hbit
            have hb0 : (bits BinOp.and IntKind.u32 ((m : Int) / 2 ^ i) 1 == 0) = false := by rw [hbit]; rfl
            have HR2 : Hid (Pl.runL am bb size A (Pl.lanesFrom m (i + 1)) (Pl.addLane am bb size Ws (A i)) = WW) := by
              have := HR.out; rw [hst] at this; exact this
            clear hst hbit hbt
            obtain ⟨a, HAi, ca, ha1⟩ : ∃ a : Nat, Hid (a = A i) ∧ wr.cell? ⟨aq, i, none⟩ = some (.int .u64 ((a : Nat) : Int)) ∧ a ≤ 65535 := ⟨A i, rfl, HE.out.cell (HA.out i hlt), HA1.out i⟩
            rw [← HAi.out] at HR2
            obtain ⟨lo, hlo⟩ : ∃ lo, lo = a / bb := ⟨_, rfl⟩
            obtain ⟨hi, hhi⟩ : ∃ hi, hi = (a + size - 1) / bb := ⟨_, rfl⟩
            have e1 : (a : Int) / (bb : Int) = (lo : Int) := by rw [hlo]; simp
            have e2 : ((a : Int) + (size : Int) - 1) / (bb : Int) = (hi : Int) := by
              rw [hhi, Int.natCast_ediv]; congr 1; omega
            have hlh : lo ≤ hi := by rw [hlo, hhi]; exact Nat.div_le_div_right (by omega)
            have hhb : hi ≤ 65551 := by rw [hhi]; have := Nat.div_le_self (a + size - 1) bb; omega
            have hsp : hi + 1 - lo ≤ 16 := by have := Pl.span_le bb size a hb hs; unfold Pl.span at this; rw [← hlo, ← hhi] at this; omega
            have HAL : Hid (Pl.addLane am bb size Ws a = Pl.addTo am Ws lo (hi + 1 - lo)) := by show _ = _; unfold Pl.addLane Pl.span; rw [← hlo, ← hhi]
            rw [HAL.out] at HR2
            clear hlo hhi HAi HAL
            obtain ⟨w3, rfl⟩ : ∃ w3, w3 = wr := ⟨_, rfl⟩
            go_upto_region 7 with fail
            go_cut [16] (fun t wx => w3 = wx ∧ t = .int .u64 ((lo : Nat) : Int))
            case first =>
              go_wp2
              go_meet
              case rel => exact ⟨rfl, by rw [← e1]⟩
            case rest =>
            obtain ⟨rfl, rfl⟩ := hcut
            go_upto_region 8 with fail
            go_cut [17] (fun t wx => w3 = wx ∧ t = .int .u64 ((hi : Nat) : Int))
            case first =>
              go_wp2
              go_meet
              case rel => exact ⟨rfl, by rw [← e2]⟩
            case rest =>
            obtain ⟨rfl, rfl⟩ := hcut
            clear e1 e2 ca
            go_wp2
            go_loopg [13, 18] (hi + 1 - lo) (fun gk tv t wx => ∃ k x : Nat, k ≤ hi + 1 - lo ∧ gk = hi + 1 - lo - k ∧ Hid (x = lo + k) ∧ t = .int .u64 ((x : Nat) : Int) ∧ Hid (Owns wx w.heap.size tv (Pl.addTo am Ws lo k)) ∧ Hid (Ext w wx))
            case atStart => exact ⟨0, lo, by omega, rfl, rfl, rfl, HO, HE⟩
            case round =>
              obtain ⟨k, x, hk, rfl, HX0, rfl, HOk, HEk⟩ := hrel
              have hWk := Pl.addTo_len am Ws lo k
              have hxlo : lo ≤ x := by rw [HX0.out]; omega
              by_cases hlt2 : x ≤ hi
              · go_upto_block 3 with fail
                go_cut [13] (fun tv wx => Hid (Owns wx w.heap.size tv (Pl.addTo am Ws lo (k + 1))) ∧ Hid (Ext w wx))
                case first =>
                  have HST : Hid (Pl.addTo am Ws lo (k + 1) = Pl.addW am (Pl.addTo am Ws lo k) (lo + k)) := Hid.mk rfl
                  generalize Pl.addTo am Ws lo k = Wk at HOk hWk HST
                  rw [← HX0.out] at HST
                  have hxb : x ≤ 100000 := by omega
                  obtain ⟨w4, rfl⟩ : ∃ w4, w4 = wr := ⟨_, rfl⟩
                  obtain ⟨ao, cap, hv, hWA⟩ := HOk.out.words
                  subst hv
                  have HWA := Hid.mk hWA
                  have hws : w.heap.size ≤ w4.heap.size := HEk.out.size
                  clear hWA
                  cases am
                  · go_upto_if 61 with fail
                    go_cut [19, 61] (fun td _ wx => w4 = wx ∧ td = .bool (decide (x ∈ Wk)))
                    case first =>
                      go_wp2_with fail
                      go_loopg [19, 64] Wk.length (fun gk td t wx => w4 = wx ∧ ∃ j : Nat, j ≤ Wk.length ∧ gk = Wk.length - j ∧ t = .int .i64 j ∧ td = .bool (decide (x ∈ Wk.take j)))
                      case atStart => exact ⟨rfl, 0, by omega, rfl, rfl, by simp⟩
                      case round =>
                        obtain ⟨rfl, j, hj, rfl, rfl, rfl⟩ := hrel
                        by_cases hlt3 : j < Wk.length
                        · obtain ⟨g, rfl, hc0⟩ := HWA.out j hlt3
                          obtain ⟨y, HY, hc⟩ : ∃ y : Nat, Hid (y = Wk.getD j 0) ∧ w4.cell? ⟨g, j, none⟩ = some (.int .u64 (y : Int)) := ⟨_, rfl, hc0⟩
                          clear hc0
                          have HT := Hid.mk (mem_take_succ Wk j x hlt3)
                          rw [← HY.out] at HT
                          generalize decide (x ∈ Wk.take j) = dj at HT ⊢
                          by_cases hxy : y = x
                          · have hb : ((y : Int) == (x : Int)) = true := by simp [hxy]
                            have HX := Hid.mk hxy
                            clear hxy
                            go_wp2
                            go_roundg (Wk.length - (j + 1))
                            case measure => omega
                            case rel => exact ⟨rfl, j + 1, by omega, rfl, by go_num, by rw [HT.out, HX.out]; simp⟩
                          · have hb : ((y : Int) == (x : Int)) = false := by simp; omega
                            have HX := Hid.mk hxy
                            clear hxy
                            go_wp2
                            go_roundg (Wk.length - (j + 1))
                            case measure => omega
                            case rel => exact ⟨rfl, j + 1, by omega, rfl, by go_num, by rw [HT.out]; simp [Ne.symm HX.out]⟩
                        · obtain rfl : j = Wk.length := by omega
                          go_wp2
                          go_meet
                          case rel => exact ⟨rfl, by rw [List.take_length]⟩
                    case rest =>
                      obtain ⟨rfl, rfl⟩ := hcut
                      cases hd : decide (x ∈ Wk)
                      · have e : Pl.addTo false Ws lo (k + 1) = Wk ++ [x] := by
                          rw [HST.out, Pl.addW, if_neg (fun h => by simpa using (decide_eq_false_iff_not.1 hd) h.2)]
                        have HEq := Hid.mk e
                        clear hd e
                        go_wp2_with (at_builtin; refine wpList_appW w4 w.heap.size _ Wk x rfl _ _ rfl rfl rfl HOk.out (by omega) hws ?_; intro v' w' HO' HK')
                        go_meet
                        case rel => exact ⟨by rw [HEq.out]; exact HO', HEk.out.of_kept HK'.out (Nat.le_refl _)⟩
                      · have e : Pl.addTo false Ws lo (k + 1) = Wk := by
                          rw [HST.out, Pl.addW, if_pos ⟨rfl, decide_eq_true_iff.1 hd⟩]
                        have HEq := Hid.mk e
                        clear hd e
                        go_wp2
                        go_meet
                        case rel => exact ⟨by rw [HEq.out]; exact HOk, HEk⟩
                  · have e : Pl.addTo true Ws lo (k + 1) = Wk ++ [x] := by
                      rw [HST.out, Pl.addW, if_neg (fun h => by simpa using h.1)]
                    have HEq := Hid.mk e
                    clear e
                    go_wp2_with (at_builtin; refine wpList_appW w4 w.heap.size _ Wk x rfl _ _ rfl rfl rfl HOk.out (by omega) hws ?_; intro v' w' HO' HK')
                    go_meet
                    case rel => exact ⟨by rw [HEq.out]; exact HO', HEk.out.of_kept HK'.out (Nat.le_refl _)⟩
                case rest =>
                  obtain ⟨HO', HE'⟩ := hcut
                  go_wp2
                  go_roundg (hi + 1 - lo - (k + 1))
                  case measure => have := HX0.out; omega
                  case rel => exact ⟨k + 1, x + 1, by have := HX0.out; omega, rfl, by show x + 1 = _; have := HX0.out; omega, by go_num, HO', HE'⟩
              · obtain rfl : k = hi + 1 - lo := by have := HX0.out; omega
                go_wp2
                go_meet
                case rel => exact ⟨_, by have := Pl.addTo_len am Ws lo (hi + 1 - lo); omega, HOk, HEk, HR2⟩
        case rest =>
          obtain ⟨Ws', hW', HO', HE', HR'⟩ := hcut
          go_wp2
          go_roundg (32 - (i + 1))
          case measure => omega
          case rel => exact ⟨i + 1, Ws', by omega, rfl, by go_num, hW', HO', HE', HR'⟩
      · have e : Ws = WW := by
          have := HR.out
          rw [Pl.lanes_end m i (by omega)] at this
          exact this
        subst e
        go_wp2
        go_meet
        case rel => exact ⟨by omega, HO, HE⟩
  case rest =>
    obtain ⟨hWl, HO, HE⟩ := hcut
    obtain ⟨ao, cap, hv, hWA⟩ := HO.out.words
    subst hv
    have HWA := Hid.mk hWA
    clear hWA HO HW
    obtain ⟨w5, rfl⟩ : ∃ w5, w5 = wc := ⟨_, rfl⟩
    go_wp2
    go_loopg [22, 23] n (fun gk tb t wx => w5 = wx ∧ ∃ b best : Nat, b ≤ n ∧ best ≤ 512 ∧ gk = n - b ∧ t = .int .i64 b ∧ tb = .int .i64 best ∧ Hid (best = Pl.bestTo n WW b))
    case atStart => exact ⟨rfl, 0, 0, by omega, by omega, rfl, rfl, rfl, rfl⟩
    case round =>
      obtain ⟨rfl, b, best, hbn, hb512, rfl, rfl, rfl, HBe⟩ := hrel
      by_cases hlt : b < n
      · have hdb : decide ((b : Int) < (n : Int)) = true := decide_eq_true (by omega)
        go_wp2
        go_loopg [24, 85] WW.length (fun gk tc t wx => w5 = wx ∧ ∃ j c : Nat, j ≤ WW.length ∧ c ≤ j ∧ gk = WW.length - j ∧ t = .int .i64 j ∧ tc = .int .i64 c ∧ Hid (c = Pl.cnt n (WW.take j) b))
        case atStart => exact ⟨rfl, 0, 0, by omega, by omega, rfl, rfl, rfl, rfl⟩
        case round =>
          obtain ⟨rfl, j, c, hj, hcj, rfl, rfl, rfl, HCn⟩ := hrel
          by_cases hlt3 : j < WW.length
          · obtain ⟨g, rfl, hc0⟩ := HWA.out j hlt3
            obtain ⟨y, HY, hc⟩ : ∃ y : Nat, Hid (y = WW.getD j 0) ∧ w5.cell? ⟨g, j, none⟩ = some (.int .u64 (y : Int)) := ⟨_, rfl, hc0⟩
            clear hc0
            have HT : Hid (Pl.cnt n (WW.take (j + 1)) b = Pl.cnt n (WW.take j) b + if y % n = b then 1 else 0) := by
              show _ = _
              rw [HY.out, ← Pl.cnt_snoc]; congr 1
              rw [List.take_succ_eq_append_getElem hlt3]; simp [List.getD, hlt3]
            rw [← HCn.out] at HT
            obtain ⟨r, hr⟩ : ∃ r, r = y % n := ⟨_, rfl⟩
            rw [← hr] at HT
            have er : (y : Int) % (n : Int) = (r : Int) := by rw [hr]; simp
            have hrn : r < n := by rw [hr]; exact Nat.mod_lt _ hn
            clear hr HCn
            by_cases hrb : r = b
            · have hbb : ((r : Int) == (b : Int)) = true := by simp [hrb]
              have HRB := Hid.mk hrb
              clear hrb
              go_wp2
              go_roundg (WW.length - (j + 1))
              case measure => omega
              case rel => exact ⟨rfl, j + 1, c + 1, by omega, by omega, rfl, by go_num, by go_num, by show c + 1 = _; rw [HT.out, if_pos HRB.out]⟩
            · have hbb : ((r : Int) == (b : Int)) = false := by simp; omega
              have HRB := Hid.mk hrb
              clear hrb
              go_wp2
              go_roundg (WW.length - (j + 1))
              case measure => omega
              case rel => exact ⟨rfl, j + 1, c, by omega, by omega, rfl, by go_num, rfl, by show c = _; rw [HT.out, if_neg HRB.out]; rfl⟩
          · obtain rfl : j = WW.length := by omega
            have HS : Hid (Pl.bestTo n WW (b + 1) = max best c) := by
              show max (Pl.bestTo n WW b) (Pl.cnt n WW b) = _
              rw [HBe.out, HCn.out, List.take_length]
            clear HCn
            by_cases hcb : best < c
            · go_wp2
              go_roundg (n - (b + 1))
              case measure => omega
              case rel => exact ⟨rfl, b + 1, c, by omega, by omega, rfl, by go_num, rfl, by show c = _; rw [HS.out]; omega⟩
            · go_wp2
              go_roundg (n - (b + 1))
              case measure => omega
              case rel => exact ⟨rfl, b + 1, best, by omega, by omega, rfl, by go_num, rfl, by show best = _; rw [HS.out]; omega⟩
      · obtain rfl : b = n := by omega
        go_wp2
        go_ret
        exact ⟨ret_int (by rw [HBe.out]; rfl), HE.out⟩

end Go.Proofs.YbulkanvkDoor
