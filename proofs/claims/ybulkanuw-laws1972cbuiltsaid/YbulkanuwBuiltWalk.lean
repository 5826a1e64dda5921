/-
  LawS1972CBuilt: the walk.
-/
import Derived.Test.YbulkanuwBuiltParts
namespace Go.Proofs.Ybulkanuw
open Go.RowKit

set_option maxHeartbeats 16000000 in
set_option maxRecDepth 100000 in
theorem built_big (aP aI aF aE : Option Addr) (lP lI lF lE cP cI cF cE : Nat) (ng hf he : Bool) (sg tm : Int) (w : World) (h : 1024 < lP ∨ 1024 < lI ∨ 1024 < lF ∨ 1024 < lE) :
    Calls Yba.prog 4 #[.agg #[.slice aP lP cP, .bool ng, .slice aI lI cI, .bool hf, .slice aF lF cF, .bool he, .int .u8 sg, .slice aE lE cE, .int .u8 tm]] w
      fun e w' => e = .returned (.bool true) ∧ Below w.heap.size w w' := by
  by_cases h1 : 1024 < lP
  · have g1 : decide ((1024 : Int) < lP) = true := by simp; omega
    go_enter Yba.func4, Yba.ntmps4
    go_wp2
    go_ret
    exact ⟨rfl, (Below.refl _ _).alloc (Nat.le_refl _) _⟩
  have g1 : decide ((1024 : Int) < lP) = false := by simp; omega
  by_cases h2 : 1024 < lI
  · have g2 : decide ((1024 : Int) < lI) = true := by simp; omega
    go_enter Yba.func4, Yba.ntmps4
    go_wp2
    go_ret
    exact ⟨rfl, (Below.refl _ _).alloc (Nat.le_refl _) _⟩
  have g2 : decide ((1024 : Int) < lI) = false := by simp; omega
  by_cases h3 : 1024 < lF
  · have g3 : decide ((1024 : Int) < lF) = true := by simp; omega
    go_enter Yba.func4, Yba.ntmps4
    go_wp2
    go_ret
    exact ⟨rfl, (Below.refl _ _).alloc (Nat.le_refl _) _⟩
  have g3 : decide ((1024 : Int) < lF) = false := by simp; omega
  have h4 : 1024 < lE := by omega
  have g4 : decide ((1024 : Int) < lE) = true := by simp; omega
  go_enter Yba.func4, Yba.ntmps4
  go_wp2
  go_ret
  exact ⟨rfl, (Below.refl _ _).alloc (Nat.le_refl _) _⟩

theorem made_inv {wA w1 w' : World} {N : Nat} {P : List Int} (g1 : wA.grownBy w1 none)
    (h2 : w'.ownsRow wA.heap.size 5 1 (.slice (some ⟨wA.heap.size, 0, none⟩) (0 + P.length) N) (0 + P.length) ([] ++ P.map (Value.int .u8))) (g2 : w1.grownBy w' (some wA.heap.size)) (hsz : wA.heap.size ≤ w1.heap.size) : Inv wA.heap.size N wA w' P := by
  refine ⟨by simpa using h2, ?_, Nat.le_refl _⟩
  exact ((Below.refl _ _).grown g1 (Nat.le_refl _) (fun k hk => by cases hk)).grown g2 hsz (fun k hk => by simp at hk; omega)

set_option maxHeartbeats 16000000 in
set_option maxRecDepth 100000 in
theorem built_walk (aP aI aF aE : Option Addr) (cP cI cF cE : Nat) (P I F E : List Int) (ng hf he : Bool) (sg tm : Int) (w : World)
    (hP : P.length ≤ 1024) (hI : I.length ≤ 1024) (hF : F.length ≤ 1024) (hE : E.length ≤ 1024) (rP : Row w aP cP P) (rI : Row w aI cI I) (rF : Row w aF cF F) (rE : Row w aE cE E)
    (s0 : 0 ≤ sg) (s1 : sg ≤ 255) (t0 : 0 ≤ tm) (t1 : tm ≤ 255) :
    Calls Yba.prog 4 #[.agg #[.slice aP P.length cP, .bool ng, .slice aI I.length cI, .bool hf, .slice aF F.length cF, .bool he, .int .u8 sg, .slice aE E.length cE, .int .u8 tm]] w
      fun e w' => e = .returned (.bool true) ∧ Below w.heap.size w w' := by
  obtain ⟨i0, hi, hz0, hz1, hz2⟩ := info_parts info5
  have g1 : decide ((1024 : Int) < P.length) = false := by simp; omega
  have g2 : decide ((1024 : Int) < I.length) = false := by simp; omega
  have g3 : decide ((1024 : Int) < F.length) = false := by simp; omega
  have g4 : decide ((1024 : Int) < E.length) = false := by simp; omega
  go_enter Yba.func4, Yba.ntmps4
  go_wp2_with (at_make; refine wpList_make_own _ rfl _ _ 22 rfl (w.heap.size + 1) 5 i0 (.int .u8 0) 1 Yba.underlying22 hi hz0 hz1 _ _ _ (P.length + I.length + F.length + E.length + 8) rfl rfl ?c0 ?c1 ?c2 ?c3 ?_)
  case c0 => omega
  case c1 => rw [hz2]; omega
  case c2 => unfold maxLen; omega
  case c3 => simp
  intro w1 hown hgrow
  obtain ⟨wA, hwA⟩ : ∃ wA, wA = w.alloc (.cells #[.slice aP P.length cP, .bool ng, .slice aI I.length cI, .bool hf, .slice aF F.length cF, .bool he, .int .u8 sg, .slice aE E.length cE, .int .u8 tm] 28) := ⟨_, rfl⟩
  rw [← hwA] at hgrow
  have hsA : wA.heap.size = w.heap.size + 1 := by rw [hwA]; simp
  have hAB : Below w.heap.size w wA := by rw [hwA]; exact (Below.refl _ _).alloc (Nat.le_refl _) _
  have F0 : wA.cell? ⟨w.heap.size, 0, none⟩ = some (.slice aP P.length cP) := by rw [hwA, World.cell?_alloc_at _ _ _ _ rfl]; rfl
  have F1 : wA.cell? ⟨w.heap.size, 1, none⟩ = some (.bool ng) := by rw [hwA, World.cell?_alloc_at _ _ _ _ rfl]; rfl
  have F2 : wA.cell? ⟨w.heap.size, 2, none⟩ = some (.slice aI I.length cI) := by rw [hwA, World.cell?_alloc_at _ _ _ _ rfl]; rfl
  have F3 : wA.cell? ⟨w.heap.size, 3, none⟩ = some (.bool hf) := by rw [hwA, World.cell?_alloc_at _ _ _ _ rfl]; rfl
  have F4 : wA.cell? ⟨w.heap.size, 4, none⟩ = some (.slice aF F.length cF) := by rw [hwA, World.cell?_alloc_at _ _ _ _ rfl]; rfl
  have F5 : wA.cell? ⟨w.heap.size, 5, none⟩ = some (.bool he) := by rw [hwA, World.cell?_alloc_at _ _ _ _ rfl]; rfl
  have F6 : wA.cell? ⟨w.heap.size, 6, none⟩ = some (.int .u8 sg) := by rw [hwA, World.cell?_alloc_at _ _ _ _ rfl]; rfl
  have F7 : wA.cell? ⟨w.heap.size, 7, none⟩ = some (.slice aE E.length cE) := by rw [hwA, World.cell?_alloc_at _ _ _ _ rfl]; rfl
  have F8 : wA.cell? ⟨w.heap.size, 8, none⟩ = some (.int .u8 tm) := by rw [hwA, World.cell?_alloc_at _ _ _ _ rfl]; rfl
  have HF0 := Hid.mk F0; have HF1 := Hid.mk F1; have HF2 := Hid.mk F2; have HF3 := Hid.mk F3; have HF4 := Hid.mk F4; have HF5 := Hid.mk F5; have HF6 := Hid.mk F6; have HF7 := Hid.mk F7; have HF8 := Hid.mk F8
  have HSA := Hid.mk hsA
  clear F0 F1 F2 F3 F4 F5 F6 F7 F8 hwA hsA g1 g2 g3 g4
  have hb1 : Below wA.heap.size wA w1 := (Below.refl _ _).grown hgrow (Nat.le_refl _) (fun k hk => by cases hk)
  have f0 : w1.cell? ⟨w.heap.size, 0, none⟩ = some (.slice aP P.length cP) := (hb1.cell (by rw [HSA.out]; simp)).trans HF0.out
  have HG := Hid.mk hgrow
  have HO := Hid.mk hown
  clear hb1 hgrow hown
  go_wp2_with (at_builtin; refine wpList_append_fits_any _ rfl _ _ 22 rfl (w.heap.size + 1) 5 i0 1 Yba.underlying22 hi hz1 (w.heap.size + 1) 0 (P.length + I.length + F.length + E.length + 8) [] rfl HO.out aP P.length cP (P.map (Value.int .u8)) rfl ?d1 ?d2 ?d3 ?d4 ?d5 ?_)
  case d1 => simp
  case d2 => intro h; exact rP.nil h
  case d3 =>
    intro ad had j u hj
    have hj' : j < P.length := by have := (List.getElem?_eq_some_iff.1 hj).1; simpa using this
    obtain ⟨b, off, ha, hb, hc⟩ := rP.cell j hj'
    rw [ha] at had
    obtain rfl := Option.some.inj had
    rw [Addr.add_lit, (Below.cell ((Below.refl _ _).grown HG.out (Nat.le_refl _) (fun k hk => by cases hk)) (by rw [HSA.out]; show b < _; omega) : w1.cell? ⟨b, off + j, none⟩ = wA.cell? ⟨b, off + j, none⟩), hAB.cell (p := ⟨b, off + j, none⟩) hb, hc]
    simp [hj'] at hj
    simp [hj', hj]
  case d4 => exact ints_oneCell _ _
  case d5 => omega
  intro w2 hown2 hgrow2
  obtain ⟨cap, hcap⟩ : ∃ cap, cap = P.length + I.length + F.length + E.length + 8 := ⟨_, rfl⟩
  rw [← hcap] at hown2 ⊢
  have HCAP := Hid.mk hcap
  have HI : Hid (Inv (w.heap.size + 1) cap wA w2 P) := by
    have := @made_inv wA w1 w2 cap P HG.out (by rw [HSA.out]; simpa using hown2) (by rw [HSA.out]; exact hgrow2) HG.out.size
    rw [HSA.out] at this; exact this
  clear f0 HG HO hown2 hgrow2 hcap rP
  have f1 : w2.cell? ⟨w.heap.size, 1, none⟩ = some (.bool ng) := (HI.out.2.1.cell (by simp)).trans HF1.out
  go_upto_if 59 with fail
  go_cut [3] (fun t wx => ∃ xs : List Int, t = Value.slice (some ⟨w.heap.size + 1, 0, none⟩) xs.length cap ∧ Hid (xs = P ++ Pl.negL ng) ∧ Hid (Inv (w.heap.size + 1) cap wA wx xs))
  case first =>
    as_aux_lemma =>
      have hroom : P.length + 1 ≤ cap := by rw [HCAP.out]; omega
      cases ng
      · go_wp2
        go_meet
        case rel => exact ⟨P, rfl, (by simp [Pl.negL] : P = _), HI⟩
      · go_wp2_with (at_builtin; refine wpList_app1 w2 (w.heap.size + 1) cap wA P 45 rfl _ _ rfl rfl rfl HI.out (by omega) ?_; intro wn HN)
        go_meet
        case rel => exact ⟨P ++ [45], by simp, (by simp [Pl.negL] : P ++ [45] = _), HN⟩
  case rest =>
  obtain ⟨x1, rfl, E1, HI1⟩ := hcut
  clear HI f1 HF1 HF0
  have l1 : x1.length ≤ P.length + 1 := by rw [E1.out]; cases ng <;> simp [Pl.negL]
  have f2 : wc.cell? ⟨w.heap.size, 2, none⟩ = some (.slice aI I.length cI) := (HI1.out.2.1.cell (by simp)).trans HF2.out
  obtain ⟨vI, hvI⟩ : ∃ v, v = !I.isEmpty := ⟨_, rfl⟩
  have HVI := Hid.mk hvI
  clear hvI
  go_upto_region 8 with fail
  go_cut [5] (fun v wx => wc = wx ∧ v = .bool vI)
  case first =>
    as_aux_lemma =>
      by_cases h0 : I.length = 0
      · have hd : decide ((0 : Int) < I.length) = false := decide_eq_false (by omega)
        go_wp2
        go_meet
        case rel => exact ⟨rfl, by rw [HVI.out, List.eq_nil_of_length_eq_zero h0]; rfl⟩
      · have hd : decide ((0 : Int) < I.length) = true := decide_eq_true (by omega)
        go_wp2
        go_meet
        case rel => exact ⟨rfl, by rw [HVI.out]; cases I <;> simp at h0 ⊢⟩
  case rest =>
  obtain ⟨rfl, rfl⟩ := hcut
  go_upto_region 9 with fail
  go_cut [70] (fun v wx => wc = wx ∧ v = .bool vI)
  case first =>
    as_aux_lemma =>
      by_cases h0 : I.length = 0
      · have hd : decide ((0 : Int) < I.length) = false := decide_eq_false (by omega)
        go_wp2
        go_meet
        case rel => exact ⟨rfl, by rw [HVI.out, List.eq_nil_of_length_eq_zero h0]; rfl⟩
      · have hd : decide ((0 : Int) < I.length) = true := decide_eq_true (by omega)
        go_wp2
        go_meet
        case rel => exact ⟨rfl, by rw [HVI.out]; cases I <;> simp at h0 ⊢⟩
  case rest =>
  obtain ⟨rfl, rfl⟩ := hcut
  go_upto_if 70 with fail
  go_cut [3, 70] (fun t _ wx => ∃ xs : List Int, t = Value.slice (some ⟨w.heap.size + 1, 0, none⟩) xs.length cap ∧ Hid (xs = x1 ++ Pl.intL I) ∧ Hid (Inv (w.heap.size + 1) cap wA wx xs))
  case first =>
    as_aux_lemma =>
      by_cases h0 : I.length = 0
      · have hI0 : I = [] := List.eq_nil_of_length_eq_zero h0
        subst hI0
        obtain rfl : vI = false := HVI.out
        go_wp2
        go_meet
        case rel => exact ⟨x1, rfl, (by simp [Pl.intL] : x1 = _), HI1⟩
      · obtain rfl : vI = true := by rw [HVI.out]; cases I <;> simp at h0 ⊢
        have hpos : (0 : Int) < I.length := by omega
        obtain ⟨b, off, c, ha, hcell, HCC, c0, c1⟩ := rI.at hAB (by omega) HI1.out 0 (by omega)
        have hIL : Pl.intL I = if c % 10 = 0 then [48] else I.map Pl.dgt := by
          rw [HCC.out]; cases I with
          | nil => simp at h0
          | cons y r => rfl
        have HIL := Hid.mk hIL
        have hroom : x1.length + 1 ≤ cap := by rw [HCAP.out]; omega
        clear hIL HCC
        rw [ha] at f2
        simp only [Nat.add_zero] at hcell
        clear ha
        cases q : (c % 10 == 0)
        · have q' : ¬ c % 10 = 0 := by simpa using q
          have EE : Hid (x1 ++ Pl.intL I = x1 ++ I.map Pl.dgt) := by show _ = _; rw [HIL.out, if_neg q']
          clear q'
          go_wp2_with fail
          go_loopg [3, 6] I.length (fun gk t tk wx => ∃ k : Nat, k ≤ I.length ∧ gk = I.length - k ∧ tk = .int .i64 k ∧ t = Value.slice (some ⟨w.heap.size + 1, 0, none⟩) (x1 ++ (I.take k).map Pl.dgt).length cap ∧ Hid (Inv (w.heap.size + 1) cap wA wx (x1 ++ (I.take k).map Pl.dgt)))
          case atStart => exact ⟨0, by omega, rfl, rfl, by simp, by simpa using HI1⟩
          case round =>
            obtain ⟨k, hk, rfl, rfl, rfl, HK⟩ := hrel
            have lk : (x1 ++ (I.take k).map Pl.dgt).length ≤ x1.length + k := by simp; omega
            have fk : wr.cell? ⟨w.heap.size, 2, none⟩ = some (.slice aI I.length cI) := (HK.out.2.1.cell (by simp)).trans HF2.out
            by_cases hlt : k < I.length
            · obtain ⟨b, off, c, ha, hcell, HCC, c0, c1⟩ := rI.at hAB (by omega) HK.out k hlt
              have HT := Hid.mk (take_snoc I k hlt)
              rw [← HCC.out] at HT
              have hroom : (x1 ++ (I.take k).map Pl.dgt).length + 1 ≤ cap := by rw [HCAP.out]; omega
              generalize hy : x1 ++ (I.take k).map Pl.dgt = y at HK hroom lk ⊢
              have HY := Hid.mk hy
              clear hy
              rw [ha] at fk
              clear ha
              go_wp2_with (at_builtin; refine wpList_app1 wr (w.heap.size + 1) cap wA y (48 + c % 10) rfl _ _ rfl rfl rfl HK.out (by omega) ?_; intro wn HN)
              have HE : Hid (y ++ [48 + c % 10] = x1 ++ (I.take (k + 1)).map Pl.dgt) := by show _ = _; rw [HT.out, ← HY.out]; simp [Pl.dgt]
              go_wp2
              go_roundg (I.length - (k + 1))
              case measure => omega
              case rel => exact ⟨k + 1, by omega, rfl, by go_num, by rw [← HE.out]; simp, by rw [← HE.out]; exact HN⟩
            · have hkk : k = I.length := by omega
              subst hkk
              have HK2 : Hid (Inv (w.heap.size + 1) cap wA wr (x1 ++ I.map Pl.dgt)) := by simpa using HK
              clear HK
              go_wp2
              go_meet
              case rel => exact ⟨x1 ++ I.map Pl.dgt, by simp, by show _ = _; rw [EE.out], HK2⟩
        · have q' : c % 10 = 0 := by simpa using q
          have EE : Hid (x1 ++ Pl.intL I = x1 ++ [48]) := by show _ = _; rw [HIL.out, if_pos q']
          clear q'
          go_wp2_with (at_builtin; refine wpList_app1 wc (w.heap.size + 1) cap wA x1 48 rfl _ _ rfl rfl rfl HI1.out (by omega) ?_; intro wn HN)
          go_meet
          case rel => exact ⟨x1 ++ [48], by simp, by show _ = _; rw [EE.out], HN⟩
  case rest =>
  obtain ⟨x2, rfl, E2, HI2⟩ := hcut
  clear f2 HI1 HF2
  have l2 : x2.length ≤ P.length + 1 + I.length := by
    rw [E2.out]; simp only [List.length_append]
    have : (Pl.intL I).length ≤ I.length := by
      cases I with
      | nil => simp [Pl.intL]
      | cons c r => simp only [Pl.intL]; split <;> simp
    omega
  have f3 : wc.cell? ⟨w.heap.size, 3, none⟩ = some (.bool hf) := (HI2.out.2.1.cell (by simp)).trans HF3.out
  go_upto_if 98 with fail
  go_cut [3, 5, 98] (fun t v _ wx => ∃ (xs : List Int) (vF : Bool), t = Value.slice (some ⟨w.heap.size + 1, 0, none⟩) xs.length cap ∧ v = .bool vF ∧ Hid (vF = (vI && (!hf || !F.isEmpty))) ∧ Hid (xs = x2 ++ Pl.fracL hf F) ∧ Hid (Inv (w.heap.size + 1) cap wA wx xs))
  case first =>
    as_aux_lemma =>
      have hroom : x2.length + 1 ≤ cap := by rw [HCAP.out]; omega
      cases hf
      · go_wp2
        go_meet
        case rel => exact ⟨x2, vI, rfl, rfl, (by simp : vI = _), (by simp [Pl.fracL] : x2 = _), HI2⟩
      · go_wp2_with (at_builtin; refine wpList_app1 wc (w.heap.size + 1) cap wA x2 46 rfl _ _ rfl rfl rfl HI2.out (by omega) ?_; intro wn HN)
        obtain ⟨xa, hxa⟩ : ∃ xa, xa = x2 ++ [46] := ⟨_, rfl⟩
        have HXA := Hid.mk hxa
        have lxa : xa.length = x2.length + 1 := by rw [hxa]; simp
        rw [← lxa]
        rw [← hxa] at HN
        have lxb : xa.length ≤ x2.length + 1 := by omega
        clear lxa hxa
        go_loopg [3, 7] F.length (fun gk t tk wx => ∃ k : Nat, k ≤ F.length ∧ gk = F.length - k ∧ tk = .int .i64 k ∧ t = Value.slice (some ⟨w.heap.size + 1, 0, none⟩) (xa ++ (F.take k).map Pl.dgt).length cap ∧ Hid (Inv (w.heap.size + 1) cap wA wx (xa ++ (F.take k).map Pl.dgt)))
        case atStart => exact ⟨0, by omega, rfl, rfl, by simp, by simpa using HN⟩
        case round =>
          obtain ⟨k, hk, rfl, rfl, rfl, HK⟩ := hrel
          have lk : (xa ++ (F.take k).map Pl.dgt).length ≤ xa.length + k := by simp; omega
          have fk : wr.cell? ⟨w.heap.size, 4, none⟩ = some (.slice aF F.length cF) := (HK.out.2.1.cell (by simp)).trans HF4.out
          by_cases hlt : k < F.length
          · obtain ⟨b, off, c, ha, hcell, HCC, c0, c1⟩ := rF.at hAB (by omega) HK.out k hlt
            have HT := Hid.mk (take_snoc F k hlt)
            rw [← HCC.out] at HT
            have hroom : (xa ++ (F.take k).map Pl.dgt).length + 1 ≤ cap := by rw [HCAP.out]; omega
            generalize hy : xa ++ (F.take k).map Pl.dgt = y at HK hroom lk ⊢
            have HY := Hid.mk hy
            clear hy
            rw [ha] at fk
            clear ha
            go_wp2_with (at_builtin; refine wpList_app1 wr (w.heap.size + 1) cap wA y (48 + c % 10) rfl _ _ rfl rfl rfl HK.out (by omega) ?_; intro wn HN)
            have HE : Hid (y ++ [48 + c % 10] = xa ++ (F.take (k + 1)).map Pl.dgt) := by show _ = _; rw [HT.out, ← HY.out]; simp [Pl.dgt]
            go_wp2
            go_roundg (F.length - (k + 1))
            case measure => omega
            case rel => exact ⟨k + 1, by omega, rfl, by go_num, by rw [← HE.out]; simp, by rw [← HE.out]; exact HN⟩
          · have hkk : k = F.length := by omega
            subst hkk
            have HK2 : Hid (Inv (w.heap.size + 1) cap wA wr (xa ++ F.map Pl.dgt)) := by simpa using HK
            clear HK
            by_cases h0 : F.length = 0
            · have hd : ((F.length : Int) == 0) = true := beq_iff_eq.2 (by omega)
              have HL := Hid.mk h0
              clear h0
              go_wp2
              go_meet
              case rel => exact ⟨_, false, by simp, rfl, by show false = _; rw [List.eq_nil_of_length_eq_zero HL.out]; simp, (by rw [HXA.out]; simp [Pl.fracL] : xa ++ F.map Pl.dgt = _), HK2⟩
            · have hd : ((F.length : Int) == 0) = false := beq_eq_false_iff_ne.2 (by omega)
              have hne : F.isEmpty = false := by cases F <;> simp at h0 ⊢
              have HNE := Hid.mk hne
              clear hne
              go_wp2
              go_meet
              case rel => exact ⟨_, vI, by simp, rfl, by show vI = _; rw [HNE.out]; simp, (by rw [HXA.out]; simp [Pl.fracL] : xa ++ F.map Pl.dgt = _), HK2⟩
  case rest =>
  obtain ⟨x3, vF, rfl, rfl, EV3, E3, HI3⟩ := hcut
  clear f3 HI2 HF3 HF4
  have l3 : x3.length ≤ P.length + 1 + I.length + 1 + F.length := by
    rw [E3.out]; cases hf <;> simp [Pl.fracL] <;> omega
  have f5 : wc.cell? ⟨w.heap.size, 5, none⟩ = some (.bool he) := (HI3.out.2.1.cell (by simp)).trans HF5.out
  have f6 : wc.cell? ⟨w.heap.size, 6, none⟩ = some (.int .u8 sg) := (HI3.out.2.1.cell (by simp)).trans HF6.out
  go_upto_if 124 with fail
  go_cut [3, 5, 124] (fun t v _ wx => ∃ (xs : List Int) (vE : Bool), t = Value.slice (some ⟨w.heap.size + 1, 0, none⟩) xs.length cap ∧ v = .bool vE ∧ Hid (vE = (vF && (!he || !E.isEmpty))) ∧ Hid (xs = x3 ++ Pl.expL he sg E) ∧ Hid (Inv (w.heap.size + 1) cap wA wx xs))
  case first =>
    as_aux_lemma =>
      have hroom : x3.length + 3 ≤ cap := by rw [HCAP.out]; omega
      cases he
      · go_wp2
        go_meet
        case rel => exact ⟨x3, vF, rfl, rfl, (by simp : vF = _), (by simp [Pl.expL] : x3 = _), HI3⟩
      · go_upto_if 128 with fail
        go_cut [3, 128] (fun t _ wx => ∃ xs : List Int, t = Value.slice (some ⟨w.heap.size + 1, 0, none⟩) xs.length cap ∧ xs.length ≤ x3.length + 1 ∧ Hid (xs = x3 ++ [if sg % 2 = 0 then 101 else 69]) ∧ Hid (Inv (w.heap.size + 1) cap wA wx xs))
        case first =>
          cases q : (sg % 2 == 0)
          · have q' : ¬ sg % 2 = 0 := by simpa using q
            have EE : Hid (x3 ++ [if sg % 2 = 0 then (101 : Int) else 69] = x3 ++ [69]) := by show _ = _; rw [if_neg q']
            clear q'
            go_wp2_with (at_builtin; refine wpList_app1 wc (w.heap.size + 1) cap wA x3 69 rfl _ _ rfl rfl rfl HI3.out (by omega) ?_; intro wn HN)
            go_meet
            case rel => exact ⟨x3 ++ [69], by simp, by simp, by show _ = _; rw [EE.out], HN⟩
          · have q' : sg % 2 = 0 := by simpa using q
            have EE : Hid (x3 ++ [if sg % 2 = 0 then (101 : Int) else 69] = x3 ++ [101]) := by show _ = _; rw [if_pos q']
            clear q'
            go_wp2_with (at_builtin; refine wpList_app1 wc (w.heap.size + 1) cap wA x3 101 rfl _ _ rfl rfl rfl HI3.out (by omega) ?_; intro wn HN)
            go_meet
            case rel => exact ⟨x3 ++ [101], by simp, by simp, by show _ = _; rw [EE.out], HN⟩
        case rest =>
          obtain ⟨xa, rfl, lxa, EA, HIA⟩ := hcut
          clear HI3 f5 f6
          have f6 : wc.cell? ⟨w.heap.size, 6, none⟩ = some (.int .u8 sg) := (HIA.out.2.1.cell (by simp)).trans HF6.out
          go_upto_block 4 with fail
          go_cut [3] (fun t wx => ∃ xs : List Int, t = Value.slice (some ⟨w.heap.size + 1, 0, none⟩) xs.length cap ∧ xs.length ≤ x3.length + 2 ∧ Hid (xs = xa ++ Pl.signL sg) ∧ Hid (Inv (w.heap.size + 1) cap wA wx xs))
          case first =>
            cases q1 : (sg / 2 % 3 == 1)
            · cases q2 : (sg / 2 % 3 == 2)
              · have EE : Hid (xa ++ Pl.signL sg = xa) := by
                  show _ = _; rw [Pl.signL, if_neg (by simpa using q1), if_neg (by simpa using q2)]; simp
                go_wp2
                go_meet
                case rel => exact ⟨xa, rfl, by omega, by show _ = _; rw [EE.out], HIA⟩
              · have EE : Hid (xa ++ Pl.signL sg = xa ++ [45]) := by
                  show _ = _; rw [Pl.signL, if_neg (by simpa using q1), if_pos (by simpa using q2)]
                go_wp2_with (at_builtin; refine wpList_app1 wc (w.heap.size + 1) cap wA xa 45 rfl _ _ rfl rfl rfl HIA.out (by omega) ?_; intro wn HN)
                go_meet
                case rel => exact ⟨xa ++ [45], by simp, by simp; omega, by show _ = _; rw [EE.out], HN⟩
            · have EE : Hid (xa ++ Pl.signL sg = xa ++ [43]) := by
                show _ = _; rw [Pl.signL, if_pos (by simpa using q1)]
              go_wp2_with (at_builtin; refine wpList_app1 wc (w.heap.size + 1) cap wA xa 43 rfl _ _ rfl rfl rfl HIA.out (by omega) ?_; intro wn HN)
              go_meet
              case rel => exact ⟨xa ++ [43], by simp, by simp; omega, by show _ = _; rw [EE.out], HN⟩
          case rest =>
            obtain ⟨xb, rfl, lxb, EB, HIB⟩ := hcut
            clear HIA f6
            have HXX : Hid (xb ++ E.map Pl.dgt = x3 ++ Pl.expL true sg E) := by
              show _ = _; rw [EB.out, EA.out]; simp [Pl.expL]
            go_wp2_with fail
            go_loopg [3, 8] E.length (fun gk t tk wx => ∃ k : Nat, k ≤ E.length ∧ gk = E.length - k ∧ tk = .int .i64 k ∧ t = Value.slice (some ⟨w.heap.size + 1, 0, none⟩) (xb ++ (E.take k).map Pl.dgt).length cap ∧ Hid (Inv (w.heap.size + 1) cap wA wx (xb ++ (E.take k).map Pl.dgt)))
            case atStart => exact ⟨0, by omega, rfl, rfl, by simp, by simpa using HIB⟩
            case round =>
              obtain ⟨k, hk, rfl, rfl, rfl, HK⟩ := hrel
              have lk : (xb ++ (E.take k).map Pl.dgt).length ≤ xb.length + k := by simp; omega
              have fk : wr.cell? ⟨w.heap.size, 7, none⟩ = some (.slice aE E.length cE) := (HK.out.2.1.cell (by simp)).trans HF7.out
              by_cases hlt : k < E.length
              · obtain ⟨b, off, c, ha, hcell, HCC, c0, c1⟩ := rE.at hAB (by omega) HK.out k hlt
                have HT := Hid.mk (take_snoc E k hlt)
                rw [← HCC.out] at HT
                have hroom : (xb ++ (E.take k).map Pl.dgt).length + 1 ≤ cap := by rw [HCAP.out]; omega
                generalize hy : xb ++ (E.take k).map Pl.dgt = y at HK hroom lk ⊢
                have HY := Hid.mk hy
                clear hy
                rw [ha] at fk
                clear ha
                go_wp2_with (at_builtin; refine wpList_app1 wr (w.heap.size + 1) cap wA y (48 + c % 10) rfl _ _ rfl rfl rfl HK.out (by omega) ?_; intro wn HN)
                have HE : Hid (y ++ [48 + c % 10] = xb ++ (E.take (k + 1)).map Pl.dgt) := by show _ = _; rw [HT.out, ← HY.out]; simp [Pl.dgt]
                go_wp2
                go_roundg (E.length - (k + 1))
                case measure => omega
                case rel => exact ⟨k + 1, by omega, rfl, by go_num, by rw [← HE.out]; simp, by rw [← HE.out]; exact HN⟩
              · have hkk : k = E.length := by omega
                subst hkk
                have HK2 : Hid (Inv (w.heap.size + 1) cap wA wr (xb ++ E.map Pl.dgt)) := by simpa using HK
                clear HK
                by_cases h0 : E.length = 0
                · have hd : ((E.length : Int) == 0) = true := beq_iff_eq.2 (by omega)
                  have HL := Hid.mk h0
                  clear h0
                  go_wp2
                  go_meet
                  case rel => exact ⟨_, false, by simp, rfl, by show false = _; rw [List.eq_nil_of_length_eq_zero HL.out]; simp, (HXX.out : xb ++ E.map Pl.dgt = _), HK2⟩
                · have hd : ((E.length : Int) == 0) = false := beq_eq_false_iff_ne.2 (by omega)
                  have hne : E.isEmpty = false := by cases E <;> simp at h0 ⊢
                  have HNE := Hid.mk hne
                  clear hne
                  go_wp2
                  go_meet
                  case rel => exact ⟨_, vF, by simp, rfl, by show vF = _; rw [HNE.out]; simp, (HXX.out : xb ++ E.map Pl.dgt = _), HK2⟩
  case rest =>
  obtain ⟨x4, vE, rfl, rfl, EV4, E4, HI4⟩ := hcut
  clear f5 f6 HI3 HF5 HF6 HF7
  have l4 : x4.length ≤ P.length + 1 + I.length + 1 + F.length + 2 + E.length := by
    rw [E4.out]; cases he
    · simp [Pl.expL]; omega
    · have : (Pl.signL sg).length ≤ 1 := by unfold Pl.signL; repeat' split
                                            all_goals simp
      simp [Pl.expL]; omega
  have f8 : wc.cell? ⟨w.heap.size, 8, none⟩ = some (.int .u8 tm) := (HI4.out.2.1.cell (by simp)).trans HF8.out
  go_upto_region 40 with fail
  go_cut [10] (fun t wx => wc = wx ∧ t = .int .i64 (tm % 7))
  case first =>
    go_wp2
    go_meet
    case rel => exact ⟨rfl, rfl⟩
  case rest =>
  obtain ⟨rfl, rfl⟩ := hcut
  have HT7 := Hid.mk (show 0 ≤ tm % 7 ∧ tm % 7 ≤ 6 by omega)
  go_upto_region 41 with fail
  go_cut [177] (fun t wx => wc = wx ∧ t = .bool (decide (tm % 7 < 6)))
  case first =>
    go_wp2
    go_meet
    case rel => exact ⟨rfl, rfl⟩
  case rest =>
  obtain ⟨rfl, rfl⟩ := hcut
  go_upto_if 177 with fail
  go_cut [3, 10, 177] (fun t _ _ wx => ∃ xs : List Int, t = Value.slice (some ⟨w.heap.size + 1, 0, none⟩) xs.length cap ∧ Hid (xs = x4 ++ Pl.termL tm) ∧ Hid (Inv (w.heap.size + 1) cap wA wx xs))
  case first =>
    as_aux_lemma =>
      have hroom : x4.length + 1 ≤ cap := by rw [HCAP.out]; omega
      rcases (show tm % 7 = 0 ∨ tm % 7 = 1 ∨ tm % 7 = 2 ∨ tm % 7 = 3 ∨ tm % 7 = 4 ∨ tm % 7 = 5 ∨ tm % 7 = 6 by omega) with q | q | q | q | q | q | q
      · have EE : Hid (x4 ++ Pl.termL tm = x4 ++ [32]) := by show _ = _; rw [Pl.termL, if_pos (by omega)]
        go_wp2_with (at_builtin; refine wpList_app1 wc (w.heap.size + 1) cap wA x4 32 rfl _ _ rfl rfl rfl HI4.out (by omega) ?_; intro wn HN)
        go_meet
        case rel => exact ⟨x4 ++ [32], by simp, by show _ = _; rw [EE.out], HN⟩
      · have EE : Hid (x4 ++ Pl.termL tm = x4 ++ [44]) := by show _ = _; rw [Pl.termL, if_neg (by omega), if_pos (by omega)]
        go_wp2_with (at_builtin; refine wpList_app1 wc (w.heap.size + 1) cap wA x4 44 rfl _ _ rfl rfl rfl HI4.out (by omega) ?_; intro wn HN)
        go_meet
        case rel => exact ⟨x4 ++ [44], by simp, by show _ = _; rw [EE.out], HN⟩
      · have EE : Hid (x4 ++ Pl.termL tm = x4 ++ [93]) := by show _ = _; rw [Pl.termL, if_neg (by omega), if_neg (by omega), if_pos (by omega)]
        go_wp2_with (at_builtin; refine wpList_app1 wc (w.heap.size + 1) cap wA x4 93 rfl _ _ rfl rfl rfl HI4.out (by omega) ?_; intro wn HN)
        go_meet
        case rel => exact ⟨x4 ++ [93], by simp, by show _ = _; rw [EE.out], HN⟩
      · have EE : Hid (x4 ++ Pl.termL tm = x4 ++ [125]) := by show _ = _; rw [Pl.termL, if_neg (by omega), if_neg (by omega), if_neg (by omega), if_pos (by omega)]
        go_wp2_with (at_builtin; refine wpList_app1 wc (w.heap.size + 1) cap wA x4 125 rfl _ _ rfl rfl rfl HI4.out (by omega) ?_; intro wn HN)
        go_meet
        case rel => exact ⟨x4 ++ [125], by simp, by show _ = _; rw [EE.out], HN⟩
      · have EE : Hid (x4 ++ Pl.termL tm = x4 ++ [120]) := by show _ = _; rw [Pl.termL, if_neg (by omega), if_neg (by omega), if_neg (by omega), if_neg (by omega), if_pos (by omega)]
        go_wp2_with (at_builtin; refine wpList_app1 wc (w.heap.size + 1) cap wA x4 120 rfl _ _ rfl rfl rfl HI4.out (by omega) ?_; intro wn HN)
        go_meet
        case rel => exact ⟨x4 ++ [120], by simp, by show _ = _; rw [EE.out], HN⟩
      · have EE : Hid (x4 ++ Pl.termL tm = x4 ++ [34]) := by show _ = _; rw [Pl.termL, if_neg (by omega), if_neg (by omega), if_neg (by omega), if_neg (by omega), if_neg (by omega), if_pos (by omega)]
        go_wp2_with (at_builtin; refine wpList_app1 wc (w.heap.size + 1) cap wA x4 34 rfl _ _ rfl rfl rfl HI4.out (by omega) ?_; intro wn HN)
        go_meet
        case rel => exact ⟨x4 ++ [34], by simp, by show _ = _; rw [EE.out], HN⟩
      · have EE : Hid (x4 ++ Pl.termL tm = x4) := by show _ = _; rw [Pl.termL, if_neg (by omega), if_neg (by omega), if_neg (by omega), if_neg (by omega), if_neg (by omega), if_neg (by omega)]; simp
        go_wp2
        go_meet
        case rel => exact ⟨x4, rfl, by show _ = _; rw [EE.out], HI4⟩
  case rest =>
  obtain ⟨x5, rfl, E5, HI5⟩ := hcut
  clear f8 HI4 HF8
  have hbel : Below w.heap.size w wc := hAB.trans (HI5.out.2.1.mono (by omega))
  by_cases hlen : x5.length ≤ P.length
  · go_wp2
    go_ret
    exact ⟨rfl, hbel⟩
  · have hx : x5 = P ++ (Pl.num ng I hf F he sg E ++ Pl.termL tm) := by
      rw [E5.out, E4.out, E3.out, E2.out, E1.out, Pl.num]; simp
    have hx4 : x4.length = P.length + (Pl.num ng I hf F he sg E).length := by
      rw [E4.out, E3.out, E2.out, E1.out, Pl.num]; simp
    have hv : vE = Pl.valid I hf F he E := by rw [EV4.out, EV3.out, HVI.out]; rfl
    have l5 : x5.length ≤ x4.length + 1 := by
      rw [E5.out]; simp only [List.length_append]
      have : (Pl.termL tm).length ≤ 1 := by unfold Pl.termL; repeat' split
                                            all_goals simp
      omega
    have hr : Pl.numEnd x5 P.length = if vE = true then (x4.length, true) else (0, false) := by
      rw [Pl.numEnd_run x5 P.length (by omega), show x5.drop P.length = Pl.num ng I hf F he sg E ++ Pl.termL tm by rw [hx]; simp, Pl.num_law, ← hv, ← hx4]
    have N := Hid.mk (numberEnd_any (w.heap.size + 1) 0 x5.length cap x5 P.length wc rfl (by omega) (by omega) HI5.out.cells)
    rw [hr] at N
    clear hx hx4 hv hr E1 E2 E3 E4 E5 EV3 EV4 HVI HI5
    cases vE
    · go_wp2_with fail
      refine N.out.mono ?_
      rintro e w' ⟨rfl, hw'⟩
      rw [hw']
      clear hw' w' N
      go_wp2
      go_ret
      exact ⟨rfl, hbel⟩
    · go_wp2_with fail
      refine N.out.mono ?_
      rintro e w' ⟨rfl, hw'⟩
      rw [hw']
      clear hw' w' N
      go_wp2
      go_ret
      exact ⟨rfl, hbel⟩

end Go.Proofs.Ybulkanuw
