/-
  LawS1973BReuse: the row, from the walk (YbulkanvkDoorLawR); the tied card.
-/
import Derived.Test.YbulkanvkDoorLawR
import Derived.Test.YbulkanvkDoorOpen
import Derived.Test.YbulkanvkDoorTie
import Derived.Test.YbulkanvkDoorCards
import Derived.SevenTiedAt
namespace Go.Proofs.YbulkanvkDoor.lawS1973BReuse
open Go.ChangeShapes Go.WideShapes Go.ChangeAt Go.RowKit

theorem okWide_array {P : Program} {w : World} {r : Reach} {base n : Nat} {t e : TypeId} {v : Value} (ht : P.underlying t = some (.array n e)) (h : Value.okWide P w r base t v) : ∃ cs, v = .agg cs := by
  simp only [Value.okWide, ht] at h
  obtain ⟨cs, h1, _⟩ := h
  exact ⟨cs, h1⟩

set_option maxRecDepth 100000 in
theorem lifted (os : Os) (started : os.Started) (H : Type) (enc : TypeId × Value → H) :
    ReturnsInHanded {} Ybad.checked os 4 .any (fun w args => (Rows.lawS1973BReuseSpec.pre enc Ybad.prog Ybad.f4 [] false w args ∧ laidMetH Ybad.prog Rows.lawS1973BReuseRow.laid w) ∧ sizedMet enc Ybad.prog Ybad.f4 (OpenSpec.ofChange Rows.lawS1973BReuseSpec) false w args)
      (Rows.lawS1973BReuseSpec.post enc Ybad.prog Ybad.f4 false true false false) := by
  refine returnsInHanded_of_change_and (C := Ybad.checked) (X := fun w _ => laidMetH Ybad.prog Rows.lawS1973BReuseRow.laid w) (fun _ _ _ hh h => h.of_heap hh) own started (by kernel_rfl) Ybad.func4
    (ChangeSpec.witness_shaped (enc := enc) (C := Ybad.checked) (os := os) (X := fun w _ => laidMetH Ybad.prog Rows.lawS1973BReuseRow.laid w) false (World.doorLaid Ybad.prog 400 os) #[.int .u8 0, .int .u8 0, .int .u8 0, .int .u8 0, .int .u8 0, .int .u8 0, .int .u32 0, .int .u32 0, .agg #[.int .u16 0, .int .u16 0, .int .u16 0, .int .u16 0, .int .u16 0, .int .u16 0, .int .u16 0, .int .u16 0, .int .u16 0, .int .u16 0, .int .u16 0, .int .u16 0, .int .u16 0, .int .u16 0, .int .u16 0, .int .u16 0, .int .u16 0, .int .u16 0, .int .u16 0, .int .u16 0, .int .u16 0, .int .u16 0, .int .u16 0, .int .u16 0, .int .u16 0, .int .u16 0, .int .u16 0, .int .u16 0, .int .u16 0, .int .u16 0, .int .u16 0, .int .u16 0], .agg #[.int .u16 0, .int .u16 0, .int .u16 0, .int .u16 0, .int .u16 0, .int .u16 0, .int .u16 0, .int .u16 0, .int .u16 0, .int .u16 0, .int .u16 0, .int .u16 0, .int .u16 0, .int .u16 0, .int .u16 0, .int .u16 0, .int .u16 0, .int .u16 0, .int .u16 0, .int .u16 0, .int .u16 0, .int .u16 0, .int .u16 0, .int .u16 0, .int .u16 0, .int .u16 0, .int .u16 0, .int .u16 0, .int .u16 0, .int .u16 0, .int .u16 0, .int .u16 0]] 8 rfl (World.shaped_of_RefB (by kernel_rfl) (by kernel_rfl)) (by kernel_rfl) (by kernel_rfl) (by kernel_rfl) (door_met os _)) ?_
  intro W base args ds gs before hval0 hW _ _ hL _
  have hval : ∀ (j : Nat) t v, Ybad.f4.params[j]? = some t → args[j]? = some v → Value.okWide Ybad.prog W .any base t v := hval0
  have hW' := hW
  obtain ⟨p, q, hA0, hV, rfl, hfz, hnd⟩ := hW
  have hA : DataW.TrodAll enc Ybad.prog W 0 (fun _ => true) true Ybad.f4.params.toList args.toList ds p := hA0
  rw [Ybad.params4] at hA hval
  obtain ⟨v0, vs0, d0, ds0, p0, q0, hargs, rfl, rfl, h0, r0⟩ := trodAll_cons hA
  obtain ⟨v1, vs1, d1, ds1, p1, q1, rfl, rfl, rfl, h1, r1⟩ := trodAll_cons r0
  obtain ⟨v2, vs2, d2, ds2, p2, q2, rfl, rfl, rfl, h2, r2⟩ := trodAll_cons r1
  obtain ⟨v3, vs3, d3, ds3, p3, q3, rfl, rfl, rfl, h3, r3⟩ := trodAll_cons r2
  obtain ⟨v4, vs4, d4, ds4, p4, q4, rfl, rfl, rfl, h4, r4⟩ := trodAll_cons r3
  obtain ⟨v5, vs5, d5, ds5, p5, q5, rfl, rfl, rfl, h5, r5⟩ := trodAll_cons r4
  obtain ⟨v6, vs6, d6, ds6, p6, q6, rfl, rfl, rfl, h6, r6⟩ := trodAll_cons r5
  obtain ⟨v7, vs7, d7, ds7, p7, q7, rfl, rfl, rfl, h7, r7⟩ := trodAll_cons r6
  obtain ⟨v8, vs8, d8, ds8, p8, q8, rfl, rfl, rfl, h8, r8⟩ := trodAll_cons r7
  obtain ⟨v9, vs9, d9, ds9, p9, q9, rfl, rfl, rfl, h9, r9⟩ := trodAll_cons r8
  obtain ⟨rfl, rfl, rfl⟩ := trodAll_nil r9
  obtain rfl : args = #[v0, v1, v2, v3, v4, v5, v6, v7, v8, v9] := by cases args; simp_all
  obtain ⟨rfl, rfl⟩ := trodVars_none hV
  obtain ⟨a0, rfl, rfl, rfl, w0⟩ := open_int Ybad.underlying5 (hval 0 5 v0 rfl rfl) h0
  obtain ⟨a1, rfl, rfl, rfl, w1⟩ := open_int Ybad.underlying5 (hval 1 5 v1 rfl rfl) h1
  obtain ⟨a2, rfl, rfl, rfl, w2⟩ := open_int Ybad.underlying5 (hval 2 5 v2 rfl rfl) h2
  obtain ⟨a3, rfl, rfl, rfl, w3⟩ := open_int Ybad.underlying5 (hval 3 5 v3 rfl rfl) h3
  obtain ⟨a4, rfl, rfl, rfl, w4⟩ := open_int Ybad.underlying5 (hval 4 5 v4 rfl rfl) h4
  obtain ⟨a5, rfl, rfl, rfl, w5⟩ := open_int Ybad.underlying5 (hval 5 5 v5 rfl rfl) h5
  obtain ⟨a6, rfl, rfl, rfl, w6⟩ := open_int Ybad.underlying22 (hval 6 22 v6 rfl rfl) h6
  obtain ⟨a7, rfl, rfl, rfl, w7⟩ := open_int Ybad.underlying22 (hval 7 22 v7 rfl rfl) h7
  obtain ⟨cs8, rfl⟩ := okWide_array Ybad.underlying24 (hval 8 24 v8 rfl rfl)
  have k8 := h8
  have lt8 : ∀ x ∈ p8, x.block < W.heap.size := by obtain ⟨m, hm⟩ := k8; exact DataW.trod_lt m _ _ _ hm
  obtain ⟨L, rfl, hL32, hLb⟩ : ∃ L : List Int, cs8 = (L.map (Value.int .u16)).toArray ∧ L.length = 32 ∧ ∀ j, 0 ≤ L.getD j 0 ∧ L.getD j 0 ≤ 65535 := by
    obtain ⟨m, hm⟩ := h8
    obtain ⟨L, e, h1, h2⟩ := open_arr hm
    exact ⟨L, by apply Array.toList_inj.1; simpa [Value.cells] using e, h1, h2⟩
  obtain ⟨cs9, rfl⟩ := okWide_array Ybad.underlying24 (hval 9 24 v9 rfl rfl)
  have k9 := h9
  have lt9 : ∀ x ∈ p9, x.block < W.heap.size := by obtain ⟨m, hm⟩ := k9; exact DataW.trod_lt m _ _ _ hm
  obtain ⟨M, rfl, hM32, hMb⟩ : ∃ L : List Int, cs9 = (L.map (Value.int .u16)).toArray ∧ L.length = 32 ∧ ∀ j, 0 ≤ L.getD j 0 ∧ L.getD j 0 ≤ 65535 := by
    obtain ⟨m, hm⟩ := h9
    obtain ⟨L, e, h1, h2⟩ := open_arr hm
    exact ⟨L, by apply Array.toList_inj.1; simpa [Value.cells] using e, h1, h2⟩
  obtain ⟨hT, hw0⟩ := of_laid hL
  clear hA0 hval0
  have b6 := bounds_u32 w6
  obtain ⟨m, rfl⟩ := Int.eq_ofNat_of_zero_le b6.1
  have b7 := bounds_u32 w7
  obtain ⟨m', rfl⟩ := Int.eq_ofNat_of_zero_le b7.1
  refine (walkR a0 a1 a2 a3 a4 a5 m m' L M W (bounds_u8 w0).1 (bounds_u8 w0).2 (bounds_u8 w1).1 (bounds_u8 w1).2 (bounds_u8 w2).1 (bounds_u8 w2).2 (bounds_u8 w3).1 (bounds_u8 w3).2 (bounds_u8 w4).1 (bounds_u8 w4).2 (bounds_u8 w5).1 (bounds_u8 w5).2 (by omega) (by omega) hL32 hLb hM32 hMb hT hw0).mono fun e W' ⟨he, bel⟩ => ?_
  subst he
  exact ⟨_, rfl, _, _, _, [], _, [], hW', trodAll_mk1 (shut_bool Ybad.underlying4 _), (trodAll_cons_mk (shut_int Ybad.underlying5 w0) (trodAll_cons_mk (shut_int Ybad.underlying5 w1) (trodAll_cons_mk (shut_int Ybad.underlying5 w2) (trodAll_cons_mk (shut_int Ybad.underlying5 w3) (trodAll_cons_mk (shut_int Ybad.underlying5 w4) (trodAll_cons_mk (shut_int Ybad.underlying5 w5) (trodAll_cons_mk (shut_int Ybad.underlying22 w6) (trodAll_cons_mk (shut_int Ybad.underlying22 w7) (trodAll_cons_mk (Below.trod laidOut (by kernel_rfl) (of_decide_eq_true (by kernel_rfl)) k8 bel lt8) (trodAll_cons_mk (Below.trod laidOut (by kernel_rfl) (of_decide_eq_true (by kernel_rfl)) k9 bel lt9) trodAll_mk0)))))))))), rfl, bel.frame _, fun h => by cases h⟩

theorem over : Rows.LawS1973BReuseSaid :=
  OpenClaim.holds_of_wide 4 Ybad.f4 rfl rfl rfl rfl rfl rfl rfl ⟨rfl, rfl, rfl, rfl, rfl⟩ rfl rfl rfl rfl rfl (by kernel_rfl) Ybad.func4 (by kernel_rfl)
    (of_decide_eq_true (by kernel_rfl)) (by unfold Func.isWrapper; first | (rw [if_pos (by decide +kernel)]; kernel_rfl) | (rw [if_neg (by decide +kernel)]; exact ⟨rfl, rfl⟩))
    (fun os started H enc _ => lifted os started H enc)

/-- The tied card. -/
theorem proved : Rows.LawS1973BReuseCardSaid :=
  Claim7.holds_tied_plain_at .later [] [.data] true (true, "dc967a4e1a36f996c32830fd382ac44f49f7335e3ea565e84be82e146366f817") false
    over (fun _ h => by cases h) (by kernel_rfl) (fun _ h => by cases h) lawS1973BReuse_row_tie rfl ⟨rfl, rfl⟩ (by kernel_rfl) rfl
    (fun f fn hf hfn => by
      obtain rfl : f = 4 := Option.some.inj ((show Ybad.prog.funcNamed Rows.lawS1973BReuseRow.func = some 4 by kernel_rfl).symm.trans hf) |>.symm
      obtain rfl : fn = Ybad.f4 := (Option.some.inj (Ybad.func4.symm.trans hfn)).symm
      exact ⟨by kernel_rfl, fun j t ht => by
        rw [Ybad.params4] at ht
        have hm : t ∈ [5, 5, 5, 5, 5, 5, 22, 22, 24, 24] := by simpa using Array.mem_of_getElem? ht
        have hall : ([5, 5, 5, 5, 5, 5, 22, 22, 24, 24].all fun u => !Ybad.prog.wantsStandIn u) = true := by kernel_rfl
        exact (show Ybad.prog.wantsStandIn t = false by simpa using List.all_eq_true.1 hall t hm)⟩)
    (by kernel_rfl)
#print axioms proved
end Go.Proofs.YbulkanvkDoor.lawS1973BReuse
