/-
  LawS1972CBuilt: the row, from the walk (YbulkanuwBuiltWalk).
-/
import Derived.Test.YbulkanuwBuiltWalk
import Derived.ProofKit
import Derived.OpenShut
import Derived.ShutString
import Derived.ChangeOld
import Derived.Below
namespace Go.Proofs.Ybulkanuw.lawS1972CBuilt
open Go.ChangeShapes Go.WideShapes Go.ChangeAt Go.RowKit

theorem own : ownKnob Yba.prog.godebug = none := by kernel_rfl
theorem laidOut : laidOutB Yba.prog = true := by kernel_rfl
theorem cells28 : Yba.prog.cellsOf 28 = 9 := by kernel_rfl
theorem cells22 : Yba.prog.cellsOf 22 = 1 := by kernel_rfl
theorem cells4 : Yba.prog.cellsOf 4 = 1 := by kernel_rfl
theorem cells5 : Yba.prog.cellsOf 5 = 1 := by kernel_rfl

theorem open_row {H : Type} {enc : TypeId × Value → H} {w : World} {n : Nat} {x : DataW H × List MemPlace} {c : Value} (h : DataW.trod enc Yba.prog w 0 (fun _ => true) true n 22 [c] = some x) :
    ∃ (a : Option Addr) (cap : Nat) (zs : List Int), c = .slice a zs.length cap ∧ Row w a cap zs := by
  rcases open_ints Yba.underlying22 Yba.underlying5 cells5 h with ⟨hcs, _⟩ | ⟨ad, len, cap, zs, hcs, _, hl, hm, hz, _, hcell, hwz⟩
  · simp at hcs
    exact ⟨none, 0, [], by simpa using hcs, ⟨fun _ => by simp, by simp, fun j hj => by simp at hj⟩⟩
  · simp at hcs
    simp only [if_true] at hz
    refine ⟨some ad, cap, zs.take len, by rw [hcs]; simp; omega, ⟨fun h => by simp at h, fun m hm => bounds_u8 (hwz m (List.mem_of_mem_take hm)), fun j hj => ?_⟩⟩
    have hjl : j < len := by simp at hj; omega
    obtain ⟨b, off, spot⟩ := ad
    have hspot : spot = none := by simpa [Addr.add] using World.cell?_spot (hcell 0 (by omega))
    subst hspot
    have hc := hcell j (by omega)
    rw [add_plain] at hc
    refine ⟨b, off, rfl, World.block_lt_of_cell? w _ hc, ?_⟩
    rw [hc]; simp [List.getD, hjl]

theorem walk (aP aI aF aE : Option Addr) (cP cI cF cE : Nat) (P I F E : List Int) (ng hf he : Bool) (sg tm : Int) (w : World)
    (rP : Row w aP cP P) (rI : Row w aI cI I) (rF : Row w aF cF F) (rE : Row w aE cE E) (s : 0 ≤ sg ∧ sg ≤ 255) (t : 0 ≤ tm ∧ tm ≤ 255) :
    Calls Yba.prog 4 #[.agg #[.slice aP P.length cP, .bool ng, .slice aI I.length cI, .bool hf, .slice aF F.length cF, .bool he, .int .u8 sg, .slice aE E.length cE, .int .u8 tm]] w
      fun e w' => e = .returned (.bool true) ∧ Below w.heap.size w w' := by
  by_cases h : 1024 < P.length ∨ 1024 < I.length ∨ 1024 < F.length ∨ 1024 < E.length
  · exact built_big aP aI aF aE _ _ _ _ cP cI cF cE ng hf he sg tm w h
  · exact built_walk aP aI aF aE cP cI cF cE P I F E ng hf he sg tm w (by omega) (by omega) (by omega) (by omega) rP rI rF rE s.1 s.2 t.1 t.2

theorem open_parts {H : Type} {enc : TypeId × Value → H} {w : World} {n : Nat} {x : DataW H × List MemPlace} {cs : List Value} (h : DataW.trod enc Yba.prog w 0 (fun _ => true) true n 28 cs = some x) :
    ∃ (aP aI aF aE : Option Addr) (cP cI cF cE : Nat) (P I F E : List Int) (ng hf he : Bool) (sg tm : Int),
      cs = [.slice aP P.length cP, .bool ng, .slice aI I.length cI, .bool hf, .slice aF F.length cF, .bool he, .int .u8 sg, .slice aE E.length cE, .int .u8 tm] ∧
      Row w aP cP P ∧ Row w aI cI I ∧ Row w aF cF F ∧ Row w aE cE E ∧ (0 ≤ sg ∧ sg ≤ 255) ∧ (0 ≤ tm ∧ tm ≤ 255) := by
  obtain ⟨xs, m, _, _, hl, hlen, hf⟩ := DataW.trod_struct Yba.underlying28 h
  rw [cells28] at hl
  have hlen' : xs.length = 9 := hlen
  match cs, hl, xs, hlen' with
  | [c0, c1, c2, c3, c4, c5, c6, c7, c8], _, [y0, y1, y2, y3, y4, y5, y6, y7, y8], _ =>
    have t0 : DataW.trod enc Yba.prog w 0 (fun _ => true) true m 22 (([c0, c1, c2, c3, c4, c5, c6, c7, c8].drop 0).take (Yba.prog.cellsOf 22)) = some y0 := hf 0 _ rfl
    have t1 : DataW.trod enc Yba.prog w 0 (fun _ => true) true m 4 (([c0, c1, c2, c3, c4, c5, c6, c7, c8].drop 1).take (Yba.prog.cellsOf 4)) = some y1 := hf 1 _ rfl
    have t2 : DataW.trod enc Yba.prog w 0 (fun _ => true) true m 22 (([c0, c1, c2, c3, c4, c5, c6, c7, c8].drop 2).take (Yba.prog.cellsOf 22)) = some y2 := hf 2 _ rfl
    have t3 : DataW.trod enc Yba.prog w 0 (fun _ => true) true m 4 (([c0, c1, c2, c3, c4, c5, c6, c7, c8].drop 3).take (Yba.prog.cellsOf 4)) = some y3 := hf 3 _ rfl
    have t4 : DataW.trod enc Yba.prog w 0 (fun _ => true) true m 22 (([c0, c1, c2, c3, c4, c5, c6, c7, c8].drop 4).take (Yba.prog.cellsOf 22)) = some y4 := hf 4 _ rfl
    have t5 : DataW.trod enc Yba.prog w 0 (fun _ => true) true m 4 (([c0, c1, c2, c3, c4, c5, c6, c7, c8].drop 5).take (Yba.prog.cellsOf 4)) = some y5 := hf 5 _ rfl
    have t6 : DataW.trod enc Yba.prog w 0 (fun _ => true) true m 5 (([c0, c1, c2, c3, c4, c5, c6, c7, c8].drop 6).take (Yba.prog.cellsOf 5)) = some y6 := hf 6 _ rfl
    have t7 : DataW.trod enc Yba.prog w 0 (fun _ => true) true m 22 (([c0, c1, c2, c3, c4, c5, c6, c7, c8].drop 7).take (Yba.prog.cellsOf 22)) = some y7 := hf 7 _ rfl
    have t8 : DataW.trod enc Yba.prog w 0 (fun _ => true) true m 5 (([c0, c1, c2, c3, c4, c5, c6, c7, c8].drop 8).take (Yba.prog.cellsOf 5)) = some y8 := hf 8 _ rfl
    simp only [cells22, cells4, cells5, List.drop_zero, List.drop_succ_cons, List.take_succ_cons, List.take_zero] at t0 t1 t2 t3 t4 t5 t6 t7 t8
    obtain ⟨aP, cP, P, rfl, rP⟩ := open_row t0
    obtain ⟨ng, e1, _⟩ := DataW.trod_bool Yba.underlying4 t1
    obtain ⟨aI, cI, I, rfl, rI⟩ := open_row t2
    obtain ⟨hf', e3, _⟩ := DataW.trod_bool Yba.underlying4 t3
    obtain ⟨aF, cF, F, rfl, rF⟩ := open_row t4
    obtain ⟨he, e5, _⟩ := DataW.trod_bool Yba.underlying4 t5
    obtain ⟨sg, e6, _, w6⟩ := DataW.trod_int Yba.underlying5 t6
    obtain ⟨aE, cE, E, rfl, rE⟩ := open_row t7
    obtain ⟨tm, e8, _, w8⟩ := DataW.trod_int Yba.underlying5 t8
    simp at e1 e3 e5 e6 e8
    subst e1 e3 e5 e6 e8
    exact ⟨aP, aI, aF, aE, cP, cI, cF, cE, P, I, F, E, ng, hf', he, sg, tm, rfl, rP, rI, rF, rE, bounds_u8 w6, bounds_u8 w8⟩

set_option maxRecDepth 100000 in
theorem lifted (os : Os) (started : os.Started) (H : Type) (enc : TypeId × Value → H) :
    ReturnsInHanded {} Yba.checked os 4 .any (Rows.lawS1972CBuiltSpec.pre6 enc Yba.prog Yba.f4 Rows.lawS1972CBuiltRow.domain false) (Rows.lawS1972CBuiltSpec.post enc Yba.prog Yba.f4 false true false false) := by
  refine returnsInHanded_of_change (C := Yba.checked) own started (by kernel_rfl) Yba.func4
    (ChangeSpec.witness6 (enc := enc) (C := Yba.checked) false ⟨#[], #[.agg #[.slice none 0 0, .bool false, .slice none 0 0, .bool false, .slice none 0 0, .bool false, .int .u8 0, .slice none 0 0, .int .u8 0]], []⟩ 8 (by kernel_rfl) (by kernel_rfl) (by kernel_rfl) (by kernel_rfl)) ?_
  intro W base args ds gs before hval0 hW hcnd _
  have hval : ∀ (j : Nat) t v, Yba.f4.params[j]? = some t → args[j]? = some v → Value.okWide Yba.prog W .any base t v := hval0
  have hW' := hW
  obtain ⟨p, q, hA0, hV, rfl, hfz, hnd⟩ := hW
  have hA : DataW.TrodAll enc Yba.prog W 0 (fun _ => true) true Yba.f4.params.toList args.toList ds p := hA0
  rw [Yba.params4] at hA hval
  obtain ⟨v0, vs0, d0, ds0, p0, q0, hargs, rfl, rfl, h0, r0⟩ := trodAll_cons hA
  obtain ⟨rfl, rfl, rfl⟩ := trodAll_nil r0
  obtain rfl : args = #[v0] := by cases args; simp_all
  obtain ⟨rfl, rfl⟩ := trodVars_none hV
  have k0 := h0
  have lt0 : ∀ x ∈ p0, x.block < W.heap.size := by obtain ⟨m, hm⟩ := k0; exact DataW.trod_lt m _ _ _ hm
  obtain ⟨cs, rfl, hsz⟩ := okWide_struct Yba.underlying28 (hval 0 28 v0 rfl rfl)
  obtain ⟨m, hm⟩ := h0
  obtain ⟨aP, aI, aF, aE, cP, cI, cF, cE, P, I, F, E, ng, hf, he, sg, tm, e, rP, rI, rF, rE, bs, bt⟩ := open_parts hm
  have e' : cs.toList = [.slice aP P.length cP, .bool ng, .slice aI I.length cI, .bool hf, .slice aF F.length cF, .bool he, .int .u8 sg, .slice aE E.length cE, .int .u8 tm] := by simpa [Value.cells] using e
  have ec : cs = #[.slice aP P.length cP, .bool ng, .slice aI I.length cI, .bool hf, .slice aF F.length cF, .bool he, .int .u8 sg, .slice aE E.length cE, .int .u8 tm] := by rw [← Array.toArray_toList (xs := cs), e']
  subst ec
  clear hA0 hval0 e e'
  refine (walk aP aI aF aE cP cI cF cE P I F E ng hf he sg tm W rP rI rF rE bs bt).mono fun e W' ⟨he, bel⟩ => ?_
  subst he
  exact ⟨_, rfl, _, _, _, [], _, [], hW', trodAll_mk1 (shut_bool Yba.underlying4 _), (trodAll_cons_mk (Below.trod laidOut (by kernel_rfl) (of_decide_eq_true (by kernel_rfl)) k0 bel lt0) trodAll_mk0), rfl, bel.frame _, fun h => by cases h⟩

theorem over : Rows.lawS1972CBuiltRow.holds Yba.pinned (OpenSpec.ofChange Rows.lawS1972CBuiltSpec) :=
  OpenClaim.holds_of_wide 4 Yba.f4 rfl rfl rfl rfl rfl rfl rfl ⟨rfl, rfl, rfl, rfl, rfl⟩ rfl rfl rfl rfl rfl (by kernel_rfl) Yba.func4 (by kernel_rfl)
    (of_decide_eq_true (by kernel_rfl)) (by unfold Func.isWrapper; first | (rw [if_pos (by decide +kernel)]; kernel_rfl) | (rw [if_neg (by decide +kernel)]; exact ⟨rfl, rfl⟩))
    (fun os started H enc _ => lifted os started H enc)

theorem proved : Rows.LawS1972CBuiltSaid := over
#print axioms proved
end Go.Proofs.Ybulkanuw.lawS1972CBuilt
