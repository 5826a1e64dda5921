/-
  THE SHELL OF A PROOF OF 'Rows.LawS1972CModelSaid' ('example.com/keelson/keelson/history.LawS1972CModel'), WRITTEN BY PROGRAM (proof-skeleton.mjs, third state) off the guide's own print for that function..
  The walk is ours; the frame is the shell's.
-/
import Derived.Test.YbulkanuwRows
import Derived.Test.YbulkanuwDfa
import Derived.WalkKit
import Derived.ProofKit
import Derived.OpenShut
import Derived.ShutString
import Derived.ChangeOld
import Derived.Below
namespace Go.Proofs.Ybulkanuw.lawS1972CModel
open Go.ChangeShapes Go.WideShapes Go.ChangeAt Go.RowKit
open Go.ChangeMaps (open_string shut_string)
set_option linter.unusedVariables false

theorem own : ownKnob Yba.prog.godebug = none := by kernel_rfl
theorem laidOut : laidOutB Yba.prog = true := by kernel_rfl

/-- WHAT THE WALK IS TOLD OF A SLICE OF INTEGERS THAT CAME IN: it is nil; or it leads to a row of 'cap' cells, the numbers 'zs' (the first 'len' are its elements, the rest its spare room), each fitting its kind. -/
def IsRow (k : IntKind) (w : World) (a : Option Addr) (len cap : Nat) (zs : List Int) : Prop :=
  (a = none ∧ len = 0 ∧ cap = 0 ∧ zs = []) ∨
  ∃ x, a = some x ∧ len ≤ cap ∧ cap ≤ maxLen ∧ zs.length = cap ∧ (∀ i, i < zs.length → w.cell? (x.add i) = some (.int k (zs.getD i 0))) ∧ ∀ n ∈ zs, (Lit.int k n).wf = true

theorem info5 : (Yba.prog.info? 5).map (fun i => (i.zero, i.size, i.bytes)) = some (some (.int .u8 0), 1, 1) := by kernel_rfl

/-! ### STEP 1: THE WALK -/
theorem cells_of_own {w : World} {B n : Nat} {zs : List Int} (hz : zs.length = n) (h : w.ownsRow B 5 1 (.slice (some ⟨B, 0, none⟩) n n) n (zs.map (Value.int .u8))) :
    ∀ j, j < n → w.cell? ⟨B, 0 + j, none⟩ = some (.int .u8 (zs.getD j 0)) := by
  intro j hj
  rw [Nat.zero_add, h.cellAt j (by omega)]
  simp [List.getD, show j < zs.length by omega]

theorem start_own {w w1 : World} {n : Nat} (h : w1.ownsRow w.heap.size 5 1 (.slice (some ⟨w.heap.size, 0, none⟩) n n) n (madeCells #[Value.int .u8 0] n).toList) (hg : w.grownBy w1 none) :
    ∃ zs : List Int, zs.length = n ∧ w1.ownsRow w.heap.size 5 1 (.slice (some ⟨w.heap.size, 0, none⟩) n n) n (zs.map (Value.int .u8)) ∧ Below w.heap.size w w1 := by
  refine ⟨List.replicate n 0, by simp, ?_, (Below.refl _ _).grown hg (Nat.le_refl _) (fun k h => by cases h)⟩
  have e : (madeCells #[Value.int .u8 0] n).toList = (List.replicate n (0 : Int)).map (Value.int .u8) := by
    rw [toList_madeCells_one]; simp
  rw [← e]; exact h

theorem step_own {w wr : World} {B n : Nat} (k : Nat) (v : Int) (h : ∃ zs : List Int, zs.length = n ∧ wr.ownsRow B 5 1 (.slice (some ⟨B, 0, none⟩) n n) n (zs.map (Value.int .u8)) ∧ Below B w wr) :
    ∃ zs : List Int, zs.length = n ∧ (wr.setCell ⟨B, k, none⟩ (.int .u8 v)).ownsRow B 5 1 (.slice (some ⟨B, 0, none⟩) n n) n (zs.map (Value.int .u8)) ∧ Below B w (wr.setCell ⟨B, k, none⟩ (.int .u8 v)) := by
  obtain ⟨zs, hz, ho, hb⟩ := h
  refine ⟨zs.set k v, by simpa using hz, ?_, hb.setCell (Nat.le_refl _) _⟩
  have := (ho.stored k (.int .u8 v)).1
  rw [List.map_set]; exact this

theorem walk_short (a0 : Option Addr) (len0 cap0 : Nat) (a1 : Int) (w : World) (h : len0 = 0 ∨ 1024 < len0) :
    Calls Yba.prog 3 #[.slice a0 len0 cap0, .int .u64 a1] w fun e w' => e = .returned (.bool true) ∧ Below w.heap.size w w' := by
  rcases h with rfl | h
  · go_enter Yba.func3, Yba.ntmps3
    go_wp2
    go_ret
    exact ⟨rfl, Below.refl _ _⟩
  · have h1 : (1024 : Int) < (len0 : Int) := by omega
    go_enter Yba.func3, Yba.ntmps3
    go_wp2
    go_ret
    exact ⟨rfl, Below.refl _ _⟩

set_option maxHeartbeats 1000000 in
set_option maxRecDepth 100000 in
theorem walk_long (b off len0 cap0 : Nat) (z0 : List Int) (a1 : Int) (w : World) (h0 : 0 < len0) (h1 : len0 ≤ 1024) (hb : b < w.heap.size)
    (hc : ∀ j, j < len0 → w.cell? ⟨b, off + j, none⟩ = some (.int .u8 (z0.getD j 0))) (hw : ∀ j, 0 ≤ z0.getD j 0 ∧ z0.getD j 0 ≤ 255) (ha : 0 ≤ a1) (ha2 : a1 ≤ 18446744073709551615) :
    Calls Yba.prog 3 #[.slice (some ⟨b, off, none⟩) len0 cap0, .int .u64 a1] w fun e w' => e = .returned (.bool true) ∧ Below w.heap.size w w' := by
  obtain ⟨i0, hi, hz0, hz1, hz2⟩ := info_parts info5
  have HC := Hid.mk hc
  have HW := Hid.mk hw
  have HA2 := Hid.mk ha2
  clear hc hw ha2
  have hne : ((len0 : Int) == 0) = false := by simp; omega
  have hle : decide ((1024 : Int) < (len0 : Int)) = false := by simp; omega
  go_enter Yba.func3, Yba.ntmps3
  go_wp2_with (at_make; refine wpList_make_full _ rfl _ _ 22 rfl w.heap.size 5 i0 (.int .u8 0) 1 Yba.underlying22 hi hz0 hz1 _ _ _ _ len0 rfl rfl rfl rfl ?c1 ?c2 ?c3 ?_)
  case c1 => rw [hz2]; omega
  case c2 => unfold maxLen; omega
  case c3 => exact Nat.le_refl _
  intro w1 hown hgrow
  have HS := Hid.mk (start_own hown hgrow)
  clear hown hgrow
  go_wp2
  go_loopg [6] len0 (fun g t wx => ∃ k : Nat, k ≤ len0 ∧ g = len0 - k ∧ t = .int .i64 k ∧ Hid (∃ zs : List Int, zs.length = len0 ∧ wx.ownsRow w.heap.size 5 1 (.slice (some ⟨w.heap.size, 0, none⟩) len0 len0) len0 (zs.map (Value.int .u8)) ∧ Below w.heap.size w wx))
  case atStart => exact ⟨0, by omega, rfl, rfl, HS⟩
  case round =>
    obtain ⟨k, hk, rfl, rfl, HO⟩ := hrel
    clear HS
    obtain ⟨zs, hzl, hown, hbel⟩ := HO.out
    by_cases hlt : k < len0
    · obtain ⟨c, HCc, hcc⟩ := byte_at z0 b off len0 w HC k hlt
      have hcell : wr.cell? ⟨b, off + k, none⟩ = some (.int .u8 c) := (hbel.cell hb).trans hcc
      have hcb := HW.out k
      rw [← HCc.out] at hcb
      obtain ⟨hcb0, hcb1⟩ := hcb
      have hfr := hown.frozenAt k
      have hold := hown.cellAt k (by omega)
      have hx : ((zs.map (Value.int .u8))[k]?) = some (.int .u8 (zs.getD k 0)) := by simp [List.getD, show k < zs.length by omega]
      rw [hx] at hold
      clear hx hcc HCc hown hbel hzl
      go_wp2
      go_roundg (len0 - (k + 1))
      case measure => omega
      case rel => exact ⟨k + 1, by omega, rfl, by go_num, step_own k _ HO.out⟩
    · have hcs := cells_of_own hzl hown
      obtain ⟨m, hm⟩ : ∃ m : Nat, a1 % (len0 : Int) = m := ⟨(a1 % (len0 : Int)).toNat, by have := Int.emod_nonneg a1 (show (len0 : Int) ≠ 0 by omega); omega⟩
      have hm0 : 0 ≤ a1 % (len0 : Int) := by omega
      have hm1 : a1 % (len0 : Int) < (len0 : Int) := Int.emod_lt_of_pos _ (by omega)
      have hmL : m < len0 := by omega
      have HM := Hid.mk hm
      have N := Hid.mk (numberEnd_any w.heap.size 0 len0 len0 zs m wr hzl (by omega) hmL hcs)
      have F := Hid.mk (dfa_any w.heap.size 0 len0 len0 zs m wr hzl (by omega) hmL hcs)
      rw [← Pl.numEnd_run zs m (by omega)] at F
      generalize Pl.numEnd zs m = r at N F
      clear hm hzl hown HO hcs
      go_wp2_with fail
      rw [HM.out]
      refine N.out.mono ?_
      rintro e w' ⟨rfl, hw'⟩
      rw [hw']
      clear hw' w'
      go_wp2_with fail
      refine F.out.mono ?_
      rintro e w' ⟨rfl, hw'⟩
      rw [hw']
      clear hw' w'
      go_wp2
      go_ret
      exact ⟨rfl, hbel⟩

theorem walk (a0 : Option Addr) (len0 cap0 : Nat) (z0 : List Int) (a1 : Int) (w : World) (w0 : IsRow .u8 w a0 len0 cap0 z0) (w1 : (Lit.int .u64 a1).wf = true) :
    Calls Yba.prog 3 #[.slice a0 len0 cap0, .int .u64 a1] w fun e w' => e = .returned (.bool true) ∧ Below w.heap.size w w' := by
  by_cases hs : len0 = 0 ∨ 1024 < len0
  · exact walk_short a0 len0 cap0 a1 w hs
  rcases w0 with ⟨rfl, rfl, rfl, rfl⟩ | ⟨x, rfl, hl, hm, hz, hcell, hwz⟩
  · omega
  · obtain ⟨b, off, spot⟩ := x
    have hc := hcell 0 (by omega)
    have hspot : spot = none := by simpa [Addr.add] using World.cell?_spot hc
    subst hspot
    have hcs : ∀ j, j < len0 → w.cell? ⟨b, off + j, none⟩ = some (.int .u8 (z0.getD j 0)) := fun j hj => by rw [← add_plain]; exact hcell j (by omega)
    have hb := World.block_lt_of_cell? w _ (hcs 0 (by omega))
    have hw : ∀ j, 0 ≤ z0.getD j 0 ∧ z0.getD j 0 ≤ 255 := fun j => by simpa [List.getD] using range_u8 hwz j
    have ha := bounds_u64 w1
    exact walk_long b off len0 cap0 z0 a1 w (by omega) (by omega) hb hcs hw ha.1 (by omega)

/-! ### THE ROW's STEP: WRITTEN OUT: LEAVE IT -/
set_option maxRecDepth 100000 in
theorem lifted (os : Os) (started : os.Started) (H : Type) (enc : TypeId × Value → H) :
    ReturnsInHanded {} Yba.checked os 3 .any (Rows.lawS1972CModelSpec.pre6 enc Yba.prog Yba.f3 Rows.lawS1972CModelRow.domain false) (Rows.lawS1972CModelSpec.post enc Yba.prog Yba.f3 false true false false) := by
  refine returnsInHanded_of_change (C := Yba.checked) own started (by kernel_rfl) Yba.func3
    (ChangeSpec.witness6 (enc := enc) (C := Yba.checked) false ⟨#[], #[.slice none 0 0, .int .u64 0], []⟩ 8 (by kernel_rfl) (by kernel_rfl) (by kernel_rfl) (by kernel_rfl)) ?_
  intro W base args ds gs before hval0 hW hcnd _
  have hval : ∀ (j : Nat) t v, Yba.f3.params[j]? = some t → args[j]? = some v → Value.okWide Yba.prog W .any base t v := hval0
  have hW' := hW
  obtain ⟨p, q, hA0, hV, rfl, hfz, hnd⟩ := hW
  have hA : DataW.TrodAll enc Yba.prog W 0 (fun _ => true) true Yba.f3.params.toList args.toList ds p := hA0
  rw [Yba.params3] at hA hval
  obtain ⟨v0, vs0, d0, ds0, p0, q0, hargs, rfl, rfl, h0, r0⟩ := trodAll_cons hA
  obtain ⟨v1, vs1, d1, ds1, p1, q1, rfl, rfl, rfl, h1, r1⟩ := trodAll_cons r0
  obtain ⟨rfl, rfl, rfl⟩ := trodAll_nil r1
  obtain rfl : args = #[v0, v1] := by cases args; simp_all
  obtain ⟨rfl, rfl⟩ := trodVars_none hV
  obtain ⟨a0, len0, cap0, rfl⟩ := okWide_slice Yba.underlying22 (hval 0 22 v0 rfl rfl)
  have k0 := h0
  have lt0 : ∀ x ∈ p0, x.block < W.heap.size := by obtain ⟨m, hm⟩ := k0; exact DataW.trod_lt m _ _ _ hm
  obtain ⟨z0, w0⟩ : ∃ zs, IsRow .u8 W a0 len0 cap0 zs := by
    obtain ⟨fuel, hf⟩ := h0
    rcases open_ints Yba.underlying22 Yba.underlying5 (by kernel_rfl) hf with ⟨hcs, _⟩ | ⟨x, l, c, zs, hcs, _, hl, hm, hz, _, hcell, hwz⟩
    · simp [Value.cells] at hcs
      obtain ⟨rfl, rfl, rfl⟩ := hcs
      exact ⟨[], .inl ⟨rfl, rfl, rfl, rfl⟩⟩
    · simp [Value.cells] at hcs
      obtain ⟨rfl, rfl, rfl⟩ := hcs
      exact ⟨zs, .inr ⟨_, rfl, hl, hm, by simpa using hz, hcell, hwz⟩⟩
  obtain ⟨a1, rfl, rfl, rfl, w1⟩ := open_int Yba.underlying23 (hval 1 23 v1 rfl rfl) h1
  clear hA0 hval0
  refine (walk a0 len0 cap0 z0 a1 W w0 w1).mono fun e W' ⟨he, bel⟩ => ?_
  subst he
  exact ⟨_, rfl, _, _, _, [], _, [], hW', trodAll_mk1 (shut_bool Yba.underlying4 _), (trodAll_cons_mk (Below.trod laidOut (by kernel_rfl) (of_decide_eq_true (by kernel_rfl)) k0 bel lt0) (trodAll_cons_mk (shut_int Yba.underlying23 w1) trodAll_mk0)), rfl, bel.frame _, fun h => by cases h⟩

theorem over : Rows.lawS1972CModelRow.holds Yba.pinned (OpenSpec.ofChange Rows.lawS1972CModelSpec) :=
  OpenClaim.holds_of_wide 3 Yba.f3 rfl rfl rfl rfl rfl rfl rfl ⟨rfl, rfl, rfl, rfl, rfl⟩ rfl rfl rfl rfl rfl (by kernel_rfl) Yba.func3 (by kernel_rfl)
    (of_decide_eq_true (by kernel_rfl)) (by unfold Func.isWrapper; first | (rw [if_pos (by decide +kernel)]; kernel_rfl) | (rw [if_neg (by decide +kernel)]; exact ⟨rfl, rfl⟩))
    (fun os started H enc _ => lifted os started H enc)

/-- ████ THE STATEMENT ████ -/
theorem proved : Rows.LawS1972CModelSaid := over
#print axioms proved
end Go.Proofs.Ybulkanuw.lawS1972CModel
