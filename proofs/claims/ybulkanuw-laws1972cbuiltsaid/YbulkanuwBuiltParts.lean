/-
  LawS1972CBuilt: what the walk carries: 'Inv': the slice that the call itself builds holds the bytes xs; all older memory is as it was. The one-byte append as a law over it.
-/
import Derived.Test.YbulkanuwNumber
import Derived.Test.YbulkanuwBuiltPlain
namespace Go.Proofs.Ybulkanuw
open Go.RowKit

theorem info5 : (Yba.prog.info? 5).map (fun i => (i.zero, i.size, i.bytes)) = some (some (.int .u8 0), 1, 1) := by kernel_rfl

def Inv (g cap : Nat) (wA wx : World) (xs : List Int) : Prop :=
  wx.ownsRow g 5 1 (.slice (some ⟨g, 0, none⟩) xs.length cap) xs.length (xs.map (Value.int .u8)) ∧ Below g wA wx ∧ g ≤ wA.heap.size

/-- A slice of bytes that came in. -/
structure Row (w : World) (a : Option Addr) (cap : Nat) (zs : List Int) : Prop where
  nil : a = none → zs.length = 0 ∧ cap = 0
  bd : ∀ n ∈ zs, 0 ≤ n ∧ n ≤ 255
  cell : ∀ j, j < zs.length → ∃ b off, a = some ⟨b, off, none⟩ ∧ b < w.heap.size ∧ w.cell? ⟨b, off + j, none⟩ = some (.int .u8 (zs.getD j 0))

theorem Row.bdAt {w : World} {a : Option Addr} {cap : Nat} {zs : List Int} (h : Row w a cap zs) (j : Nat) (hj : j < zs.length) : 0 ≤ zs.getD j 0 ∧ zs.getD j 0 ≤ 255 := by
  have := h.bd (zs[j]) (List.getElem_mem hj)
  simpa [List.getD, hj] using this

/-- An old row's cell, in a world of the walk. -/
theorem Row.at {w wA wx : World} {a : Option Addr} {cap g ca : Nat} {zs xs : List Int} (h : Row w a cap zs) (hA : Below w.heap.size w wA) (hg : w.heap.size ≤ g) (hi : Inv g ca wA wx xs) (j : Nat) (hj : j < zs.length) :
    ∃ b off c, a = some ⟨b, off, none⟩ ∧ wx.cell? ⟨b, off + j, none⟩ = some (.int .u8 c) ∧ Hid (c = zs.getD j 0) ∧ 0 ≤ c ∧ c ≤ 255 := by
  obtain ⟨b, off, ha, hb, hc⟩ := h.cell j hj
  refine ⟨b, off, zs.getD j 0, ha, ?_, rfl, (h.bdAt j hj).1, (h.bdAt j hj).2⟩
  rw [hi.2.1.cell (p := ⟨b, off + j, none⟩) (by show b < g; omega), hA.cell (p := ⟨b, off + j, none⟩) hb]; exact hc

theorem Inv.le {g cap : Nat} {wA wx : World} {xs : List Int} (h : Inv g cap wA wx xs) : g ≤ wx.heap.size := Nat.le_trans h.2.2 h.2.1.size

theorem wpList_app1 {ops : Array Oper} {rest : List Oper} {o : Oper} {a : Act} {Q : Exit → Act → World → Prop} (wx : World) (g cap : Nat) (wA : World) (xs : List Int) (v : Int)
    (hgd : o.guard = none) (s x : Operand) (hop : o.op = Op.call { callee := Callee.builtin Builtin.append, args := #[s, x], argTypes := #[22, 22] })
    (hs : a.eval s = .slice (some ⟨g, 0, none⟩) xs.length cap) (hx : a.eval x = .slice (some ⟨wx.heap.size, 0, none⟩) 1 1) (hI : Inv g cap wA wx xs) (hroom : xs.length + 1 ≤ cap)
    (hK : ∀ w', Hid (Inv g cap wA w' (xs ++ [v])) → wpList Yba.prog ops Q rest (a.put o.dst (.slice (some ⟨g, 0, none⟩) (xs.length + 1) cap)) w') :
    wpList Yba.prog ops Q (o :: rest) a (wx.alloc (.cells #[.int .u8 v] 5)) := by
  obtain ⟨i0, hi, hz0, hz1, hz2⟩ := info_parts info5
  refine wpList_append_fits _ hgd s x 22 hop g 5 i0 1 Yba.underlying22 hi hz1 g xs.length cap (xs.map (Value.int .u8)) hs (hI.1.alloc _) ⟨wx.heap.size, 0, none⟩ 1 1 [.int .u8 v] hx rfl ?_ ?_ hroom ?_
  · intro j u hj
    match j, hj with
    | 0, hj =>
      simp at hj; subst hj
      rw [show ((⟨wx.heap.size, 0, none⟩ : Addr).add 0) = ⟨wx.heap.size, 0, none⟩ from rfl, World.cell?_alloc_at _ _ _ _ rfl]; rfl
  · intro u hu; simp at hu; subst hu; rfl
  · intro w' hown hgr
    refine hK w' ⟨?_, ?_, hI.2.2⟩
    · simpa using hown
    · exact (hI.2.1.alloc hI.le _).grown hgr (by have := hI.le; simp; omega) (fun k hk => by simp at hk; omega)

/-- The bytes as the contracts want them. -/
theorem Inv.cells {g cap : Nat} {wA wx : World} {xs : List Int} (h : Inv g cap wA wx xs) : ∀ j, j < xs.length → wx.cell? ⟨g, 0 + j, none⟩ = some (.int .u8 (xs.getD j 0)) := by
  intro j hj
  rw [Nat.zero_add, h.1.cellAt j (by omega)]
  simp [List.getD, hj]

theorem take_snoc (I : List Int) (k : Nat) (h : k < I.length) : (I.take (k + 1)).map Pl.dgt = (I.take k).map Pl.dgt ++ [Pl.dgt (I.getD k 0)] := by
  rw [List.take_succ_eq_append_getElem h, List.map_append]; simp [List.getD, h]

end Go.Proofs.Ybulkanuw
