/-
  Seat b1973a: the leaves beneath NewCTA, by contracts: Dim3.index, Dim3.Count, SharedBytes, newShared, from.
-/
import Derived.Test.YbulkanvkParts
namespace Go.Proofs.Ybulkanvk
open Go.RowKit

theorem info5 : (Yba.prog.info? 5).map (fun i => (i.zero, i.size, i.bytes)) = some (some (.int .u8 0), 1, 1) := by kernel_rfl

/-- Every old block is as it was. -/
def Ext (w w' : World) : Prop := Kept (fun _ => True) w w'
theorem Ext.refl (w : World) : Ext w w := Kept.refl _ w
theorem Ext.trans {a b c : World} (h : Ext a b) (k : Ext b c) : Ext a c := Kept.trans h k
theorem Ext.alloc {a w : World} (h : Ext a w) (o : Obj) : Ext a (w.alloc o) := Kept.alloc h o
theorem Ext.drewN {a w : World} (h : Ext a w) (m : Nat) : Ext a (w.drewN m) := Kept.drewN h m
theorem Ext.drew {a w : World} (h : Ext a w) : Ext a w.drew := Kept.drew h
theorem Ext.blk {w w' : World} (h : Ext w w') {b : Nat} {o : Obj} (hb : w.heap[b]? = some o) : w'.heap[b]? = some o := (h.block b (Array.getElem?_eq_some_iff.1 hb).1 trivial).trans hb
theorem Ext.cell {w w' : World} (h : Ext w w') {a : Addr} {v : Value} (hc : w.cell? a = some v) : w'.cell? a = some v := Kept.cell h hc trivial
theorem Ext.below {w w' : World} (h : Ext w w') : Below w.heap.size w w' := Kept.below (Kept.mono h (fun _ _ _ => trivial)) (Nat.le_refl _)
/-- A store into a block that was not there. -/
theorem Ext.setCell {a w : World} (h : Ext a w) (ad : Addr) (u : Value) (hp : a.heap.size ≤ ad.block) : Ext a (w.setCell ad u) :=
  ⟨h.os, h.tape, h.output, by have := h.size; simp [World.setCell]; exact this, fun k hk _ => by rw [Below.heap_setCell _ _ _ _ (by omega)]; exact h.block k hk trivial⟩

set_option maxHeartbeats 1000000 in
theorem index_any (X Y Z i a b c : Nat) (w : World) (hX : 0 < X) (hY : 0 < Y) (hX1 : X ≤ 65535) (hY1 : Y ≤ 65535) (hi : i ≤ 1000000) (ha : a = i % X) (hb : b = i / X % Y) (hc : c = i / (X * Y)) :
    Calls Yba.prog 14 #[.agg #[.int .u32 X, .int .u32 Y, .int .u32 Z], .int .i64 i] w fun e w' => e = .returned (.agg #[.int .u32 a, .int .u32 b, .int .u32 c]) ∧ Ext w w' := by
  have e1 : (i : Int) % (X : Int) = (a : Int) := by rw [ha]; simp
  have e2 : (i : Int) / (X : Int) % (Y : Int) = (b : Int) := by rw [hb]; simp
  have e3 : (i : Int) / ((X : Int) * (Y : Int)) = (c : Int) := by rw [hc]; simp
  have b1 : a ≤ 65535 := by rw [ha]; have := Nat.mod_lt i hX; omega
  have b2 : b ≤ 65535 := by rw [hb]; have := Nat.mod_lt (i / X) hY; omega
  have b3 : c ≤ 1000000 := by rw [hc]; have := Nat.div_le_self i (X * Y); omega
  have hXY := Nat.mul_le_mul hX1 hY1
  have p0 : (0 : Int) ≤ (X : Int) * (Y : Int) := by rw [← Int.natCast_mul]; omega
  have p1 : (X : Int) * (Y : Int) ≤ 4294836225 := by rw [← Int.natCast_mul]; omega
  have p2 : 0 < X * Y := Nat.mul_pos hX hY
  have p3 : (0 : Int) < (X : Int) * (Y : Int) := by rw [← Int.natCast_mul]; omega
  have n1 : ¬ X = 0 := by omega
  have n2 : ¬ Y = 0 := by omega
  have q0 : (0 : Int) ≤ (i : Int) / (X : Int) := by rw [← Int.natCast_ediv]; exact Int.natCast_nonneg _
  have q1 : (i : Int) / (X : Int) ≤ 1000000 := by rw [← Int.natCast_ediv]; have := Nat.div_le_self i X; omega
  clear ha hb hc hXY
  go_enter Yba.func14, Yba.ntmps14
  go_wp2
  go_quiet (fail)
  go_wp2
  go_region
  all_goals go_wp2
  refine bodyPost_ret (v := .agg #[.int .u32 a, .int .u32 b, .int .u32 c]) (by simp [results, Yba.results14, go_sem]) rfl ⟨rfl, ?_⟩
  exact (((((((Ext.refl w).alloc _).alloc _).drewN _).setCell _ _ (by simp)).setCell _ _ (by simp)).setCell _ _ (by simp))

set_option maxHeartbeats 400000 in
theorem count_any (X Y Z : Nat) (w : World) (hX1 : X ≤ 65535) (hY1 : Y ≤ 65535) (hZ1 : Z ≤ 65535) :
    Calls Yba.prog 18 #[.agg #[.int .u32 X, .int .u32 Y, .int .u32 Z]] w fun e w' => e = .returned (.int .i64 ((X * Y * Z : Nat) : Int)) ∧ Ext w w' := by
  have hXY := Nat.mul_le_mul hX1 hY1
  have hXYZ := Nat.mul_le_mul hXY hZ1
  have p0 : (0 : Int) ≤ (X : Int) * (Y : Int) := by rw [← Int.natCast_mul]; omega
  have p1 : (X : Int) * (Y : Int) ≤ 4294836225 := by rw [← Int.natCast_mul]; omega
  have p2 : (0 : Int) ≤ (X : Int) * (Y : Int) * (Z : Int) := by rw [← Int.natCast_mul, ← Int.natCast_mul]; omega
  have p3 : (X : Int) * (Y : Int) * (Z : Int) ≤ 281462092005375 := by rw [← Int.natCast_mul, ← Int.natCast_mul]; omega
  clear hXY hXYZ
  go_enter Yba.func18, Yba.ntmps18
  go_wp2
  go_ret
  exact ⟨ret_int (by simp), (Ext.refl w).alloc _⟩

set_option maxHeartbeats 400000 in
theorem sharedBytes_any (kq eq eo dy : Nat) (w : World) (k0 : w.cell? ⟨kq, 0, none⟩ = some (.pointer (some ⟨eq, 0, none⟩))) (k9 : w.cell? ⟨kq, 9, none⟩ = some (.int .i64 dy)) (e9 : w.cell? ⟨eq, 9, none⟩ = some (.int .i64 eo)) (h1 : eo ≤ 100000) (h2 : dy ≤ 100000) :
    Calls Yba.prog 16 #[.pointer (some ⟨kq, 0, none⟩)] w fun e w' => e = .returned (.int .i64 ((eo + dy : Nat) : Int)) ∧ ∃ m, w' = w.drewN m := by
  go_enter Yba.func16, Yba.ntmps16
  go_wp2
  go_quiet (fail)
  go_wp2
  go_ret
  exact ⟨ret_int (by simp), _, rfl⟩

/-- A memory in block m: its bytes in block d, n of them. -/
def MemAt (w : World) (m d n : Nat) (base : Int) : Prop := w.heap[m]? = some (.cells #[.int .i64 3, .int .u64 base, .slice (some ⟨d, 0, none⟩) n n] 45 (0, 0))

theorem one_new (w : World) (o : Obj) : (w.alloc o).heap[w.heap.size]? = some o ∧ (w.alloc o).heap.size = w.heap.size + 1 := ⟨heap_alloc_new w o, by simp⟩

set_option maxHeartbeats 400000 in
theorem newShared_any (n : Nat) (w : World) (hn : n ≤ 1000000) :
    Calls Yba.prog 15 #[.int .i64 n] w fun e w' => e = .returned (.pointer (some ⟨w.heap.size + 1, 0, none⟩)) ∧ Ext w w' ∧ w'.heap.size = w.heap.size + 2 ∧
      MemAt w' (w.heap.size + 1) w.heap.size n 0 ∧ w'.heap[w.heap.size]? = some (.cells (row n (.int .u8 0)) 5 (0, 0)) := by
  obtain ⟨i0, hi, hz0, hz1, hz2⟩ := info_parts info5
  go_enter Yba.func15, Yba.ntmps15
  go_wp2_with (at_make; refine wpList_make_row _ rfl _ _ 34 rfl 5 i0 (.int .u8 0) rfl Yba.underlying34 hi hz0 hz1 _ _ _ _ n rfl rfl rfl rfl ?c3 ?c4 ?_)
  case c3 => rw [hz2]; omega
  case c4 => omega
  go_wp2
  go_ret
  have h1 := one_new w (.cells (row n (.int .u8 0)) 5)
  have h2 := one_new (w.alloc (.cells (row n (.int .u8 0)) 5)) (.cells #[.int .i64 3, .int .u64 0, .slice (some ⟨w.heap.size, 0, none⟩) n n] 45)
  rw [h1.2] at h2
  refine ⟨rfl, ((Ext.refl w).alloc _).alloc _, h2.2, h2.1, ?_⟩
  exact ((Ext.refl _).alloc _).blk h1.1

set_option maxHeartbeats 400000 in
theorem from_any (m d n : Nat) (base nb : Int) (w : World) (h : MemAt w m d n base) :
    Calls Yba.prog 17 #[.pointer (some ⟨m, 0, none⟩), .int .u64 nb] w fun e w' => e = .returned (.pointer (some ⟨w.heap.size, 0, none⟩)) ∧ Ext w w' ∧ w'.heap.size = w.heap.size + 1 ∧ MemAt w' w.heap.size d n nb := by
  have c0 : w.cell? ⟨m, 0, none⟩ = some (.int .i64 3) := by rw [cell_of_row w m 0 _ 45 (0, 0) h]; rfl
  have c2 : w.cell? ⟨m, 2, none⟩ = some (.slice (some ⟨d, 0, none⟩) n n) := by rw [cell_of_row w m 2 _ 45 (0, 0) h]; rfl
  clear h
  go_enter Yba.func17, Yba.ntmps17
  go_wp2
  go_region
  all_goals go_wp2
  all_goals go_ret
  all_goals
    have h1 := one_new w (.cells #[.int .i64 3, .int .u64 nb, .slice (some ⟨d, 0, none⟩) n n] 45)
    exact ⟨rfl, ((Ext.refl w).alloc _).drew, h1.2, h1.1⟩

end Go.Proofs.Ybulkanvk
