/-
  Seat b1973aD: the small laws that all walks share: a make whose world is written out; what of a world a call leaves alone ('Kept').
-/
import Derived.Test.YbulkanvkDoorRows
import Derived.WalkKit
import Derived.Deep.DeepCutAuto
import Derived.Deep.CutBlock
import Derived.Deep.Draws
import Derived.Deep.QuietTactic
import Derived.BigQuiet
import Derived.Deep.RegionHeld3
namespace Go.Proofs.YbulkanvkDoor
open Go.RowKit

theorem Hid.mk {p : Prop} (h : p) : Hid p := h
theorem ret_int {k : IntKind} {a b : Int} (h : a = b) : Ending.returned (.int k a) = .returned (.int k b) := by rw [h]
theorem ret_bool {a b : Bool} (h : a = b) : Ending.returned (.bool a) = .returned (.bool b) := by rw [h]

/-- A new row of n equal cells: behind a name that the walk does not open. -/
def row (n : Nat) (z : Value) : Array Value := (List.replicate n z).toArray

theorem madeCells_row (z : Value) (hz : z.cells = #[z]) (n : Nat) : madeCells z.cells (n * 1) = row n z := by
  apply Array.toList_inj.1
  rw [hz, toList_madeCells_one]; simp [row]

/-- 'make([]T, n)', T of one cell: the world written out. -/
theorem wpList_make_row {P : Program} (w : World) {ops : Array Oper} {rest : List Oper} {o : Oper} {a : Act} {Q : Exit → Act → World → Prop}
    (hg : o.guard = none) (l c : Operand) (t : TypeId) (hop : o.op = Op.makeSlice t l c) (e : TypeId) (i : TypeInfo) (z : Value) (hzc : z.cells = #[z])
    (h1 : P.underlying t = some (.slice e)) (h2 : P.info? e = some i) (h3 : i.zero = some z) (h4 : i.size = 1) (kl kc : IntKind) (L C : Int) (n : Nat)
    (hl : a.eval l = .int kl L) (hc : a.eval c = .int kc C) (hL : L = (n : Int)) (hC : C = (n : Int)) (b2 : i.bytes * n ≤ 281474976710656) (b3 : n ≤ 9223372036854775807)
    (hK : wpList P ops Q rest (a.put o.dst (.slice (some ⟨w.heap.size, 0, none⟩) n n)) (w.alloc (.cells (row n z) e))) :
    wpList P ops Q (o :: rest) a w := by
  refine wpList_plain hg fun K hK' => ?_
  have hb' : (i.bytes : Int) * (n : Int) ≤ 281474976710656 := by
    have h : ((i.bytes * n : Nat) : Int) ≤ 281474976710656 := by omega
    rwa [Int.natCast_mul] at h
  have hrun := run_make (P := P) w t e i z h1 h2 h3 kl kc n n (by omega) (Int.le_refl _) hb' (by omega)
  simp only [Int.toNat_natCast, h4] at hrun
  rw [madeCells_row z hzc] at hrun
  subst hL
  subst hC
  unfold Oper.wp
  simp [execOp, hop, hl, hc, hrun, Result.andThen]
  exact hK' _ _ hK

/-- What of w a call leaves alone: the blocks that p names; no block has gone. -/
structure Kept (p : Nat → Prop) (w w' : World) : Prop where
  os : w'.os = w.os
  tape : w'.tape = w.tape
  output : w'.output = w.output
  size : w.heap.size ≤ w'.heap.size
  block : ∀ k, k < w.heap.size → p k → w'.heap[k]? = w.heap[k]?

theorem Kept.refl (p : Nat → Prop) (w : World) : Kept p w w := ⟨rfl, rfl, rfl, Nat.le_refl _, fun _ _ _ => rfl⟩
theorem Kept.trans {p : Nat → Prop} {a b c : World} (h : Kept p a b) (k : Kept p b c) : Kept p a c :=
  ⟨k.os.trans h.os, k.tape.trans h.tape, k.output.trans h.output, Nat.le_trans h.size k.size, fun i hi hp => (k.block i (Nat.lt_of_lt_of_le hi h.size) hp).trans (h.block i hi hp)⟩
theorem Kept.mono {p p' : Nat → Prop} {a b : World} (h : Kept p a b) (hp : ∀ k, k < a.heap.size → p' k → p k) : Kept p' a b :=
  ⟨h.os, h.tape, h.output, h.size, fun i hi hq => h.block i hi (hp i hi hq)⟩
theorem Kept.drewN {p : Nat → Prop} {a w : World} (h : Kept p a w) (n : Nat) : Kept p a (w.drewN n) := ⟨h.os, h.tape, h.output, h.size, h.block⟩
theorem Kept.drew {p : Nat → Prop} {a w : World} (h : Kept p a w) : Kept p a w.drew := ⟨h.os, h.tape, h.output, h.size, h.block⟩
theorem Kept.alloc {p : Nat → Prop} {a w : World} (h : Kept p a w) (o : Obj) : Kept p a (w.alloc o) :=
  h.trans ⟨rfl, rfl, rfl, by simp, fun k hk _ => Below.heap_alloc _ _ _ hk⟩
theorem Kept.setCell {p : Nat → Prop} {a w : World} (h : Kept p a w) (ad : Addr) (u : Value) (hp : ¬ p ad.block) : Kept p a (w.setCell ad u) :=
  h.trans ⟨rfl, rfl, rfl, by simp [World.setCell], fun k _ hk => Below.heap_setCell _ _ _ _ (fun e => hp (e ▸ hk))⟩
theorem Kept.below {B : Nat} {a w : World} (h : Kept (· < B) a w) (hB : B ≤ a.heap.size) : Below B a w :=
  ⟨h.os, h.tape, h.output, h.size, fun k hk => h.block k (Nat.lt_of_lt_of_le hk hB) hk⟩
theorem Kept.cell {p : Nat → Prop} {a w : World} (h : Kept p a w) {ad : Addr} {v : Value} (hc : a.cell? ad = some v) (hp : p ad.block) : w.cell? ad = some v := by
  rw [World.cell?_of_block (w := a) (h.block ad.block (World.block_lt_of_cell? a ad hc) hp)]; exact hc

/-- Every old block is as it was. -/
def Ext (w w' : World) : Prop := Kept (fun _ => True) w w'
theorem Ext.refl (w : World) : Ext w w := Kept.refl _ w
theorem Ext.trans {a b c : World} (h : Ext a b) (k : Ext b c) : Ext a c := Kept.trans h k
theorem Ext.alloc {a w : World} (h : Ext a w) (o : Obj) : Ext a (w.alloc o) := Kept.alloc h o
theorem Ext.drewN {a w : World} (h : Ext a w) (m : Nat) : Ext a (w.drewN m) := Kept.drewN h m
theorem Ext.drew {a w : World} (h : Ext a w) : Ext a w.drew := Kept.drew h
theorem Ext.blk {w w' : World} (h : Ext w w') {b : Nat} {o : Obj} (hb : w.heap[b]? = some o) : w'.heap[b]? = some o := (h.block b (Array.getElem?_eq_some_iff.1 hb).1 trivial).trans hb
theorem Ext.cell {w w' : World} (h : Ext w w') {a : Addr} {v : Value} (hc : w.cell? a = some v) : w'.cell? a = some v := Kept.cell h hc trivial
theorem Ext.below {w w' : World} (h : Ext w w') : Below w.heap.size w w' := Kept.below (Kept.mono h (fun _ _ _ => trivial)) (Nat.le_refl _)
/-- A store into a block that was not there. -/
theorem Ext.setCell {a w : World} (h : Ext a w) (ad : Addr) (u : Value) (hp : a.heap.size ≤ ad.block) : Ext a (w.setCell ad u) :=
  ⟨h.os, h.tape, h.output, by have := h.size; simp [World.setCell]; exact this, fun k hk _ => by rw [Below.heap_setCell _ _ _ _ (by omega)]; exact h.block k hk trivial⟩

theorem one_new (w : World) (o : Obj) : (w.alloc o).heap[w.heap.size]? = some o ∧ (w.alloc o).heap.size = w.heap.size + 1 := ⟨heap_alloc_new w o, by simp⟩
theorem drewN_drewN (w : World) (m m' : Nat) : (w.drewN m).drewN m' = w.drewN (m + m') := by simp [World.drewN, Nat.add_assoc]
theorem blk_ne {w : World} {b1 b2 : Nat} {cs1 cs2 : Array Value} {t1 t2 : TypeId} {f1 f2 : Nat × Nat} (h1 : w.heap[b1]? = some (.cells cs1 t1 f1)) (h2 : w.heap[b2]? = some (.cells cs2 t2 f2)) (ht : t1 ≠ t2) : b1 ≠ b2 := by
  intro e; subst e; rw [h1] at h2; simp at h2; exact ht h2.2.1

end Go.Proofs.YbulkanvkDoor
