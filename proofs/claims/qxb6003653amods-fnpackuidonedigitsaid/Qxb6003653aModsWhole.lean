/-
  Seat b6003653aM: the walk of FnPackUIDWhole.
-/
import Derived.Test.Qxb6003653aModsPack2
import Derived.Test.Qxb6003653aModsText
import Derived.Great.BuildSlice
namespace Go.Proofs.Qxb6003653aMods
open Go.RowKit

/-- An operation whose guard says yes. -/
theorem wpList_yes {P : Program} {ops : Array Oper} {Q : Exit → Act → World → Prop} {a : Act} {w : World} {rest : List Oper} {o : Oper} (hw : Region.wanted o (yielded ops a.tmps) = true)
    (h : ∀ K : Act → World → Prop, (∀ a w, wpList P ops Q rest a w → K a w) → o.wp P a w K Q) : wpList P ops Q (o :: rest) a w :=
  wpList_step fun K hK => by rw [if_pos hw]; exact h K hK

/-- A whole array loaded, under a guard that says yes. -/
theorem wpList_load_yes {P : Program} {ops : Array Oper} {rest : List Oper} {o : Oper} {a : Act} {w : World} {Q : Exit → Act → World → Prop} (hw : Region.wanted o (yielded ops a.tmps) = true) (ty : TypeId) (x : Operand) (ho : o.op = .load ty x)
    (g : Nat) (hx : a.eval x = .pointer (some ⟨g, 0, none⟩)) (t : TypeId) (cs : Array Value) (fr : Nat × Nat) (d : TypeDesc) (hg : w.heap[g]? = some (.cells cs t fr))
    (hu : P.underlying ty = some d) (hd : (match d with | .struct _ | .array _ _ => true | _ => false) = true) (hi : (P.info? ty).map (·.size) = some cs.size)
    (h : wpList P ops Q rest (a.put o.dst (.agg cs)) w) : wpList P ops Q (o :: rest) a w :=
  wpList_yes hw fun _ hK => wp_load_row ty x ho g hx t cs fr d hg hu hd hi (hK _ _ h)

theorem Trym.guard23 : Trym.prog.eqGuardType Trym.prog.depth 23 = false := by kernel_rfl
theorem Trym.sizeOf5 (w : World) : (sizeOf 5).run Trym.prog w = .ok 1 w := by kernel_rfl

/-- Two arrays of 16 bytes, compared. -/
theorem eq_rows (xs ys : List UInt8) (hx : xs.length = 16) (hy : ys.length = 16) (w : World) : (Op.equalIn 10000 23 (.agg (rowV xs)) (.agg (rowV ys))).run Trym.prog w = .ok (xs == ys) w :=
  run_equalIn_bytes w 9998 23 5 16 Trym.underlying23 Trym.underlying5 Trym.sizeOf5 xs ys hx hy

set_option maxHeartbeats 400000 in
theorem whole_great (u : ByteArray) (w : World) (h : (1048576 : Int) < (u.size : Int)) :
    Calls Trym.prog 3 #[.string u] w fun e w' => e = .returned (.bool true) ∧ w = w' := by
  go_enter Trym.func3, Trym.ntmps3
  go_wp2_with (go_at_call 7; refine (bytes_great _ _ h).mono ?_; rintro e w' ⟨rfl, rfl⟩)
  go_ret
  exact ⟨rfl, rfl⟩

set_option maxHeartbeats 1000000 in
theorem whole_short (u : ByteArray) (w : World) (h : (u.size : Int) ≤ 1048576) (hu : ¬ u.size = 36) :
    Calls Trym.prog 3 #[.string u] w fun e w' => e = .returned (.bool true) ∧ Below w.heap.size w w' := by
  have h1 : ((u.size : Int) != 36) = true := by rw [bne_iff_ne]; omega
  obtain ⟨zs, hzs⟩ : ∃ zs, zs = bytesOf fun _ => 0 := ⟨_, rfl⟩
  have hz16 : zs.length = 16 := by rw [hzs]; exact bytesOf_length _
  have hsz := row_sz zs hz16
  have h1c := rowV_one zs
  have hs16 : Z16.size = (rowV zs).size := by rw [rowV_size, hz16]; rfl
  have HZ : Hid (rowV zs = Z16) := by show rowV zs = Z16; rw [hzs]; exact rowV_zero
  have hcon := zzPack_short u w hu
  rw [← hzs] at hcon
  have heq : ∀ wx : World, (Op.equalIn 10000 23 (.agg (rowV zs)) (.agg #[.int .u8 0, .int .u8 0, .int .u8 0, .int .u8 0, .int .u8 0, .int .u8 0, .int .u8 0, .int .u8 0, .int .u8 0, .int .u8 0, .int .u8 0, .int .u8 0, .int .u8 0, .int .u8 0, .int .u8 0, .int .u8 0])).run Trym.prog wx = .ok true wx := fun wx => by
    rw [← show rowV zs = #[.int .u8 0, .int .u8 0, .int .u8 0, .int .u8 0, .int .u8 0, .int .u8 0, .int .u8 0, .int .u8 0, .int .u8 0, .int .u8 0, .int .u8 0, .int .u8 0, .int .u8 0, .int .u8 0, .int .u8 0, .int .u8 0] from HZ.out, eq_rows zs zs hz16 hz16 wx, beq_self_eq_true]
  have hg23 := Trym.guard23
  have HC : Hid (Calls Trym.prog 8 #[.string u] w fun e w' => e = .returned (.tuple #[.agg (rowV zs), .bool false]) ∧ Below w.heap.size w w') := hcon
  clear hcon hzs hz16
  go_enter Trym.func3, Trym.ntmps3
  go_wp2_with (go_at_call 7; refine (bytes_small _ _ h).mono ?_; rintro e w' ⟨rfl, rfl⟩)
  refine HC.out.mono ?_
  rintro e w1 ⟨rfl, hb1⟩
  have hrow1 : ((w1.alloc (.cells Z16 23)).setRow w1.heap.size (rowV zs)).heap[w1.heap.size]? = some (.cells (rowV zs) 23 (0, 0)) := setRow_heap _ _ _ _ 23 (0, 0) (heap_alloc_new w1 _)
  go_wp2_with (first | (refine wpList_store_row rfl 23 _ _ rfl w1.heap.size (rowV zs) rfl rfl 23 Z16 (heap_alloc_new w1 _) hsz hs16 h1c ?_) | (refine wpList_load_yes rfl 23 _ rfl w1.heap.size rfl 23 (rowV zs) (0, 0) _ hrow1 Trym.underlying23 rfl hsz ?_))
  go_ret
  exact ⟨rfl, below_setRow (hb1.alloc hb1.size _) hb1.size _⟩
end Go.Proofs.Qxb6003653aMods
