/-
  Seat b6003653aM: ZZPackUID by its contract.
-/
import Derived.Test.Qxb6003653aModsPack
namespace Go.Proofs.Qxb6003653aMods
open Go.RowKit

theorem res8 (tmps : Array Value) (w : World) (g : Nat) (cs : Array Value) (b : Bool) (hp : tmps.getD 2 undef = .pointer (some ⟨g, 0, none⟩)) (hb : tmps.getD 3 undef = .bool b)
    (hrow : w.heap[g]? = some (.cells cs 23 (0, 0))) (hs : cs.size = 16) : (results Trym.f8 tmps).run Trym.prog w = .ok (.tuple #[.agg cs, .bool b]) w := by
  rw [results_cell_tmp Trym.results8, hp, hb]
  simp [asAddr, run_loadVar_row (P := Trym.prog) w g 23 23 cs (0, 0) _ hrow Trym.underlying23 rfl (by rw [hs]; exact Trym.size23)]

/-- The zeros that a new array of 16 bytes holds. -/
abbrev Z16 : Array Value := #[.int .u8 0, .int .u8 0, .int .u8 0, .int .u8 0, .int .u8 0, .int .u8 0, .int .u8 0, .int .u8 0, .int .u8 0, .int .u8 0, .int .u8 0, .int .u8 0, .int .u8 0, .int .u8 0, .int .u8 0, .int .u8 0]

set_option maxHeartbeats 1000000 in
theorem zzPack_of (u : ByteArray) (xs : List UInt8) (b : Bool) (hlen : xs.length = 16)
    (h : ∀ w : World, Calls Trym.prog 18 #[.string u] w fun e w' => e = .returned (.tuple #[.agg (rowV xs), .bool b]) ∧ Below w.heap.size w w') (w : World) :
    Calls Trym.prog 8 #[.string u] w fun e w' => e = .returned (.tuple #[.agg (rowV xs), .bool b]) ∧ Below w.heap.size w w' := by
  have hsz := row_sz xs hlen
  have h1c := rowV_one xs
  have HLEN : Hid ((rowV xs).size = 16) := by show _ = 16; rw [rowV_size, hlen]
  have H : Hid (∀ w : World, Calls Trym.prog 18 #[.string u] w fun e w' => e = .returned (.tuple #[.agg (rowV xs), .bool b]) ∧ Below w.heap.size w w') := h
  clear h hlen
  go_enter Trym.func8, Trym.ntmps8
  go_wp2_with fail
  refine (H.out _).mono ?_
  rintro e w1 ⟨rfl, hb⟩
  have hrow : w1.heap[w.heap.size]? = some (.cells Z16 23 (0, 0)) := (hb.block _ (by simp)).trans (heap_alloc_new w _)
  have hs16 : Z16.size = (rowV xs).size := HLEN.out.symm
  have HROW : Hid ((w1.setRow w.heap.size (rowV xs)).heap[w.heap.size]? = some (.cells (rowV xs) 23 (0, 0))) := setRow_heap w1 _ _ _ 23 (0, 0) hrow
  have HB : Hid (Below w.heap.size w w1) := ((Below.refl _ _).alloc (Nat.le_refl _) _).trans (hb.mono (by simp))
  clear hb
  go_wp2_with (refine wpList_store_row rfl 23 _ _ rfl w.heap.size (rowV xs) rfl rfl 23 Z16 hrow hsz hs16 h1c ?_)
  refine bodyPost_ret (res8 _ _ w.heap.size _ b rfl rfl HROW.out HLEN.out) rfl ⟨rfl, below_setRow HB.out (Nat.le_refl _) _⟩

/-- ZZPackUID at a text of another length. -/
theorem zzPack_short (u : ByteArray) (w : World) (hu : ¬ u.size = 36) :
    Calls Trym.prog 8 #[.string u] w fun e w' => e = .returned (.tuple #[.agg (rowV (bytesOf fun _ => 0)), .bool false]) ∧ Below w.heap.size w w' :=
  zzPack_of u _ false (bytesOf_length _) (fun w => pack_short u w hu) w

/-- ZZPackUID at a text of 36 bytes, good ahead of j and not at j. -/
theorem zzPack_any (u : ByteArray) (w : World) (hu : u.size = 36) (j : Nat) (hj : j ≤ 36) (hok : ∀ i, i < j → okAt (u.data.toList.getD i 0).toNat i = true) (hbad : j < 36 → okAt (u.data.toList.getD j 0).toNat j = false) :
    Calls Trym.prog 8 #[.string u] w fun e w' => e = .returned (.tuple #[.agg (rowV (bytesOf (nbU u.data.toList j))), .bool (decide (j = 36))]) ∧ Below w.heap.size w w' :=
  zzPack_of u _ _ (bytesOf_length _) (fun w => pack_any u w hu j hj hok hbad) w

end Go.Proofs.Qxb6003653aMods
