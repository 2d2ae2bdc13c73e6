/-
  Seat b6000538aM: the walk of FnNameAtWalkRejoins.
-/
import Derived.Test.Qxb6000538aModsStep
import Derived.Test.Qxb6000538aModsRejoin
import Derived.Lib.AppendStr
import Derived.Laws.IdiomStrings
namespace Go.Proofs.Qxb6000538aMods
open Go.RowKit

theorem Trym.info5 : (Trym.prog.info? 5).map (fun i => (i.zero, i.size, i.bytes)) = some (some (.int .u8 0), 1, 1) := by kernel_rfl

/-- Bytes as cells. -/
def bc (l : List UInt8) : List Value := l.map fun b => Value.int .u8 b.toNat

theorem bc_append (a b : List UInt8) : bc (a ++ b) = bc a ++ bc b := by simp [bc]
theorem strCells_piece (p : ByteArray) (a e : Nat) : Lib.strCells (p.extract a e) = bc (piece p.data.toList a e) := by
  unfold Lib.strCells bc piece
  rw [Lib.extract_data]

/-- The first name. -/
theorem own_first {B : Nat} {w2 : World} {v2 : Value} {p : ByteArray} {e n : Nat} (hn : n = e)
    (h : w2.ownsRow B 5 1 v2 (0 + n) ([] ++ Lib.strCells (p.extract 0 e))) (he : e ≤ p.data.toList.length) : w2.ownsRow B 5 1 v2 (piece p.data.toList 0 e).length (bc (piece p.data.toList 0 e)) := by
  rw [strCells_piece, List.nil_append] at h
  rw [piece_length _ _ _ he, Nat.sub_zero]
  rw [Nat.zero_add, hn] at h
  exact h

theorem own_next {B : Nat} {w2 : World} {v2 : Value} {p : ByteArray} {a e n : Nat} {bs : List UInt8} (hn : n = e - a)
    (h : w2.ownsRow B 5 1 v2 (bs.length + 1 + n) (bc bs ++ [.int .u8 47] ++ Lib.strCells (p.extract a e))) (he : e ≤ p.data.toList.length) :
    w2.ownsRow B 5 1 v2 (bs ++ [47] ++ piece p.data.toList a e).length (bc (bs ++ [47] ++ piece p.data.toList a e)) := by
  rw [strCells_piece] at h
  rw [bc_append, bc_append, List.length_append, List.length_append, piece_length _ _ _ he]
  rw [hn] at h
  exact h

theorem own_out {B : Nat} {w : World} {v : Value} {l : List UInt8} (h : w.ownsRow B 5 1 v l.length (bc l)) (hv : ¬ v = .slice none 0 0) :
    ∃ g cap, v = .slice (some ⟨g, 0, none⟩) l.length cap ∧ ∀ j (hj : j < l.length), w.cell? ((⟨g, 0, none⟩ : Addr).add j) = some (.int .u8 (l[j].toNat : Int)) := by
  have h' := h
  rcases h.2 with ⟨h1, _⟩ | ⟨g, cap, cur, rfl, _, hg, _⟩
  · exact absurd h1 hv
  · refine ⟨g, cap, rfl, fun j hj => ?_⟩
    have hc := h'.cellAt j (by omega)
    have e : (⟨g, 0, none⟩ : Addr).add j = ⟨g, j, none⟩ := by
      by_cases hj0 : j = 0
      · subst hj0; rfl
      · simp [Addr.add, hj0]
    rw [e, hc, bc, List.getElem?_map, List.getElem?_eq_getElem hj]
    rfl

theorem own_block {B : Nat} {w : World} {v : Value} {n : Nat} {xs : List Value} (h : w.ownsRow B 5 1 v n xs) : ∀ k, v.ownBlock = some k → B ≤ k := by
  intro k hk
  rcases h.2 with ⟨rfl, _⟩ | ⟨g, cap, cur, rfl, hg, _⟩
  · simp [Value.ownBlock] at hk
  · simp [Value.ownBlock] at hk; omega

/-- What the first round hands on. -/
theorem round_first {p : ByteArray} {l : List UInt8} {a d : Nat} {w wr w2 : World} {v v2 : Value} (ha : a = 0) (hl : l = p.data.toList) (hs : Stops l a (a + d)) (hv : ¬ v = .slice none 0 0)
    (hbel : Below w.heap.size w wr) (hsize : (p.extract a (a + d)).size = d) (hown : wr.ownsRow w.heap.size 5 1 v 0 []) (h2 : w2.ownsRow w.heap.size 5 1 v2 (0 + (p.extract a (a + d)).size) ([] ++ Lib.strCells (p.extract a (a + d))))
    (hg : wr.grownBy w2 v.ownBlock) (hn : v2 = .slice none 0 0 ↔ v = .slice none 0 0 ∧ (p.extract a (a + d)).size = 0) :
    ∃ a' n' bs', At l a' n' bs' ∧ (Value.int .i64 1) = .int .i64 (n' : Nat) ∧ Value.int .i64 ((a : Int) + (d : Int) + 1) = .int .i64 (a' : Nat) ∧ w2.ownsRow w.heap.size 5 1 v2 bs'.length (bc bs') ∧ (¬ v2 = .slice none 0 0) ∧ Below w.heap.size w w2 := by
  subst ha
  refine ⟨0 + d + 1, 1, piece l 0 (0 + d), At.first hs, rfl, by simp, ?_, fun h => hv (hn.1 h).1, hbel.grown hg hbel.size (own_block hown)⟩
  subst hl
  exact own_first (by omega) h2 hs.2.1

/-- What a later round hands on. -/
theorem round_next {p : ByteArray} {l bs : List UInt8} {a d n : Nat} {w wr w1 w2 : World} {v v1 v2 : Value} (hat : At l a n bs) (hn : 1 ≤ n) (hs : Stops l a (a + d)) (ha : a ≤ l.length) (hl : l = p.data.toList) (hv : ¬ v = .slice none 0 0)
    (hbel : Below w.heap.size w wr) (hown : wr.ownsRow w.heap.size 5 1 v bs.length (bc bs)) (hsize : (p.extract a (a + d)).size = d)
    (h1 : w1.ownsRow w.heap.size 5 1 v1 (bs.length + 1) (bc bs ++ [.int .u8 47])) (hg1 : (wr.alloc (.cells #[.int .u8 47] 5)).grownBy w1 v.ownBlock) (hn1 : v1 = .slice none 0 0 ↔ v = .slice none 0 0 ∧ 1 = 0)
    (h2 : w2.ownsRow w.heap.size 5 1 v2 (bs.length + 1 + (p.extract a (a + d)).size) (bc bs ++ [.int .u8 47] ++ Lib.strCells (p.extract a (a + d))))
    (hg : w1.grownBy w2 v1.ownBlock) (hn2 : v2 = .slice none 0 0 ↔ v1 = .slice none 0 0 ∧ (p.extract a (a + d)).size = 0) :
    ∃ a' n' bs', At l a' n' bs' ∧ (Value.int .i64 ((n : Int) + 1)) = .int .i64 (n' : Nat) ∧ Value.int .i64 ((a : Int) + (d : Int) + 1) = .int .i64 (a' : Nat) ∧ w2.ownsRow w.heap.size 5 1 v2 bs'.length (bc bs') ∧ (¬ v2 = .slice none 0 0) ∧ Below w.heap.size w w2 := by
  have hb1 : Below w.heap.size w (wr.alloc (.cells #[.int .u8 47] 5)) := hbel.alloc hbel.size _
  have hb2 : Below w.heap.size w w1 := hb1.grown hg1 hb1.size (own_block hown)
  refine ⟨a + d + 1, n + 1, bs ++ [47] ++ piece l a (a + d), hat.next hn ha hs, by simp, by simp, ?_, fun h => hv (hn1.1 (hn2.1 h).1).1, hb2.grown hg hb2.size (own_block h1)⟩
  subst hl
  exact own_next (by omega) h2 hs.2.1

theorem slashes_step {p : ByteArray} {l : List UInt8} (hl : l = p.data.toList) (k : Nat) (hk : k < p.size) :
    (((p[k].toNat : Int) == 47) = true → slashes (l.take (k + 1)) = slashes (l.take k) + 1) ∧ (((p[k].toNat : Int) == 47) = false → slashes (l.take (k + 1)) = slashes (l.take k)) := by
  subst hl
  have e : p.data.toList.take (k + 1) = p.data.toList.take k ++ [p[k]] := by
    rw [List.take_succ_eq_append_getElem (by simpa using hk)]; rfl
  rw [e, slashes_append]
  have e2 : (p[k] == 47) = ((p[k].toNat : Int) == 47) := by
    rw [Bool.eq_iff_iff]
    simp only [beq_iff_eq]
    constructor
    · intro h; rw [h]; rfl
    · intro h; apply UInt8.toNat_inj.1; have : (47 : UInt8).toNat = 47 := rfl; omega
  constructor <;> intro h <;> rw [h] at e2 <;> simp [slashes, e2]

set_option maxHeartbeats 400000 in
theorem walk_great (p : ByteArray) (w : World) (h : (1048576 : Int) < (p.size : Int)) :
    Calls Trym.prog 6 #[.string p] w fun e w' => e = .returned (.bool true) ∧ w = w' := by
  go_enter Trym.func6, Trym.ntmps6
  go_wp2_with (go_at_call 14; refine (bytes14_great _ _ h).mono ?_; rintro e w' ⟨rfl, rfl⟩)
  go_ret
  exact ⟨rfl, rfl⟩

set_option maxHeartbeats 2000000 in
theorem walk_small (p : ByteArray) (w : World) (hp : (p.size : Int) ≤ 1048576) :
    Calls Trym.prog 6 #[.string p] w fun e w' => e = .returned (.bool true) ∧ Below w.heap.size w w' := by
  obtain ⟨i0, hi, hz0, hz1, hz2⟩ := info_parts Trym.info5
  have q3 : decide ((1048576 : Int) < (p.size : Int)) = false := by simp; omega
  obtain ⟨l, hl⟩ : ∃ l, l = p.data.toList := ⟨_, rfl⟩
  have hll : l.length = p.size := by rw [hl]; simp
  have HL : Hid (l = p.data.toList) := hl
  have HLL : Hid (l.length = p.size) := hll
  clear hl hll
  go_enter Trym.func6, Trym.ntmps6
  go_wp2_with (first | (go_at_call 14; refine (bytes14_small _ _ hp).mono ?_; rintro e w' ⟨rfl, rfl⟩) | (at_make; refine wpList_make_own _ rfl _ _ 26 rfl w.heap.size 5 i0 (.int .u8 0) 1 Trym.underlying26 hi hz0 hz1 .i64 .i64 _ p.size rfl rfl rfl (by rw [hz2]; omega) (by unfold maxLen; omega) (Nat.le_refl _) ?_; intro w0 hown0 hgrow0))
  go_loopw [3, 4, 5] (fun v c i wr => ∃ a n bs, At l a n bs ∧ c = .int .i64 (n : Nat) ∧ i = .int .i64 (a : Nat) ∧ wr.ownsRow w.heap.size 5 1 v bs.length (bc bs) ∧ (¬ v = .slice none 0 0) ∧ Below w.heap.size w wr) (fun _ _ i _ => p.size + 1 - (intOf i).toNat)
  case atStart => exact ⟨0, 0, [], At.start _, rfl, rfl, hown0, by simp, (Below.refl _ _).grown hgrow0 (Nat.le_refl _) (by intro k h; cases h)⟩
  case round =>
    obtain ⟨a, n, bs, hat, rfl, rfl, hown, hv, hbel⟩ := hrel
    clear hown0 hgrow0
    have hbd := hat.le
    by_cases hlt : a ≤ p.size
    · obtain ⟨e0, hs0⟩ := stops_ex l a (by rw [HLL.out]; exact hlt)
      obtain ⟨d, rfl⟩ : ∃ d, e0 = a + d := ⟨e0 - a, by have := hs0.1; omega⟩
      have hsp : Stops p.data.toList a (a + d) := by rw [← HL.out]; exact hs0
      have hel : a + d ≤ p.size := by have := hs0.2.1; rw [HLL.out] at this; exact this
      have hel2 : a + d ≤ p.data.toList.length := hsp.2.1
      have hsl := ex_noSlash p a (a + d) hsp.2.2.1
      have hsize : (p.extract a (a + d)).size = d := by rw [ByteArray.size_extract]; omega
      have hle : ((p.extract a (a + d)).size : Int) ≤ 1048576 := by omega
      have hbs : bs.length ≤ p.size := by have := hbd.1; rw [HLL.out] at this; exact this
      have hnn : (n : Int) ≤ 1048577 := by have := hbd.2.1; rw [HLL.out] at this; omega
      have hB : w.heap.size ≤ wr.heap.size := hbel.size
      clear hbd
      by_cases hn : n = 0
      · obtain ⟨ha0, rfl⟩ := hat.zero hn
        subst hn
        have HR := fun v2 w2 => round_first (w := w) (wr := wr) (v2 := v2) (w2 := w2) ha0 HL.out hs0 hv hbel hsize
        clear hat hs0 hbel hv ha0
        go_wp2_with (first | (go_at_call 15; refine (zzNameAt_any p a (a + d) _ hp hsp).mono ?_; rintro e w' ⟨rfl, rfl⟩) | (go_at_call 16; refine (hasSlash_no _ _ hle hsl).mono ?_; rintro e w' ⟨rfl, rfl⟩) | (at_builtin; refine Lib.wpList_append_own_string _ rfl (.tmp 39) (.tmp 40) 26 9 rfl w.heap.size 5 i0 Trym.underlying26 Trym.underlying9 hi hz0 hz1 hz2 _ 0 [] rfl hown _ rfl (by unfold maxLen; omega) (by omega) hB ?_; intro v2 w2 hown2 hgrow2 hnil2))

        go_roundw
        case rel => exact HR _ _ hown hown2 hgrow2 hnil2
        case measure => simp [intOf]; omega
      · have hn1 : (1 : Int) ≤ (n : Int) := by omega
        have HR := fun v1 w1 v2 w2 => round_next (w := w) (wr := wr) (v1 := v1) (v2 := v2) (w1 := w1) (w2 := w2) hat (by omega) hs0 (by rw [HLL.out]; exact hlt) HL.out hv hbel hown hsize
        have hown' := hown.alloc (.cells #[.int .u8 47] 5)
        have hB' : w.heap.size ≤ (wr.alloc (.cells #[.int .u8 47] 5)).heap.size := by simp; omega
        clear hat hs0 hbel hv hown
        go_wp2_with (first | (go_at_call 15; refine (zzNameAt_any p a (a + d) _ hp hsp).mono ?_; rintro e w' ⟨rfl, rfl⟩) | (go_at_call 16; refine (hasSlash_no _ _ hle hsl).mono ?_; rintro e w' ⟨rfl, rfl⟩) | (at_builtin; refine wpList_append_own _ rfl (.tmp 36) (.tmp 37) 26 rfl w.heap.size 5 i0 (.int .u8 0) 1 1 Trym.underlying26 hi hz0 hz1 hz2 rfl (by decide) _ bs.length (bc bs) rfl hown' ⟨wr.heap.size, 0, none⟩ 1 1 [.int .u8 47] rfl rfl (cell_one_new _ _ _) (by intro u hu; simp at hu; subst hu; rfl) (by unfold maxLen; omega) (by omega) hB' ?_; intro v1 w1 hown1 hgrow1 hnil1; have hB1 : w.heap.size ≤ w1.heap.size := (Nat.le_trans hB' hgrow1.size)) | (at_builtin; refine Lib.wpList_append_own_string _ rfl (.tmp 39) (.tmp 40) 26 9 rfl w.heap.size 5 i0 Trym.underlying26 Trym.underlying9 hi hz0 hz1 hz2 v1 _ _ rfl hown1 _ rfl (by unfold maxLen; omega) (by omega) hB1 ?_; intro v2 w2 hown2 hgrow2 hnil2))
        go_roundw
        case rel => exact HR _ _ _ _ hown1 hgrow1 hnil1 hown2 hgrow2 hnil2
        case measure => simp [intOf]; omega
    · obtain ⟨e1, e2, e3⟩ := hat.done (by rw [HLL.out]; omega)
      subst e3
      obtain ⟨g, cap, rfl, hcells⟩ := own_out hown hv
      have hconv := run_convert_bytes_back (P := Trym.prog) wr 26 9 5 ⟨g, 0, none⟩ cap bs Trym.underlying26 Trym.underlying5 Trym.underlying9 hcells
      have hps : (⟨bs.toArray⟩ : ByteArray) = p := by rw [HL.out]
      rw [hps] at hconv
      have q4 : decide ((p.size : Int) + 1 ≤ (p.size : Int)) = false := by simp; omega
      have e1' : a = p.size + 1 := by rw [e1, HLL.out]
      subst e1'
      obtain ⟨cnt, hcnt⟩ : ∃ cnt, cnt = slashes bs := ⟨_, rfl⟩
      rw [← hcnt] at e2
      subst e2
      have hcl : cnt ≤ p.size := by rw [hcnt, ← HLL.out]; exact slashes_le bs
      have HC : Hid (cnt = slashes bs) := hcnt
      clear hcnt hown hv hcells hat hbd e1 hps
      go_wp2
      go_loop [8, 9] (fun s i => ∃ k : Nat, k ≤ p.size ∧ i = .int .i64 k ∧ s = .int .i64 (slashes (bs.take k) : Nat)) (fun _ i => p.size - (intOf i).toNat)
      case atStart => exact ⟨0, Nat.zero_le _, rfl, by simp [slashes]⟩
      case round =>
        obtain ⟨k, hk, rfl, rfl⟩ := hrel
        have hs1 : slashes (bs.take k) ≤ p.size := by have h1 := slashes_le (bs.take k); have h2 := List.length_take_le k bs; omega
        by_cases hkt : k < p.size
        · have HS := slashes_step HL.out k hkt
          obtain ⟨s0, hs0⟩ : ∃ s0, s0 = slashes (bs.take k) := ⟨_, rfl⟩
          rw [← hs0] at hs1 HS ⊢
          have HS0 : Hid (s0 = slashes (bs.take k)) := hs0
          clear hs0
          by_cases hb : ((p[k].toNat : Int) == 47) = true
          · have HE : Hid (slashes (bs.take (k + 1)) = s0 + 1) := HS.1 hb
            clear HS
            go_wp2
            go_round
            case rel => exact ⟨k + 1, by omega, by go_num, by rw [HE.out]; go_num⟩
            case measure => simp [intOf]; omega
          · have hb' : ((p[k].toNat : Int) == 47) = false := by simpa using hb
            have HE : Hid (slashes (bs.take (k + 1)) = s0) := HS.2 hb'
            clear HS hb
            go_wp2
            go_round
            case rel => exact ⟨k + 1, by omega, by go_num, by rw [HE.out]⟩
            case measure => simp [intOf]; omega
        · have hkp : slashes (bs.take k) = cnt := by rw [HC.out, List.take_of_length_le (by rw [HLL.out]; omega)]
          rw [hkp]
          clear hkp hs1
          go_wp2
          go_ret
          exact ⟨rfl, hbel⟩
end Go.Proofs.Qxb6000538aMods
