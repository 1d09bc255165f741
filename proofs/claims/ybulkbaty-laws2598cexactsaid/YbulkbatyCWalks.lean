/-
  THE WALKS of the functions below 'LawS2598CExact' (seat b2598a): hasempty (6), slices.Index (8), slices.Contains (7) at the empty text, same (5) at one slice given twice, exactly (4).
-/
import Derived.Test.YbulkbatyRows
import Derived.WalkKit
import Derived.WalkSpells
import Derived.WalkLawsBesides
import Derived.RegionTactic
import Derived.ChangeAlike
import Derived.Deep.QuietTactic
import Derived.BigQuiet
import Derived.Lib.Builder
namespace Go.Proofs.Ybulkbaty
open Go.RowKit

/-- One of the first 'n' strings is empty. -/
def hasE (S : Nat → ByteArray) : Nat → Bool
  | 0 => false
  | n + 1 => hasE S n || (S n).toList.isEmpty

theorem hasE_up (S : Nat → ByteArray) (k n : Nat) (h : k ≤ n) (hk : hasE S k = true) : hasE S n = true := by
  induction n with
  | zero => obtain rfl : k = 0 := by omega
            exact hk
  | succ n ih =>
    by_cases e : k = n + 1
    · subst e; exact hk
    · simp [hasE, ih (by omega)]

theorem hasE_hit (S : Nat → ByteArray) (k n : Nat) (h : k < n) (hk : (S k).toList.isEmpty = true) : hasE S n = true :=
  hasE_up S (k + 1) n h (by simp only [hasE, hk, Bool.or_true])

theorem hasE_miss (S : Nat → ByteArray) (k : Nat) (hn : hasE S k = false) (hk : (S k).toList.isEmpty = false) : hasE S (k + 1) = false := by
  simp only [hasE, hn, hk, Bool.or_false]

theorem ret_bool {a b : Bool} (h : a = b) : Ending.returned (.bool a) = .returned (.bool b) := by rw [h]

/-! ### zzs2598chasempty -/
set_option maxHeartbeats 400000 in
theorem hasempty_any (b off len cap : Nat) (S : Nat → ByteArray) (w : World) (hlen : len ≤ 1024)
    (hc : ∀ j, j < len → w.cell? ⟨b, off + j, none⟩ = some (.string (S j))) :
    Calls Yba.prog 6 #[.slice (some ⟨b, off, none⟩) len cap] w fun e w' => e = .returned (.bool (hasE S len)) ∧ w' = w := by
  go_enter Yba.func6, Yba.ntmps6
  go_wp2
  go_loop [3] (fun i => ∃ k : Nat, k ≤ len ∧ i = .int .i64 k ∧ hasE S k = false) (fun i => len - (intOf i).toNat)
  case atStart => exact ⟨0, Nat.zero_le _, rfl, rfl⟩
  case round =>
    obtain ⟨k, hk, rfl, hn⟩ := hrel
    have HN : Hid (hasE S k = false) := hn
    clear hn
    by_cases hlt : k < len
    · have hcx := hc k hlt
      clear hc
      go_wp2
      · have he : (S k).toList.isEmpty = true := by assumption
        go_ret
        exact ⟨ret_bool (hasE_hit S k len hlt he).symm, rfl⟩
      · have he : (S k).toList.isEmpty = false := by assumption
        go_round
        case rel => exact ⟨k + 1, by omega, by go_num, hasE_miss S k HN.out he⟩
        case measure => simp [intOf]; omega
    · obtain rfl : k = len := by omega
      go_wp2
      go_ret
      exact ⟨ret_bool HN.out.symm, rfl⟩

/-! ### slices.Index at the empty text -/
set_option maxHeartbeats 400000 in
theorem index_any (b off len cap : Nat) (S : Nat → ByteArray) (w : World) (hlen : len ≤ 1024)
    (hc : ∀ j, j < len → w.cell? ⟨b, off + j, none⟩ = some (.string (S j))) :
    Calls Yba.prog 8 #[.slice (some ⟨b, off, none⟩) len cap, .string { data := #[] }] w fun e w' =>
      (∃ r : Int, e = .returned (.int .i64 r) ∧ decide (0 ≤ r) = hasE S len) ∧ w' = w := by
  go_enter Yba.func8, Yba.ntmps8
  go_wp2
  go_loop [5, 8] (fun _ i => ∃ k : Nat, k ≤ len ∧ i = .int .i64 k ∧ hasE S k = false) (fun _ i => len - (intOf i).toNat)
  case atStart => exact ⟨0, Nat.zero_le _, rfl, rfl⟩
  case round =>
    obtain ⟨k, hk, rfl, hn⟩ := hrel
    have HN : Hid (hasE S k = false) := hn
    clear hn
    by_cases hlt : k < len
    · have hcx := hc k hlt
      clear hc
      go_wp2
      · have he : (S k).toList.isEmpty = true := by assumption
        go_ret
        exact ⟨⟨k, rfl, by rw [hasE_hit S k len hlt he]; simp⟩, rfl⟩
      · have he : (S k).toList.isEmpty = false := by assumption
        go_round
        case rel => exact ⟨k + 1, by omega, by go_num, hasE_miss S k HN.out he⟩
        case measure => simp [intOf]; omega
    · obtain rfl : k = len := by omega
      go_wp2
      go_ret
      exact ⟨⟨-1, rfl, by rw [HN.out]; rfl⟩, rfl⟩

/-! ### slices.Contains at the empty text -/
set_option maxHeartbeats 400000 in
theorem contains_any (b off len cap : Nat) (S : Nat → ByteArray) (w : World) (hlen : len ≤ 1024)
    (hc : ∀ j, j < len → w.cell? ⟨b, off + j, none⟩ = some (.string (S j))) :
    Calls Yba.prog 7 #[.slice (some ⟨b, off, none⟩) len cap, .string { data := #[] }] w fun e w' => e = .returned (.bool (hasE S len)) ∧ w' = w := by
  have HI : Hid (∀ j, j < len → w.cell? ⟨b, off + j, none⟩ = some (.string (S j))) := hc
  clear hc
  go_enter Yba.func7, Yba.ntmps7
  go_wp2_with (go_at_call 8; refine (index_any b off len cap S _ hlen HI.out).mono ?_; rintro e w' ⟨⟨r, rfl, hr⟩, rfl⟩; have HR : Hid (decide (0 ≤ r) = hasE S len) := hr; clear hr)
  go_ret
  exact ⟨ret_bool HR.out, rfl⟩

theorem info9 : ∃ j, Yba.prog.info? 9 = some j := Option.isSome_iff_exists.1 (by kernel_rfl)

/-! ### zzs2598csame at one slice given twice -/
set_option maxHeartbeats 400000 in
theorem same_any (b off len cap : Nat) (S : Nat → ByteArray) (w : World) (hlen : len ≤ 1024) (h0 : 0 < len)
    (hc : ∀ j, j < len → w.cell? ⟨b, off + j, none⟩ = some (.string (S j))) :
    Calls Yba.prog 5 #[.slice (some ⟨b, off, none⟩) len cap, .slice (some ⟨b, off, none⟩) len cap] w fun e w' => e = .returned (.bool true) ∧ ∃ n, w' = w.drewN n := by
  have hp : (0 : Int) < (len : Int) := by omega
  obtain ⟨j, hj⟩ := info9
  have hne : ∀ W, (binOp .neq 29 (.pointer (some ⟨b, off, none⟩)) (.pointer (some ⟨b, off, none⟩))).run Yba.prog W = .ok (.bool false) W := fun W => Lib.run_neq_ptr_same W ⟨b, off, none⟩ Yba.underlying29 hj
  clear hj
  go_enter Yba.func5, Yba.ntmps5
  go_wp2
  go_loopw [5] (fun i wr => ∃ k : Nat, k ≤ len ∧ i = .int .i64 k ∧ ∃ n, wr = w.drewN n) (fun i _ => len - (intOf i).toNat)
  case atStart => exact ⟨0, Nat.zero_le _, rfl, 0, rfl⟩
  case round =>
    obtain ⟨k, hk, rfl, n, rfl⟩ := hrel
    by_cases hlt : k < len
    · have hcx := hc k hlt
      clear hc
      go_wp2
      go_quiet (fail)
      go_wp2
      go_roundw
      case rel => exact ⟨k + 1, by omega, by go_num, n + nq, rfl⟩
      case measure => simp [intOf]; omega
    · obtain rfl : k = len := by omega
      go_wp2
      go_quiet (fail)
      go_wp2
      go_ret
      exact ⟨rfl, n + nq, by simp⟩

/-! ### exactly -/
set_option maxHeartbeats 400000 in
theorem exactly_no (a : Option Addr) (len cap : Nat) (w : World) (h : len = 0 ∨ 64 < len) :
    Calls Yba.prog 4 #[.slice a len cap] w fun e w' => e = .returned (.agg #[.slice none 0 0, .slice none 0 0]) ∧ Below w.heap.size w w' := by
  rcases h with rfl | h
  · go_enter Yba.func4, Yba.ntmps4
    go_wp2
    exact bodyPost_ret (v := .agg #[.slice none 0 0, .slice none 0 0]) (by simp [results, Yba.results4, go_sem]) rfl ⟨rfl, (Below.refl _ _).alloc (Nat.le_refl _) _⟩
  · have h1 : ((len : Int) == 0) = false := by simp; omega
    have h2 : (64 : Int) < (len : Int) := by omega
    go_enter Yba.func4, Yba.ntmps4
    go_wp2
    exact bodyPost_ret (v := .agg #[.slice none 0 0, .slice none 0 0]) (by simp [results, Yba.results4, go_sem]) rfl ⟨rfl, (Below.refl _ _).alloc (Nat.le_refl _) _⟩

set_option maxHeartbeats 400000 in
theorem exactly_yes (b off len cap : Nat) (S : Nat → ByteArray) (w : World) (h0 : 0 < len) (h64 : len ≤ 64) (hb : b < w.heap.size)
    (hc : ∀ j, j < len → w.cell? ⟨b, off + j, none⟩ = some (.string (S j))) :
    Calls Yba.prog 4 #[.slice (some ⟨b, off, none⟩) len cap] w fun e w' =>
      e = .returned (.agg #[.slice (some ⟨b, off, none⟩) len cap, if hasE S len then .slice none 0 0 else .slice (some ⟨b, off, none⟩) len cap]) ∧ Below w.heap.size w w' := by
  have h1 : ((len : Int) == 0) = false := by simp; omega
  have HC : Hid (∀ j, j < len → w.cell? ⟨b, off + j, none⟩ = some (.string (S j))) := hc
  clear hc
  cases he : hasE S len with
  | true =>
    go_enter Yba.func4, Yba.ntmps4
    go_wp2_with fail
    refine (contains_any b off len cap S _ (by omega) (fun j hj => ?_)).mono ?_
    · exact (((Below.refl w.heap.size w).alloc (Nat.le_refl _) _).alloc (by simp) _).cell (p := ⟨b, off + j, none⟩) hb |>.trans (HC.out j hj)
    rintro e w' ⟨rfl, rfl⟩
    go_wp2
    exact bodyPost_ret (v := .agg #[.slice (some ⟨b, off, none⟩) len cap, .slice none 0 0]) (by simp [results, Yba.results4, go_sem]) rfl ⟨rfl, ((Below.refl _ _).alloc (Nat.le_refl _) _).alloc (by simp) _⟩
  | false =>
    go_enter Yba.func4, Yba.ntmps4
    go_wp2_with fail
    refine (contains_any b off len cap S _ (by omega) (fun j hj => ?_)).mono ?_
    · exact (((Below.refl w.heap.size w).alloc (Nat.le_refl _) _).alloc (by simp) _).cell (p := ⟨b, off + j, none⟩) hb |>.trans (HC.out j hj)
    rintro e w' ⟨rfl, rfl⟩
    go_wp2
    exact bodyPost_ret (v := .agg #[.slice (some ⟨b, off, none⟩) len cap, .slice (some ⟨b, off, none⟩) len cap]) (by simp [results, Yba.results4, go_sem]) rfl ⟨rfl, ((Below.refl _ _).alloc (Nat.le_refl _) _).alloc (by simp) _⟩
end Go.Proofs.Ybulkbaty
