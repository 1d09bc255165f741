/-
  WHAT BOTH LAWS OF SEAT b2599a SHARE: what is told of a slice of strings that came in; the walk of '(*apLine).repeatedBy' (function 5).
-/
import Derived.Test.YbulkbaumRows
import Derived.WalkKit
import Derived.WalkSpells
import Derived.WalkLawsBesides
import Derived.RegionTactic
import Derived.ChangeAlike
import Derived.Deep.QuietTactic
import Derived.BigQuiet
import Derived.ProofKit
import Derived.ChangeOld
import Derived.Below
import Derived.SliceStrings
namespace Go.Proofs.Ybulkbaum
open Go.ChangeShapes Go.WideShapes Go.ChangeAt Go.RowKit

theorem own : ownKnob Yba.prog.godebug = none := by kernel_rfl
theorem laidOut : laidOutB Yba.prog = true := by kernel_rfl

/-- WHAT THE WALK IS TOLD OF A SLICE OF STRINGS THAT CAME IN: it is nil; or it leads to a row of 'cap' cells, the strings 'ss'. -/
def IsStrs (w : World) (a : Option Addr) (len cap : Nat) (ss : List ByteArray) : Prop :=
  (a = none ∧ len = 0 ∧ cap = 0 ∧ ss = []) ∨
  ∃ x, a = some x ∧ len ≤ cap ∧ cap ≤ maxLen ∧ ss.length = cap ∧ (∀ i, i < ss.length → w.cell? (x.add i) = some (.string (ss.getD i ByteArray.empty))) ∧ ∀ s ∈ ss, s.size ≤ maxLen

/-- A slice that is not empty: its place, and its cells. -/
theorem IsStrs.place {w : World} {a : Option Addr} {len cap : Nat} {ss : List ByteArray} (h : IsStrs w a len cap ss) (h0 : 0 < len) :
    ∃ b off, a = some ⟨b, off, none⟩ ∧ len ≤ cap ∧ b < w.heap.size ∧ ∀ j, j < len → w.cell? ⟨b, off + j, none⟩ = some (.string (ss.getD j ByteArray.empty)) ∧ (ss.getD j ByteArray.empty).size ≤ maxLen := by
  rcases h with ⟨rfl, rfl, rfl, rfl⟩ | ⟨x, rfl, hl, hm, hz, hcell, hwz⟩
  · omega
  obtain ⟨b, off, spot⟩ := x
  have hspot : spot = none := by simpa [Addr.add] using World.cell?_spot (hcell 0 (by omega))
  subst hspot
  have hcs : ∀ j, j < len → w.cell? ⟨b, off + j, none⟩ = some (.string (ss.getD j ByteArray.empty)) := fun j hj => by
    rw [← add_plain]; exact hcell j (by omega)
  refine ⟨b, off, rfl, hl, World.block_lt_of_cell? _ _ (hcs 0 h0), fun j hj => ⟨hcs j hj, hwz _ ?_⟩⟩
  rw [List.getD_eq_getElem?_getD, List.getElem?_eq_getElem (by omega), Option.getD_some]
  exact List.getElem_mem _

/-- An argument of type []string, as the row hands it over, is such a slice. -/
theorem isStrs_of {H : Type} {enc : TypeId × Value → H} {W : World} {a : Option Addr} {len cap : Nat} {d : DataW H} {p : List MemPlace}
    (h : DataW.Trod enc Yba.prog W 0 (fun _ => true) true 22 (.slice a len cap) d p) : ∃ zs, IsStrs W a len cap zs := by
  obtain ⟨fuel, hf⟩ := h
  rcases open_strings Yba.underlying22 Yba.underlying9 (by kernel_rfl) hf with ⟨hcs, _⟩ | ⟨x, l, c, zs, hcs, _, hl, hm, hz, _, hcell, hwz⟩
  · simp [Value.cells] at hcs
    obtain ⟨rfl, rfl, rfl⟩ := hcs
    exact ⟨[], .inl ⟨rfl, rfl, rfl, rfl⟩⟩
  · simp [Value.cells] at hcs
    obtain ⟨rfl, rfl, rfl⟩ := hcs
    exact ⟨zs, .inr ⟨_, rfl, hl, hm, by simpa using hz, hcell, hwz⟩⟩

/-- The first 'n' strings of both are the same. -/
def agree (R S : Nat → ByteArray) : Nat → Bool
  | 0 => true
  | n + 1 => agree R S n && ((R n).toList == (S n).toList)

theorem agree_down (R S : Nat → ByteArray) (k n : Nat) (h : k ≤ n) (hk : agree R S k = false) : agree R S n = false := by
  induction n with
  | zero => obtain rfl : k = 0 := by omega
            exact hk
  | succ n ih =>
    by_cases e : k = n + 1
    · subst e; exact hk
    · simp [agree, ih (by omega)]

theorem agree_hit (R S : Nat → ByteArray) (k n : Nat) (h : k < n) (he : (!(R k).toList == (S k).toList) = true) : agree R S n = false :=
  agree_down R S (k + 1) n h (by
    rw [Bool.not_eq_true'] at he
    simp only [agree, he, Bool.and_false])

theorem agree_miss (R S : Nat → ByteArray) (k : Nat) (hn : agree R S k = true) (he : (!(R k).toList == (S k).toList) = false) : agree R S (k + 1) = true := by
  rw [Bool.not_eq_false'] at he
  simp only [agree, hn, he, Bool.and_true]

theorem ret_bool {a b : Bool} (h : a = b) : Ending.returned (.bool a) = .returned (.bool b) := by rw [h]

set_option maxHeartbeats 400000 in
theorem rep_none (bc br : Nat) (ra : Option Addr) (rc : Nat) (w : World)
    (hr : w.cell? ⟨br, 4, none⟩ = some (.slice ra 0 rc)) :
    Calls Yba.prog 5 #[.pointer (some ⟨bc, 0, none⟩), .pointer (some ⟨br, 0, none⟩)] w fun e w' => e = .returned (.bool true) ∧ w' = w := by
  go_enter Yba.func5, Yba.ntmps5
  go_wp2
  refine wp_loop_rounds 1 ?_
  rw [rounds_succ]
  go_wp2
  go_ret
  exact ⟨rfl, rfl⟩

set_option maxHeartbeats 400000 in
theorem rep_some (bc br b off len cap b' off' len' cap' : Nat) (R S : Nat → ByteArray) (w : World) (hlen : len ≤ 1024) (hle : len ≤ len')
    (hr : w.cell? ⟨br, 4, none⟩ = some (.slice (some ⟨b, off, none⟩) len cap))
    (hs : w.cell? ⟨bc, 1, none⟩ = some (.slice (some ⟨b', off', none⟩) len' cap'))
    (hR : ∀ j, j < len → w.cell? ⟨b, off + j, none⟩ = some (.string (R j)))
    (hS : ∀ j, j < len → w.cell? ⟨b', off' + j, none⟩ = some (.string (S j))) :
    Calls Yba.prog 5 #[.pointer (some ⟨bc, 0, none⟩), .pointer (some ⟨br, 0, none⟩)] w fun e w' => e = .returned (.bool (agree R S len)) ∧ w' = w := by
  go_enter Yba.func5, Yba.ntmps5
  go_wp2
  go_loop [5, 6, 12] (fun _ _ i => ∃ k : Nat, k ≤ len ∧ i = .int .i64 k ∧ agree R S k = true) (fun _ _ i => len - (intOf i).toNat)
  case atStart => exact ⟨0, Nat.zero_le _, rfl, rfl⟩
  case round =>
    obtain ⟨k, hk, rfl, hn⟩ := hrel
    have HN : Hid (agree R S k = true) := hn
    clear hn
    by_cases hlt : k < len
    · have hcr := hR k hlt
      have hcs := hS k hlt
      have hlt' : k < len' := by omega
      clear hR hS
      go_wp2
      · have he : (!(R k).toList == (S k).toList) = true := by assumption
        go_ret
        exact ⟨ret_bool (agree_hit R S k len hlt he).symm, rfl⟩
      · have he : (!(R k).toList == (S k).toList) = false := by assumption
        go_round
        case rel => exact ⟨k + 1, by omega, by go_num, agree_miss R S k HN.out he⟩
        case measure => simp [intOf]; omega
    · obtain rfl : k = len := by omega
      go_wp2
      go_ret
      exact ⟨ret_bool HN.out.symm, rfl⟩
end Go.Proofs.Ybulkbaum
