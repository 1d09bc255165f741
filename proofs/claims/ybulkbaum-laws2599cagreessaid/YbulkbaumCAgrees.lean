/-
  'Rows.LawS2599CAgreesSaid' (seat b2599a) PROVED. The frame is the kit's shell for a law over slices, turned to slices of strings.
-/
import Derived.Test.YbulkbaumRows
import Derived.Test.YbulkbaumCWalks
import Derived.ProofKit
import Derived.ChangeOld
import Derived.Below
import Derived.SliceStrings
namespace Go.Proofs.Ybulkbaum.lawS2599CAgrees
open Go.ChangeShapes Go.WideShapes Go.ChangeAt Go.RowKit
set_option linter.unusedVariables false

theorem val_bool {a b : Bool} (h : a = b) : Value.bool a = Value.bool b := by rw [h]

theorem agree_on (R S : Nat → ByteArray) (k : Nat) (he : (!(R k).toList == (S k).toList) = false) : agree R S (k + 1) = agree R S k := by
  rw [Bool.not_eq_false'] at he
  simp only [agree, he, Bool.and_true]

/-! ### THE WALK, by the lengths -/
set_option maxHeartbeats 400000 in
theorem walk_long (a b : Option Addr) (la ca lb cb : Nat) (w : World) (h : 1024 < la ∨ 1024 < lb) :
    Calls Yba.prog 3 #[.slice a la ca, .slice b lb cb] w fun e w' => e = .returned (.bool true) ∧ Below w.heap.size w w' := by
  by_cases h1 : (1024 : Int) < (la : Int)
  · go_enter Yba.func3, Yba.ntmps3
    go_wp2
    go_ret
    exact ⟨rfl, Below.refl _ _⟩
  · have h2 : (1024 : Int) < (lb : Int) := by omega
    have h1' : decide ((1024 : Int) < (la : Int)) = false := decide_eq_false h1
    go_enter Yba.func3, Yba.ntmps3
    go_wp2
    go_ret
    exact ⟨rfl, Below.refl _ _⟩

set_option maxHeartbeats 400000 in
/-- No record value. -/
theorem walk_zero (a b : Option Addr) (la ca cb : Nat) (w : World) (hla : la ≤ 1024) :
    Calls Yba.prog 3 #[.slice a la ca, .slice b 0 cb] w fun e w' => e = .returned (.bool true) ∧ Below w.heap.size w w' := by
  go_enter Yba.func3, Yba.ntmps3
  go_wp2_with fail
  refine (rep_none w.heap.size (w.heap.size + 1) b cb _ (by go_simp)).mono ?_
  rintro e w1 ⟨rfl, rfl⟩
  go_wp2
  refine wp_loop_rounds 1 ?_
  rw [rounds_succ]
  go_wp2
  go_ret
  exact ⟨rfl, ((Below.refl _ _).alloc (Nat.le_refl _) _).alloc (by simp) _⟩

set_option maxHeartbeats 400000 in
/-- No line value: the record's values are cut to none. -/
theorem walk_cut0 (a : Option Addr) (bb ob lb ca cb : Nat) (w : World) (hlb : lb ≤ 1024) (h0 : 0 < lb) (hcb : lb ≤ cb) :
    Calls Yba.prog 3 #[.slice a 0 ca, .slice (some ⟨bb, ob, none⟩) lb cb] w fun e w' => e = .returned (.bool true) ∧ Below w.heap.size w w' := by
  have h0' : (0 : Int) < (lb : Int) := by omega
  go_enter Yba.func3, Yba.ntmps3
  go_wp2_with fail
  refine (rep_none w.heap.size (w.heap.size + 1) (some ⟨bb, ob, none⟩) cb _ (by go_simp)).mono ?_
  rintro e w1 ⟨rfl, rfl⟩
  go_wp2
  refine wp_loop_rounds 1 ?_
  rw [rounds_succ]
  go_wp2
  go_ret
  exact ⟨rfl, ((Below.refl _ _).alloc (Nat.le_refl _) _).alloc (by simp) _⟩

set_option maxHeartbeats 400000 in
/-- The record's values are not cut. -/
theorem walk_whole (ba oa la ca bb ob lb cb : Nat) (R S : Nat → ByteArray) (w : World) (hla : la ≤ 1024) (h0 : 0 < lb) (hle : lb ≤ la)
    (hba : ba < w.heap.size) (hbb : bb < w.heap.size)
    (hR : ∀ j, j < lb → w.cell? ⟨bb, ob + j, none⟩ = some (.string (R j)))
    (hS : ∀ j, j < lb → w.cell? ⟨ba, oa + j, none⟩ = some (.string (S j))) :
    Calls Yba.prog 3 #[.slice (some ⟨ba, oa, none⟩) la ca, .slice (some ⟨bb, ob, none⟩) lb cb] w fun e w' => e = .returned (.bool true) ∧ Below w.heap.size w w' := by
  have HR : Hid (∀ w', Below w.heap.size w w' → ∀ j, j < lb → w'.cell? ⟨bb, ob + j, none⟩ = some (.string (R j))) := fun w' hw j hj => (hw.cell (p := ⟨bb, ob + j, none⟩) hbb).trans (hR j hj)
  have HS : Hid (∀ w', Below w.heap.size w w' → ∀ j, j < lb → w'.cell? ⟨ba, oa + j, none⟩ = some (.string (S j))) := fun w' hw j hj => (hw.cell (p := ⟨ba, oa + j, none⟩) hba).trans (hS j hj)
  clear hR hS
  go_enter Yba.func3, Yba.ntmps3
  go_wp2_with fail
  refine (rep_some w.heap.size (w.heap.size + 1) bb ob lb cb ba oa la ca R S _ (by omega) hle (by go_simp) (by go_simp) (HR.out _ (((Below.refl _ _).alloc (Nat.le_refl _) _).alloc (by simp) _)) (HS.out _ (((Below.refl _ _).alloc (Nat.le_refl _) _).alloc (by simp) _))).mono ?_
  rintro e w1 ⟨rfl, rfl⟩
  go_wp2
  go_loopw [9, 10] (fun t i wr => ∃ k : Nat, k ≤ lb ∧ i = .int .i64 k ∧ t = .bool (agree R S k) ∧ Below w.heap.size w wr) (fun _ i _ => lb - (intOf i).toNat)
  case atStart => exact ⟨0, Nat.zero_le _, rfl, rfl, ((Below.refl _ _).alloc (Nat.le_refl _) _).alloc (by simp) _⟩
  case round =>
    obtain ⟨k, hk, rfl, rfl, hbel⟩ := hrel
    by_cases hlt : k < lb
    · have hcr := HR.out wr hbel k hlt
      have hcs := HS.out wr hbel k hlt
      have hlt' : (k : Int) < (la : Int) := by omega
      have hlt2 : (k : Int) < (lb : Int) := by omega
      go_wp2
      go_quiet (fail)
      go_wp2
      · have he : (!(R k).toList == (S k).toList) = true := by assumption
        go_roundw
        case rel => exact ⟨k + 1, by omega, by go_num, val_bool (agree_hit R S k (k + 1) (by omega) he).symm, below_drewN hbel nq⟩
        case measure => simp [intOf]; omega
      · have he : (!(R k).toList == (S k).toList) = false := by assumption
        go_roundw
        case rel => exact ⟨k + 1, by omega, by go_num, val_bool (agree_on R S k he).symm, below_drewN hbel nq⟩
        case measure => simp [intOf]; omega
    · obtain rfl : k = lb := by omega
      go_wp2
      go_ret
      exact ⟨rfl, hbel⟩
set_option maxHeartbeats 400000 in
/-- The record's values are cut to the line's length. -/
theorem walk_cut (ba oa la ca bb ob lb cb : Nat) (R S : Nat → ByteArray) (w : World) (hlb : lb ≤ 1024) (h0 : 0 < la) (hlt0 : la < lb) (hcb : lb ≤ cb)
    (hba : ba < w.heap.size) (hbb : bb < w.heap.size)
    (hR : ∀ j, j < la → w.cell? ⟨bb, ob + j, none⟩ = some (.string (R j)))
    (hS : ∀ j, j < la → w.cell? ⟨ba, oa + j, none⟩ = some (.string (S j))) :
    Calls Yba.prog 3 #[.slice (some ⟨ba, oa, none⟩) la ca, .slice (some ⟨bb, ob, none⟩) lb cb] w fun e w' => e = .returned (.bool true) ∧ Below w.heap.size w w' := by
  have HR : Hid (∀ w', Below w.heap.size w w' → ∀ j, j < la → w'.cell? ⟨bb, ob + j, none⟩ = some (.string (R j))) := fun w' hw j hj => (hw.cell (p := ⟨bb, ob + j, none⟩) hbb).trans (hR j hj)
  have HS : Hid (∀ w', Below w.heap.size w w' → ∀ j, j < la → w'.cell? ⟨ba, oa + j, none⟩ = some (.string (S j))) := fun w' hw j hj => (hw.cell (p := ⟨ba, oa + j, none⟩) hba).trans (hS j hj)
  clear hR hS
  go_enter Yba.func3, Yba.ntmps3
  go_wp2_with fail
  refine (rep_some w.heap.size (w.heap.size + 1) bb ob la cb ba oa la ca R S _ (by omega) (Nat.le_refl _) (by go_simp) (by go_simp) (HR.out _ (((Below.refl _ _).alloc (Nat.le_refl _) _).alloc (by simp) _)) (HS.out _ (((Below.refl _ _).alloc (Nat.le_refl _) _).alloc (by simp) _))).mono ?_
  rintro e w1 ⟨rfl, rfl⟩
  go_wp2
  go_loopw [9, 10] (fun t i wr => ∃ k : Nat, k ≤ la ∧ i = .int .i64 k ∧ t = .bool (agree R S k) ∧ Below w.heap.size w wr) (fun _ i _ => la - (intOf i).toNat)
  case atStart => exact ⟨0, Nat.zero_le _, rfl, rfl, ((Below.refl _ _).alloc (Nat.le_refl _) _).alloc (by simp) _⟩
  case round =>
    obtain ⟨k, hk, rfl, rfl, hbel⟩ := hrel
    by_cases hlt : k < la
    · have hcr := HR.out wr hbel k hlt
      have hcs := HS.out wr hbel k hlt
      have hlt' : (k : Int) < (la : Int) := by omega
      have hlt2 : (la : Int) < (lb : Int) := by omega
      go_wp2
      go_quiet (fail)
      go_wp2
      · have he : (!(R k).toList == (S k).toList) = true := by assumption
        go_roundw
        case rel => exact ⟨k + 1, by omega, by go_num, val_bool (agree_hit R S k (k + 1) (by omega) he).symm, below_drewN hbel nq⟩
        case measure => simp [intOf]; omega
      · have he : (!(R k).toList == (S k).toList) = false := by assumption
        go_roundw
        case rel => exact ⟨k + 1, by omega, by go_num, val_bool (agree_on R S k he).symm, below_drewN hbel nq⟩
        case measure => simp [intOf]; omega
    · obtain rfl : k = la := by omega
      go_wp2
      go_ret
      exact ⟨rfl, hbel⟩
/-- The law's walk, at whatever slices of strings came in. -/
theorem walk (a0 : Option Addr) (len0 cap0 : Nat) (z0 : List ByteArray) (a1 : Option Addr) (len1 cap1 : Nat) (z1 : List ByteArray) (w : World) (w0 : IsStrs w a0 len0 cap0 z0) (w1 : IsStrs w a1 len1 cap1 z1) :
    Calls Yba.prog 3 #[.slice a0 len0 cap0, .slice a1 len1 cap1] w fun e w' => e = .returned (.bool true) ∧ Below w.heap.size w w' := by
  by_cases h1 : 1024 < len0 ∨ 1024 < len1
  · exact walk_long a0 a1 len0 cap0 len1 cap1 w h1
  by_cases h2 : len1 = 0
  · subst h2
    exact walk_zero a0 a1 len0 cap0 cap1 w (by omega)
  obtain ⟨bb, ob, rfl, hcb, hbb, hR⟩ := w1.place (by omega)
  by_cases h3 : len0 = 0
  · subst h3
    exact walk_cut0 a0 bb ob len1 cap0 cap1 w (by omega) (by omega) hcb
  obtain ⟨ba, oa, rfl, hca, hba, hS⟩ := w0.place (by omega)
  by_cases h4 : len1 ≤ len0
  · exact walk_whole ba oa len0 cap0 bb ob len1 cap1 (fun j => z1.getD j ByteArray.empty) (fun j => z0.getD j ByteArray.empty) w (by omega) (by omega) h4 hba hbb (fun j hj => (hR j hj).1) (fun j hj => (hS j (by omega)).1)
  · exact walk_cut ba oa len0 cap0 bb ob len1 cap1 (fun j => z1.getD j ByteArray.empty) (fun j => z0.getD j ByteArray.empty) w (by omega) (by omega) (by omega) hcb hba hbb (fun j hj => (hR j (by omega)).1) (fun j hj => (hS j hj).1)

/-! ### THE ROW's STEP -/
set_option maxRecDepth 100000 in
theorem lifted (os : Os) (started : os.Started) (H : Type) (enc : TypeId × Value → H) :
    ReturnsInHanded {} Yba.checked os 3 .any (Rows.lawS2599CAgreesSpec.pre6 enc Yba.prog Yba.f3 Rows.lawS2599CAgreesRow.domain false) (Rows.lawS2599CAgreesSpec.post enc Yba.prog Yba.f3 false true false false) := by
  refine returnsInHanded_of_change (C := Yba.checked) own started (by kernel_rfl) Yba.func3
    (ChangeSpec.witness6 (enc := enc) (C := Yba.checked) false ⟨#[], #[.slice none 0 0, .slice none 0 0], []⟩ 8 (by kernel_rfl) (by kernel_rfl) (by kernel_rfl) (by kernel_rfl)) ?_
  intro W base args ds gs before hval0 hW hcnd _
  have hval : ∀ (j : Nat) t v, Yba.f3.params[j]? = some t → args[j]? = some v → Value.okWide Yba.prog W .any base t v := hval0
  have hW' := hW
  obtain ⟨p, q, hA0, hV, rfl, hfz, hnd⟩ := hW
  have hA : DataW.TrodAll enc Yba.prog W 0 (fun _ => true) true Yba.f3.params.toList args.toList ds p := hA0
  rw [Yba.params3] at hA hval
  obtain ⟨v0, vs0, d0, ds0, p0, q0, hargs, rfl, rfl, h0, r0⟩ := trodAll_cons hA
  obtain ⟨v1, vs1, d1, ds1, p1, q1, rfl, rfl, rfl, h1, r1⟩ := trodAll_cons r0
  obtain ⟨rfl, rfl, rfl⟩ := trodAll_nil r1
  obtain rfl : args = #[v0, v1] := by cases args; simp_all
  obtain ⟨rfl, rfl⟩ := trodVars_none hV
  obtain ⟨a0, len0, cap0, rfl⟩ := okWide_slice Yba.underlying22 (hval 0 22 v0 rfl rfl)
  obtain ⟨a1, len1, cap1, rfl⟩ := okWide_slice Yba.underlying22 (hval 1 22 v1 rfl rfl)
  have lt0 : ∀ x ∈ p0, x.block < W.heap.size := by obtain ⟨m, hm⟩ := h0; exact DataW.trod_lt m _ _ _ hm
  have lt1 : ∀ x ∈ p1, x.block < W.heap.size := by obtain ⟨m, hm⟩ := h1; exact DataW.trod_lt m _ _ _ hm
  obtain ⟨z0, w0⟩ := isStrs_of h0
  obtain ⟨z1, w1⟩ := isStrs_of h1
  clear hA0 hval0
  refine (walk a0 len0 cap0 z0 a1 len1 cap1 z1 W w0 w1).mono fun e W' ⟨he, bel⟩ => ?_
  subst he
  exact ⟨_, rfl, _, _, _, [], _, [], hW', trodAll_mk1 (shut_bool Yba.underlying4 _),
    trodAll_mk2 (Below.trod laidOut (by kernel_rfl) (of_decide_eq_true (by kernel_rfl)) h0 bel lt0) (Below.trod laidOut (by kernel_rfl) (of_decide_eq_true (by kernel_rfl)) h1 bel lt1), rfl, bel.frame _, fun h => by cases h⟩

theorem over : Rows.lawS2599CAgreesRow.holds Yba.pinned (OpenSpec.ofChange Rows.lawS2599CAgreesSpec) :=
  OpenClaim.holds_of_wide 3 Yba.f3 rfl rfl rfl rfl rfl rfl rfl ⟨rfl, rfl, rfl, rfl, rfl⟩ rfl rfl rfl rfl rfl (by kernel_rfl) Yba.func3 (by kernel_rfl)
    (of_decide_eq_true (by kernel_rfl)) (by unfold Func.isWrapper; first | (rw [if_pos (by decide +kernel)]; kernel_rfl) | (rw [if_neg (by decide +kernel)]; exact ⟨rfl, rfl⟩))
    (fun os started H enc _ => lifted os started H enc)

end Go.Proofs.Ybulkbaum.lawS2599CAgrees

namespace Go.Proofs.Ybulkbaum
/-- THE STATEMENT -/
theorem lawS2599CAgrees_proved : Rows.LawS2599CAgreesSaid := lawS2599CAgrees.over
end Go.Proofs.Ybulkbaum
