/-
  'Rows.LawS2598CExactSaid' (seat b2598a) PROVED. The frame is the kit's shell for a law over slices, turned to a slice of strings.
-/
import Derived.Test.YbulkbatyRows
import Derived.Test.YbulkbatyCWalks
import Derived.ProofKit
import Derived.ChangeOld
import Derived.Below
import Derived.SliceStrings
namespace Go.Proofs.Ybulkbaty.lawS2598CExact
open Go.ChangeShapes Go.WideShapes Go.ChangeAt Go.RowKit
set_option linter.unusedVariables false

theorem own : ownKnob Yba.prog.godebug = none := by kernel_rfl
theorem laidOut : laidOutB Yba.prog = true := by kernel_rfl

/-- WHAT THE WALK IS TOLD OF A SLICE OF STRINGS THAT CAME IN: it is nil; or it leads to a row of 'cap' cells, the strings 'ss'. -/
def IsStrs (w : World) (a : Option Addr) (len cap : Nat) (ss : List ByteArray) : Prop :=
  (a = none ∧ len = 0 ∧ cap = 0 ∧ ss = []) ∨
  ∃ x, a = some x ∧ len ≤ cap ∧ cap ≤ maxLen ∧ ss.length = cap ∧ (∀ i, i < ss.length → w.cell? (x.add i) = some (.string (ss.getD i ByteArray.empty))) ∧ ∀ s ∈ ss, s.size ≤ maxLen

theorem bcell {W w1 : World} (hb : Below W.heap.size W w1) : (∀ b o, b < W.heap.size → w1.cell? ⟨b, o, none⟩ = W.cell? ⟨b, o, none⟩) ∧ (∀ b o, b < W.heap.size → w1.frozen? ⟨b, o, none⟩ = W.frozen? ⟨b, o, none⟩) :=
  ⟨fun b o h => hb.cell (p := ⟨b, o, none⟩) h, fun b o h => hb.frozen (p := ⟨b, o, none⟩) h⟩

/-! ### THE WALK, by the length -/
set_option maxHeartbeats 400000 in
theorem walk_long (a : Option Addr) (len cap : Nat) (w : World) (h : 1024 < len) :
    Calls Yba.prog 3 #[.slice a len cap] w fun e w' => e = .returned (.bool true) ∧ Below w.heap.size w w' := by
  have h1 : (1024 : Int) < (len : Int) := by omega
  go_enter Yba.func3, Yba.ntmps3
  go_wp2
  go_ret
  exact ⟨rfl, Below.refl _ _⟩

set_option maxHeartbeats 400000 in
theorem walk_no (a : Option Addr) (len cap : Nat) (w : World) (h : len = 0 ∨ 64 < len) (hl : len ≤ 1024) :
    Calls Yba.prog 3 #[.slice a len cap] w fun e w' => e = .returned (.bool true) ∧ Below w.heap.size w w' := by
  have hq : ∀ (W : World) (a : Option Addr) (n c : Nat), (binOp .eql 22 (.slice a n c) (.slice none 0 0)).run Yba.prog W = .ok (.bool a.isNone) W := fun W a n c => Lib.run_eql_slice_nil W _ _ a n c 0 0 Yba.underlying22
  have H : Hid (len = 0 ∨ 64 < len) := h
  rcases h with rfl | h
  · go_enter Yba.func3, Yba.ntmps3
    go_wp2_with (go_at_call 4; refine (exactly_no a 0 cap _ H.out).mono ?_; rintro e w' ⟨rfl, bel⟩)
    go_ret
    exact ⟨rfl, bel.alloc bel.size _⟩
  · have h1 : ((len : Int) == 0) = false := by simp; omega
    have h2 : (64 : Int) < (len : Int) := by omega
    go_enter Yba.func3, Yba.ntmps3
    go_wp2_with (go_at_call 4; refine (exactly_no a len cap _ H.out).mono ?_; rintro e w' ⟨rfl, bel⟩)
    go_ret
    exact ⟨rfl, bel.alloc bel.size _⟩

set_option maxHeartbeats 400000 in
theorem walk_yes (b off len cap : Nat) (S : Nat → ByteArray) (w : World) (h0 : 0 < len) (h64 : len ≤ 64) (hb : b < w.heap.size)
    (hc : ∀ j, j < len → w.cell? ⟨b, off + j, none⟩ = some (.string (S j))) :
    Calls Yba.prog 3 #[.slice (some ⟨b, off, none⟩) len cap] w fun e w' => e = .returned (.bool true) ∧ Below w.heap.size w w' := by
  have hq : ∀ (W : World) (a : Option Addr) (n c : Nat), (binOp .eql 22 (.slice a n c) (.slice none 0 0)).run Yba.prog W = .ok (.bool a.isNone) W := fun W a n c => Lib.run_eql_slice_nil W _ _ a n c 0 0 Yba.underlying22
  have h1 : ((len : Int) == 0) = false := by simp; omega
  have HC : Hid (∀ w', Below w.heap.size w w' → ∀ j, j < len → w'.cell? ⟨b, off + j, none⟩ = some (.string (S j))) := fun w' hw j hj => (hw.cell (p := ⟨b, off + j, none⟩) hb).trans (hc j hj)
  have HX := exactly_yes b off len cap S w h0 h64 hb hc
  clear hc
  cases he : hasE S len with
  | true =>
    rw [he] at HX
    go_enter Yba.func3, Yba.ntmps3
    go_wp2_with fail
    refine HX.mono ?_
    clear HX
    rintro e w1 ⟨rfl, bel⟩
    go_wp2_with fail
    refine (same_any b off len cap S _ (by omega) h0 (HC.out _ (bel.alloc bel.size _))).mono ?_
    rintro e w2 ⟨rfl, n, rfl⟩
    go_wp2_with fail
    refine (hasempty_any b off len cap S _ (by omega) (HC.out _ (below_drewN (bel.alloc bel.size _) n))).mono ?_
    rintro e w2 ⟨rfl, rfl⟩
    go_wp2
    go_ret
    exact ⟨rfl, below_drewN (bel.alloc bel.size _) n⟩
  | false =>
    rw [he] at HX
    go_enter Yba.func3, Yba.ntmps3
    go_wp2_with fail
    refine HX.mono ?_
    clear HX
    rintro e w1 ⟨rfl, bel⟩
    go_wp2_with fail
    refine (same_any b off len cap S _ (by omega) h0 (HC.out _ (bel.alloc bel.size _))).mono ?_
    rintro e w2 ⟨rfl, n, rfl⟩
    go_wp2_with fail
    refine (hasempty_any b off len cap S _ (by omega) (HC.out _ (below_drewN (bel.alloc bel.size _) n))).mono ?_
    rintro e w2 ⟨rfl, rfl⟩
    go_wp2_with fail
    refine (same_any b off len cap S _ (by omega) h0 (HC.out _ (below_drewN (bel.alloc bel.size _) n))).mono ?_
    rintro e w2 ⟨rfl, n2, rfl⟩
    go_wp2
    go_ret
    exact ⟨rfl, below_drewN (bel.alloc bel.size _) (n + n2)⟩

/-- The law's walk, at whatever slice of strings came in. -/
theorem walk (a0 : Option Addr) (len0 cap0 : Nat) (z0 : List ByteArray) (w : World) (w0 : IsStrs w a0 len0 cap0 z0) :
    Calls Yba.prog 3 #[.slice a0 len0 cap0] w fun e w' => e = .returned (.bool true) ∧ Below w.heap.size w w' := by
  by_cases h1 : 1024 < len0
  · exact walk_long a0 len0 cap0 w h1
  by_cases h2 : len0 = 0 ∨ 64 < len0
  · exact walk_no a0 len0 cap0 w h2 (by omega)
  rcases w0 with ⟨rfl, rfl, rfl, rfl⟩ | ⟨x, rfl, hl, hm, hz, hcell, hwz⟩
  · omega
  obtain ⟨b, off, spot⟩ := x
  have hc0 := hcell 0 (by omega)
  have hspot : spot = none := by simpa [Addr.add] using World.cell?_spot hc0
  subst hspot
  have hcs : ∀ j, j < len0 → w.cell? ⟨b, off + j, none⟩ = some (.string (z0.getD j ByteArray.empty)) := fun j hj => by
    rw [← add_plain]; exact hcell j (by omega)
  have hb : b < w.heap.size := World.block_lt_of_cell? _ _ (hcs 0 (by omega))
  exact walk_yes b off len0 cap0 (fun j => z0.getD j ByteArray.empty) w (by omega) (by omega) hb hcs

/-! ### THE ROW's STEP -/
set_option maxRecDepth 100000 in
theorem lifted (os : Os) (started : os.Started) (H : Type) (enc : TypeId × Value → H) :
    ReturnsInHanded {} Yba.checked os 3 .any (Rows.lawS2598CExactSpec.pre6 enc Yba.prog Yba.f3 Rows.lawS2598CExactRow.domain false) (Rows.lawS2598CExactSpec.post enc Yba.prog Yba.f3 false true false false) := by
  refine returnsInHanded_of_change (C := Yba.checked) own started (by kernel_rfl) Yba.func3
    (ChangeSpec.witness6 (enc := enc) (C := Yba.checked) false ⟨#[], #[.slice none 0 0], []⟩ 8 (by kernel_rfl) (by kernel_rfl) (by kernel_rfl) (by kernel_rfl)) ?_
  intro W base args ds gs before hval0 hW hcnd _
  have hval : ∀ (j : Nat) t v, Yba.f3.params[j]? = some t → args[j]? = some v → Value.okWide Yba.prog W .any base t v := hval0
  have hW' := hW
  obtain ⟨p, q, hA0, hV, rfl, hfz, hnd⟩ := hW
  have hA : DataW.TrodAll enc Yba.prog W 0 (fun _ => true) true Yba.f3.params.toList args.toList ds p := hA0
  rw [Yba.params3] at hA hval
  obtain ⟨v0, vs0, d0, ds0, p0, q0, hargs, rfl, rfl, h0, r0⟩ := trodAll_cons hA
  obtain ⟨rfl, rfl, rfl⟩ := trodAll_nil r0
  obtain rfl : args = #[v0] := by cases args; simp_all
  obtain ⟨rfl, rfl⟩ := trodVars_none hV
  obtain ⟨a0, len0, cap0, rfl⟩ := okWide_slice Yba.underlying22 (hval 0 22 v0 rfl rfl)
  have k0 := h0
  have lt0 : ∀ x ∈ p0, x.block < W.heap.size := by obtain ⟨m, hm⟩ := k0; exact DataW.trod_lt m _ _ _ hm
  obtain ⟨z0, w0⟩ : ∃ zs, IsStrs W a0 len0 cap0 zs := by
    obtain ⟨fuel, hf⟩ := h0
    rcases open_strings Yba.underlying22 Yba.underlying9 (by kernel_rfl) hf with ⟨hcs, _⟩ | ⟨x, l, c, zs, hcs, _, hl, hm, hz, _, hcell, hwz⟩
    · simp [Value.cells] at hcs
      obtain ⟨rfl, rfl, rfl⟩ := hcs
      exact ⟨[], .inl ⟨rfl, rfl, rfl, rfl⟩⟩
    · simp [Value.cells] at hcs
      obtain ⟨rfl, rfl, rfl⟩ := hcs
      exact ⟨zs, .inr ⟨_, rfl, hl, hm, by simpa using hz, hcell, hwz⟩⟩
  clear hA0 hval0
  refine (walk a0 len0 cap0 z0 W w0).mono fun e W' ⟨he, bel⟩ => ?_
  subst he
  exact ⟨_, rfl, _, _, _, [], _, [], hW', trodAll_mk1 (shut_bool Yba.underlying4 _), trodAll_mk1 (Below.trod laidOut (by kernel_rfl) (of_decide_eq_true (by kernel_rfl)) k0 bel lt0), rfl, bel.frame _, fun h => by cases h⟩

theorem over : Rows.lawS2598CExactRow.holds Yba.pinned (OpenSpec.ofChange Rows.lawS2598CExactSpec) :=
  OpenClaim.holds_of_wide 3 Yba.f3 rfl rfl rfl rfl rfl rfl rfl ⟨rfl, rfl, rfl, rfl, rfl⟩ rfl rfl rfl rfl rfl (by kernel_rfl) Yba.func3 (by kernel_rfl)
    (of_decide_eq_true (by kernel_rfl)) (by unfold Func.isWrapper; first | (rw [if_pos (by decide +kernel)]; kernel_rfl) | (rw [if_neg (by decide +kernel)]; exact ⟨rfl, rfl⟩))
    (fun os started H enc _ => lifted os started H enc)

end Go.Proofs.Ybulkbaty.lawS2598CExact

namespace Go.Proofs.Ybulkbaty
/-- THE STATEMENT -/
theorem lawS2598CExact_proved : Rows.LawS2598CExactSaid := lawS2598CExact.over
end Go.Proofs.Ybulkbaty
