/-
  'Rows.LawS2599CCopySaid' (seat b2599a) PROVED.
-/
import Derived.Test.YbulkbaumRows
import Derived.Test.YbulkbaumCWalks
import Derived.Laws.CopyOwn
import Derived.Deep.OwnRows
import Derived.SizedLaws
namespace Go.Proofs.Ybulkbaum.lawS2599CCopy
open Go.ChangeShapes Go.WideShapes Go.ChangeAt Go.RowKit
set_option linter.unusedVariables false

theorem agree_self (S : Nat → ByteArray) (n : Nat) : agree S S n = true := by
  induction n with
  | zero => rfl
  | succ n ih => simp [agree, ih]

/-- The strings of the copy with field 'p' changed: an 'x' behind it. -/
def chg (S : Nat → ByteArray) (p : Nat) (j : Nat) : ByteArray := if j = p then S p ++ { data := #[120] } else S j

theorem grown_ne (s : ByteArray) : (!(s ++ { data := #[120] } : ByteArray).toList == s.toList) = true := by
  rw [Bool.not_eq_true', beq_eq_false_iff_ne]
  intro h
  have := congrArg List.length h
  simp [ByteArray.toList_eq] at this

theorem agree_chg (S : Nat → ByteArray) (p m : Nat) (h : p < m) : agree (chg S p) S m = false :=
  agree_hit (chg S p) S p m h (by
    have e : chg S p p = S p ++ { data := #[120] } := by simp [chg]
    rw [e]
    exact grown_ne (S p))

/-- The row behind the store. -/
theorem chg_cells (g p m : Nat) (S : Nat → ByteArray) (w2 : World) (hp : p < m) (hg : g < w2.heap.size)
    (hR : ∀ j, j < m → w2.cell? ⟨g, j, none⟩ = some (.string (S j))) (w' : World) (hw : Below w2.heap.size (w2.setCell ⟨g, p, none⟩ (.string (S p ++ { data := #[120] }))) w') :
    ∀ j, j < m → w'.cell? ⟨g, 0 + j, none⟩ = some (.string (chg S p j)) := by
  intro j hj
  rw [Nat.zero_add]
  refine (hw.cell (p := ⟨g, j, none⟩) hg).trans ?_
  by_cases e : j = p
  · subst e
    rw [World.cell?_setCell_same _ _ _ (hR j hj)]
    simp [chg]
  · rw [World.cell?_setCell_other _ _ _ _ (fun h => e (Addr.mk.inj h).2.1.symm), hR j hj]
    simp [chg, e]

theorem info9 : (Yba.prog.info? 9).map (fun i => (i.zero, i.size, i.bytes)) = some (some (.string { data := #[] }), 1, 16) := by kernel_rfl
theorem size9 : (Yba.prog.info? 9).map (·.size) = some 1 := by kernel_rfl

theorem make_row (n : Nat) (h : n ≤ 1024) (w : World) :
    (Instr.makeSlice 22 (.int .i64 (n : Int)) (.int .i64 (n : Int))).run Yba.prog w = .ok (.slice (some ⟨w.heap.size, 0, none⟩) n n) (w.alloc (.cells (madeCells #[.string { data := #[] }] n) 9)) :=
  run_make_row' 22 9 (.string { data := #[] }) 16 Yba.underlying22 info9 rfl .i64 .i64 n (by omega) (by omega) w

set_option maxHeartbeats 400000 in
theorem walk_long (a : Option Addr) (n cap : Nat) (k j : Int) (ch : Bool) (w : World) (h : 1024 < n) :
    Calls Yba.prog 4 #[.slice a n cap, .int .u64 k, .int .u64 j, .bool ch] w fun e w' => e = .returned (.bool true) ∧ Below w.heap.size w w' := by
  have h1 : (1024 : Int) < (n : Int) := by omega
  go_enter Yba.func4, Yba.ntmps4
  go_wp2
  go_ret
  exact ⟨rfl, Below.refl _ _⟩

/-- 'copy(c, a[:m])' into the row that 'make' has just laid: its cells are a's. -/
theorem copy_run (b off m cap : Nat) (S : Nat → ByteArray) (w : World) (hb : b < w.heap.size)
    (hS : ∀ j, j < m → w.cell? ⟨b, off + j, none⟩ = some (.string (S j))) :
    ∃ w2, (Builtin.copy_ #[22, 22] 3 #[.slice (some ⟨w.heap.size, 0, none⟩) m m, .slice (some ⟨b, off, none⟩) m cap]).run Yba.prog (w.alloc (.cells (madeCells #[.string { data := #[] }] m) 9)) = .ok (.int .i64 (m : Int)) w2 ∧
      Below w.heap.size w w2 ∧ w2.heap.size = w.heap.size + 1 ∧ ∀ j, j < m → w2.cell? ⟨w.heap.size, j, none⟩ = some (.string (S j)) ∧ w2.frozen? ⟨w.heap.size, j, none⟩ = false := by
  have hg : (w.alloc (.cells (madeCells #[.string { data := #[] }] m) 9)).heap[w.heap.size]? = some (.cells (madeCells #[.string { data := #[] }] m) 9 (0, 0)) := by
    show (w.heap.push _)[w.heap.size]? = _
    simp
  have hB : Below w.heap.size w (w.alloc (.cells (madeCells #[.string { data := #[] }] m) 9)) := (Below.refl _ _).alloc (Nat.le_refl _) _
  have hlen : ((List.range m).map fun j => Value.string (S j)).length = m := by simp
  have hget : ∀ j, j < m → ((List.range m).map fun j => Value.string (S j))[j]? = some (.string (S j)) := fun j hj => by simp [hj]
  have hrun := run_copy_row Yba.prog (w.alloc (.cells (madeCells #[.string { data := #[] }] m) 9)) 22 22 3 9 w.heap.size 0 m m ⟨b, off, none⟩ m cap _ 9 ((List.range m).map fun j => Value.string (S j)) Yba.underlying22 size9 hg
    (by rw [hlen]; exact (Nat.min_self m).symm)
    (fun j v hv => by
      have hj : j < m := by
        have := (List.getElem?_eq_some_iff.1 hv).1
        simpa using this
      rw [hget j hj] at hv
      rw [add_plain, ← hv]
      exact (hB.cell (p := ⟨b, off + j, none⟩) hb).trans (hS j hj))
    (by rw [hlen, size_madeCells]; omega)
    (fun v hv => by
      obtain ⟨j, _, rfl⟩ := List.mem_map.1 hv
      rfl)
  rw [hlen] at hrun
  refine ⟨_, hrun, below_setRow hB (Nat.le_refl _) _, by simp [World.setRow], fun j hj => ⟨?_, ?_⟩⟩
  · rw [cell_setRow_same _ _ _ _ _ _ _ hg, List.getElem?_toArray, List.take_zero, List.nil_append, List.getElem?_append_left (by rw [hlen]; exact hj)]
    exact hget j hj
  · have h2 := setRow_heap _ _ _ ((((madeCells #[.string { data := #[] }] m).toList.take 0 ++ (List.range m).map fun j => Value.string (S j)) ++ (madeCells #[.string { data := #[] }] m).toList.drop (0 + m)).toArray) _ _ hg
    simp only [World.frozen?, h2]
    simp

set_option maxHeartbeats 400000 in
theorem walk_plain (b off n cap m k : Nat) (j : Int) (S : Nat → ByteArray) (w : World) (h : n ≤ 1024) (hcap : n ≤ cap) (hk : k < 18446744073709551616) (h0 : 0 < n) (hm : k % (n + 1) = m) (hm0 : 0 < m) (hb : b < w.heap.size)
    (hS : ∀ j, j < n → w.cell? ⟨b, off + j, none⟩ = some (.string (S j))) :
    Calls Yba.prog 4 #[.slice (some ⟨b, off, none⟩) n cap, .int .u64 (k : Int), .int .u64 j, .bool false] w fun e w' => e = .returned (.bool true) ∧ Below w.heap.size w w' := by
  have hmn : m ≤ n := by have := Nat.mod_lt k (show 0 < n + 1 by omega); omega
  have hmk := make_row m (by omega)
  have hmI : (k : Int) % ((n : Int) + 1) = (m : Int) := by rw [← hm]; simp
  clear hm
  have h0' : (0 : Int) < (n : Int) := by omega
  obtain ⟨w2, hcp, hB, hsz, hrow⟩ := copy_run b off m cap S w hb (fun j hj => hS j (by omega))
  have HR : Hid (∀ w', Below w2.heap.size w2 w' → ∀ j, j < m → w'.cell? ⟨w.heap.size, 0 + j, none⟩ = some (.string (S j))) := fun w' hw j hj => by
    rw [Nat.zero_add]
    exact (hw.cell (p := ⟨w.heap.size, j, none⟩) (by show w.heap.size < _; omega)).trans (hrow j hj).1
  have HS : Hid (∀ w', Below w2.heap.size w2 w' → ∀ j, j < m → w'.cell? ⟨b, off + j, none⟩ = some (.string (S j))) := fun w' hw j hj =>
    ((hw.cell (p := ⟨b, off + j, none⟩) (by show b < _; omega)).trans (hB.cell (p := ⟨b, off + j, none⟩) hb)).trans (hS j (by omega))
  have HZ : Hid (w2.heap.size = w.heap.size + 1) := hsz
  clear hS hrow hsz
  go_enter Yba.func4, Yba.ntmps4
  go_wp2_with fail
  refine (rep_some w2.heap.size (w2.heap.size + 1) w.heap.size 0 m m b off n cap S S _ (by omega) hmn (by go_simp) (by go_simp) (HR.out _ (((Below.refl _ _).alloc (Nat.le_refl _) _).alloc (by simp) _)) (HS.out _ (((Below.refl _ _).alloc (Nat.le_refl _) _).alloc (by simp) _))).mono ?_
  rintro e w1 ⟨rfl, rfl⟩
  rw [agree_self]
  go_wp2
  go_ret
  exact ⟨rfl, (hB.alloc hB.size _).alloc (by have := hB.size; simp; omega) _⟩

set_option maxHeartbeats 400000 in
/-- The copy with one field changed. -/
theorem walk_changed (b off n cap m k j p : Nat) (S : Nat → ByteArray) (w : World) (h : n ≤ 1024) (hcap : n ≤ cap) (hk : k < 18446744073709551616) (hj : j < 18446744073709551616) (h0 : 0 < n) (hm : k % (n + 1) = m) (hm0 : 0 < m) (hp : j % m = p) (hb : b < w.heap.size)
    (hS : ∀ j, j < n → w.cell? ⟨b, off + j, none⟩ = some (.string (S j))) (hx : (S p).size ≤ 140737488351232) :
    Calls Yba.prog 4 #[.slice (some ⟨b, off, none⟩) n cap, .int .u64 (k : Int), .int .u64 (j : Int), .bool true] w fun e w' => e = .returned (.bool true) ∧ Below w.heap.size w w' := by
  have hmn : m ≤ n := by have := Nat.mod_lt k (show 0 < n + 1 by omega); omega
  have hpm : p < m := by have := Nat.mod_lt j hm0; omega
  have hmk := make_row m (by omega)
  have hmI : (k : Int) % ((n : Int) + 1) = (m : Int) := by rw [← hm]; simp
  have hpI : (j : Int) % (m : Int) = (p : Int) := by rw [← hp]; simp
  clear hm hp
  have h0' : (0 : Int) < (n : Int) := by omega
  have hm0' : (0 : Int) < (m : Int) := by omega
  obtain ⟨w2, hcp, hB, hsz, hrow⟩ := copy_run b off m cap S w hb (fun j hj => hS j (by omega))
  have hcellp : w2.cell? ⟨b, off + p, none⟩ = some (.string (S p)) := (hB.cell (p := ⟨b, off + p, none⟩) hb).trans (hS p (by omega))
  have hnewp := (hrow p hpm).1
  have hfrop := (hrow p hpm).2
  have HR : Hid (∀ w', Below w2.heap.size (w2.setCell ⟨w.heap.size, p, none⟩ (.string (S p ++ { data := #[120] }))) w' → ∀ j, j < m → w'.cell? ⟨w.heap.size, 0 + j, none⟩ = some (.string (chg S p j))) := fun w' hw =>
    chg_cells w.heap.size p m S w2 hpm (by omega) (fun j hj => (hrow j hj).1) w' hw
  have HS : Hid (∀ w', Below w2.heap.size (w2.setCell ⟨w.heap.size, p, none⟩ (.string (S p ++ { data := #[120] }))) w' → ∀ j, j < m → w'.cell? ⟨b, off + j, none⟩ = some (.string (S j))) := fun w' hw j hj =>
    ((hw.cell (p := ⟨b, off + j, none⟩) (by show b < _; omega)).trans ((hB.setCell (p := ⟨w.heap.size, p, none⟩) (Nat.le_refl _) _).cell (p := ⟨b, off + j, none⟩) hb)).trans (hS j (by omega))
  clear hS hrow
  have HZ : Hid (w2.heap.size = w.heap.size + 1) := hsz
  clear hsz
  go_enter Yba.func4, Yba.ntmps4
  go_wp2_with fail
  refine (rep_some w2.heap.size (w2.heap.size + 1) w.heap.size 0 m m b off n cap (chg S p) S _ (by omega) hmn (by go_simp) (by go_simp) (HR.out _ (((Below.refl _ _).alloc (by simp) _).alloc (by simp) _)) (HS.out _ (((Below.refl _ _).alloc (by simp) _).alloc (by simp) _))).mono ?_
  rintro e w1 ⟨rfl, rfl⟩
  rw [agree_chg S p m hpm]
  go_wp2
  go_ret
  exact ⟨rfl, ((hB.setCell (p := ⟨w.heap.size, p, none⟩) (Nat.le_refl _) _).alloc (by have := hB.size; simpa using this) _).alloc (by have := hB.size; simp; omega) _⟩

theorem copy_none (w : World) (d a : Option Addr) (dc c : Nat) :
    (Builtin.copy_ #[22, 22] 3 #[.slice d 0 dc, .slice a 0 c]).run Yba.prog w = .ok (.int .i64 0) w :=
  run_copy_none w 22 22 3 9 d a 0 dc 0 c Yba.underlying22 size9 rfl

theorem make_none (w : World) :
    (Instr.makeSlice 22 (.int .i64 0) (.int .i64 0)).run Yba.prog w = .ok (.slice (some ⟨w.heap.size, 0, none⟩) 0 0) (w.alloc (.cells #[] 9)) :=
  by
  have h := make_row 0 (by omega) w
  have e : madeCells #[.string { data := #[] }] 0 = #[] := by simp [madeCells]
  rw [e] at h
  exact h

set_option maxHeartbeats 400000 in
/-- No line value. -/
theorem walk_empty (a : Option Addr) (cap : Nat) (k j : Int) (ch : Bool) (w : World) (ha : a = none → cap = 0) :
    Calls Yba.prog 4 #[.slice a 0 cap, .int .u64 k, .int .u64 j, .bool ch] w fun e w' => e = .returned (.bool true) ∧ Below w.heap.size w w' := by
  have hmk := make_none
  have hcp := copy_none
  cases a with
  | none =>
    obtain rfl := ha rfl
    clear ha
    cases ch
    all_goals
      go_enter Yba.func4, Yba.ntmps4
      go_wp2_with fail
      refine (rep_none (w.heap.size + 1) (w.heap.size + 1 + 1) (some ⟨w.heap.size, 0, none⟩) 0 _ (by go_simp)).mono ?_
      rintro e w1 ⟨rfl, rfl⟩
      go_wp2
      go_ret
      exact ⟨rfl, (((Below.refl _ _).alloc (Nat.le_refl _) _).alloc (by simp) _).alloc (by simp; omega) _⟩
  | some x =>
    clear ha
    cases ch
    all_goals
      go_enter Yba.func4, Yba.ntmps4
      go_wp2_with fail
      refine (rep_none (w.heap.size + 1) (w.heap.size + 1 + 1) (some ⟨w.heap.size, 0, none⟩) 0 _ (by go_simp)).mono ?_
      rintro e w1 ⟨rfl, rfl⟩
      go_wp2
      go_ret
      exact ⟨rfl, (((Below.refl _ _).alloc (Nat.le_refl _) _).alloc (by simp) _).alloc (by simp; omega) _⟩

set_option maxHeartbeats 400000 in
/-- A line, and a copy of none of its values. -/
theorem walk_noprefix (x : Addr) (n cap k : Nat) (j : Int) (ch : Bool) (w : World) (h : n ≤ 1024) (hcap : n ≤ cap) (hk : k < 18446744073709551616) (h0 : 0 < n) (hm : k % (n + 1) = 0) :
    Calls Yba.prog 4 #[.slice (some x) n cap, .int .u64 (k : Int), .int .u64 j, .bool ch] w fun e w' => e = .returned (.bool true) ∧ Below w.heap.size w w' := by
  have hmk := make_none
  have hcp := copy_none
  have hmI : (k : Int) % ((n : Int) + 1) = 0 := by
    have e : ((k % (n + 1) : Nat) : Int) = (k : Int) % ((n : Int) + 1) := by simp
    rw [← e, hm]; rfl
  clear hm
  have h0' : (0 : Int) < (n : Int) := by omega
  cases ch
  all_goals
    go_enter Yba.func4, Yba.ntmps4
    go_wp2_with fail
    refine (rep_none (w.heap.size + 1) (w.heap.size + 1 + 1) (some ⟨w.heap.size, 0, none⟩) 0 _ (by go_simp)).mono ?_
    rintro e w1 ⟨rfl, rfl⟩
    go_wp2
    go_ret
    exact ⟨rfl, (((Below.refl _ _).alloc (Nat.le_refl _) _).alloc (by simp) _).alloc (by simp; omega) _⟩

theorem bounds64 {n : Int} (h : (Lit.int .u64 n).wf = true) : 0 ≤ n ∧ n < 18446744073709551616 := by
  simp only [Lit.wf, Bool.and_eq_true, decide_eq_true_eq] at h
  have e1 : IntKind.min .u64 = 0 := by decide +kernel
  have e2 : IntKind.max .u64 = 18446744073709551615 := by decide +kernel
  rw [e1, e2] at h
  omega

/-- The law's walk, at whatever arguments came in; the line's strings are within the form's own reach. -/
theorem walk (a0 : Option Addr) (len0 cap0 : Nat) (z0 : List ByteArray) (a1 a2 : Int) (a3 : Bool) (w : World) (w0 : IsStrs w a0 len0 cap0 z0) (r0 : ∀ j, j < len0 → (z0.getD j ByteArray.empty).size ≤ 140737488351232)
    (w1 : (Lit.int .u64 a1).wf = true) (w2 : (Lit.int .u64 a2).wf = true) :
    Calls Yba.prog 4 #[.slice a0 len0 cap0, .int .u64 a1, .int .u64 a2, .bool a3] w fun e w' => e = .returned (.bool true) ∧ Below w.heap.size w w' := by
  by_cases h1 : 1024 < len0
  · exact walk_long a0 len0 cap0 a1 a2 a3 w h1
  by_cases h2 : len0 = 0
  · subst h2
    refine walk_empty a0 cap0 a1 a2 a3 w ?_
    rintro rfl
    rcases w0 with ⟨_, _, h, _⟩ | ⟨x, h, _⟩
    · exact h
    · cases h
  obtain ⟨b, off, rfl, hcap, hb, hS⟩ := w0.place (by omega)
  have b1 := bounds64 w1
  have b2 := bounds64 w2
  obtain ⟨k, rfl⟩ := Int.eq_ofNat_of_zero_le b1.1
  obtain ⟨j, rfl⟩ := Int.eq_ofNat_of_zero_le b2.1
  by_cases h3 : k % (len0 + 1) = 0
  · exact walk_noprefix ⟨b, off, none⟩ len0 cap0 k j a3 w (by omega) hcap (by omega) (by omega) h3
  cases a3 with
  | false => exact walk_plain b off len0 cap0 (k % (len0 + 1)) k j (fun j => z0.getD j ByteArray.empty) w (by omega) hcap (by omega) (by omega) rfl (by omega) hb (fun j hj => (hS j hj).1)
  | true =>
    have hm := Nat.mod_lt k (show 0 < len0 + 1 by omega)
    have hp := Nat.mod_lt j (show 0 < k % (len0 + 1) by omega)
    exact walk_changed b off len0 cap0 (k % (len0 + 1)) k j (j % (k % (len0 + 1))) (fun j => z0.getD j ByteArray.empty) w (by omega) hcap (by omega) (by omega) (by omega) rfl (by omega) rfl hb (fun j hj => (hS j hj).1) (r0 _ (by omega))

/-! ### THE ROW's STEP -/
theorem weights_strs {H : Type} (P : Program) (e : TypeId) : ∀ (l : List ByteArray) (s : ByteArray), s ∈ l → s.size ∈ DataW.weightsAll P e (strs (H := H) l)
  | [], s, h => by simp at h
  | x :: l, s, h => by
    simp only [strs, List.map_cons, DataW.weightsAll, DataW.weights, List.mem_append]
    rcases List.mem_cons.1 h with rfl | h
    · exact .inl (by simp)
    · exact .inr (weights_strs P e l s h)

/-- The strings of an argument of type []string are within the form's own reach. -/
theorem isStrs_sized {H : Type} {enc : TypeId × Value → H} {W : World} {a : Option Addr} {len cap : Nat} {d : DataW H} {p : List MemPlace}
    (h : DataW.Trod enc Yba.prog W 0 (fun _ => true) true 22 (.slice a len cap) d p) (hz : ∀ n ∈ d.weights Yba.prog 22, n ≤ reachBytes) :
    ∃ zs, IsStrs W a len cap zs ∧ ∀ j, j < len → (zs.getD j ByteArray.empty).size ≤ 140737488351232 := by
  obtain ⟨fuel, hf⟩ := h
  rcases open_strings Yba.underlying22 Yba.underlying9 (by kernel_rfl) hf with ⟨hcs, _⟩ | ⟨x, l, c, zs, hcs, _, hl, hm, hlen, hx, hcell, hwz⟩
  · simp [Value.cells] at hcs
    obtain ⟨rfl, rfl, rfl⟩ := hcs
    exact ⟨[], .inl ⟨rfl, rfl, rfl, rfl⟩, fun j hj => by omega⟩
  · simp [Value.cells] at hcs
    obtain ⟨rfl, rfl, rfl⟩ := hcs
    simp only [Prod.mk.injEq] at hx
    obtain ⟨rfl, rfl⟩ := hx
    have hlen' : zs.length = cap := by simpa using hlen
    refine ⟨zs, .inr ⟨_, rfl, hl, hm, hlen', hcell, hwz⟩, fun j hj => ?_⟩
    have hmem : zs.getD j ByteArray.empty ∈ zs.take len := by
      rw [List.getD_eq_getElem?_getD, List.getElem?_eq_getElem (by omega), Option.getD_some]
      exact List.mem_take_iff_getElem.2 ⟨j, by omega, rfl⟩
    have hr := hz (zs.getD j ByteArray.empty).size (by
      simp only [DataW.weights, Yba.underlying22, List.mem_cons, List.mem_append]
      exact .inr (.inl (weights_strs Yba.prog 9 _ _ hmem)))
    unfold reachBytes at hr
    omega

set_option maxRecDepth 100000 in
theorem lifted (os : Os) (started : os.Started) (H : Type) (enc : TypeId × Value → H) :
    ReturnsInHanded {} Yba.checked os 4 .any (Rows.lawS2599CCopySpec.pre6 enc Yba.prog Yba.f4 Rows.lawS2599CCopyRow.domain false) (Rows.lawS2599CCopySpec.post enc Yba.prog Yba.f4 false true false false) := by
  refine returnsInHanded_of_change_sized (C := Yba.checked) own started (by kernel_rfl) Yba.func4
    (ChangeSpec.witness6 (enc := enc) (C := Yba.checked) false ⟨#[], #[.slice none 0 0, .int .u64 0, .int .u64 0, .bool false], []⟩ 8 (by kernel_rfl) (by kernel_rfl) (by kernel_rfl) (by kernel_rfl)) ?_
  intro W base args ds gs before hval0 hW hcnd hsz0 _
  have hval : ∀ (j : Nat) t v, Yba.f4.params[j]? = some t → args[j]? = some v → Value.okWide Yba.prog W .any base t v := hval0
  have hsz : (DataW.weightsEach Yba.prog (Yba.f4.params.toList ++ Rows.lawS2599CCopySpec.plain.varTypes Yba.prog) (ds ++ gs)).all (· ≤ reachBytes) = true := hsz0
  have hW' := hW
  obtain ⟨p, q, hA0, hV, rfl, hfz, hnd⟩ := hW
  have hA : DataW.TrodAll enc Yba.prog W 0 (fun _ => true) true Yba.f4.params.toList args.toList ds p := hA0
  rw [Yba.params4] at hA hval hsz
  obtain ⟨v0, vs0, d0, ds0, p0, q0, hargs, rfl, rfl, h0, r0⟩ := trodAll_cons hA
  obtain ⟨v1, vs1, d1, ds1, p1, q1, rfl, rfl, rfl, h1, r1⟩ := trodAll_cons r0
  obtain ⟨v2, vs2, d2, ds2, p2, q2, rfl, rfl, rfl, h2, r2⟩ := trodAll_cons r1
  obtain ⟨v3, vs3, d3, ds3, p3, q3, rfl, rfl, rfl, h3, r3⟩ := trodAll_cons r2
  obtain ⟨rfl, rfl, rfl⟩ := trodAll_nil r3
  obtain rfl : args = #[v0, v1, v2, v3] := by cases args; simp_all
  obtain ⟨rfl, rfl⟩ := trodVars_none hV
  obtain ⟨a0, len0, cap0, rfl⟩ := okWide_slice Yba.underlying22 (hval 0 22 v0 rfl rfl)
  have lt0 : ∀ x ∈ p0, x.block < W.heap.size := by obtain ⟨m, hm⟩ := h0; exact DataW.trod_lt m _ _ _ hm
  obtain ⟨z0, w0, rz0⟩ := isStrs_sized h0 (fun n hn => by
    have := List.all_eq_true.1 hsz n (DataW.weights_mem_each (j := 0) (t := 22) rfl rfl n hn)
    simpa using this)
  obtain ⟨a1, rfl, rfl, rfl, w1⟩ := open_int Yba.underlying37 (hval 1 37 v1 rfl rfl) h1
  obtain ⟨a2, rfl, rfl, rfl, w2⟩ := open_int Yba.underlying37 (hval 2 37 v2 rfl rfl) h2
  obtain ⟨a3, rfl, rfl, rfl⟩ := open_bool Yba.underlying4 (hval 3 4 v3 rfl rfl) h3
  clear hA0 hval0
  refine (walk a0 len0 cap0 z0 a1 a2 a3 W w0 rz0 w1 w2).mono fun e W' ⟨he, bel⟩ => ?_
  subst he
  exact ⟨_, rfl, _, _, _, [], _, [], hW', trodAll_mk1 (shut_bool Yba.underlying4 _),
    trodAll_mk4 (Below.trod laidOut (by kernel_rfl) (of_decide_eq_true (by kernel_rfl)) h0 bel lt0) (shut_int Yba.underlying37 w1) (shut_int Yba.underlying37 w2) (shut_bool Yba.underlying4 _), rfl, bel.frame _, fun h => by cases h⟩

theorem over : Rows.lawS2599CCopyRow.holds Yba.pinned (OpenSpec.ofChange Rows.lawS2599CCopySpec) :=
  OpenClaim.holds_of_wide 4 Yba.f4 rfl rfl rfl rfl rfl rfl rfl ⟨rfl, rfl, rfl, rfl, rfl⟩ rfl rfl rfl rfl rfl (by kernel_rfl) Yba.func4 (by kernel_rfl)
    (of_decide_eq_true (by kernel_rfl)) (by unfold Func.isWrapper; first | (rw [if_pos (by decide +kernel)]; kernel_rfl) | (rw [if_neg (by decide +kernel)]; exact ⟨rfl, rfl⟩))
    (fun os started H enc _ => lifted os started H enc)

end Go.Proofs.Ybulkbaum.lawS2599CCopy

namespace Go.Proofs.Ybulkbaum
/-- THE STATEMENT -/
theorem lawS2599CCopy_proved : Rows.LawS2599CCopySaid := lawS2599CCopy.over
end Go.Proofs.Ybulkbaum
