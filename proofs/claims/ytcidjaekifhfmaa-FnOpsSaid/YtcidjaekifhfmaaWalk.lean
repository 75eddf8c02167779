/-
  The law's own text returns true at every index: outside the tables it compares two lengths of 168, inside it compares the fields of one row with the fields of the same row.
  Conditions: none. The world in which a call begins is any.
-/
import Derived.Test.YtcidjaekifhfmaaMade
import Derived.Deep.QuietTactic
import Derived.BigQuiet
import Derived.ProofKit
import Derived.Lib.Hide
namespace Go.Proofs.Ytcidjaekifhfmaa
open Go.Great Go.Lib Go.RowKit

theorem row_at (f : Row → List Value) (s : Nat) (hs : ∀ x, (f x).length = s) (e : TypeId) (w : World) (i k : Nat) (hi : i < T.length) (hk : k < s) :
    (w.alloc (.cells (T.flatMap f).toArray e)).cell? ⟨w.heap.size, i * s + k, none⟩ = (f T[i])[k]? := by
  have hb : (w.alloc (.cells (T.flatMap f).toArray e)).heap[w.heap.size]? = some (.cells (T.flatMap f).toArray e (0, 0)) := (MapKept.heap_alloc w _).1
  rw [Lib.cell_of_heap hb, List.getElem?_toArray]
  exact flat_at f s hs T i k hi hk

theorem grown_trans {w w1 w2 : World} (h1 : Grown w w1) (h2 : Grown w1 w2) : Grown w w2 :=
  ⟨World.keptBut_trans h1.1 h2.1, fun a => (h2.2.1 a).trans (h1.2.1 a), Nat.le_trans h1.2.2 h2.2.2⟩

theorem grown_drewN {w w1 : World} (h : Grown w w1) (n : Nat) : Grown w (w1.drewN n) := h

/-- What the law sees of the first call. -/
theorem seesA (w : World) : Calls Try.prog 4 #[] w fun e w' => ∃ b, e = .returned (.slice (some ⟨b, 0, none⟩) 168 168) ∧ Grown w w' ∧ b < w'.heap.size ∧
    ∀ i (h : i < T.length), w'.cell? ⟨b, i * 3, none⟩ = some (.string T[i].1) ∧ w'.cell? ⟨b, i * 3 + 1, none⟩ = some (.int .i64 T[i].2.1) ∧ w'.cell? ⟨b, i * 3 + 2, none⟩ = some (.int .i64 T[i].2.2.1) := by
  refine (opsA_any w).mono fun e w' ⟨he, hw⟩ => ⟨w.heap.size, he, ?_⟩
  subst hw
  refine ⟨(Grown.refl w).alloc _ _, by simp, fun i h => ⟨?_, ?_, ?_⟩⟩
  · exact row_at cellsA 3 (fun _ => rfl) 27 w i 0 h (by omega)
  · exact row_at cellsA 3 (fun _ => rfl) 27 w i 1 h (by omega)
  · exact row_at cellsA 3 (fun _ => rfl) 27 w i 2 h (by omega)

/-- What the law sees of the second call. -/
theorem seesB (w : World) : Calls Try.prog 5 #[] w fun e w' => ∃ b, e = .returned (.slice (some ⟨b, 0, none⟩) 168 168) ∧ Grown w w' ∧ (∀ a : Addr, a.block < w.heap.size → w'.cell? a = w.cell? a) ∧
    ∀ i (h : i < T.length), w'.cell? ⟨b, i * 4, none⟩ = some (.string T[i].1) ∧ w'.cell? ⟨b, i * 4 + 1, none⟩ = some (.int .i64 T[i].2.1) ∧ w'.cell? ⟨b, i * 4 + 2, none⟩ = some (.int .i64 T[i].2.2.1) := by
  refine (opsB_any w).mono fun e w' ⟨he, hw⟩ => ⟨w.heap.size, he, ?_⟩
  subst hw
  refine ⟨(Grown.refl w).alloc _ _, fun a ha => ((Below.refl _ _).alloc (Nat.le_refl _) _).cell ha, fun i h => ⟨?_, ?_, ?_⟩⟩
  · exact row_at cellsB 4 (fun _ => rfl) 29 w i 0 h (by omega)
  · exact row_at cellsB 4 (fun _ => rfl) 29 w i 1 h (by omega)
  · exact row_at cellsB 4 (fun _ => rfl) 29 w i 2 h (by omega)

/-- An index outside the tables. -/
theorem law_outside (n : Int) (w : World) (h : n < 0 ∨ 168 ≤ n) : Calls Try.prog 3 #[.int .i64 n] w fun e w' => e = .returned (.bool true) ∧ Grown w w' := by
  rcases h with h | h
  · go_enter Try.func3, Try.ntmps3
    go_wp2_with (first | (go_at_call 4; refine (seesA _).mono ?_; rintro e w1 ⟨b1, rfl, hg1, hb1, -⟩) | (go_at_call 5; refine (seesB _).mono ?_; rintro e w2 ⟨b2, rfl, hg2, -, -⟩))
    go_ret
    exact ⟨rfl, grown_trans hg1 hg2⟩
  · have h' : ¬ n < 0 := by omega
    go_enter Try.func3, Try.ntmps3
    go_wp2_with (first | (go_at_call 4; refine (seesA _).mono ?_; rintro e w1 ⟨b1, rfl, hg1, hb1, -⟩) | (go_at_call 5; refine (seesB _).mono ?_; rintro e w2 ⟨b2, rfl, hg2, -, -⟩))
    go_ret
    exact ⟨rfl, grown_trans hg1 hg2⟩

set_option maxRecDepth 100000 in
/-- An index inside the tables. -/
theorem law_inside (i : Nat) (w : World) (h : i < 168) : Calls Try.prog 3 #[.int .i64 (i : Int)] w fun e w' => e = .returned (.bool true) ∧ Grown w w' := by
  have hi : i < T.length := by rw [len_T]; exact h
  obtain ⟨s, hs⟩ : ∃ s, s = T[i].1 := ⟨_, rfl⟩
  obtain ⟨f, hf⟩ : ∃ f, f = T[i].2.1 := ⟨_, rfl⟩
  obtain ⟨c, hc⟩ : ∃ c, c = T[i].2.2.1 := ⟨_, rfl⟩
  have HS := Lib.hid hs; clear hs
  have HF := Lib.hid hf; clear hf
  have HC := Lib.hid hc; clear hc
  go_enter Try.func3, Try.ntmps3
  go_wp2_with (first | (go_at_call 4; refine (seesA _).mono ?_; rintro e w1 ⟨b1, rfl, hg1, hb1, hA⟩; have HA := Lib.hid (hA i hi); have HG1 := Lib.hid hg1; clear hA hg1) | (go_at_call 5; refine (seesB _).mono ?_; rintro e w2 ⟨b2, rfl, hg2, hk, hB⟩; have HB := Lib.hid (hB i hi); have HG2 := Lib.hid hg2; have HK := Lib.hid hk; clear hB hg2 hk))
  obtain ⟨x0, x1, x2⟩ := HA.out
  obtain ⟨y0, y1, y2⟩ := HB.out
  rw [← HS.out] at x0 y0
  rw [← HF.out] at x1 y1
  rw [← HC.out] at x2 y2
  have hk := HK.out
  rw [← hk _ hb1] at x0 x1 x2
  clear hk
  go_quiet (fail)
  go_wp2
  go_ret
  exact ⟨rfl, grown_trans HG1.out (grown_drewN HG2.out nq)⟩

/-- Every index. -/
theorem law_any (n : Int) (w : World) : Calls Try.prog 3 #[.int .i64 n] w fun e w' => e = .returned (.bool true) ∧ Grown w w' := by
  by_cases h : n < 0 ∨ 168 ≤ n
  · exact law_outside n w h
  · obtain ⟨i, rfl⟩ : ∃ i : Nat, n = (i : Int) := ⟨n.toNat, by omega⟩
    exact law_inside i w (by omega)

end Go.Proofs.Ytcidjaekifhfmaa
