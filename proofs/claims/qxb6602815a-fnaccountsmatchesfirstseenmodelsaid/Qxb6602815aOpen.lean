/-
  FROM A READING OF AN ARGUMENT TO WHAT THE WALKS ARE TOLD OF IT: slices of pairs; pointers to a number.
-/
import Derived.Test.Qxb6602815aFacts
import Derived.Deep.SlicePairs
import Derived.ProofKit
namespace Go.Proofs.Qxb6602815a
open Go.ChangeShapes Go.WideShapes Go.ChangeAt Go.RowKit Go.Deep

section
variable {H : Type} {enc : TypeId × Value → H} {w : World} {base : Nat} {spare : Nat → Bool} {held : Bool}

/-- a slice of pairs, said of cells: so it serves an argument and a field alike. -/
theorem open_pairs {t e : TypeId} {f0 f1 : Field} {fuel : Nat} {ao : Option Addr} {len cap : Nat} {x : DataW H × List MemPlace} (ht : Try.prog.underlying t = some (.slice e)) (he : Try.prog.underlying e = some (.struct #[f0, f1]))
    (ce : Try.prog.cellsOf e = 2) (o0 : f0.offset = 0) (o1 : f1.offset = 1) (t0 : f0.type = 9) (t1 : f1.type = 2) (c0 : Try.prog.cellsOf 9 = 1) (c1 : Try.prog.cellsOf 2 = 1)
    (h : DataW.trod enc Try.prog w base spare held fuel t [.slice ao len cap] = some x) : ∃ b off ps, Prs w ao len b off ps ∧ ∀ p ∈ ps, p.1.size ≤ maxLen := by
  rcases open_slice_pairs ht he ce o0 o1 (by rw [t0]; exact c0) (by rw [t1]; exact c1) h with ⟨hcs, _⟩ | ⟨a, len', cap', m, n, V0, V1, D0, D1, P0, P1, hcs, _, hl, _, hm, _, hx⟩
  · simp at hcs
    obtain ⟨rfl, rfl, rfl⟩ := hcs
    exact ⟨0, 0, [], ⟨rfl, fun h => absurd h (by simp), fun k hk => absurd hk (by simp), fun k hk => absurd hk (by simp)⟩, by simp⟩
  · simp at hcs
    obtain ⟨rfl, rfl, rfl⟩ := hcs
    have hlm : len ≤ m := by rw [hm]; split <;> omega
    have each : ∀ i, i < len → ∃ p : Pr, w.cell? (a.add (i * 2)) = some (.string p.1) ∧ w.cell? (a.add (i * 2 + 1)) = some (.int .i64 p.2) ∧ p.1.size ≤ maxLen := fun i hi => by
      obtain ⟨q0, q1, q2, q3⟩ := hx i (by omega)
      rw [t0] at q2
      rw [t1] at q3
      obtain ⟨s, hs, _, hsz⟩ := DataW.trod_string Try.underlying9 q2
      obtain ⟨k, hk, _, _⟩ := DataW.trod_int Try.underlying2 q3
      have hs' : V0 i = .string s := by simpa using hs
      have hk' : V1 i = .int .i64 k := by simpa using hk
      exact ⟨(s, k), by rw [q0, hs'], by rw [q1, hk'], hsz⟩
    have each' : ∀ i, i < len → ∃ p : ByteArray × Int, (w.cell? (a.add (i * 2)) = some (.string p.1) ∧ w.cell? (a.add (i * 2 + 1)) = some (.int .i64 p.2) ∧ p.1.size ≤ maxLen) := each
    obtain ⟨q, hq⟩ := choose_lt each'
    obtain ⟨b, off, spot⟩ := a
    have hspot : 0 < len → spot = none := fun h0 => by
      have := World.cell?_spot (hq 0 h0).1
      simpa [Addr.add] using this
    refine ⟨b, off, (List.range len).map q, ⟨by simp, fun h0 => by rw [hspot h0], fun k hk => ?_, fun k hk => ?_⟩, fun p hp => ?_⟩
    · have hk' : k < len := by simpa using hk
      have := (hq k hk').1
      rw [hspot (by omega), Addr.add_lit] at this
      simpa using this
    · have hk' : k < len := by simpa using hk
      have := (hq k hk').2.1
      rw [hspot (by omega), Addr.add_lit] at this
      simpa [Nat.add_assoc] using this
    · obtain ⟨i, hi, rfl⟩ := List.mem_map.1 hp
      exact (hq i (List.mem_range.1 hi)).2.2

theorem cells2 : Try.prog.cellsOf 2 = 1 := by kernel_rfl
theorem cells9 : Try.prog.cellsOf 9 = 1 := by kernel_rfl
theorem cells54 : Try.prog.cellsOf 54 = 2 := by kernel_rfl
theorem cells56 : Try.prog.cellsOf 56 = 2 := by kernel_rfl

theorem open_checks {fuel : Nat} {ao : Option Addr} {len cap : Nat} {x : DataW H × List MemPlace} (h : DataW.trod enc Try.prog w base spare held fuel 22 [.slice ao len cap] = some x) : ∃ b off ps, Prs w ao len b off ps ∧ ∀ p ∈ ps, p.1.size ≤ maxLen :=
  open_pairs Try.underlying22 Try.underlying56 cells56 rfl rfl rfl rfl cells9 cells2 h
theorem open_updates {fuel : Nat} {ao : Option Addr} {len cap : Nat} {x : DataW H × List MemPlace} (h : DataW.trod enc Try.prog w base spare held fuel 23 [.slice ao len cap] = some x) : ∃ b off ps, Prs w ao len b off ps ∧ ∀ p ∈ ps, p.1.size ≤ maxLen :=
  open_pairs Try.underlying23 Try.underlying54 cells54 rfl rfl rfl rfl cells9 cells2 h

end

end Go.Proofs.Qxb6602815a
