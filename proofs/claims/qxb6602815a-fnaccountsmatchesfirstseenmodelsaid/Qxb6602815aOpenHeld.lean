/-
  FROM A READING OF THE HELD TRANSACTION's POINTER TO WHAT THE WALKS ARE TOLD OF IT: field by field.
-/
import Derived.Test.Qxb6602815aOpen
import Derived.Deep.Fields
namespace Go.Proofs.Qxb6602815a
open Go.ChangeShapes Go.WideShapes Go.ChangeAt Go.RowKit Go.Deep

section
variable {H : Type} {enc : TypeId × Value → H} {w : World} {base : Nat} {spare : Nat → Bool} {held : Bool}

theorem slice_shape {t e : TypeId} {fuel : Nat} {v : Value} {x : DataW H × List MemPlace} (ht : Try.prog.underlying t = some (.slice e)) (h : DataW.trod enc Try.prog w base spare held fuel t [v] = some x) : ∃ a l c, v = .slice a l c := by
  rcases open_slice ht h with ⟨hcs, _⟩ | ⟨a, len, cap, m, n, D, Pl, hcs, _⟩
  · exact ⟨none, 0, 0, by simpa using hcs⟩
  · exact ⟨some a, len, cap, by simpa using hcs⟩

theorem open_ptrAt {fuel : Nat} {v : Value} {x : DataW H × List MemPlace} (h : DataW.trod enc Try.prog w base spare held fuel 24 [v] = some x) : ∃ po, v = .pointer po ∧ PtrAt w po := by
  rcases DataW.trod_pointer Try.underlying24 h with ⟨h0, _⟩ | ⟨a, cs', y, m, _, hcs, _, hcells, hy⟩
  · exact ⟨none, by simpa using h0, Or.inl rfl⟩
  · obtain ⟨_, hlen, hcell⟩ := World.cells?_some hcells
    obtain ⟨n, hn, _, _⟩ := DataW.trod_int Try.underlying2 hy
    subst hn
    obtain ⟨b, o, spot⟩ := a
    have h0 := hcell 0 (by rw [cells2]; omega)
    have h1 : w.cell? (Addr.add ⟨b, o, spot⟩ 0) = some (.int .i64 n) := by simpa using h0
    have hspot : spot = none := by simpa [Addr.add] using World.cell?_spot h1
    subst hspot
    exact ⟨some ⟨b, o, none⟩, by simpa using hcs, Or.inr ⟨b, o, n, rfl, by simpa [Addr.add] using h1⟩⟩

theorem open_held {fuel : Nat} {po : Option Addr} {x : DataW H × List MemPlace} (h : DataW.trod enc Try.prog w base spare held fuel 25 [.pointer po] = some x) :
    po = none ∨ ∃ b o G, po = some ⟨b, o, none⟩ ∧ HeldAt w b o G ∧ (∀ p ∈ G.cs, p.1.size ≤ maxLen) ∧ ∀ p ∈ G.us, p.1.size ≤ maxLen := by
  rcases open_ptr_fields Try.underlying25 Try.underlying34 (hone_of (by kernel_rfl)) (by kernel_rfl) (by decide) h with ⟨h0, _⟩ | ⟨b, o, n, V, Y, hcs, _, _, hf⟩
  · exact Or.inl (by simpa using h0)
  · right
    obtain ⟨c0, t0⟩ := hf 0 _ rfl
    obtain ⟨c1, t1⟩ := hf 1 _ rfl
    obtain ⟨c2, t2⟩ := hf 2 _ rfl
    obtain ⟨c3, t3⟩ := hf 3 _ rfl
    obtain ⟨c4, t4⟩ := hf 4 _ rfl
    obtain ⟨c5, t5⟩ := hf 5 _ rfl
    obtain ⟨c6, t6⟩ := hf 6 _ rfl
    obtain ⟨id, e0, _, _⟩ := DataW.trod_string Try.underlying9 t0
    obtain ⟨post, e5, _, _⟩ := DataW.trod_string Try.underlying9 t5
    obtain ⟨void, e6, _, _⟩ := DataW.trod_string Try.underlying9 t6
    obtain ⟨ca, cl, cc, e1⟩ := slice_shape Try.underlying22 t1
    obtain ⟨ua, ul, uc, e2⟩ := slice_shape Try.underlying23 t2
    obtain ⟨dl, e3, pd⟩ := open_ptrAt t3
    obtain ⟨hl, e4, ph⟩ := open_ptrAt t4
    rw [e1] at c1 t1
    rw [e2] at c2 t2
    rw [e3] at c3
    rw [e4] at c4
    have e0' : V 0 = .string id := by simpa using e0
    have e5' : V 5 = .string post := by simpa using e5
    have e6' : V 6 = .string void := by simpa using e6
    rw [e0'] at c0
    rw [e5'] at c5
    rw [e6'] at c6
    obtain ⟨cb, co, cs, pc, hsc⟩ := open_checks t1
    obtain ⟨ub, uo, us, pu, hsu⟩ := open_updates t2
    exact ⟨b, o, ⟨id, ca, cl, cc, cb, co, cs, ua, ul, uc, ub, uo, us, dl, hl, post, void⟩, by simpa using hcs, ⟨by simpa using c0, c1, c2, c3, c4, c5, c6, pc, pu, pd, ph⟩, hsc, hsu⟩

end

end Go.Proofs.Qxb6602815a
