/-
  WHAT A SLICE OF NAMES, AND A SLICE OF PAIRS (a name and a number), READS AS: said of cells; kept while nothing that was there turns.
-/
import Derived.Test.Qxb6602815aRows
import Derived.Test.Qxb6602815aPlain
import Derived.WalkKit
import Derived.WalkSpells
import Derived.WalkLawsBesides
namespace Go.Proofs.Qxb6602815a
open Go.RowKit

abbrev Pr := ByteArray × Int

/-- the slice at ao, of len elements, reads as the names ss: wherever there is an element it lies in block b from off on. -/
structure Strs (w : World) (ao : Option Addr) (len b off : Nat) (ss : List ByteArray) : Prop where
  size : ss.length = len
  addr : 0 < len → ao = some ⟨b, off, none⟩
  cell : ∀ k (h : k < ss.length), w.cell? ⟨b, off + k, none⟩ = some (.string ss[k])

/-- .. as the pairs ps. -/
structure Prs (w : World) (ao : Option Addr) (len b off : Nat) (ps : List Pr) : Prop where
  size : ps.length = len
  addr : 0 < len → ao = some ⟨b, off, none⟩
  name : ∀ k (h : k < ps.length), w.cell? ⟨b, off + k * 2, none⟩ = some (.string ps[k].1)
  num : ∀ k (h : k < ps.length), w.cell? ⟨b, off + k * 2 + 1, none⟩ = some (.int .i64 ps[k].2)

theorem cell_kept {w w' : World} (hb : Below w.heap.size w w') {a : Addr} {v : Value} (h : w.cell? a = some v) : w'.cell? a = some v :=
  (hb.cell (World.block_lt_of_cell? w a h)).trans h

theorem below_keep {w w1 : World} (h : Below w.heap.size w w1) {w2 : World} (h2 : Below w1.heap.size w1 w2) : Below w.heap.size w w2 := h.trans (h2.mono h.size)

theorem Strs.kept {w w' : World} {ao : Option Addr} {len b off : Nat} {ss : List ByteArray} (h : Strs w ao len b off ss) (hb : Below w.heap.size w w') : Strs w' ao len b off ss :=
  ⟨h.size, h.addr, fun k hk => cell_kept hb (h.cell k hk)⟩
theorem Prs.kept {w w' : World} {ao : Option Addr} {len b off : Nat} {ps : List Pr} (h : Prs w ao len b off ps) (hb : Below w.heap.size w w') : Prs w' ao len b off ps :=
  ⟨h.size, h.addr, fun k hk => cell_kept hb (h.name k hk), fun k hk => cell_kept hb (h.num k hk)⟩

/-- the index into such a slice, as the walk takes it: one rule for a nil slice, an empty one and the rest. -/
theorem index_at {P : Program} {t e : TypeId} {n : Nat} (ht : P.underlying t = some (.slice e)) (hs : ∀ w, (sizeOf e).run P w = .ok n w) {ao : Option Addr} {len b off : Nat} (cap : Nat) (h : 0 < len → ao = some ⟨b, off, none⟩)
    (k : Nat) (hk : k < len) (W : World) : (Instr.indexAt t (.slice ao len cap) (.int .i64 k)).run P W = .ok (.pointer (some ⟨b, off + k * n, none⟩)) W := by
  rw [h (by omega)]
  have hel : P.elem t = e := by simp [Program.elem, ht]
  rw [run_indexAt_slice W t _ len cap .i64 k (by rw [hel]; exact ht), if_pos (by omega), hel, hs]
  simp [Result.andThen, Addr.add_lit]

theorem size9 (w : World) : (sizeOf 9).run Try.prog w = .ok 1 w := by kernel_rfl
theorem size54 (w : World) : (sizeOf 54).run Try.prog w = .ok 2 w := by kernel_rfl
theorem size56 (w : World) : (sizeOf 56).run Try.prog w = .ok 2 w := by kernel_rfl
theorem size63 (w : World) : (sizeOf 63).run Try.prog w = .ok 2 w := by kernel_rfl
theorem size65 (w : World) : (sizeOf 65).run Try.prog w = .ok 2 w := by kernel_rfl

theorem Strs.ix {w : World} {ao : Option Addr} {len b off : Nat} {ss : List ByteArray} (h : Strs w ao len b off ss) (cap k : Nat) (hk : k < len) (W : World) :
    (Instr.indexAt 32 (.slice ao len cap) (.int .i64 k)).run Try.prog W = .ok (.pointer (some ⟨b, off + k, none⟩)) W := by
  simpa using index_at Try.underlying32 size9 cap h.addr k hk W
theorem Prs.ix22 {w : World} {ao : Option Addr} {len b off : Nat} {ps : List Pr} (h : Prs w ao len b off ps) (cap k : Nat) (hk : k < len) (W : World) :
    (Instr.indexAt 22 (.slice ao len cap) (.int .i64 k)).run Try.prog W = .ok (.pointer (some ⟨b, off + k * 2, none⟩)) W := index_at Try.underlying22 size56 cap h.addr k hk W
theorem Prs.ix23 {w : World} {ao : Option Addr} {len b off : Nat} {ps : List Pr} (h : Prs w ao len b off ps) (cap k : Nat) (hk : k < len) (W : World) :
    (Instr.indexAt 23 (.slice ao len cap) (.int .i64 k)).run Try.prog W = .ok (.pointer (some ⟨b, off + k * 2, none⟩)) W := index_at Try.underlying23 size54 cap h.addr k hk W
theorem Prs.ix41 {w : World} {ao : Option Addr} {len b off : Nat} {ps : List Pr} (h : Prs w ao len b off ps) (cap k : Nat) (hk : k < len) (W : World) :
    (Instr.indexAt 41 (.slice ao len cap) (.int .i64 k)).run Try.prog W = .ok (.pointer (some ⟨b, off + k * 2, none⟩)) W := index_at Try.underlying41 size63 cap h.addr k hk W
theorem Prs.ix43 {w : World} {ao : Option Addr} {len b off : Nat} {ps : List Pr} (h : Prs w ao len b off ps) (cap k : Nat) (hk : k < len) (W : World) :
    (Instr.indexAt 43 (.slice ao len cap) (.int .i64 k)).run Try.prog W = .ok (.pointer (some ⟨b, off + k * 2, none⟩)) W := index_at Try.underlying43 size65 cap h.addr k hk W

theorem ret_bool {a b : Bool} (h : a = b) : Ending.returned (.bool a) = .returned (.bool b) := by rw [h]
theorem eq_of_toList {a b : ByteArray} (h : (a.toList == b.toList) = true) : a = b := by
  rw [ByteArray.toList_eq, ByteArray.toList_eq] at h
  exact Plain.ext_data (eq_of_beq h)
theorem ne_of_toList {a b : ByteArray} (h : (a.toList == b.toList) = false) : a ≠ b := by
  rintro rfl
  simp at h
theorem toList_self (a : ByteArray) : (a.toList == a.toList) = true := by simp
theorem toList_ne {a b : ByteArray} (h : a ≠ b) : (a.toList == b.toList) = false := by
  rcases hb : (a.toList == b.toList) with _ | _
  · rfl
  · exact absurd (eq_of_toList hb) h

/-- one element on: is the name among the first k + 1? -/
theorem in_take_yes (ss : List ByteArray) (s : ByteArray) (k : Nat) (h : k < ss.length) (he : (ss[k].toList == s.toList) = true) : Plain.isIn ss s = true := by
  obtain rfl := eq_of_toList he
  exact (Plain.isIn_iff _ _).2 (List.getElem_mem h)
theorem in_take_no (ss : List ByteArray) (s : ByteArray) (k : Nat) (h : k < ss.length) (h0 : Plain.isIn (ss.take k) s = false) (he : (ss[k].toList == s.toList) = false) : Plain.isIn (ss.take (k + 1)) s = false := by
  have hn := ne_of_toList he
  rcases hb : Plain.isIn (ss.take (k + 1)) s with _ | _
  · rfl
  · rw [Plain.isIn_iff, Plain.take_snoc ss k h, List.mem_append] at hb
    rcases hb with hb | hb
    · rw [(Plain.isIn_iff _ _).2 hb] at h0; cases h0
    · exact absurd (List.mem_singleton.1 hb).symm hn
theorem in_take_all (ss : List ByteArray) (s : ByteArray) (k : Nat) (h : ss.length ≤ k) (h0 : Plain.isIn (ss.take k) s = false) : Plain.isIn ss s = false := by
  rwa [List.take_of_length_le h] at h0

theorem Prs.names {w : World} {ao : Option Addr} {len b off : Nat} {ps : List Pr} (h : Prs w ao len b off ps) (k : Nat) (hk : k < len) : ∃ (hk' : k < ps.length) (hk'' : k < (ps.map (·.1)).length), w.cell? ⟨b, off + k * 2, none⟩ = some (.string (ps.map (·.1))[k]) ∧ w.cell? ⟨b, off + k * 2 + 1, none⟩ = some (.int .i64 ps[k].2) :=
  have hk' : k < ps.length := by rw [h.size]; exact hk
  ⟨hk', by simpa using hk', by simpa using h.name k hk', h.num k hk'⟩

/-- what a pointer to a number leads to: nothing, or a number. -/
def PtrAt (w : World) (po : Option Addr) : Prop := po = none ∨ ∃ b off n, po = some ⟨b, off, none⟩ ∧ w.cell? ⟨b, off, none⟩ = some (.int .i64 n)
theorem PtrAt.kept {w w' : World} {po : Option Addr} (h : PtrAt w po) (hb : Below w.heap.size w w') : PtrAt w' po := by
  rcases h with h | ⟨b, off, n, h1, h2⟩
  · exact Or.inl h
  · exact Or.inr ⟨b, off, n, h1, cell_kept hb h2⟩

/-- the fields of a held transaction, as values and as what they read as. -/
structure HV where
  id : ByteArray
  ca : Option Addr
  cl : Nat
  cc : Nat
  cb : Nat
  co : Nat
  cs : List Pr
  ua : Option Addr
  ul : Nat
  uc : Nat
  ub : Nat
  uo : Nat
  us : List Pr
  dl : Option Addr
  hl : Option Addr
  post : ByteArray
  void : ByteArray

structure HeldAt (w : World) (b o : Nat) (H : HV) : Prop where
  c0 : w.cell? ⟨b, o, none⟩ = some (.string H.id)
  c1 : w.cell? ⟨b, o + 1, none⟩ = some (.slice H.ca H.cl H.cc)
  c2 : w.cell? ⟨b, o + 2, none⟩ = some (.slice H.ua H.ul H.uc)
  c3 : w.cell? ⟨b, o + 3, none⟩ = some (.pointer H.dl)
  c4 : w.cell? ⟨b, o + 4, none⟩ = some (.pointer H.hl)
  c5 : w.cell? ⟨b, o + 5, none⟩ = some (.string H.post)
  c6 : w.cell? ⟨b, o + 6, none⟩ = some (.string H.void)
  pc : Prs w H.ca H.cl H.cb H.co H.cs
  pu : Prs w H.ua H.ul H.ub H.uo H.us
  pd : PtrAt w H.dl
  ph : PtrAt w H.hl

theorem HeldAt.kept {w w' : World} {b o : Nat} {H : HV} (h : HeldAt w b o H) (hb : Below w.heap.size w w') : HeldAt w' b o H :=
  ⟨cell_kept hb h.c0, cell_kept hb h.c1, cell_kept hb h.c2, cell_kept hb h.c3, cell_kept hb h.c4, cell_kept hb h.c5, cell_kept hb h.c6, h.pc.kept hb, h.pu.kept hb, h.pd.kept hb, h.ph.kept hb⟩

/-- a pointer to a held transaction: nil, or it leads to one. -/
def HeldP (w : World) (po : Option Addr) (H : HV) : Prop := po = none ∨ ∃ b o, po = some ⟨b, o, none⟩ ∧ HeldAt w b o H
theorem HeldP.kept {w w' : World} {po : Option Addr} {H : HV} (h : HeldP w po H) (hb : Below w.heap.size w w') : HeldP w' po H := by
  rcases h with h | ⟨b, o, h1, h2⟩
  · exact Or.inl h
  · exact Or.inr ⟨b, o, h1, h2.kept hb⟩

end Go.Proofs.Qxb6602815a
