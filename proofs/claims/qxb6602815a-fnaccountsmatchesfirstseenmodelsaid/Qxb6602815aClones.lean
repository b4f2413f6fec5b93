/-
  THE WALKS OF THE FUNCTIONS THAT COPY: each makes new memory alone; what it hands back reads as what it was handed.
-/
import Derived.Test.Qxb6602815aFacts
import Derived.Deep.OwnRows
namespace Go.Proofs.Qxb6602815a
open Go.RowKit

/-- block B is a row of n pairs' cells, of which the first k hold the pairs ps. -/
def Fill (w : World) (B e n k : Nat) (ps : List Pr) : Prop :=
  ∃ f, w.rowIs B e (n * 2) f ∧ ∀ j (h : j < ps.length), j < k → f (j * 2) = .string ps[j].1 ∧ f (j * 2 + 1) = .int .i64 ps[j].2

theorem Fill.step {w : World} {B e n k : Nat} {ps : List Pr} (h : Fill w B e n k ps) (hk : k < ps.length) {s : ByteArray} {m : Int} (hs : ps[k] = (s, m)) :
    Fill ((w.setCell ⟨B, k * 2, none⟩ (.string s)).setCell ⟨B, k * 2 + 1, none⟩ (.int .i64 m)) B e n (k + 1) ps := by
  obtain ⟨f, hf, hv⟩ := h
  refine ⟨_, (hf.set (k * 2) (.string s)).set (k * 2 + 1) (.int .i64 m), fun j hj hjk => ?_⟩
  by_cases e : j = k
  · subst e
    rw [hs]
    simp
  · obtain ⟨h1, h2⟩ := hv j hj (by omega)
    have e1 : ¬ j * 2 = k * 2 + 1 := by omega
    have e2 : ¬ j * 2 = k * 2 := by omega
    have e3 : ¬ j * 2 + 1 = k * 2 + 1 := by omega
    have e4 : ¬ j * 2 + 1 = k * 2 := by omega
    simp only [e1, e2, e3, e4, if_false]
    exact ⟨h1, h2⟩

theorem Fill.cells {w : World} {B e n k : Nat} {ps : List Pr} (h : Fill w B e n k ps) (j : Nat) (hj : j < n) :
    (∃ v, w.cell? ⟨B, j * 2, none⟩ = some v) ∧ (∃ v, w.cell? ⟨B, j * 2 + 1, none⟩ = some v) ∧ w.frozen? ⟨B, j * 2, none⟩ = false ∧ w.frozen? ⟨B, j * 2 + 1, none⟩ = false := by
  obtain ⟨f, hf, _⟩ := h
  exact ⟨⟨_, hf.cell (by omega)⟩, ⟨_, hf.cell (by omega)⟩, hf.frozen _, hf.frozen _⟩

theorem Fill.prs {w : World} {B e n : Nat} {ps : List Pr} (h : Fill w B e n n ps) (hn : ps.length = n) : Prs w (some ⟨B, 0, none⟩) n B 0 ps := by
  obtain ⟨f, hf, hv⟩ := h
  refine ⟨hn, fun _ => rfl, fun k hk => ?_, fun k hk => ?_⟩
  · rw [Nat.zero_add, hf.cell (by omega), (hv k hk (by omega)).1]
  · rw [Nat.zero_add, hf.cell (by omega), (hv k hk (by omega)).2]

theorem Fill.made (w : World) (z : Array Value) (n e : Nat) (ps : List Pr) : Fill (w.alloc (.cells (madeCells z (n * 2)) e)) w.heap.size e n 0 ps := by
  have hs : (madeCells z (n * 2)).size = n * 2 := size_madeCells _ _
  refine ⟨fun i => (madeCells z (n * 2)).getD i undef, ?_, fun j _ hj => by omega⟩
  have := World.rowIs_alloc w (madeCells z (n * 2)) e (fun i => (madeCells z (n * 2)).getD i undef) (fun i hi => by simp [Array.getD, hi])
  rwa [hs] at this

/-- 'make([]T, n)', T a pair of a name and a number: for every world. -/
theorem run_make_pairs {P : Program} (t e : TypeId) (z : Value) (ht : P.underlying t = some (.slice e)) (hinfo : (P.info? e).map (fun i => (i.zero, i.size, i.bytes)) = some (some z, 2, 24)) (n : Nat) (hn : n ≤ 4194304) (w : World) :
    (Instr.makeSlice t (.int .i64 (n : Int)) (.int .i64 (n : Int))).run P w = .ok (.slice (some ⟨w.heap.size, 0, none⟩) n n) (w.alloc (.cells (madeCells z.cells (n * 2)) e)) := by
  obtain ⟨i, hi, hzz⟩ := Option.map_eq_some_iff.1 hinfo
  simp only [Prod.mk.injEq] at hzz
  obtain ⟨hz, hs, hb⟩ := hzz
  have hr := run_make (P := P) w t e i z ht hi hz .i64 .i64 n n (by omega) (Int.le_refl _) (by rw [hb]; omega) (by omega)
  simpa only [Int.toNat_natCast, hs] using hr

theorem info54 : (Try.prog.info? 54).map (fun i => (i.zero, i.size, i.bytes)) = some (some (.agg #[.string ⟨#[]⟩, .int .i64 0]), 2, 24) := by kernel_rfl
theorem info56 : (Try.prog.info? 56).map (fun i => (i.zero, i.size, i.bytes)) = some (some (.agg #[.string ⟨#[]⟩, .int .i64 0]), 2, 24) := by kernel_rfl
theorem info63 : (Try.prog.info? 63).map (fun i => (i.zero, i.size, i.bytes)) = some (some (.agg #[.string ⟨#[]⟩, .int .i64 0]), 2, 24) := by kernel_rfl
theorem info65 : (Try.prog.info? 65).map (fun i => (i.zero, i.size, i.bytes)) = some (some (.agg #[.string ⟨#[]⟩, .int .i64 0]), 2, 24) := by kernel_rfl

set_option maxHeartbeats 400000 in
theorem cloneUpdates_any {ao : Option Addr} {len b off : Nat} (cap : Nat) {ps : List Pr} (w : World) (h : Prs w ao len b off ps) (hl : len ≤ 4194304) :
    Calls Try.prog 9 #[.slice ao len cap] w fun e w' => ∃ ao' cap' b' off', e = .returned (.slice ao' len cap') ∧ Prs w' ao' len b' off' ps ∧ Below w.heap.size w w' := by
  have hix := h.ix23 cap
  have hmk := run_make_pairs 23 54 _ Try.underlying23 info54 len (by omega)
  have q23 : ∀ (w : World) (a : Option Addr) (n c n' c' : Nat), (binOp .eql 23 (.slice a n c) (.slice none n' c')).run Try.prog w = .ok (.bool a.isNone) w := fun w a n c n' c' => Lib.run_eql_slice_nil w _ _ a n c n' c' Try.underlying23
  rcases hnn : ao.isNone with _ | _
  · go_enter Try.func9, Try.ntmps9
    go_wp2
    go_loopw [4] (fun i wr => ∃ k : Nat, k ≤ len ∧ i = .int .i64 k ∧ Fill wr w.heap.size 54 len k ps ∧ Below w.heap.size w wr) (fun i _ => len - (intOf i).toNat)
    case atStart => exact ⟨0, Nat.zero_le _, rfl, Fill.made _ _ _ _ _, (Below.refl _ _).alloc (Nat.le_refl _) _⟩
    case round =>
      obtain ⟨k, hk, rfl, hfill, hnx⟩ := hrel
      by_cases hlt : k < len
      · have hk' : k < ps.length := by rw [h.size]; exact hlt
        have hc0 := cell_kept hnx (h.name k hk')
        have hc1 := cell_kept hnx (h.num k hk')
        obtain ⟨⟨v0, d0⟩, ⟨v1, d1⟩, f0, f1⟩ := hfill.cells k hlt
        go_wp2
        go_roundw
        case rel => exact ⟨k + 1, by omega, by go_num, hfill.step hk' rfl, (hnx.setCell (Nat.le_refl _) _).setCell (Nat.le_refl _) _⟩
        case measure => simp [intOf]; omega
      · go_wp2
        go_ret
        obtain rfl : k = len := by omega
        exact ⟨_, _, _, _, rfl, hfill.prs h.size, hnx⟩
  · have hl0 : len = 0 := by
      by_cases h0 : 0 < len
      · rw [h.addr h0] at hnn; simp at hnn
      · omega
    subst hl0
    go_enter Try.func9, Try.ntmps9
    go_wp2
    go_ret
    exact ⟨none, 0, b, off, rfl, ⟨h.size, fun h' => absurd h' (by omega), h.name, h.num⟩, Below.refl _ _⟩

set_option maxHeartbeats 400000 in
theorem cloneChecks_any {ao : Option Addr} {len b off : Nat} (cap : Nat) {ps : List Pr} (w : World) (h : Prs w ao len b off ps) (hl : len ≤ 4194304) :
    Calls Try.prog 8 #[.slice ao len cap] w fun e w' => ∃ ao' cap' b' off', e = .returned (.slice ao' len cap') ∧ Prs w' ao' len b' off' ps ∧ Below w.heap.size w w' := by
  have hix := h.ix22 cap
  have hmk := run_make_pairs 22 56 _ Try.underlying22 info56 len (by omega)
  have q22 : ∀ (w : World) (a : Option Addr) (n c n' c' : Nat), (binOp .eql 22 (.slice a n c) (.slice none n' c')).run Try.prog w = .ok (.bool a.isNone) w := fun w a n c n' c' => Lib.run_eql_slice_nil w _ _ a n c n' c' Try.underlying22
  rcases hnn : ao.isNone with _ | _
  · go_enter Try.func8, Try.ntmps8
    go_wp2
    go_loopw [4] (fun i wr => ∃ k : Nat, k ≤ len ∧ i = .int .i64 k ∧ Fill wr w.heap.size 56 len k ps ∧ Below w.heap.size w wr) (fun i _ => len - (intOf i).toNat)
    case atStart => exact ⟨0, Nat.zero_le _, rfl, Fill.made _ _ _ _ _, (Below.refl _ _).alloc (Nat.le_refl _) _⟩
    case round =>
      obtain ⟨k, hk, rfl, hfill, hnx⟩ := hrel
      by_cases hlt : k < len
      · have hk' : k < ps.length := by rw [h.size]; exact hlt
        have hc0 := cell_kept hnx (h.name k hk')
        have hc1 := cell_kept hnx (h.num k hk')
        obtain ⟨⟨v0, d0⟩, ⟨v1, d1⟩, f0, f1⟩ := hfill.cells k hlt
        go_wp2
        go_roundw
        case rel => exact ⟨k + 1, by omega, by go_num, hfill.step hk' rfl, (hnx.setCell (Nat.le_refl _) _).setCell (Nat.le_refl _) _⟩
        case measure => simp [intOf]; omega
      · go_wp2
        go_ret
        obtain rfl : k = len := by omega
        exact ⟨_, _, _, _, rfl, hfill.prs h.size, hnx⟩
  · have hl0 : len = 0 := by
      by_cases h0 : 0 < len
      · rw [h.addr h0] at hnn; simp at hnn
      · omega
    subst hl0
    go_enter Try.func8, Try.ntmps8
    go_wp2
    go_ret
    exact ⟨none, 0, b, off, rfl, ⟨h.size, fun h' => absurd h' (by omega), h.name, h.num⟩, Below.refl _ _⟩

set_option maxHeartbeats 400000 in
theorem clonePtr_any {po : Option Addr} (w : World) (h : PtrAt w po) :
    Calls Try.prog 10 #[.pointer po] w fun e w' => ∃ po', e = .returned (.pointer po') ∧ PtrAt w' po' ∧ Below w.heap.size w w' := by
  rcases h with rfl | ⟨b, off, n, rfl, hc⟩
  · go_enter Try.func10, Try.ntmps10
    go_wp2
    go_ret
    exact ⟨none, rfl, Or.inl rfl, Below.refl _ _⟩
  · go_enter Try.func10, Try.ntmps10
    go_wp2
    go_ret
    exact ⟨_, rfl, Or.inr ⟨_, _, n, rfl, by simp⟩, (Below.refl _ _).alloc (Nat.le_refl _) _⟩

set_option maxHeartbeats 400000 in
theorem ledgerUpdates_any {ao : Option Addr} {len b off : Nat} (cap : Nat) {ps : List Pr} (w : World) (h : Prs w ao len b off ps) (hl : len ≤ 4194304) :
    Calls Try.prog 27 #[.slice ao len cap] w fun e w' => ∃ ao' cap' b' off', e = .returned (.slice ao' len cap') ∧ Prs w' ao' len b' off' ps ∧ Below w.heap.size w w' := by
  have hix := h.ix23 cap
  have hmk := run_make_pairs 43 65 _ Try.underlying43 info65 len (by omega)
  have q23 : ∀ (w : World) (a : Option Addr) (n c n' c' : Nat), (binOp .eql 23 (.slice a n c) (.slice none n' c')).run Try.prog w = .ok (.bool a.isNone) w := fun w a n c n' c' => Lib.run_eql_slice_nil w _ _ a n c n' c' Try.underlying23
  rcases hnn : ao.isNone with _ | _
  · go_enter Try.func27, Try.ntmps27
    go_wp2
    go_loopw [4] (fun i wr => ∃ k : Nat, k ≤ len ∧ i = .int .i64 k ∧ Fill wr w.heap.size 65 len k ps ∧ Below w.heap.size w wr) (fun i _ => len - (intOf i).toNat)
    case atStart => exact ⟨0, Nat.zero_le _, rfl, Fill.made _ _ _ _ _, (Below.refl _ _).alloc (Nat.le_refl _) _⟩
    case round =>
      obtain ⟨k, hk, rfl, hfill, hnx⟩ := hrel
      by_cases hlt : k < len
      · have hk' : k < ps.length := by rw [h.size]; exact hlt
        have hc0 := cell_kept hnx (h.name k hk')
        have hc1 := cell_kept hnx (h.num k hk')
        obtain ⟨⟨v0, d0⟩, ⟨v1, d1⟩, f0, f1⟩ := hfill.cells k hlt
        go_wp2
        go_region
        go_wp2
        go_roundw
        case rel => exact ⟨k + 1, by omega, by go_num, hfill.step hk' rfl, ((hnx.setCell (Nat.le_refl _) _).setCell (Nat.le_refl _) _).drew⟩
        case measure => simp [intOf]; omega
      · go_wp2
        go_ret
        obtain rfl : k = len := by omega
        exact ⟨_, _, _, _, rfl, hfill.prs h.size, hnx⟩
  · have hl0 : len = 0 := by
      by_cases h0 : 0 < len
      · rw [h.addr h0] at hnn; simp at hnn
      · omega
    subst hl0
    go_enter Try.func27, Try.ntmps27
    go_wp2
    go_ret
    exact ⟨none, 0, b, off, rfl, ⟨h.size, fun h' => absurd h' (by omega), h.name, h.num⟩, Below.refl _ _⟩

set_option maxHeartbeats 400000 in
theorem ledgerChecks_any {ao : Option Addr} {len b off : Nat} (cap : Nat) {ps : List Pr} (w : World) (h : Prs w ao len b off ps) (hl : len ≤ 4194304) :
    Calls Try.prog 26 #[.slice ao len cap] w fun e w' => ∃ ao' cap' b' off', e = .returned (.slice ao' len cap') ∧ Prs w' ao' len b' off' ps ∧ Below w.heap.size w w' := by
  have hix := h.ix22 cap
  have hmk := run_make_pairs 41 63 _ Try.underlying41 info63 len (by omega)
  have q22 : ∀ (w : World) (a : Option Addr) (n c n' c' : Nat), (binOp .eql 22 (.slice a n c) (.slice none n' c')).run Try.prog w = .ok (.bool a.isNone) w := fun w a n c n' c' => Lib.run_eql_slice_nil w _ _ a n c n' c' Try.underlying22
  rcases hnn : ao.isNone with _ | _
  · go_enter Try.func26, Try.ntmps26
    go_wp2
    go_loopw [4] (fun i wr => ∃ k : Nat, k ≤ len ∧ i = .int .i64 k ∧ Fill wr w.heap.size 63 len k ps ∧ Below w.heap.size w wr) (fun i _ => len - (intOf i).toNat)
    case atStart => exact ⟨0, Nat.zero_le _, rfl, Fill.made _ _ _ _ _, (Below.refl _ _).alloc (Nat.le_refl _) _⟩
    case round =>
      obtain ⟨k, hk, rfl, hfill, hnx⟩ := hrel
      by_cases hlt : k < len
      · have hk' : k < ps.length := by rw [h.size]; exact hlt
        have hc0 := cell_kept hnx (h.name k hk')
        have hc1 := cell_kept hnx (h.num k hk')
        obtain ⟨⟨v0, d0⟩, ⟨v1, d1⟩, f0, f1⟩ := hfill.cells k hlt
        go_wp2
        go_region
        go_wp2
        go_roundw
        case rel => exact ⟨k + 1, by omega, by go_num, hfill.step hk' rfl, ((hnx.setCell (Nat.le_refl _) _).setCell (Nat.le_refl _) _).drew⟩
        case measure => simp [intOf]; omega
      · go_wp2
        go_ret
        obtain rfl : k = len := by omega
        exact ⟨_, _, _, _, rfl, hfill.prs h.size, hnx⟩
  · have hl0 : len = 0 := by
      by_cases h0 : 0 < len
      · rw [h.addr h0] at hnn; simp at hnn
      · omega
    subst hl0
    go_enter Try.func26, Try.ntmps26
    go_wp2
    go_ret
    exact ⟨none, 0, b, off, rfl, ⟨h.size, fun h' => absurd h' (by omega), h.name, h.num⟩, Below.refl _ _⟩

theorem append_at {α : Type} (xs ys : List α) (k j : Nat) (h : xs.length = k) (hj : j < ys.length) (hkj : k + j < (xs ++ ys).length) : (xs ++ ys)[k + j] = ys[j] := by
  subst h
  rw [List.getElem_append_right (by omega)]
  simp

set_option maxHeartbeats 800000 in
theorem concat_any {aa ba : Option Addr} {la ab ao lb bb bo : Nat} (ac bc : Nat) {xs ys : List Pr} (w : World) (ha : Prs w aa la ab ao xs) (hb : Prs w ba lb bb bo ys) (hla : la ≤ 2097152) (hlb : lb ≤ 2097152) :
    Calls Try.prog 23 #[.slice aa la ac, .slice ba lb bc] w fun e w' => ∃ ao' cap' b' off', e = .returned (.slice ao' (la + lb) cap') ∧ Prs w' ao' (la + lb) b' off' (xs ++ ys) ∧ Below w.heap.size w w' := by
  have hia := ha.ix23 ac
  have hib := hb.ix23 bc
  have hmk := run_make_pairs 23 54 _ Try.underlying23 info54 (la + lb) (by omega)
  rw [show ((la + lb : Nat) : Int) = (la : Int) + (lb : Int) from by omega] at hmk
  have hto : ∀ j : Nat, ((la : Int) + (j : Int)).toNat = la + j := fun j => by omega
  have hsz : (xs ++ ys).length = la + lb := by rw [List.length_append, ha.size, hb.size]
  have S : Hid ((xs ++ ys).length = la + lb) := hsz
  clear hsz
  go_enter Try.func23, Try.ntmps23
  go_wp2
  go_loopw [6] (fun i wr => ∃ k : Nat, k ≤ la ∧ i = .int .i64 k ∧ Fill wr w.heap.size 54 (la + lb) k (xs ++ ys) ∧ Below w.heap.size w wr) (fun i _ => la - (intOf i).toNat)
  case atStart => exact ⟨0, Nat.zero_le _, rfl, Fill.made _ _ _ _ _, (Below.refl _ _).alloc (Nat.le_refl _) _⟩
  case round =>
    obtain ⟨k, hk, rfl, hfill, hnx⟩ := hrel
    by_cases hlt : k < la
    · have hk' : k < xs.length := by rw [ha.size]; exact hlt
      have hc0 := cell_kept hnx (ha.name k hk')
      have hc1 := cell_kept hnx (ha.num k hk')
      obtain ⟨⟨v0, d0⟩, ⟨v1, d1⟩, f0, f1⟩ := hfill.cells k (by omega)
      go_wp2
      go_roundw
      case rel => exact ⟨k + 1, by omega, by go_num, hfill.step (by rw [S.out]; omega) (by rw [List.getElem_append_left hk']), (hnx.setCell (Nat.le_refl _) _).setCell (Nat.le_refl _) _⟩
      case measure => simp [intOf]; omega
    · obtain rfl : k = la := by omega
      go_wp2
      go_loopw [7] (fun i wr => ∃ j : Nat, j ≤ lb ∧ i = .int .i64 j ∧ Fill wr w.heap.size 54 (k + lb) (k + j) (xs ++ ys) ∧ Below w.heap.size w wr) (fun i _ => lb - (intOf i).toNat)
      case atStart => exact ⟨0, Nat.zero_le _, rfl, hfill, hnx⟩
      case round =>
        obtain ⟨j, hj, rfl, hfill, hnx⟩ := hrel
        by_cases hlt : j < lb
        · have hj' : j < ys.length := by rw [hb.size]; exact hlt
          have hc0 := cell_kept hnx (hb.name j hj')
          have hc1 := cell_kept hnx (hb.num j hj')
          obtain ⟨⟨v0, d0⟩, ⟨v1, d1⟩, f0, f1⟩ := hfill.cells (k + j) (by omega)
          go_wp2
          go_roundw
          case rel => exact ⟨j + 1, by omega, by go_num, hfill.step (by rw [S.out]; omega) (append_at xs ys k j ha.size hj' _), (hnx.setCell (Nat.le_refl _) _).setCell (Nat.le_refl _) _⟩
          case measure => simp [intOf]; omega
        · obtain rfl : j = lb := by omega
          go_wp2
          go_ret
          exact ⟨_, _, _, _, rfl, hfill.prs S.out, hnx⟩

end Go.Proofs.Qxb6602815a
