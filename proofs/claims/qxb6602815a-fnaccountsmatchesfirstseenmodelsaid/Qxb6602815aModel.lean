/-
  THE MODEL's FUNCTIONS, WALKED: the names in order; each at its first place; two lists of names that are one.
-/
import Derived.Test.Qxb6602815aAccounts
import Derived.Test.Qxb6602815aClones
namespace Go.Proofs.Qxb6602815a
open Go.RowKit

set_option maxHeartbeats 400000 in
theorem same_yes {aa ba : Option Addr} {len ab ao bb bo : Nat} (ac bc : Nat) {ss : List ByteArray} (w : World) (ha : Strs w aa len ab ao ss) (hb : Strs w ba len bb bo ss) (hl : len ≤ 4194304) :
    Calls Try.prog 16 #[.slice aa len ac, .slice ba len bc] w fun e w' => e = .returned (.bool true) ∧ Below w.heap.size w w' := by
  have hia := ha.ix ac
  have hib := hb.ix bc
  go_enter Try.func16, Try.ntmps16
  go_wp2
  go_loopw [5] (fun i wr => ∃ k : Nat, k ≤ len ∧ i = .int .i64 k ∧ Below w.heap.size w wr) (fun i _ => len - (intOf i).toNat)
  case atStart => exact ⟨0, Nat.zero_le _, rfl, Below.refl _ _⟩
  case round =>
    obtain ⟨k, hk, rfl, hnx⟩ := hrel
    by_cases hlt : k < len
    · have hk' : k < ss.length := by rw [ha.size]; exact hlt
      have ca := cell_kept hnx (ha.cell k hk')
      have cb := cell_kept hnx (hb.cell k hk')
      go_wp2
      go_region
      go_wp2
      go_roundw
      case rel => exact ⟨k + 1, by omega, by go_num, hnx.drew⟩
      case measure => simp [intOf]; omega
    · go_wp2
      go_ret
      exact ⟨rfl, hnx⟩

/-- block B is a row of n names' cells, of which the first k hold the names ss. -/
def FillS (w : World) (B n k : Nat) (ss : List ByteArray) : Prop :=
  ∃ f, w.rowIs B 9 n f ∧ ∀ j (h : j < ss.length), j < k → f j = .string ss[j]

theorem FillS.step {w : World} {B n k : Nat} {ss : List ByteArray} (h : FillS w B n k ss) (hk : k < ss.length) {s : ByteArray} (hs : ss[k] = s) : FillS (w.setCell ⟨B, k, none⟩ (.string s)) B n (k + 1) ss := by
  obtain ⟨f, hf, hv⟩ := h
  refine ⟨_, hf.set k (.string s), fun j hj hjk => ?_⟩
  by_cases e : j = k
  · subst e
    rw [hs]
    simp
  · rw [if_neg e]
    exact hv j hj (by omega)

theorem FillS.cells {w : World} {B n k : Nat} {ss : List ByteArray} (h : FillS w B n k ss) (j : Nat) (hj : j < n) : (∃ v, w.cell? ⟨B, j, none⟩ = some v) ∧ w.frozen? ⟨B, j, none⟩ = false := by
  obtain ⟨f, hf, _⟩ := h
  exact ⟨⟨_, hf.cell hj⟩, hf.frozen _⟩

theorem FillS.strs {w : World} {B n : Nat} {ss : List ByteArray} (h : FillS w B n n ss) (hn : ss.length = n) : Strs w (some ⟨B, 0, none⟩) n B 0 ss := by
  obtain ⟨f, hf, hv⟩ := h
  refine ⟨hn, fun _ => rfl, fun k hk => ?_⟩
  rw [Nat.zero_add, hf.cell (by omega), hv k hk (by omega)]

theorem FillS.made (w : World) (n : Nat) (ss : List ByteArray) : FillS (w.alloc (.cells (madeCells #[.string ⟨#[]⟩] n) 9)) w.heap.size n 0 ss :=
  ⟨_, World.rowIs_made w _ _ _, fun j _ hj => by omega⟩

set_option maxHeartbeats 800000 in
theorem names_any {aa ba : Option Addr} {la ab ao lb bb bo : Nat} (ac bc : Nat) {xs ys : List Pr} (w : World) (ha : Prs w aa la ab ao xs) (hb : Prs w ba lb bb bo ys) (hla : la ≤ 2097152) (hlb : lb ≤ 2097152) :
    Calls Try.prog 13 #[.slice aa la ac, .slice ba lb bc] w fun e w' => ∃ ao' cap' b' off', e = .returned (.slice ao' (la + lb) cap') ∧ Strs w' ao' (la + lb) b' off' (xs.map (·.1) ++ ys.map (·.1)) ∧ Below w.heap.size w w' := by
  have hia := ha.ix22 ac
  have hib := hb.ix23 bc
  have hmk := run_make_row' (P := Try.prog) 32 9 (.string ⟨#[]⟩) 16 Try.underlying32 info9 rfl .i64 .i64 (la + lb) (by omega) (by omega)
  rw [show ((la + lb : Nat) : Int) = (la : Int) + (lb : Int) from by omega] at hmk
  have hto : ∀ j : Nat, ((la : Int) + (j : Int)).toNat = la + j := fun j => by omega
  have hX : Hid ((xs.map (·.1)).length = la) := by unfold Hid; rw [List.length_map, ha.size]
  have S : Hid ((xs.map (·.1) ++ ys.map (·.1)).length = la + lb) := by unfold Hid; rw [List.length_append, List.length_map, List.length_map, ha.size, hb.size]
  have hna : ∀ k (h : k < (xs.map (·.1)).length), w.cell? ⟨ab, ao + k * 2, none⟩ = some (.string (xs.map (·.1))[k]) := fun k h => by simpa using ha.name k (by simpa using h)
  have hnb : ∀ k (h : k < (ys.map (·.1)).length), w.cell? ⟨bb, bo + k * 2, none⟩ = some (.string (ys.map (·.1))[k]) := fun k h => by simpa using hb.name k (by simpa using h)
  have hY : Hid ((ys.map (·.1)).length = lb) := by unfold Hid; rw [List.length_map, hb.size]
  generalize xs.map (·.1) = xn at *
  generalize ys.map (·.1) = yn at *
  go_enter Try.func13, Try.ntmps13
  go_wp2
  go_loopw [6] (fun i wr => ∃ k : Nat, k ≤ la ∧ i = .int .i64 k ∧ FillS wr w.heap.size (la + lb) k (xn ++ yn) ∧ Below w.heap.size w wr) (fun i _ => la - (intOf i).toNat)
  case atStart => exact ⟨0, Nat.zero_le _, rfl, FillS.made _ _ _, (Below.refl _ _).alloc (Nat.le_refl _) _⟩
  case round =>
    obtain ⟨k, hk, rfl, hfill, hnx⟩ := hrel
    by_cases hlt : k < la
    · have hk' : k < xn.length := by rw [hX.out]; exact hlt
      have hc0 := cell_kept hnx (hna k hk')
      obtain ⟨⟨v0, d0⟩, f0⟩ := hfill.cells k (by omega)
      go_wp2
      go_roundw
      case rel => exact ⟨k + 1, by omega, by go_num, hfill.step (by rw [S.out]; omega) (by rw [List.getElem_append_left hk']), hnx.setCell (Nat.le_refl _) _⟩
      case measure => simp [intOf]; omega
    · obtain rfl : k = la := by omega
      go_wp2
      go_loopw [7] (fun i wr => ∃ j : Nat, j ≤ lb ∧ i = .int .i64 j ∧ FillS wr w.heap.size (k + lb) (k + j) (xn ++ yn) ∧ Below w.heap.size w wr) (fun i _ => lb - (intOf i).toNat)
      case atStart => exact ⟨0, Nat.zero_le _, rfl, hfill, hnx⟩
      case round =>
        obtain ⟨j, hj, rfl, hfill, hnx⟩ := hrel
        by_cases hlt : j < lb
        · have hj' : j < yn.length := by rw [hY.out]; exact hlt
          have hc0 := cell_kept hnx (hnb j hj')
          obtain ⟨⟨v0, d0⟩, f0⟩ := hfill.cells (k + j) (by omega)
          go_wp2
          go_roundw
          case rel => exact ⟨j + 1, by omega, by go_num, hfill.step (by rw [S.out]; omega) (append_at xn yn k j hX.out hj' _), hnx.setCell (Nat.le_refl _) _⟩
          case measure => simp [intOf]; omega
        · obtain rfl : j = lb := by omega
          go_wp2
          go_ret
          exact ⟨_, _, _, _, rfl, hfill.strs S.out, hnx⟩

theorem ownsRow_below {w w' : World} {base : Nat} {e : TypeId} {size : Nat} {v : Value} {n : Nat} {xs : List Value} (h : w.ownsRow base e size v n xs) (hb : Below w.heap.size w w') : w'.ownsRow base e size v n xs :=
  h.kept (row := none) ⟨hb.os, hb.tape, hb.output, hb.size, fun k hk _ => hb.block k hk⟩ (by
    rcases v.ownBlock with _ | x
    · exact Or.inl rfl
    · exact Or.inr (by simp))

theorem first_old (ss : List ByteArray) (j k : Nat) (hjk : j < k) (hk : k < ss.length) (he : (ss[j].toList == ss[k].toList) = true) : Plain.dd (ss.take (k + 1)) = Plain.dd (ss.take k) := by
  refine Plain.dd_take_old ss k hk ?_
  rw [← eq_of_toList he]
  exact List.mem_take_iff_getElem.2 ⟨j, by omega, rfl⟩

/-- what a round of the gathering does: a name that is new. -/
theorem first_new {w1 : World} {base k : Nat} {ss : List ByteArray} {v' : Value} (hk : k < ss.length) (hno : Plain.isIn (ss.take k) ss[k] = false)
    (hown' : w1.ownsRow base 9 1 v' ((Plain.dd (ss.take k)).length + 1) ((Plain.dd (ss.take k)).map Value.string ++ [.string ss[k]])) :
    w1.ownsRow base 9 1 v' (Plain.dd (ss.take (k + 1))).length ((Plain.dd (ss.take (k + 1))).map Value.string) ∧ (Plain.dd (ss.take (k + 1)) = [] → v' = .slice none 0 0) := by
  have hn : ss[k] ∉ ss.take k := fun h => by rw [(Plain.isIn_iff _ _).2 h] at hno; cases hno
  rw [Plain.dd_take_new ss k hk hn]
  exact ⟨by simpa using hown', fun h => by simp at h⟩

set_option maxHeartbeats 800000 in
theorem firstSeen_any {ao : Option Addr} {len b off : Nat} (cap : Nat) {ss : List ByteArray} (w : World) (h : Strs w ao len b off ss) (hl : len ≤ 4194304) :
    Calls Try.prog 12 #[.slice ao len cap] w fun e w' => ∃ ao' n cap' b' off', e = .returned (.slice ao' n cap') ∧ Strs w' ao' n b' off' (Plain.dd ss) ∧ ao'.isNone = (Plain.dd ss).isEmpty ∧ Below w.heap.size w w' := by
  have hix := h.ix cap
  obtain ⟨i0, hi, hz0, hz1, hz2⟩ := info_parts info9
  go_enter Try.func12, Try.ntmps12
  go_wp2
  go_loopw [3, 4] (fun v i wr => ∃ k : Nat, k ≤ len ∧ i = .int .i64 k ∧ wr.ownsRow w.heap.size 9 1 v (Plain.dd (ss.take k)).length ((Plain.dd (ss.take k)).map Value.string) ∧ (Plain.dd (ss.take k) = [] → v = .slice none 0 0) ∧ Below w.heap.size w wr) (fun _ i _ => len - (intOf i).toNat)
  case atStart => exact ⟨0, Nat.zero_le _, rfl, World.ownsRow_nil _ _ _ _, fun _ => rfl, Below.refl _ _⟩
  case round =>
    obtain ⟨k, hk, rfl, hown, hnil, hnx⟩ := hrel
    have hlenk : (Plain.dd (ss.take k)).length ≤ k := Nat.le_trans (Plain.len_dd _) (List.length_take_le _ _)
    by_cases hlt : k < len
    · have hk' : k < ss.length := by rw [h.size]; exact hlt
      obtain ⟨wo, rfl⟩ : ∃ wo : World, wo = wr := ⟨_, rfl⟩
      go_wp2
      go_loopw [5, 6] (fun d i wi => ∃ j : Nat, j ≤ k ∧ i = .int .i64 j ∧ d = .bool false ∧ Plain.isIn (ss.take j) ss[k] = false ∧ Below wo.heap.size wo wi) (fun _ i _ => k - (intOf i).toNat)
      case atStart => exact ⟨0, Nat.zero_le _, rfl, rfl, rfl, Below.refl _ _⟩
      case round =>
        obtain ⟨j, hj, rfl, rfl, hno, hin⟩ := hrel
        have HN : Hid (Plain.isIn (ss.take j) ss[k] = false) := hno
        clear hno
        by_cases hjk : j < k
        · have hj' : j < ss.length := by omega
          have hjl : j < len := by omega
          have cj := cell_kept hin (cell_kept hnx (h.cell j hj'))
          have ck := cell_kept hin (cell_kept hnx (h.cell k hk'))
          go_wp2
          go_region
          go_wp2
          · have he : (ss[j].toList == ss[k].toList) = true := by assumption
            have ho := first_old ss j k hjk hk' he
            have hown2 := ownsRow_below hown hin
            have hbel := below_keep hnx hin
            go_roundw
            case rel => exact ⟨k + 1, by omega, by go_num, by rw [ho]; exact hown2.drew, by rw [ho]; exact hnil, hbel.drew⟩
            case measure => simp [intOf]; omega
          · have he : (ss[j].toList == ss[k].toList) = false := by assumption
            go_roundw
            case rel => exact ⟨j + 1, by omega, by go_num, rfl, in_take_no ss ss[k] j hj' HN.out he, hin.drew⟩
            case measure => simp [intOf]; omega
        · obtain rfl : j = k := by omega
          have hown2 := ownsRow_below hown hin
          have hbel := below_keep hnx hin
          have ck := cell_kept hin (cell_kept hnx (h.cell j hk'))
          clear hin hown hnx
          go_wp2_with (at_builtin; refine wpList_append_own _ rfl _ _ 32 rfl w.heap.size 9 i0 (.string ⟨#[]⟩) 1 16 Try.underlying32 hi hz0 hz1 hz2 rfl (by decide) _ _ _ rfl (hown2.alloc _) ⟨wr.heap.size, 0, none⟩ 1 1 [.string ss[j]] rfl rfl (cell_one_new _ _ _) ?c2 ?c3 ?c4 ?c5 ?_)
          case c2 => intro u hu; simp at hu; subst hu; rfl
          case c3 => unfold maxLen; omega
          case c4 => omega
          case c5 => have := hbel.size; simp; omega
          intro v' w2 hown' hgrow2 _
          obtain ⟨hnew, hnil2⟩ := first_new hk' HN.out hown'
          have hbel2 := (hbel.alloc hbel.size (.cells #[.string ss[j]] 9)).grown hgrow2 (by have := hbel.size; simp; omega) (fun q hq => (hown2.lt q hq).1)
          clear hown' hgrow2 hown2 hbel hnil HN
          go_wp2
          go_roundw
          case rel => exact ⟨j + 1, by omega, by go_num, hnew, hnil2, hbel2⟩
          case measure => simp [intOf]; omega
    · obtain rfl : k = len := by omega
      have hall : ss.take k = ss := List.take_of_length_le (by rw [h.size]; omega)
      rw [hall] at hown hnil
      clear hall hlenk
      obtain ⟨ao', cap', b', off', HV', hst, hno⟩ := row_strs hown hnil
      go_wp2
      go_ret
      exact ⟨ao', _, cap', b', off', congrArg Ending.returned HV'.out, hst, hno, hnx⟩

end Go.Proofs.Qxb6602815a
