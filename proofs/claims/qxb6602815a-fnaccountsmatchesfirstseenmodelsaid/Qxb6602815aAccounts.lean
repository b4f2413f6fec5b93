/-
  Accounts, WALKED: of a transaction that settles nothing: each name of its checks and updates once; of one that settles: nil, or those of the one that it holds.
-/
import Derived.Test.Qxb6602815aSeen
namespace Go.Proofs.Qxb6602815a
open Go.RowKit Go.Maps Go.WideMaps

/-- the names of the checks, then those of the updates. -/
def HV.names (H : HV) : List ByteArray := H.cs.map (·.1) ++ H.us.map (·.1)

/-- a transaction in memory, as far as Accounts looks at it. -/
structure TxAt (w : World) (b : Nat) (H : HV) (held : Option Addr) : Prop where
  c1 : w.cell? ⟨b, 1, none⟩ = some (.slice H.ca H.cl H.cc)
  c2 : w.cell? ⟨b, 2, none⟩ = some (.slice H.ua H.ul H.uc)
  c5 : w.cell? ⟨b, 5, none⟩ = some (.string H.post)
  c6 : w.cell? ⟨b, 6, none⟩ = some (.string H.void)
  c7 : w.cell? ⟨b, 7, none⟩ = some (.pointer held)
  pc : Prs w H.ca H.cl H.cb H.co H.cs
  pu : Prs w H.ua H.ul H.ub H.uo H.us

theorem TxAt.kept {w w' : World} {b : Nat} {H : HV} {held : Option Addr} (h : TxAt w b H held) (hb : Below w.heap.size w w') : TxAt w' b H held :=
  ⟨cell_kept hb h.c1, cell_kept hb h.c2, cell_kept hb h.c5, cell_kept hb h.c6, cell_kept hb h.c7, h.pc.kept hb, h.pu.kept hb⟩

set_option maxHeartbeats 400000 in
theorem settles_no (b : Nat) (post void : ByteArray) (w : World) (c5 : w.cell? ⟨b, 5, none⟩ = some (.string post)) (c6 : w.cell? ⟨b, 6, none⟩ = some (.string void)) (h : post.toList.isEmpty = true) :
    Calls Try.prog 28 #[.pointer (some ⟨b, 0, none⟩)] w fun e w' => e = .returned (.string void) ∧ w = w' := by
  go_enter Try.func28, Try.ntmps28
  go_wp2
  go_ret
  exact ⟨rfl, rfl⟩

set_option maxHeartbeats 400000 in
theorem settles_yes (b : Nat) (post void : ByteArray) (w : World) (c5 : w.cell? ⟨b, 5, none⟩ = some (.string post)) (c6 : w.cell? ⟨b, 6, none⟩ = some (.string void)) (h : (post.toList.isEmpty && void.toList.isEmpty) = false) :
    Calls Try.prog 28 #[.pointer (some ⟨b, 0, none⟩)] w fun e w' => ∃ s : ByteArray, e = .returned (.string s) ∧ s.toList.isEmpty = false ∧ w = w' := by
  rcases hp : post.toList.isEmpty with _ | _
  · go_enter Try.func28, Try.ntmps28
    go_wp2
    go_ret
    exact ⟨post, rfl, hp, rfl⟩
  · rw [hp] at h
    have hv : void.toList.isEmpty = false := by simpa using h
    clear h
    refine (settles_no b post void w c5 c6 hp).mono ?_
    rintro e w' ⟨rfl, rfl⟩
    exact ⟨void, rfl, hv, rfl⟩

theorem inv_start (w : World) : Inv w.heap.size 0 [] (((w.alloc (.cells #[.slice none 0 0] 32)).alloc (.map #[] 0)).alloc (.cells #[.map (some (w.heap.size + 1))] 60)) := by
  have h0 : (w.alloc (.cells #[.slice none 0 0] 32)).heap[w.heap.size]? = some (.cells #[.slice none 0 0] 32 (0, 0)) := heap_alloc_new _ _
  refine ⟨⟨.slice none 0 0, ?_, World.ownsRow_nil _ _ _ _, fun _ => rfl⟩, ?_, ?_⟩
  · rw [Below.heap_alloc _ _ _ (by simp; omega), Below.heap_alloc _ _ _ (by simp)]
    exact h0
  · have h1 := (World.ownsMap_made (H := Unit) (w.alloc (.cells #[.slice none 0 0] 32)) Try.prog 9 (plainElem Try.prog 4)).alloc (.cells #[.map (some (w.heap.size + 1))] 60)
    have e : seenD [] = .map [] := rfl
    rw [e]
    simpa using h1
  · have h2 := heap_alloc_new ((w.alloc (.cells #[.slice none 0 0] 32)).alloc (.map #[] 0)) (.cells #[.map (some (w.heap.size + 1))] 60)
    simpa using h2

theorem mem_names_c (H : HV) (k : Nat) (h : k < H.cs.length) : H.cs[k].1 ∈ H.names := List.mem_append_left _ (List.mem_map.2 ⟨_, List.getElem_mem h, rfl⟩)
theorem mem_names_u (H : HV) (k : Nat) (h : k < H.us.length) : H.us[k].1 ∈ H.names := List.mem_append_right _ (List.mem_map.2 ⟨_, List.getElem_mem h, rfl⟩)
theorem dd_round_c (H : HV) (k : Nat) (h : k < H.cs.length) : Plain.dd ((H.cs.map (·.1)).take (k + 1)) = Plain.add1 (Plain.dd ((H.cs.map (·.1)).take k)) H.cs[k].1 := by
  rw [Plain.take_snoc _ k (by simpa using h), Plain.dd_snoc, List.getElem_map]
theorem dd_round_u (H : HV) (k : Nat) (h : k < H.us.length) : Plain.dd (H.cs.map (·.1) ++ (H.us.map (·.1)).take (k + 1)) = Plain.add1 (Plain.dd (H.cs.map (·.1) ++ (H.us.map (·.1)).take k)) H.us[k].1 := by
  rw [Plain.take_snoc _ k (by simpa using h), ← List.append_assoc, Plain.dd_snoc, List.getElem_map]

theorem inv_second (H : HV) {B : Nat} {w : World} (h : H.cs.length = H.cl) (hinv : Inv B H.cl (Plain.dd ((H.cs.map (·.1)).take H.cl)) w) : Inv B (H.cl + 0) (Plain.dd (H.cs.map (·.1) ++ (H.us.map (·.1)).take 0)) w := by
  rw [List.take_of_length_le (by simp [h])] at hinv
  simpa using hinv
theorem inv_last (H : HV) {B n : Nat} {w : World} (h : H.us.length = H.ul) (hinv : Inv B n (Plain.dd (H.cs.map (·.1) ++ (H.us.map (·.1)).take H.ul)) w) : Inv B n (Plain.dd H.names) w := by
  rw [List.take_of_length_le (by simp [h])] at hinv
  exact hinv
theorem len_second (H : HV) (j : Nat) (h : H.cs.length = H.cl) : (Plain.dd (H.cs.map (·.1) ++ (H.us.map (·.1)).take j)).length ≤ H.cl + j := by
  refine Nat.le_trans (Plain.len_dd _) ?_
  have := List.length_take_le j (H.us.map (·.1))
  rw [List.length_append, List.length_map, h]
  omega
/-- a list of names that the call has built reads as those names; it is nil just if there are none. -/
theorem row_strs {w : World} {base : Nat} {v : Value} {ss : List ByteArray} (h : w.ownsRow base 9 1 v ss.length (ss.map Value.string)) (hnil : ss = [] → v = .slice none 0 0) :
    ∃ ao cap b off, Hid (v = .slice ao ss.length cap) ∧ Strs w ao ss.length b off ss ∧ ao.isNone = ss.isEmpty := by
  by_cases he : ss = []
  · have hv := hnil he
    subst he
    exact ⟨none, 0, 0, 0, hv, ⟨rfl, fun h => absurd h (by simp), fun k hk => absurd hk (by simp)⟩, rfl⟩
  · rcases h.2 with ⟨_, h0⟩ | ⟨g, cap, _, hv, _⟩
    · exact absurd (List.length_eq_zero_iff.1 h0) he
    · refine ⟨some ⟨g, 0, none⟩, cap, g, 0, hv, ⟨rfl, fun _ => rfl, fun k hk => ?_⟩, by cases ss with | nil => exact absurd rfl he | cons a r => rfl⟩
      subst hv
      have := h.cellAt k (by omega)
      simpa [hk] using this

set_option maxRecDepth 100000 in
set_option maxHeartbeats 800000 in
theorem accounts_plain (b : Nat) (H : HV) (held : Option Addr) (w : World) (h : TxAt w b H held) (hp : H.post.toList.isEmpty = true) (hv : H.void.toList.isEmpty = true) (hcl : H.cl ≤ 1048576) (hul : H.ul ≤ 2097152) (hsh : ∀ s ∈ H.names, s.size ≤ maxLen) :
    Calls Try.prog 15 #[.pointer (some ⟨b, 0, none⟩)] w fun e w' => ∃ ao n cap b' off', e = .returned (.slice ao n cap) ∧ Strs w' ao n b' off' (Plain.dd H.names) ∧ ao.isNone = (Plain.dd H.names).isEmpty ∧ Below w.heap.size w w' := by
  obtain ⟨c1, c2, c5, c6, _, pc, pu⟩ := h
  have ixc := pc.ix41 H.cc
  have ixu := pu.ix43 H.uc
  have hmm := @run_makeMap Try.prog
  have hB3 : ∀ o1 o2 o3, Below w.heap.size w (((w.alloc o1).alloc o2).alloc o3) := fun o1 o2 o3 => (((Below.refl _ _).alloc (Nat.le_refl _) _).alloc (by simp) _).alloc (by simp; omega) _
  have c1' := fun o1 o2 o3 => cell_kept (hB3 o1 o2 o3) c1
  have hinv0 : Inv w.heap.size 0 [] (((w.alloc (.cells #[.slice none 0 0] 32)).alloc (.map #[] 0)).alloc (.cells #[.map (some (w.heap.size + 1))] 60)) := inv_start w
  go_enter Try.func15, Try.ntmps15
  go_wp2_with (go_at_call 28; refine (settles_no _ _ _ _ (by assumption) (by assumption) hp).mono ?_; rintro e w' ⟨rfl, rfl⟩)
  go_loopw [30] (fun i wr => ∃ k : Nat, k ≤ H.cl ∧ i = .int .i64 k ∧ Inv w.heap.size k (Plain.dd ((H.cs.map (·.1)).take k)) wr ∧ Below w.heap.size w wr) (fun i _ => H.cl - (intOf i).toNat)
  case atStart => exact ⟨0, Nat.zero_le _, rfl, hinv0, hB3 _ _ _⟩
  case round =>
    clear c1' hB3 hinv0 hmm
    obtain ⟨k, hk, rfl, hinv, hnx⟩ := hrel
    by_cases hlt : k < H.cl
    · have hk' : k < H.cs.length := by rw [pc.size]; exact hlt
      have hc0 := cell_kept hnx (pc.name k hk')
      have hc1 := cell_kept hnx (pc.num k hk')
      have hs := hsh _ (mem_names_c H k hk')
      have hlen := Plain.len_dd ((H.cs.map (·.1)).take k)
      have hlen' : (Plain.dd ((H.cs.map (·.1)).take k)).length ≤ k := Nat.le_trans hlen (List.length_take_le _ _)
      clear hlen
      go_wp2_with (go_at_call 29; refine (addName_any w.heap.size k _ _ _ (hinv.alloc _) hs (by omega) hlen').mono ?_; rintro e w2 ⟨rfl, hinv', hbel⟩)
      go_roundw
      case rel => exact ⟨k + 1, by omega, by go_num, by rw [dd_round_c H k hk']; assumption, (hnx.alloc hnx.size _).trans (by assumption)⟩
      case measure => simp [intOf]; omega
    · obtain rfl : k = H.cl := by omega
      have c2' := cell_kept hnx c2
      go_wp2
      go_loopw [44] (fun i wr => ∃ j : Nat, j ≤ H.ul ∧ i = .int .i64 j ∧ Inv w.heap.size (H.cl + j) (Plain.dd (H.cs.map (·.1) ++ (H.us.map (·.1)).take j)) wr ∧ Below w.heap.size w wr) (fun i _ => H.ul - (intOf i).toNat)
      case atStart => exact ⟨0, Nat.zero_le _, rfl, inv_second H pc.size hinv, hnx⟩
      case round =>
        obtain ⟨j, hj, rfl, hinv, hnx⟩ := hrel
        by_cases hlt : j < H.ul
        · have hj' : j < H.us.length := by rw [pu.size]; exact hlt
          have hc0 := cell_kept hnx (pu.name j hj')
          have hc1 := cell_kept hnx (pu.num j hj')
          have hs := hsh _ (mem_names_u H j hj')
          have hlen := len_second H j pc.size
          go_wp2_with (go_at_call 29; refine (addName_any w.heap.size (H.cl + j) _ _ _ (hinv.alloc _) hs (by omega) hlen).mono ?_; rintro e w2 ⟨rfl, hinv', hbel⟩)
          go_roundw
          case rel => exact ⟨j + 1, by omega, by go_num, by rw [dd_round_u H j hj']; assumption, (hnx.alloc hnx.size _).trans (by assumption)⟩
          case measure => simp [intOf]; omega
        · obtain rfl : j = H.ul := by omega
          have hinv2 := inv_last H pu.size hinv
          clear hinv
          obtain ⟨⟨v, hv, hown, hnil⟩, _, _⟩ := hinv2
          have cN := cell_of_one hv
          obtain ⟨ao, cap, b', off', HV', hst, hno⟩ := row_strs hown hnil
          go_wp2
          go_ret
          exact ⟨ao, _, cap, b', off', congrArg Ending.returned HV'.out, hst, hno, hnx⟩

set_option maxRecDepth 100000 in
set_option maxHeartbeats 800000 in
theorem accounts_none (b : Nat) (H : HV) (w : World) (h : TxAt w b H none) (hs : (H.post.toList.isEmpty && H.void.toList.isEmpty) = false) :
    Calls Try.prog 15 #[.pointer (some ⟨b, 0, none⟩)] w fun e w' => e = .returned (.slice none 0 0) ∧ w = w' := by
  obtain ⟨_, _, c5, c6, c7, _, _⟩ := h
  have HS : Hid ((H.post.toList.isEmpty && H.void.toList.isEmpty) = false) := hs
  clear hs
  go_enter Try.func15, Try.ntmps15
  go_wp2_with (go_at_call 28; refine (settles_yes _ _ _ _ (by assumption) (by assumption) HS.out).mono ?_; rintro e w' ⟨s, rfl, hne, rfl⟩)
  go_ret
  exact ⟨rfl, rfl⟩

/-- of a transaction that settles one: what the one that it holds gives, whatever that is. -/
theorem accounts_held (b b2 : Nat) (H : HV) (w : World) (h : TxAt w b H (some ⟨b2, 0, none⟩)) (hs : (H.post.toList.isEmpty && H.void.toList.isEmpty) = false) {Q : Ending → World → Prop}
    (hin : Calls Try.prog 15 #[.pointer (some ⟨b2, 0, none⟩)] w fun e w' => ∃ ao n cap, e = .returned (.slice ao n cap) ∧ Q e w') :
    Calls Try.prog 15 #[.pointer (some ⟨b, 0, none⟩)] w Q := by
  obtain ⟨_, _, c5, c6, c7, _, _⟩ := h
  have HS : Hid ((H.post.toList.isEmpty && H.void.toList.isEmpty) = false) := hs
  clear hs
  have HI : Hid (Calls Try.prog 15 #[.pointer (some ⟨b2, 0, none⟩)] w fun e w' => ∃ ao n cap, e = .returned (.slice ao n cap) ∧ Q e w') := hin
  clear hin
  go_enter Try.func15, Try.ntmps15
  go_wp2_with (first
    | (go_at_call 28; refine (settles_yes _ _ _ _ (by assumption) (by assumption) HS.out).mono ?_; rintro e w' ⟨s, rfl, hne, rfl⟩)
    | (go_at_call 15; refine HI.out.mono ?_; rintro e w' ⟨ao, n, cap, rfl, hq⟩))
  show Q (Ending.returned (.slice _ _ _)) _
  assumption

end Go.Proofs.Qxb6602815a
