/-
  THE LAW FnAccountsAppendKeepsPrefix, WALKED out of the contracts of what it calls: it answers true, and nothing that was there turns.
-/
import Derived.Test.Qxb6602815aReads
import Derived.Test.Qxb6602815aSizes
import Derived.Test.Qxb6602815aBytes
import Derived.Test.Qxb6602815aTx
namespace Go.Proofs.Qxb6602815a
open Go.RowKit

/-- Accounts of a transaction that was just laid and settles nothing. -/
theorem accounts_of (b : Nat) (H : HV) (cs us : List Pr) (cl ul : Nat) (w : World) (h : TxAt w b H none) (hE : H.cs = cs ∧ H.us = us ∧ H.cl = cl ∧ H.ul = ul ∧ H.post = ⟨#[]⟩ ∧ H.void = ⟨#[]⟩) (hcl : cl ≤ 1048576) (hul : ul ≤ 2097152)
    (hsc : ∀ p ∈ cs, p.1.size ≤ maxLen) (hsu : ∀ p ∈ us, p.1.size ≤ maxLen) :
    Calls Try.prog 15 #[.pointer (some ⟨b, 0, none⟩)] w fun e w' => ∃ ao n cap b' off', e = .returned (.slice ao n cap) ∧ Strs w' ao n b' off' (Plain.dd (cs.map (·.1) ++ us.map (·.1))) ∧ Below w.heap.size w w' := by
  obtain ⟨e1, e2, e3, e4, e5, e6⟩ := hE
  have hn : H.names = cs.map (·.1) ++ us.map (·.1) := by unfold HV.names; rw [e1, e2]
  refine (accounts_plain b H none w h (by rw [e5, ByteArray.toList_eq]; rfl) (by rw [e6, ByteArray.toList_eq]; rfl) (by omega) (by omega) ?_).mono ?_
  · intro s hs
    rw [hn] at hs
    rcases List.mem_append.1 hs with hs | hs
    · obtain ⟨p, hp, rfl⟩ := List.mem_map.1 hs
      exact hsc p hp
    · obtain ⟨p, hp, rfl⟩ := List.mem_map.1 hs
      exact hsu p hp
  · rintro e w' ⟨ao, n, cap, b', off', rfl, hst, _, hb⟩
    rw [hn] at hst
    exact ⟨ao, n, cap, b', off', rfl, hst, hb⟩

/-- THE PLAIN LAW, as the walk wants it. -/
theorem plain5 (cs us ms : List Pr) : ∃ R, Plain.dd (cs.map (·.1) ++ (us ++ ms).map (·.1)) = Plain.dd (cs.map (·.1) ++ us.map (·.1)) ++ R ∧ (Plain.dd (cs.map (·.1) ++ (us ++ ms).map (·.1))).length ≤ cs.length + us.length + ms.length ∧
    (∀ x ∈ R, x ∉ Plain.dd (cs.map (·.1) ++ us.map (·.1)) ∧ x ∈ ms.map (·.1)) ∧ ∀ x ∈ ms.map (·.1), x ∈ Plain.dd (cs.map (·.1) ++ us.map (·.1)) ++ R := by
  obtain ⟨R, hR, hx⟩ := Plain.dd_append (cs.map (·.1) ++ us.map (·.1)) (ms.map (·.1))
  have hA : Plain.dd (cs.map (·.1) ++ (us ++ ms).map (·.1)) = Plain.dd (cs.map (·.1) ++ us.map (·.1)) ++ R := by rw [List.map_append, ← List.append_assoc, hR]
  refine ⟨R, hA, ?_, hx, fun x h => ?_⟩
  · refine Nat.le_trans (Plain.len_dd _) ?_
    simp
    omega
  · rw [← hR, Plain.mem_dd]
    exact List.mem_append_right _ h

theorem cell_left {w : World} {ao : Option Addr} {len b off : Nat} {xs ys : List ByteArray} (h : Strs w ao len b off (xs ++ ys)) (k : Nat) (hk : k < xs.length) : w.cell? ⟨b, off + k, none⟩ = some (.string xs[k]) := by
  rw [h.cell k (by rw [List.length_append]; omega), List.getElem_append_left hk]

theorem cell_right {w : World} {ao : Option Addr} {len b off : Nat} {xs ys : List ByteArray} (h : Strs w ao len b off (xs ++ ys)) (k : Nat) (hk : xs.length ≤ k) (hlt : k < len) : ∃ s, w.cell? ⟨b, off + k, none⟩ = some (.string s) ∧ s ∈ ys := by
  have hk' : k < (xs ++ ys).length := by rw [h.size]; exact hlt
  refine ⟨(xs ++ ys)[k], h.cell k hk', ?_⟩
  rw [List.getElem_append_right hk]
  exact List.getElem_mem _

set_option maxRecDepth 100000 in
set_option maxHeartbeats 2000000 in
theorem walk5 (id : ByteArray) {ca ua ma : Option Addr} {cl cb co ul ub uo ml mb mo : Nat} (cc uc mc : Nat) {cs us ms : List Pr} {dl hl : Option Addr} (w : World) (pc : Prs w ca cl cb co cs) (pu : Prs w ua ul ub uo us) (pm : Prs w ma ml mb mo ms)
    (pd : PtrAt w dl) (ph : PtrAt w hl) (hsc : ∀ p ∈ cs, p.1.size ≤ maxLen) (hsu : ∀ p ∈ us, p.1.size ≤ maxLen) (hsm : ∀ p ∈ ms, p.1.size ≤ maxLen) :
    Calls Try.prog 5 #[.string id, .slice ca cl cc, .slice ua ul uc, .slice ma ml mc, .pointer dl, .pointer hl] w fun e w' => e = .returned (.bool true) ∧ Below w.heap.size w w' := by
  go_enter Try.func5, Try.ntmps5
  go_wp2_with fail
  refine (bytes5_any id cc uc mc dl hl _ pc pu pm).mono ?_
  rintro e w' ⟨r, rfl, hr, hw⟩
  have hw2 := hw.symm
  clear hw
  subst hw2
  rcases r with _ | _
  · clear hr
    go_wp2
    go_ret
    exact ⟨rfl, Below.refl _ _⟩
  obtain ⟨hcl, hul, hml⟩ := hr rfl
  clear hr
  go_wp2_with fail
  refine (size_any id ⟨#[]⟩ ⟨#[]⟩ cc uc _ pc pu (Or.inl rfl : HeldP w none HV.empty)).mono ?_
  rintro e w' ⟨r, rfl, hr0, hr1, hw⟩
  have hw2 := hw.symm
  clear hw
  subst hw2
  go_wp2_with fail
  refine (updatesBytes_any mc _ _ pm hr0 hr1).mono ?_
  rintro e w' ⟨r2, rfl, hr2, hr3, hw⟩
  have hw2 := hw.symm
  clear hw
  subst hw2
  clear hr0 hr1 hr2 hr3
  by_cases hbig : 1048576 < r2
  · go_wp2
    go_ret
    exact ⟨rfl, Below.refl _ _⟩
  have hbF : decide (1048576 < r2) = false := by simpa using hbig
  clear hbig
  have HC : Hid (cs.length = cl ∧ us.length = ul ∧ ms.length = ml) := ⟨pc.size, pu.size, pm.size⟩
  go_wp2_with fail
  clear hbF
  refine (cloneChecks_any cc _ pc (by omega)).mono ?_
  rintro e w1 ⟨ca1, cc1, cb1, co1, rfl, pc1, hb1⟩
  have pu1 := pu.kept hb1
  have pm1 := pm.kept hb1
  have pd1 := pd.kept hb1
  have ph1 := ph.kept hb1
  clear pc pu pm pd ph
  go_wp2_with fail
  refine (cloneUpdates_any uc _ pu1 (by omega)).mono ?_
  rintro e w2 ⟨ua2, uc2, ub2, uo2, rfl, pu2, hb2⟩
  have pc2 := pc1.kept hb2
  have pm2 := pm1.kept hb2
  have pd2 := pd1.kept hb2
  have ph2 := ph1.kept hb2
  have hbb := below_keep hb1 hb2
  clear pc1 pu1 pm1 pd1 ph1 hb1 hb2
  go_wp2_with fail
  refine (cloneUpdates_any mc _ pm2 (by omega)).mono ?_
  rintro e w3 ⟨ma3, mc3, mb3, mo3, rfl, pm3, hb3⟩
  have pc3 := pc2.kept hb3
  have pu3 := pu2.kept hb3
  have pd3 := pd2.kept hb3
  have ph3 := ph2.kept hb3
  have hbb3 := below_keep hbb hb3
  clear pc2 pu2 pm2 pd2 ph2 hbb hb3
  go_wp2_with fail
  refine (clonePtr_any _ pd3).mono ?_
  rintro e w4 ⟨dl4, rfl, pd4, hb4⟩
  have pc4 := pc3.kept hb4
  have pu4 := pu3.kept hb4
  have pm4 := pm3.kept hb4
  have ph4 := ph3.kept hb4
  have hbb4 := below_keep hbb3 hb4
  clear pc3 pu3 pm3 pd3 ph3 hbb3 hb4
  go_wp2_with fail
  refine (clonePtr_any _ ph4).mono ?_
  rintro e w5 ⟨hl5, rfl, ph5, hb5⟩
  have pc5 := pc4.kept hb5
  have pu5 := pu4.kept hb5
  have pm5 := pm4.kept hb5
  have hbb5 := below_keep hbb4 hb5
  clear pc4 pu4 pm4 pd4 ph4 hbb4 hb5 ph5
  go_wp2_with fail
  refine (tx_nil id ⟨#[]⟩ ⟨#[]⟩ cc1 uc2 dl4 hl5 _ pc5 pu5 (by omega) (by omega)).mono ?_
  rintro e w6 ⟨b6, H6, rfl, htx6, e6, hb6⟩
  have pc6 := pc5.kept hb6
  have pu6 := pu5.kept hb6
  have pm6 := pm5.kept hb6
  have hbb6 := below_keep hbb5 hb6
  have E6 : Hid (H6.cs = cs ∧ H6.us = us ∧ H6.cl = cl ∧ H6.ul = ul ∧ H6.post = ⟨#[]⟩ ∧ H6.void = ⟨#[]⟩) := e6
  clear pc5 pu5 pm5 hbb5 hb6 e6
  go_wp2_with fail
  refine (accounts_of b6 H6 cs us cl ul _ htx6 E6.out hcl (by omega) hsc hsu).mono ?_
  rintro e w7 ⟨ao7, n7, cap7, b7, off7, rfl, sb7, hb7⟩
  have pc7 := pc6.kept hb7
  have pu7 := pu6.kept hb7
  have pm7 := pm6.kept hb7
  have hbb7 := below_keep hbb6 hb7
  clear pc6 pu6 pm6 hbb6 hb7 E6 htx6
  go_wp2_with fail
  refine (concat_any uc2 mc3 _ pu7 pm7 (by omega) (by omega)).mono ?_
  rintro e w8 ⟨la8, lc8, lb8, lo8, rfl, pl8, hb8⟩
  have pc8 := pc7.kept hb8
  have pm8 := pm7.kept hb8
  have sb8 := sb7.kept hb8
  have hbb8 := below_keep hbb7 hb8
  clear pc7 pu7 pm7 sb7 hbb7 hb8
  go_wp2_with fail
  refine (tx_nil id ⟨#[]⟩ ⟨#[]⟩ cc1 lc8 dl4 hl5 _ pc8 pl8 (by omega) (by omega)).mono ?_
  rintro e w9 ⟨b9, H9, rfl, htx9, e9, hb9⟩
  have pm9 := pm8.kept hb9
  have sb9 := sb8.kept hb9
  have hbb9 := below_keep hbb8 hb9
  have E9 : Hid (H9.cs = cs ∧ H9.us = us ++ ms ∧ H9.cl = cl ∧ H9.ul = ul + ml ∧ H9.post = ⟨#[]⟩ ∧ H9.void = ⟨#[]⟩) := e9
  clear pc8 pl8 pm8 sb8 hbb8 hb9 e9
  have hsl : ∀ p ∈ us ++ ms, p.1.size ≤ maxLen := fun p hp => (List.mem_append.1 hp).elim (hsu p) (hsm p)
  go_wp2_with fail
  refine (accounts_of b9 H9 cs (us ++ ms) cl (ul + ml) _ htx9 E9.out hcl (by omega) hsc hsl).mono ?_
  rintro e w10 ⟨ao10, n10, cap10, b10, off10, rfl, sa, hb10⟩
  have pm := pm9.kept hb10
  have sb := sb9.kept hb10
  have hbb := below_keep hbb9 hb10
  clear pm9 sb9 hbb9 hb10 E9 htx9 hsl hsc hsu hsm
  obtain ⟨R, hA, hlen, hx, hm⟩ := plain5 cs us ms
  rw [hA] at sa
  have h10 : n10 ≤ 3145728 := by rw [← sa.size, ← hA]; have := HC.out; omega
  clear hA hlen
  generalize Plain.dd (cs.map (·.1) ++ us.map (·.1)) = Bf at sa sb hx hm
  have hle : n7 ≤ n10 := by rw [← sa.size, ← sb.size, List.length_append]; omega
  have hlF : decide (n10 < n7) = false := by simpa using hle
  have ixA := sa.ix cap10
  have ixB := sb.ix cap7
  have ixM := pm.ix23 mc3
  go_wp2
  go_loopw [16] (fun i wr => ∃ k : Nat, k ≤ n7 ∧ i = .int .i64 k ∧ Below w10.heap.size w10 wr) (fun i _ => n7 - (intOf i).toNat)
  case atStart => exact ⟨0, Nat.zero_le _, rfl, Below.refl _ _⟩
  case round =>
    obtain ⟨k, hk, rfl, hnx⟩ := hrel
    by_cases hlt : k < n7
    · have hkB : k < Bf.length := by rw [sb.size]; exact hlt
      have hltA : k < n10 := by omega
      have cB := cell_kept hnx (sb.cell k hkB)
      have cA := cell_kept hnx (cell_left sa k hkB)
      go_wp2
      go_region
      go_wp2
      go_roundw
      case rel => exact ⟨k + 1, by omega, by go_num, hnx.drew⟩
      case measure => simp [intOf]; omega
    · have sa' := sa.kept hnx
      have sb' := sb.kept hnx
      have pm' := pm.kept hnx
      have hend := below_keep hbb hnx
      clear sa sb pm hbb hnx
      go_wp2
      go_loop [17] (fun i => ∃ j : Nat, n7 ≤ j ∧ j ≤ n10 ∧ i = .int .i64 j) (fun i => n10 - (intOf i).toNat)
      case atStart => exact ⟨n7, Nat.le_refl _, hle, rfl⟩
      case round =>
        obtain ⟨j, hj0, hj, rfl⟩ := hrel
        by_cases hlt : j < n10
        · obtain ⟨s, cA, hsR⟩ := cell_right sa' j (by rw [sb'.size]; exact hj0) hlt
          obtain ⟨hno, hyes⟩ := hx s hsR
          go_wp2_with (first
            | (go_at_call 24; refine (contains_no cap7 s _ sb' (by omega) hno).mono ?_; rintro e w' ⟨rfl, rfl⟩)
            | (go_at_call 25; refine (named_yes mc3 s _ pm' (by omega) hyes).mono ?_; rintro e w' ⟨rfl, rfl⟩))
          go_round
          case rel => exact ⟨j + 1, by omega, by omega, by go_num⟩
          case measure => simp [intOf]; omega
        · go_wp2
          go_loop [18] (fun i => ∃ q : Nat, q ≤ ml ∧ i = .int .i64 q) (fun i => ml - (intOf i).toNat)
          case atStart => exact ⟨0, Nat.zero_le _, rfl⟩
          case round =>
            obtain ⟨q, hq, rfl⟩ := hrel
            by_cases hlt : q < ml
            · have hq' : q < ms.length := by rw [pm'.size]; exact hlt
              have cM := pm'.name q hq'
              have hyes := hm _ (List.mem_map.2 ⟨_, List.getElem_mem hq', rfl⟩)
              go_wp2_with (go_at_call 24; refine (contains_yes cap10 _ _ sa' (by omega) hyes).mono ?_; rintro e w' ⟨rfl, rfl⟩)
              go_round
              case rel => exact ⟨q + 1, by omega, by go_num⟩
              case measure => simp [intOf]; omega
            · go_wp2
              go_ret
              exact ⟨rfl, hend⟩

end Go.Proofs.Qxb6602815a
