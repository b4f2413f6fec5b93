/-
  THE LAW FnAccountsMatchesFirstSeenModel, WALKED out of the contracts of what it calls: it answers true, and nothing that was there turns. Five ways: is there a held transaction; does the transaction settle one; does the held one itself settle one.
-/
import Derived.Test.Qxb6602815aSizes
import Derived.Test.Qxb6602815aBytesHeld
import Derived.Test.Qxb6602815aTxHeld
import Derived.Test.Qxb6602815aModel
namespace Go.Proofs.Qxb6602815a
open Go.RowKit

set_option maxHeartbeats 400000 in
theorem cloneHeld_nil (w : World) : Calls Try.prog 11 #[.pointer none] w fun e w' => e = .returned (.pointer none) ∧ w = w' := by
  go_enter Try.func11, Try.ntmps11
  go_wp2
  go_ret
  exact ⟨rfl, rfl⟩

/-- what each of the two lists is told to the walk as: the names L, nil just if there are none. -/
def Gives (L : List ByteArray) (w : World) (e : Ending) (w' : World) : Prop :=
  ∃ ao cap b off, e = .returned (.slice ao L.length cap) ∧ Strs w' ao L.length b off L ∧ ao.isNone = L.isEmpty ∧ Below w.heap.size w w'

theorem firstSeen_gives {ao : Option Addr} {len b off : Nat} (cap : Nat) {ss : List ByteArray} (L : List ByteArray) (hL : Hid (L = Plain.dd ss)) (w : World) (h : Strs w ao len b off ss) (hl : len ≤ 4194304) :
    Calls Try.prog 12 #[.slice ao len cap] w (Gives L w) := by
  have hL' := hL.out
  subst hL'
  refine (firstSeen_any cap w h hl).mono ?_
  rintro e w' ⟨ao', n, cap', b', off', rfl, hst, hno, hb⟩
  obtain rfl := hst.size
  exact ⟨ao', cap', b', off', rfl, hst, hno, hb⟩

theorem accounts_gives (b : Nat) (H : HV) (held : Option Addr) (L : List ByteArray) (hL : Hid (L = Plain.dd H.names)) (w : World) (h : TxAt w b H held) (hp : H.post.toList.isEmpty = true) (hv : H.void.toList.isEmpty = true) (hcl : H.cl ≤ 1048576) (hul : H.ul ≤ 2097152) (hsh : ∀ s ∈ H.names, s.size ≤ maxLen) :
    Calls Try.prog 15 #[.pointer (some ⟨b, 0, none⟩)] w (Gives L w) := by
  have hL' := hL.out
  subst hL'
  refine (accounts_plain b H held w h hp hv hcl hul hsh).mono ?_
  rintro e w' ⟨ao', n, cap', b', off', rfl, hst, hno, hb⟩
  obtain rfl := hst.size
  exact ⟨ao', cap', b', off', rfl, hst, hno, hb⟩

theorem names_short {cs us : List Pr} (hsc : ∀ p ∈ cs, p.1.size ≤ maxLen) (hsu : ∀ p ∈ us, p.1.size ≤ maxLen) {H : HV} (e1 : H.cs = cs) (e2 : H.us = us) : ∀ s ∈ H.names, s.size ≤ maxLen := by
  intro s hs
  unfold HV.names at hs
  rw [e1, e2] at hs
  rcases List.mem_append.1 hs with hs | hs
  · obtain ⟨p, hp, rfl⟩ := List.mem_map.1 hs
    exact hsc p hp
  · obtain ⟨p, hp, rfl⟩ := List.mem_map.1 hs
    exact hsu p hp

theorem len_L {L : List ByteArray} {cs us : List Pr} {cl ul : Nat} (hL : Hid (L = Plain.dd (cs.map (·.1) ++ us.map (·.1)))) (h1 : cs.length = cl) (h2 : us.length = ul) : L.length ≤ cl + ul := by
  rw [hL.out]
  refine Nat.le_trans (Plain.len_dd _) ?_
  simp [h1, h2]

theorem strs_nil (w : World) : Strs w none 0 0 0 [] := ⟨rfl, fun h => absurd h (by simp), fun k hk => absurd hk (by simp)⟩

set_option maxRecDepth 100000 in
set_option maxHeartbeats 4000000 in
theorem walk3_nil_settles (id post void : ByteArray) {ca ua : Option Addr} {cl cb co ul ub uo : Nat} (cc uc : Nat) {cs us : List Pr} {dl hl : Option Addr} (w : World) (pc : Prs w ca cl cb co cs) (pu : Prs w ua ul ub uo us) (pd : PtrAt w dl) (ph : PtrAt w hl) (hcase : post.toList.isEmpty = false ∨ (post.toList.isEmpty = true ∧ void.toList.isEmpty = false)) :
    Calls Try.prog 3 #[.string id, .slice ca cl cc, .slice ua ul uc, .pointer dl, .pointer hl, .string post, .string void, .pointer none] w fun e w' => e = .returned (.bool true) ∧ Below w.heap.size w w' := by
  have HS : Hid ((post.toList.isEmpty && void.toList.isEmpty) = false) := by unfold Hid; rcases hcase with h | ⟨h1, h2⟩ <;> simp [*]
  have HC : Hid (post.toList.isEmpty = false ∨ (post.toList.isEmpty = true ∧ void.toList.isEmpty = false)) := hcase
  clear hcase
  have q32 : ∀ (w : World) (a : Option Addr) (n c n' c' : Nat), (binOp .eql 32 (.slice a n c) (.slice none n' c')).run Try.prog w = .ok (.bool a.isNone) w := fun w a n c n' c' => Lib.run_eql_slice_nil w _ _ a n c n' c' Try.underlying32
  go_enter Try.func3, Try.ntmps3
  go_wp2_with fail
  refine (bytes3_nil id post void cc uc dl hl _ pc pu).mono ?_
  rintro e w' ⟨r, rfl, hr, hw⟩
  have hw2 := hw.symm
  clear hw
  subst hw2
  rcases r with _ | _
  · clear hr
    go_wp2
    go_ret
    exact ⟨rfl, Below.refl _ _⟩
  obtain ⟨hcl, hul⟩ := hr rfl
  clear hr
  go_wp2_with fail
  refine (tooBig_any id post void cc uc _ pc pu (Or.inl rfl : HeldP w none HV.empty)).mono ?_
  rintro e w' ⟨r, rfl, hw⟩
  have hw2 := hw.symm
  clear hw
  subst hw2
  rcases r with _ | _
  rotate_left
  · go_wp2
    go_ret
    exact ⟨rfl, Below.refl _ _⟩
  go_wp2_with fail
  refine (cloneChecks_any cc _ pc (by omega)).mono ?_
  rintro e w1 ⟨ca1, cc1, cb1, co1, rfl, pc1, hb1⟩
  have pu1 := pu.kept hb1
  have pd1 := pd.kept hb1
  have ph1 := ph.kept hb1
  have hbb1 := hb1
  clear pu pd ph pc hb1
  go_wp2_with fail
  refine (cloneUpdates_any uc _ pu1 (by omega)).mono ?_
  rintro e w2 ⟨ua2, uc2, ub2, uo2, rfl, pu2, hb2⟩
  have pc2 := pc1.kept hb2
  have pd2 := pd1.kept hb2
  have ph2 := ph1.kept hb2
  have hbb2 := below_keep hbb1 hb2
  clear pc1 pd1 ph1 pu1 hbb1 hb2
  go_wp2_with fail
  refine (clonePtr_any _ pd2).mono ?_
  rintro e w3 ⟨dl3, rfl, pd3, hb3⟩
  have pc3 := pc2.kept hb3
  have pu3 := pu2.kept hb3
  have ph3 := ph2.kept hb3
  have hbb3 := below_keep hbb2 hb3
  clear pc2 pu2 ph2 pd2 hbb2 hb3
  go_wp2_with fail
  refine (clonePtr_any _ ph3).mono ?_
  rintro e w4 ⟨hl4, rfl, ph4, hb4⟩
  have pc4 := pc3.kept hb4
  have pu4 := pu3.kept hb4
  have pd4 := pd3.kept hb4
  have hbb4 := below_keep hbb3 hb4
  clear pc3 pu3 pd3 ph3 hbb3 hb4
  go_wp2_with fail
  refine (cloneHeld_nil _).mono ?_
  rintro e w5 ⟨rfl, hw⟩
  subst hw
  have pc5 := pc4
  have pu5 := pu4
  have hbb5 := hbb4
  clear pc4 pu4 pd4 ph4 hbb4
  rcases HC.out with hp | ⟨hp, hv⟩
  all_goals
    go_wp2_with fail
    refine (tx_nil id post void cc1 uc2 dl3 hl4 _ pc5 pu5 (by omega) (by omega)).mono ?_
    rintro e w8 ⟨b8, H8, rfl, htx8, e8, hb8⟩
    have HS8 : (H8.post.toList.isEmpty && H8.void.toList.isEmpty) = false := by obtain ⟨_, _, _, _, e5, e6⟩ := e8; rw [e5, e6]; exact HS.out
    have HS9 : Hid ((H8.post.toList.isEmpty && H8.void.toList.isEmpty) = false) := HS8
    have hbb8 := below_keep hbb5 hb8
    clear e8 HS8 hb8 hbb5 pc5 pu5
    go_wp2_with fail
    refine (accounts_none b8 H8 _ htx8 HS9.out).mono ?_
    rintro e w9 ⟨rfl, hw⟩
    subst hw
    go_wp2_with fail
    refine (same_yes 0 0 _ (strs_nil _) (strs_nil _) (by omega)).mono ?_
    rintro e w9 ⟨rfl, hb9⟩
    have hend := below_keep hbb8 hb9
    go_wp2
    go_ret
    exact ⟨rfl, hend⟩

set_option maxRecDepth 100000 in
set_option maxHeartbeats 4000000 in
theorem walk3_nil_plain (id post void : ByteArray) {ca ua : Option Addr} {cl cb co ul ub uo : Nat} (cc uc : Nat) {cs us : List Pr} {dl hl : Option Addr} (w : World) (pc : Prs w ca cl cb co cs) (pu : Prs w ua ul ub uo us) (pd : PtrAt w dl) (ph : PtrAt w hl) (hsc : ∀ p ∈ cs, p.1.size ≤ maxLen) (hsu : ∀ p ∈ us, p.1.size ≤ maxLen) (hp : post.toList.isEmpty = true) (hv : void.toList.isEmpty = true) :
    Calls Try.prog 3 #[.string id, .slice ca cl cc, .slice ua ul uc, .pointer dl, .pointer hl, .string post, .string void, .pointer none] w fun e w' => e = .returned (.bool true) ∧ Below w.heap.size w w' := by
  have q32 : ∀ (w : World) (a : Option Addr) (n c n' c' : Nat), (binOp .eql 32 (.slice a n c) (.slice none n' c')).run Try.prog w = .ok (.bool a.isNone) w := fun w a n c n' c' => Lib.run_eql_slice_nil w _ _ a n c n' c' Try.underlying32
  go_enter Try.func3, Try.ntmps3
  go_wp2_with fail
  refine (bytes3_nil id post void cc uc dl hl _ pc pu).mono ?_
  rintro e w' ⟨r, rfl, hr, hw⟩
  have hw2 := hw.symm
  clear hw
  subst hw2
  rcases r with _ | _
  · clear hr
    go_wp2
    go_ret
    exact ⟨rfl, Below.refl _ _⟩
  obtain ⟨hcl, hul⟩ := hr rfl
  clear hr
  go_wp2_with fail
  refine (tooBig_any id post void cc uc _ pc pu (Or.inl rfl : HeldP w none HV.empty)).mono ?_
  rintro e w' ⟨r, rfl, hw⟩
  have hw2 := hw.symm
  clear hw
  subst hw2
  rcases r with _ | _
  rotate_left
  · go_wp2
    go_ret
    exact ⟨rfl, Below.refl _ _⟩
  go_wp2_with fail
  refine (cloneChecks_any cc _ pc (by omega)).mono ?_
  rintro e w1 ⟨ca1, cc1, cb1, co1, rfl, pc1, hb1⟩
  have pu1 := pu.kept hb1
  have pd1 := pd.kept hb1
  have ph1 := ph.kept hb1
  have hbb1 := hb1
  clear pu pd ph pc hb1
  go_wp2_with fail
  refine (cloneUpdates_any uc _ pu1 (by omega)).mono ?_
  rintro e w2 ⟨ua2, uc2, ub2, uo2, rfl, pu2, hb2⟩
  have pc2 := pc1.kept hb2
  have pd2 := pd1.kept hb2
  have ph2 := ph1.kept hb2
  have hbb2 := below_keep hbb1 hb2
  clear pc1 pd1 ph1 pu1 hbb1 hb2
  go_wp2_with fail
  refine (clonePtr_any _ pd2).mono ?_
  rintro e w3 ⟨dl3, rfl, pd3, hb3⟩
  have pc3 := pc2.kept hb3
  have pu3 := pu2.kept hb3
  have ph3 := ph2.kept hb3
  have hbb3 := below_keep hbb2 hb3
  clear pc2 pu2 ph2 pd2 hbb2 hb3
  go_wp2_with fail
  refine (clonePtr_any _ ph3).mono ?_
  rintro e w4 ⟨hl4, rfl, ph4, hb4⟩
  have pc4 := pc3.kept hb4
  have pu4 := pu3.kept hb4
  have pd4 := pd3.kept hb4
  have hbb4 := below_keep hbb3 hb4
  clear pc3 pu3 pd3 ph3 hbb3 hb4
  go_wp2_with fail
  refine (cloneHeld_nil _).mono ?_
  rintro e w5 ⟨rfl, hw⟩
  subst hw
  have pc5 := pc4
  have pu5 := pu4
  have hbb5 := hbb4
  clear pc4 pu4 pd4 ph4 hbb4
  go_wp2_with fail
  refine (names_any cc1 uc2 _ pc5 pu5 (by omega) (by omega)).mono ?_
  rintro e w6 ⟨na, nc, nb, no, rfl, sn6, hb6⟩
  have pc6 := pc5.kept hb6
  have pu6 := pu5.kept hb6
  have hbb6 := below_keep hbb5 hb6
  clear pc5 pu5 hbb5 hb6
  obtain ⟨L, HL⟩ : ∃ L, Hid (L = Plain.dd (cs.map (·.1) ++ us.map (·.1))) := ⟨_, rfl⟩
  go_wp2_with fail
  refine (firstSeen_gives nc L HL _ sn6 (by omega)).mono ?_
  rintro e w7 ⟨wa, wc, wb, wo, rfl, sw7, hwn, hb7⟩
  have pc7 := pc6.kept hb7
  have pu7 := pu6.kept hb7
  have hbb7 := below_keep hbb6 hb7
  clear pc6 pu6 sn6 hbb6 hb7 hwn
  go_wp2_with fail
  refine (tx_nil id post void cc1 uc2 dl3 hl4 _ pc7 pu7 (by omega) (by omega)).mono ?_
  rintro e w8 ⟨b8, H8, rfl, htx8, e8, hb8⟩
  have E8 : Hid (H8.cs = cs ∧ H8.us = us ∧ H8.cl = cl ∧ H8.ul = ul ∧ H8.post = post ∧ H8.void = void) := e8
  have HL8 : Hid (L = Plain.dd H8.names) := by unfold Hid HV.names; rw [E8.out.1, E8.out.2.1]; exact HL.out
  have SZ : Hid (cs.length = cl ∧ us.length = ul) := ⟨pc7.size, pu7.size⟩
  have sw8 := sw7.kept hb8
  have hbb8 := below_keep hbb7 hb8
  clear e8 pc7 pu7 sw7 hbb7 hb8
  go_wp2_with fail
  refine (accounts_gives b8 H8 _ L HL8 _ htx8 (by rw [E8.out.2.2.2.2.1]; exact hp) (by rw [E8.out.2.2.2.2.2]; exact hv) (by rw [E8.out.2.2.1]; omega) (by rw [E8.out.2.2.2.1]; omega) (names_short hsc hsu E8.out.1 E8.out.2.1)).mono ?_
  rintro e w9 ⟨ga, gc, gb, gf, rfl, sg9, hgn, hb9⟩
  have sw9 := sw8.kept hb9
  have hbb9 := below_keep hbb8 hb9
  clear sw8 hbb8 hb9 htx8
  have hlen := len_L HL SZ.out.1 SZ.out.2
  rcases hLe : L.isEmpty with _ | _
  · rw [hLe] at hgn
    have hl0 : ((L.length : Int) == 0) = false := by cases L with | nil => simp at hLe | cons a r => simp; omega
    clear hLe
    go_wp2_with fail
    refine (same_yes gc wc _ sg9 sw9 (by omega)).mono ?_
    rintro e w10 ⟨rfl, hb10⟩
    have hend := below_keep hbb9 hb10
    go_wp2
    go_ret
    exact ⟨rfl, hend⟩
  · rw [hLe] at hgn
    have hl0 : ((L.length : Int) == 0) = true := by cases L with | nil => rfl | cons a r => simp at hLe
    clear hLe
    go_wp2_with fail
    refine (same_yes gc wc _ sg9 sw9 (by omega)).mono ?_
    rintro e w10 ⟨rfl, hb10⟩
    have hend := below_keep hbb9 hb10
    go_wp2
    go_ret
    exact ⟨rfl, hend⟩

end Go.Proofs.Qxb6602815a
