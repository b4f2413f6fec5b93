/-
  THE CLOSURE OF Accounts BY A CONTRACT OF ITS OWN: a set of names (map[string]bool) and a list of names, both in captured variables: the set holds just the names of the list.
-/
import Derived.Test.Qxb6602815aFacts
import Derived.Maps.OwnSet
import Derived.Maps.AppendAt
namespace Go.Proofs.Qxb6602815a
open Go.RowKit Go.Maps Go.WideMaps

theorem plainElem_bool_inv {H : Type} {P : Program} {e : TypeId} (he : P.underlying e = some .bool) {v : Value} {z : DataW H × List MemPlace} (h : plainElem P e v = some z) : ∃ x, v = .bool x ∧ z = (.lit (.bool x), []) := by
  unfold plainElem at h
  rw [he] at h
  cases v <;> simp at h
  exact ⟨_, rfl, h.symm⟩

/-- 'm[k]' in a map of bools that the call made: the world does not turn. -/
theorem lookup_bool {H : Type} {P : Program} {w : World} {k t e : TypeId} {b n : Nat} {D : DataW H} (h : w.ownsMap P k (plainElem P e) b n D) (K : Keyed P k) (ht : P.underlying t = some (.map k e)) (he : P.underlying e = some .bool)
    (hz : (zeroValue e).run P w = .ok (.bool false) w) {key : Value} {kl : Lit} (hkey : keyOf P k key = some kl) {c : Bool} (hat : D.atKey kl (.lit (.bool false)) = .lit (.bool c)) :
    (Instr.lookup t (.map (some b)) key false).run P w = .ok (.bool c) w := by
  obtain ⟨v, ps, hrun, hv⟩ := h.lookup K ht hz (plainElem_bool he false) hkey
  obtain ⟨x, rfl, hx⟩ := plainElem_bool_inv he hv
  simp only [Prod.mk.injEq] at hx
  rw [hat] at hx
  have : c = x := by simpa using hx.1
  rw [this]
  exact hrun

theorem atKey_fold {H : Type} (u z : DataW H) (k : Lit) : ∀ (acc : List Lit) (m : DataW H), IsMap m → (∀ x ∈ acc, WideAt.IsKeyLit x) → (acc.foldl (fun m x => m.put x u) m).atKey k z = if acc.any (fun x => x.sameKey k) then u else m.atKey k z
  | [], m, _, _ => by simp
  | x :: r, m, hm, h => by
    rw [List.foldl_cons, atKey_fold u z k r (m.put x u) (hm.put x u) (fun y hy => h y (by simp [hy])), List.any_cons]
    by_cases e : k = x
    · subst e
      rw [atKey_put_same hm (h k (by simp)), WideAt.sameKey_self (h k (by simp))]
      simp
    · rw [atKey_put_other e, sameKey_ne (fun e' => e e'.symm)]
      simp

def keys (acc : List ByteArray) : List Lit := acc.map fun s => Lit.string s.data.toList
/-- the set of the names gathered. -/
def seenD (acc : List ByteArray) : DataW Unit := setOf (.lit (.bool true)) (keys acc)

theorem keys_ok (acc : List ByteArray) : ∀ x ∈ keys acc, WideAt.IsKeyLit x := fun x hx => by
  obtain ⟨_, _, rfl⟩ := List.mem_map.1 hx
  trivial

theorem any_keys (s : ByteArray) : ∀ acc : List ByteArray, (keys acc).any (fun x => x.sameKey (.string s.data.toList)) = Plain.isIn acc s
  | [] => rfl
  | a :: r => by
    unfold keys Plain.isIn
    rw [List.map_cons, List.any_cons, List.any_cons]
    congr 1
    exact any_keys s r

theorem seen_at (acc : List ByteArray) (s : ByteArray) : (seenD acc).atKey (.string s.data.toList) (.lit (.bool false)) = .lit (.bool (Plain.isIn acc s)) := by
  unfold seenD setOf
  rw [atKey_fold _ _ _ _ _ isMap_empty (keys_ok acc), any_keys]
  cases Plain.isIn acc s
  · rfl
  · rfl

theorem seen_snoc (acc : List ByteArray) (s : ByteArray) : seenD (acc ++ [s]) = (seenD acc).put (.string s.data.toList) (.lit (.bool true)) := by
  unfold seenD keys
  rw [List.map_append, List.map_singleton, setOf_snoc]

theorem law9 : Keyed Try.prog 9 := string_keyed Try.underlying9
theorem zero4 (w : World) : (zeroValue 4).run Try.prog w = .ok (.bool false) w := by kernel_rfl
theorem info9 : (Try.prog.info? 9).map (fun i => (i.zero, i.size, i.bytes)) = some (some (.string ⟨#[]⟩), 1, 16) := by kernel_rfl

/-- THE CALL's OWN MEMORY. B: the variable 'names'; B + 1: the map; B + 2: the variable 'seen'. -/
structure Inv (B n : Nat) (acc : List ByteArray) (w : World) : Prop where
  nm : ∃ v, w.heap[B]? = some (.cells #[v] 32 (0, 0)) ∧ w.ownsRow (B + 3) 9 1 v acc.length (acc.map Value.string) ∧ (acc = [] → v = .slice none 0 0)
  map : w.ownsMap Try.prog 9 (plainElem Try.prog 4) (B + 1) n (seenD acc)
  sn : w.heap[B + 2]? = some (.cells #[.map (some (B + 1))] 60 (0, 0))

theorem Inv.alloc {B n : Nat} {acc : List ByteArray} {w : World} (h : Inv B n acc w) (o : Obj) : Inv B n acc (w.alloc o) := by
  obtain ⟨⟨v, h1, h2, h3⟩, h4, h5⟩ := h
  exact ⟨⟨v, (Below.heap_alloc _ _ _ (lt_of_block h1)).trans h1, h2.alloc _, h3⟩, h4.alloc _, (Below.heap_alloc _ _ _ (lt_of_block h5)).trans h5⟩

/-- 'names = append(names, name)' behind 'seen[name] = true': 'tmp': the block that the one new element is laid in; w1: the world behind the store into the map; w2: behind the append; then the store into the variable. -/
theorem inv_push {B n : Nat} {acc : List ByteArray} {w w1 w2 : World} {v v' : Value} (s : ByteArray) (tmp : Obj)
    (hv : w.heap[B]? = some (.cells #[v] 32 (0, 0))) (hown : w.ownsRow (B + 3) 9 1 v acc.length (acc.map Value.string)) (hsn : w.heap[B + 2]? = some (.cells #[.map (some (B + 1))] 60 (0, 0)))
    (hmap1 : w1.ownsMap Try.prog 9 (plainElem Try.prog 4) (B + 1) (n + 1) ((seenD acc).put (.string s.data.toList) (.lit (.bool true)))) (hgrow1 : w.grownBy w1 (some (B + 1)))
    (hown' : w2.ownsRow (B + 3) 9 1 v' (acc.length + 1) (acc.map Value.string ++ [.string s])) (hgrow2 : (w1.alloc tmp).grownBy w2 v.ownBlock) :
    (∃ g' cap', v' = .slice (some ⟨g', 0, none⟩) (acc.length + 1) cap') ∧ w2.cell? ⟨B, 0, none⟩ = some v ∧ w2.frozen? ⟨B, 0, none⟩ = false ∧ Inv B (n + 1) (acc ++ [s]) (w2.setCell ⟨B, 0, none⟩ v') ∧ Below B w (w2.setCell ⟨B, 0, none⟩ v') := by
  have hBl := lt_of_block hv
  have hSl := lt_of_block hsn
  have s1 := hgrow1.size
  have hne : ∀ k, k < B + 3 → some k ≠ v.ownBlock := fun k hk e => by
    have := (hown.lt k e.symm).1
    omega
  have keep : ∀ k, k < w.heap.size → k < B + 3 → k ≠ B + 1 → w2.heap[k]? = w.heap[k]? := fun k hk hk3 hk1 =>
    (hgrow2.block k (by simp; omega) (hne k hk3)).trans ((Below.heap_alloc _ _ _ (by omega)).trans (hgrow1.block k hk (fun e => hk1 (Option.some.inj e))))
  have hv2 : w2.heap[B]? = some (.cells #[v] 32 (0, 0)) := (keep B hBl (by omega) (by omega)).trans hv
  have hsn2 : w2.heap[B + 2]? = some (.cells #[.map (some (B + 1))] 60 (0, 0)) := (keep (B + 2) hSl (by omega) (by omega)).trans hsn
  have hne' : v'.ownBlock ≠ some B := fun e => by
    have := (hown'.lt B e).1
    omega
  have hex : ∃ g' cap', v' = .slice (some ⟨g', 0, none⟩) (acc.length + 1) cap' := by
    rcases hown'.2 with ⟨_, h0⟩ | ⟨g', cap', _, h, _⟩
    · omega
    · exact ⟨g', cap', h⟩
  refine ⟨hex, cell_of_one hv2, free_of_one hv2, ⟨⟨v', one_setCell hv2, ?_, fun h => by simp at h⟩, ?_, ?_⟩, ?_⟩
  · have := ownsRow_setCell_other hown' (a := ⟨B, 0, none⟩) hne' v'
    simpa using this
  · rw [seen_snoc]
    exact ((hmap1.alloc tmp).kept hgrow2 (hne (B + 1) (by omega))).setCell (by show B + 1 ≠ B; omega) _
  · exact (Below.heap_setCell _ _ _ _ (by show B + 2 ≠ B; omega)).trans hsn2
  · exact ((((Below.refl B w).grown hgrow1 (by omega) (fun k hk => by cases hk; omega)).alloc (by omega) tmp).grown hgrow2 (by simp; omega) (fun k hk => by
      have := (hown.lt k hk).1
      omega)).setCell (Nat.le_refl _) _

set_option maxRecDepth 100000 in
set_option maxHeartbeats 400000 in
theorem addName_any (B n : Nat) (acc : List ByteArray) (s : ByteArray) (w : World) (h : Inv B n acc w) (hs : s.size ≤ maxLen) (hn : n ≤ 4194304) (hacc : acc.length ≤ n) :
    Calls Try.prog 29 #[.string s, .pointer (some ⟨B + 2, 0, none⟩), .pointer (some ⟨B, 0, none⟩)] w fun e w' => e = .returned (.tuple #[]) ∧ Inv B (n + 1) (Plain.add1 acc s) w' ∧ Below B w w' := by
  obtain ⟨⟨v, hv, hown, hnil⟩, hmap, hsn⟩ := h
  have hkey := keyOf_string_mk (P := Try.prog) Try.underlying9 hs
  have hlk := lookup_bool hmap law9 Try.underlying60 Try.underlying4 (zero4 _) hkey (seen_at acc s)
  have cS := cell_of_one hsn
  have cN := cell_of_one hv
  have fN := free_of_one hv
  obtain ⟨i0, hi, hz0, hz1, hz2⟩ := info_parts info9
  rcases hin : Plain.isIn acc s with _ | _
  · rw [hin] at hlk
    go_enter Try.func29, Try.ntmps29
    go_wp2_with (first
      | (at_mapUpdate; refine wpList_mapUpdate_own _ rfl _ _ _ 60 rfl 9 4 law9 Try.underlying60 _ (B + 1) n _ rfl hmap (by unfold maxLen; omega) _ _ _ rfl rfl hkey _ [] (plainElem_bool Try.underlying4 true) ?_))
    intro w1 hmap1 hgrow1
    have hv1 : w1.heap[B]? = some (.cells #[v] 32 (0, 0)) := (hgrow1.block B (lt_of_block hv) (fun e => by have := Option.some.inj e; omega)).trans hv
    have hown1 := hown.kept hgrow1 (Or.inr (fun e => by have := (hown.lt _ e).1; omega))
    have cN1 := cell_of_one hv1
    have fN1 := free_of_one hv1
    go_wp2_with (at_builtin; refine wpList_append_own _ rfl _ _ 32 rfl (B + 3) 9 i0 (.string ⟨#[]⟩) 1 16 Try.underlying32 hi hz0 hz1 hz2 rfl (by decide) _ _ _ rfl (hown1.alloc _) ⟨w1.heap.size, 0, none⟩ 1 1 [.string s] rfl rfl (cell_one_new _ _ _) ?c2 ?c3 ?c4 ?c5 ?_)
    case c2 => intro u hu; simp at hu; subst hu; rfl
    case c3 => unfold maxLen; omega
    case c4 => omega
    case c5 => have := lt_of_block hsn; have := hgrow1.size; simp; omega
    intro v' w2 hown' hgrow2 _
    obtain ⟨⟨g', cap', rfl⟩, cN2, fN2, hinv', hbel⟩ := inv_push s _ hv hown hsn hmap1 hgrow1 hown' hgrow2
    have he : Plain.add1 acc s = acc ++ [s] := by unfold Plain.add1; rw [hin]; rfl
    have HE : Hid (Plain.add1 acc s = acc ++ [s]) := he
    clear he hown' hgrow2 hmap1 hgrow1 hown1 hmap hown
    go_wp2
    go_end0
    exact ⟨rfl, by rw [HE.out]; exact hinv', hbel⟩
  · rw [hin] at hlk
    have he : Plain.add1 acc s = acc := by unfold Plain.add1; rw [if_pos hin]
    have HE : Hid (Plain.add1 acc s = acc) := he
    clear he
    go_enter Try.func29, Try.ntmps29
    go_wp2
    go_end0
    exact ⟨rfl, by rw [HE.out]; exact ⟨⟨v, hv, hown, hnil⟩, hmap.mono (Nat.le_succ _), hsn⟩, Below.refl _ _⟩

end Go.Proofs.Qxb6602815a
