/-
  THE PLAIN LAW: no Go in sight. 'dd': each name once, at its first place.
-/
namespace Go.Proofs.Qxb6602815a.Plain

theorem ext_data {s t : ByteArray} (h : s.data.toList = t.data.toList) : s = t := by
  cases s; cases t
  simp only [ByteArray.mk.injEq]
  exact Array.toList_inj.1 h
/-- is the name among those that were gathered? -/
def isIn (acc : List ByteArray) (s : ByteArray) : Bool := acc.any fun t => t.data.toList == s.data.toList
theorem isIn_iff (acc : List ByteArray) (s : ByteArray) : isIn acc s = true ↔ s ∈ acc := by
  unfold isIn
  rw [List.any_eq_true]
  constructor
  · rintro ⟨t, ht, he⟩
    obtain rfl := ext_data (eq_of_beq he)
    exact ht
  · exact fun h => ⟨s, h, by simp⟩
/-- a name behind those that were gathered, if it is new. -/
def add1 (acc : List ByteArray) (s : ByteArray) : List ByteArray := if isIn acc s then acc else acc ++ [s]
theorem add1_old {acc : List ByteArray} {s : ByteArray} (h : s ∈ acc) : add1 acc s = acc := by unfold add1; rw [if_pos ((isIn_iff acc s).2 h)]
theorem add1_new {acc : List ByteArray} {s : ByteArray} (h : s ∉ acc) : add1 acc s = acc ++ [s] := by unfold add1; rw [if_neg (fun h' => h ((isIn_iff acc s).1 h'))]
/-- each name once, in the order of its first place. -/
def dd (l : List ByteArray) : List ByteArray := l.foldl add1 []

theorem dd_nil : dd [] = [] := rfl
theorem dd_snoc (l : List ByteArray) (s : ByteArray) : dd (l ++ [s]) = add1 (dd l) s := by simp [dd, List.foldl_append]

theorem mem_add1 (acc : List ByteArray) (s x : ByteArray) : x ∈ add1 acc s ↔ x ∈ acc ∨ x = s := by
  by_cases hs : s ∈ acc
  · rw [add1_old hs]
    constructor
    · exact Or.inl
    · rintro (h | rfl)
      · exact h
      · exact hs
  · rw [add1_new hs]; simp

theorem mem_fold (x : ByteArray) : ∀ (l acc : List ByteArray), x ∈ l.foldl add1 acc ↔ x ∈ acc ∨ x ∈ l
  | [], acc => by simp
  | a :: r, acc => by
    rw [List.foldl_cons, mem_fold x r, mem_add1, List.mem_cons, or_assoc]

theorem mem_dd (x : ByteArray) (l : List ByteArray) : x ∈ dd l ↔ x ∈ l := by
  unfold dd; rw [mem_fold]; simp

theorem len_add1 (acc : List ByteArray) (s : ByteArray) : (add1 acc s).length ≤ acc.length + 1 := by
  unfold add1; split <;> simp

theorem len_fold : ∀ (l acc : List ByteArray), (l.foldl add1 acc).length ≤ acc.length + l.length
  | [], acc => by simp
  | a :: r, acc => by
    have := len_fold r (add1 acc a)
    have := len_add1 acc a
    simp only [List.foldl_cons, List.length_cons]
    omega

theorem len_dd (l : List ByteArray) : (dd l).length ≤ l.length := by
  have := len_fold l []
  simpa [dd] using this

/-- what a fold gathers begins with what was there; what is new was not there and is one of the list's. -/
theorem fold_rest : ∀ (l acc : List ByteArray), ∃ r, l.foldl add1 acc = acc ++ r ∧ ∀ x ∈ r, x ∉ acc ∧ x ∈ l
  | [], acc => ⟨[], by simp⟩
  | a :: t, acc => by
    obtain ⟨r, hr, hx⟩ := fold_rest t (add1 acc a)
    rw [List.foldl_cons, hr]
    by_cases ha : a ∈ acc
    · rw [add1_old ha] at hx ⊢
      exact ⟨r, rfl, fun x h => ⟨(hx x h).1, List.mem_cons_of_mem _ (hx x h).2⟩⟩
    · rw [add1_new ha] at hx ⊢
      refine ⟨a :: r, by simp, fun x h => ?_⟩
      rcases List.mem_cons.1 h with rfl | h
      · exact ⟨ha, List.mem_cons_self⟩
      · exact ⟨fun h' => (hx x h).1 (List.mem_append_left _ h'), List.mem_cons_of_mem _ (hx x h).2⟩

theorem dd_append (l m : List ByteArray) : ∃ r, dd (l ++ m) = dd l ++ r ∧ ∀ x ∈ r, x ∉ dd l ∧ x ∈ m := by
  unfold dd
  rw [List.foldl_append]
  exact fold_rest m _

theorem take_snoc {α : Type} (l : List α) (k : Nat) (h : k < l.length) : l.take (k + 1) = l.take k ++ [l[k]] := List.take_succ_eq_append_getElem h

/-- one round of a loop that gathers. -/
theorem dd_take_old (l : List ByteArray) (k : Nat) (h : k < l.length) (hm : l[k] ∈ l.take k) : dd (l.take (k + 1)) = dd (l.take k) := by
  rw [take_snoc l k h, dd_snoc, add1_old ((mem_dd _ _).2 hm)]
theorem dd_take_new (l : List ByteArray) (k : Nat) (h : k < l.length) (hm : l[k] ∉ l.take k) : dd (l.take (k + 1)) = dd (l.take k) ++ [l[k]] := by
  rw [take_snoc l k h, dd_snoc, add1_new (fun h' => hm ((mem_dd _ _).1 h'))]

theorem dd_eq_nil (l : List ByteArray) (h : dd l = []) : l = [] := by
  cases l with
  | nil => rfl
  | cons a r =>
    have : a ∈ dd (a :: r) := (mem_dd _ _).2 List.mem_cons_self
    rw [h] at this
    cases this

end Go.Proofs.Qxb6602815a.Plain
