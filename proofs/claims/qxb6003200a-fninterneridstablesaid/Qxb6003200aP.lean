/- THE PLAIN LAW of the interner: keys in the order of their first appearance. No Go in sight. -/
import Derived.Laws.Strings
namespace Go.Proofs.Qxb6003200a.Intr

abbrev Key := List UInt8
/-- The place of x in L; L's length where it is not there. -/
def at_ : List Key → Key → Nat
  | [], _ => 0
  | y :: L, x => if y = x then 0 else at_ L x + 1
/-- x joins L where it is new. -/
def addK (L : List Key) (x : Key) : List Key := if x ∈ L then L else L ++ [x]
/-- The keys that have come in the first k rounds. -/
def U (K : Nat → Key) : Nat → List Key
  | 0 => []
  | k + 1 => addK (U K k) (K k)

theorem at_append_mem {L M : List Key} {x : Key} (h : x ∈ L) : at_ (L ++ M) x = at_ L x := by
  induction L with
  | nil => cases h
  | cons y L ih =>
    simp only [List.cons_append, at_]
    by_cases e : y = x
    · rw [if_pos e, if_pos e]
    · rw [if_neg e, if_neg e, ih]
      rcases List.mem_cons.1 h with q | q
      · exact absurd q.symm e
      · exact q
theorem at_not_mem {L : List Key} {x : Key} (h : x ∉ L) : at_ L x = L.length := by
  induction L with
  | nil => rfl
  | cons y L ih =>
    have e : ¬ y = x := fun q => h (by simp [q])
    simp only [at_, if_neg e, List.length_cons]
    rw [ih (fun q => h (List.mem_cons_of_mem _ q))]
theorem at_snoc_new {L : List Key} {x : Key} (h : x ∉ L) : at_ (L ++ [x]) x = L.length := by
  induction L with
  | nil => simp [at_]
  | cons y L ih =>
    have e : ¬ y = x := fun q => h (by simp [q])
    simp only [List.cons_append, at_, if_neg e, List.length_cons]
    rw [ih (fun q => h (List.mem_cons_of_mem _ q))]
theorem at_le (L : List Key) (x : Key) : at_ L x ≤ L.length := by
  induction L with
  | nil => exact Nat.le_refl _
  | cons y L ih =>
    simp only [at_, List.length_cons]
    split <;> omega
theorem addK_mem {L : List Key} {x : Key} (h : x ∈ L) : addK L x = L := by simp [addK, h]
theorem addK_new {L : List Key} {x : Key} (h : x ∉ L) : addK L x = L ++ [x] := by simp [addK, h]
theorem mem_addK {L : List Key} {x y : Key} : y ∈ addK L x ↔ y ∈ L ∨ y = x := by
  unfold addK
  by_cases h : x ∈ L
  · rw [if_pos h]
    exact ⟨Or.inl, fun q => q.elim id (fun e => e ▸ h)⟩
  · rw [if_neg h]; simp
theorem at_addK_self (L : List Key) (x : Key) : at_ (addK L x) x = at_ L x := by
  by_cases h : x ∈ L
  · rw [addK_mem h]
  · rw [addK_new h, at_snoc_new h, at_not_mem h]
theorem at_addK_mem {L : List Key} {x y : Key} (h : y ∈ L) : at_ (addK L x) y = at_ L y := by
  by_cases e : x ∈ L
  · rw [addK_mem e]
  · rw [addK_new e, at_append_mem h]
theorem mem_U {K : Nat → Key} {k : Nat} {x : Key} : x ∈ U K k ↔ ∃ j, j < k ∧ K j = x := by
  induction k with
  | zero => simp [U]
  | succ k ih =>
    simp only [U]
    rw [mem_addK, ih]
    constructor
    · rintro (⟨j, h, e⟩ | e)
      · exact ⟨j, by omega, e⟩
      · exact ⟨k, by omega, e.symm⟩
    · rintro ⟨j, h, e⟩
      by_cases q : j = k
      · exact Or.inr (by rw [← e, q])
      · exact Or.inl ⟨j, by omega, e⟩
theorem at_U (K : Nat → Key) (i m : Nat) (h : i < m) : at_ (U K m) (K i) = at_ (U K i) (K i) := by
  induction m with
  | zero => omega
  | succ m ih =>
    simp only [U]
    by_cases e : i = m
    · subst e; exact at_addK_self _ _
    · rw [at_addK_mem (mem_U.2 ⟨i, by omega, rfl⟩), ih (by omega)]
theorem length_U_le (K : Nat → Key) (k : Nat) : (U K k).length ≤ k := by
  induction k with
  | zero => exact Nat.le_refl _
  | succ k ih =>
    simp only [U, addK]
    split
    · omega
    · simp; omega
/-- How many of the first k have 'f i = i'. -/
def cnt (f : Nat → Int) : Nat → Nat
  | 0 => 0
  | k + 1 => if f k = (k : Int) then cnt f k + 1 else cnt f k
theorem cnt_le (f : Nat → Int) (k : Nat) : cnt f k ≤ k := by
  induction k with
  | zero => exact Nat.le_refl _
  | succ k ih => simp only [cnt]; split <;> omega
theorem cnt_U {K : Nat → Key} {f : Nat → Int} {n : Nat} (hf : ∀ i, i < n → (f i = (i : Int) ↔ ∀ j, j < i → K j ≠ K i)) : ∀ k, k ≤ n → cnt f k = (U K k).length := by
  intro k hk
  induction k with
  | zero => rfl
  | succ k ih =>
    have ih := ih (by omega)
    simp only [cnt, U]
    by_cases h : K k ∈ U K k
    · have h' : ¬ f k = (k : Int) := by
        intro q
        obtain ⟨j, hj, e⟩ := mem_U.1 h
        exact (hf k (by omega)).1 q j hj e
      rw [if_neg h', addK_mem h, ih]
    · have h' : f k = (k : Int) := (hf k (by omega)).2 (fun j hj e => h (mem_U.2 ⟨j, hj, e⟩))
      rw [if_pos h', addK_new h, ih]; simp
end Go.Proofs.Qxb6003200a.Intr
