/-
  PLAIN LEAN, NO GO IN SIGHT: the map's last entry a key, the list of the last entries, and that two lists of one account a key are one list once sorted by name.
-/
namespace Go.Proofs.Ybulkfpaa

section
variable (S : Nat → ByteArray) (B : Nat → Int)

/-- What the map holds at s once the first k entries are laid. -/
def val : Nat → ByteArray → Option Int
  | 0, _ => none
  | k + 1, s => if S k = s then some (B k) else val k s

theorem val_iff (s : ByteArray) (b : Int) : ∀ n, val S B n s = some b ↔ ∃ i, i < n ∧ S i = s ∧ B i = b ∧ ∀ j, i < j → j < n → S j ≠ s
  | 0 => by simp [val]
  | n + 1 => by
    by_cases h : S n = s
    · rw [val, if_pos h]
      constructor
      · intro e
        refine ⟨n, Nat.lt_succ_self n, h, by simpa using e, fun j h1 h2 => ?_⟩
        omega
      · rintro ⟨i, hi, h1, h2, h3⟩
        by_cases e : i = n
        · rw [← e, h2]
        · exact absurd h (h3 n (by omega) (Nat.lt_succ_self n))
    · rw [val, if_neg h, val_iff s b n]
      constructor
      · rintro ⟨i, hi, h1, h2, h3⟩
        refine ⟨i, by omega, h1, h2, fun j h4 h5 => ?_⟩
        by_cases e : j = n
        · rw [e]; exact h
        · exact h3 j h4 (by omega)
      · rintro ⟨i, hi, h1, h2, h3⟩
        have : i ≠ n := fun e => h (by rw [← e]; exact h1)
        exact ⟨i, by omega, h1, h2, fun j h4 h5 => h3 j h4 (by omega)⟩

/-- Is entry i the last of its key among n? -/
def isLast (n i : Nat) : Bool := (List.range n).all fun j => !(decide (i < j)) || !(decide (S j = S i))
theorem isLast_iff (n i : Nat) : isLast S n i = true ↔ ∀ j, i < j → j < n → S j ≠ S i := by
  simp only [isLast, List.all_eq_true, List.mem_range, Bool.or_eq_true, Bool.not_eq_true', decide_eq_false_iff_not]
  constructor
  · intro h j h1 h2
    exact (h j h2).resolve_left (fun h3 => h3 h1)
  · intro h j h2
    by_cases h1 : i < j
    · exact Or.inr (h j h1 h2)
    · exact Or.inl h1

/-- The wanted accounts, i entries looked at. -/
def wantL (n : Nat) : Nat → List (ByteArray × Int)
  | 0 => []
  | i + 1 => if isLast S n i = true then wantL n i ++ [(S i, B i)] else wantL n i

theorem mem_wantL (n : Nat) (x : ByteArray × Int) : ∀ k, x ∈ wantL S B n k ↔ ∃ i, i < k ∧ isLast S n i = true ∧ x = (S i, B i)
  | 0 => by simp [wantL]
  | k + 1 => by
    by_cases h : isLast S n k = true
    · rw [wantL, if_pos h, List.mem_append, mem_wantL n x k, List.mem_singleton]
      constructor
      · rintro (⟨i, h1, h2, h3⟩ | h1)
        · exact ⟨i, by omega, h2, h3⟩
        · exact ⟨k, by omega, h, h1⟩
      · rintro ⟨i, h1, h2, h3⟩
        by_cases e : i = k
        · exact Or.inr (by rw [h3, e])
        · exact Or.inl ⟨i, by omega, h2, h3⟩
    · rw [wantL, if_neg h, mem_wantL n x k]
      constructor
      · rintro ⟨i, h1, h2, h3⟩
        exact ⟨i, by omega, h2, h3⟩
      · rintro ⟨i, h1, h2, h3⟩
        have : i ≠ k := fun e => h (by rw [← e]; exact h2)
        exact ⟨i, by omega, h2, h3⟩

theorem mem_want (n : Nat) (s : ByteArray) (b : Int) : (s, b) ∈ wantL S B n n ↔ val S B n s = some b := by
  rw [mem_wantL, val_iff]
  constructor
  · rintro ⟨i, h1, h2, h3⟩
    simp only [Prod.mk.injEq] at h3
    refine ⟨i, h1, h3.1.symm, h3.2.symm, fun j h4 h5 => ?_⟩
    rw [h3.1]
    exact (isLast_iff S n i).1 h2 j h4 h5
  · rintro ⟨i, h1, h2, h3, h4⟩
    refine ⟨i, h1, (isLast_iff S n i).2 fun j h5 h6 => ?_, by rw [h2, h3]⟩
    rw [h2]
    exact h4 j h5 h6

/-- One account a key. -/
def OneEach (l : List (ByteArray × Int)) : Prop := l.Pairwise fun x y => x.1 ≠ y.1

theorem want_one (n : Nat) : ∀ k, k ≤ n → OneEach (wantL S B n k)
  | 0, _ => List.Pairwise.nil
  | k + 1, hk => by
    by_cases h : isLast S n k = true
    · rw [wantL, if_pos h]
      refine List.pairwise_append.2 ⟨want_one n k (by omega), List.pairwise_singleton _ _, fun x hx y hy => ?_⟩
      obtain ⟨i, h1, h2, rfl⟩ := (mem_wantL S B n x k).1 hx
      rw [List.mem_singleton.1 hy]
      exact fun e => (isLast_iff S n i).1 h2 k h1 (by omega) e.symm
    · rw [wantL, if_neg h]
      exact want_one n k (by omega)

theorem length_wantL (n : Nat) : ∀ k, (wantL S B n k).length ≤ k
  | 0 => Nat.le_refl _
  | k + 1 => by
    have := length_wantL n k
    unfold wantL
    split
    · simp; omega
    · omega
end

theorem OneEach.nodup {l : List (ByteArray × Int)} (h : OneEach l) : l.Nodup := by
  induction l with
  | nil => exact List.Pairwise.nil
  | cons a l ih =>
    obtain ⟨h1, h2⟩ := List.pairwise_cons.1 h
    exact List.nodup_cons.2 ⟨fun hm => h1 a hm rfl, ih h2⟩
theorem OneEach.key {l : List (ByteArray × Int)} (h : OneEach l) {x y : ByteArray × Int} (hx : x ∈ l) (hy : y ∈ l) (e : x.1 = y.1) : x = y := by
  induction l with
  | nil => cases hx
  | cons a l ih =>
    obtain ⟨h1, h2⟩ := List.pairwise_cons.1 h
    rcases List.mem_cons.1 hx with ex | hx'
    · rcases List.mem_cons.1 hy with ey | hy'
      · rw [ex, ey]
      · exact absurd (by rw [← ex]; exact e) (h1 y hy')
    · rcases List.mem_cons.1 hy with ey | hy'
      · exact absurd (by rw [← ey]; exact e.symm) (h1 x hx')
      · exact ih h2 hx' hy'

/-- TWO LISTS OF ONE ACCOUNT A KEY WITH THE SAME MEMBERS. -/
theorem perm_of_mem {l m : List (ByteArray × Int)} (hl : OneEach l) (hm : OneEach m) (h : ∀ x, x ∈ l ↔ x ∈ m) : l.Perm m := (List.perm_ext_iff_of_nodup hl.nodup hm.nodup).2 h

section
variable (S : Nat → ByteArray) (B : Nat → Int)
/-- The keys, at their first coming. -/
def keysL : Nat → List ByteArray
  | 0 => []
  | k + 1 => if (val S B k (S k)).isSome = true then keysL k else keysL k ++ [S k]
theorem mem_keysL (s : ByteArray) : ∀ k, s ∈ keysL S B k ↔ (val S B k s).isSome = true
  | 0 => by simp [keysL, val]
  | k + 1 => by
    have ih := mem_keysL s k
    by_cases h : S k = s
    · have e : val S B (k + 1) s = some (B k) := by rw [val, if_pos h]
      rw [e, keysL]
      subst h
      split
      · rename_i h2
        exact ⟨fun _ => rfl, fun _ => ih.2 h2⟩
      · simp
    · have e : val S B (k + 1) s = val S B k s := by rw [val, if_neg h]
      rw [e, keysL]
      split
      · exact ih
      · rw [List.mem_append, ih, List.mem_singleton]
        exact ⟨fun h2 => h2.resolve_right (fun h3 => h h3.symm), Or.inl⟩
theorem keysL_nodup : ∀ k, (keysL S B k).Nodup
  | 0 => List.Pairwise.nil
  | k + 1 => by
    rw [keysL]
    split
    · exact keysL_nodup k
    · rename_i h
      refine List.pairwise_append.2 ⟨keysL_nodup k, List.pairwise_singleton _ _, fun x hx y hy => ?_⟩
      rw [List.mem_singleton.1 hy]
      intro e
      exact h ((mem_keysL S B (S k) k).1 (e ▸ hx))
/-- As many keys as wanted accounts. -/
theorem keys_want (n : Nat) : (keysL S B n).length = (wantL S B n n).length := by
  have h1 : ((wantL S B n n).map (·.1)).Nodup := List.pairwise_map.2 (want_one S B n n (Nat.le_refl _))
  have h2 : (keysL S B n).Perm ((wantL S B n n).map (·.1)) := by
    refine (List.perm_ext_iff_of_nodup (keysL_nodup S B n) h1).2 fun s => ?_
    rw [mem_keysL, Option.isSome_iff_exists, List.mem_map]
    constructor
    · rintro ⟨b, hb⟩
      exact ⟨(s, b), (mem_want S B n s b).2 hb, rfl⟩
    · rintro ⟨⟨t, b⟩, h3, rfl⟩
      exact ⟨b, (mem_want S B n t b).1 h3⟩
  rw [h2.length_eq, List.length_map]
end

/-- Once sorted by name they are one list. -/
theorem sorted_one {lt : ByteArray → ByteArray → Bool} (tot : ∀ s t, lt s t = false → lt t s = false → s = t) {l m l' m' : List (ByteArray × Int)} (hl : OneEach l) (hp : l.Perm m) (h1 : l'.Perm l) (h2 : m'.Perm m)
    (s1 : l'.Pairwise fun x y => lt y.1 x.1 = false) (s2 : m'.Pairwise fun x y => lt y.1 x.1 = false) : l' = m' := by
  refine List.Perm.eq_of_pairwise (le := fun x y => lt y.1 x.1 = false) (fun a b ha hb hab hba => ?_) s1 s2 (h1.trans (hp.trans h2.symm))
  exact hl.key (h1.mem_iff.1 ha) (hp.mem_iff.2 (h2.mem_iff.1 hb)) (tot _ _ hba hab)
end Go.Proofs.Ybulkfpaa
