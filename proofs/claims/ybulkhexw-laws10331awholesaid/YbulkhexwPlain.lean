/-
  PLAIN LEAN, NO GO IN SIGHT: requests, who waits for whom, and the two ways of asking whether an owner blocks another.
-/
namespace Go.Proofs.Ybulkhexw

/-- A request as it is queued: owner and key 0..3, mode 0..4, its number, granted or not. -/
structure Rq where
  owner : Int
  key : Int
  mode : Int
  num : Int
  granted : Bool

/-- One drawn request: five raw numbers. -/
structure Raw where
  ow : Int
  ky : Int
  md : Int
  nb : Int
  gr : Bool

def norm (r : Raw) : Rq := ⟨r.ow % 4, r.ky % 4, r.md % 5, r.nb, r.gr⟩
def Raw.ok (r : Raw) : Prop := (0 ≤ r.ow ∧ r.ow < 256) ∧ (0 ≤ r.ky ∧ r.ky < 256) ∧ (0 ≤ r.md ∧ r.md < 256) ∧ (0 ≤ r.nb ∧ r.nb < 256)
def Rq.ok (r : Rq) : Prop := (0 ≤ r.owner ∧ r.owner ≤ 3) ∧ (0 ≤ r.key ∧ r.key ≤ 3) ∧ (0 ≤ r.mode ∧ r.mode ≤ 4) ∧ (0 ≤ r.num ∧ r.num ≤ 255)
theorem norm_ok {r : Raw} (h : r.ok) : (norm r).ok := by
  obtain ⟨h1, h2, h3, h4⟩ := h
  refine ⟨⟨?_, ?_⟩, ⟨?_, ?_⟩, ⟨?_, ?_⟩, ⟨?_, ?_⟩⟩ <;> (simp only [norm]; omega)

/-- Does a request in mode a wait for a lock in mode b? -/
def waits (a b : Int) : Bool := if a = 1 then b == 2 else if a = 2 then (b == 1 || b == 2) else if a = 4 then b == 3 else false
/-- Does the request r wait behind g? -/
def behindB (r g : Rq) : Bool := (g.owner != r.owner) && waits r.mode g.mode && !(decide (r.num < g.num) && (!g.granted || r.mode == 4))

/-- One queue: does a waiting request of it wait behind a request of o? -/
def queueB {α : Type} (o : Int) (Q : List (Rq × α)) : Bool := Q.any fun r => !r.1.granted && Q.any fun g => g.1.owner == o && behindB r.1 g.1

/-- The law's own two loops. -/
def colB (o : Int) (r g : Rq) : Bool := (g.key == r.key) && (g.owner == o) && waits r.mode g.mode && !(decide (r.num < g.num) && (!g.granted || r.mode == 4))
def rowB (held : Int → Bool) (o : Int) (all : List Rq) (r : Rq) : Bool := !r.granted && held r.key && (r.owner != o) && all.any (colB o r)
def wantB (held : Int → Bool) (o : Int) (all : List Rq) : Bool := all.any (rowB held o all)

/-- The queue of key x. -/
def queueOf {α : Type} (PL : List (Rq × α)) (x : Int) : List (Rq × α) := PL.filter fun p => p.1.key == x

theorem queueB_iff {α : Type} (o : Int) (Q : List (Rq × α)) : queueB o Q = true ↔ ∃ r ∈ Q, r.1.granted = false ∧ ∃ g ∈ Q, g.1.owner = o ∧ behindB r.1 g.1 = true := by
  simp [queueB, List.any_eq_true]

/-- THE PLAIN LAW: some held key's queue blocks, just if the law's loops say so. -/
theorem blocks_iff_want {α : Type} (held : Int → Bool) (o : Int) (PL : List (Rq × α)) (hk : ∀ p ∈ PL, 0 ≤ p.1.key ∧ p.1.key ≤ 3) :
    (∃ x : Int, (0 ≤ x ∧ x ≤ 3) ∧ held x = true ∧ queueB o (queueOf PL x) = true) ↔ wantB held o (PL.map (·.1)) = true := by
  constructor
  · rintro ⟨x, _, hh, hq⟩
    rw [queueB_iff] at hq
    obtain ⟨r, hr, hg, g, hgm, ho, hb⟩ := hq
    simp only [queueOf, List.mem_filter, beq_iff_eq] at hr hgm
    simp only [wantB, List.any_eq_true, List.mem_map]
    refine ⟨r.1, ⟨r, hr.1, rfl⟩, ?_⟩
    simp only [behindB, Bool.and_eq_true, bne_iff_ne, ne_eq] at hb
    simp only [rowB, Bool.and_eq_true, List.any_eq_true, List.mem_map, bne_iff_ne, ne_eq]
    refine ⟨⟨⟨by simp [hg], by rw [hr.2]; exact hh⟩, fun e => hb.1.1 (by rw [e, ho])⟩, g.1, ⟨g, hgm.1, rfl⟩, ?_⟩
    simp only [colB, Bool.and_eq_true, beq_iff_eq]
    exact ⟨⟨⟨by rw [hgm.2, hr.2], ho⟩, hb.1.2⟩, hb.2⟩
  · intro hw
    simp only [wantB, List.any_eq_true, List.mem_map] at hw
    obtain ⟨r', ⟨r, hr, rfl⟩, hrow⟩ := hw
    simp only [rowB, Bool.and_eq_true, List.any_eq_true, List.mem_map, bne_iff_ne, ne_eq] at hrow
    obtain ⟨⟨⟨hg, hh⟩, hne⟩, g', ⟨g, hgm, rfl⟩, hcol⟩ := hrow
    simp only [colB, Bool.and_eq_true, beq_iff_eq] at hcol
    refine ⟨r.1.key, hk r hr, hh, ?_⟩
    rw [queueB_iff]
    refine ⟨r, by simp [queueOf, hr], by simpa using hg, g, by simp [queueOf, hgm, hcol.1.1.1], hcol.1.1.2, ?_⟩
    simp only [behindB, Bool.and_eq_true, bne_iff_ne, ne_eq]
    exact ⟨⟨fun e => hne (by rw [← e]; exact hcol.1.1.2), hcol.1.2⟩, hcol.2⟩
end Go.Proofs.Ybulkhexw
