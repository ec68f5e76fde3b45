/- A doubly linked list in plain words: which order its links make; what taking one out does. No Go in sight. -/
set_option linter.unusedVariables false
namespace Go.Proofs.Qxb6617882a

structure Good (n : Nat) (hd tl : Option Nat) (o nw : Nat → Option Nat) (ord : List Nat) : Prop where
  hd : hd = ord[0]?
  tl : tl = if ord.length = 0 then none else ord[ord.length - 1]?
  old : ∀ (p i : Nat), ord[p]? = some i → o i = if p = 0 then none else ord[p - 1]?
  new : ∀ (p i : Nat), ord[p]? = some i → nw i = ord[p + 1]?
  inj : ∀ (p q i : Nat), ord[p]? = some i → ord[q]? = some i → p = q
  lt : ∀ (p i : Nat), ord[p]? = some i → i < n

def upd (f : Nat → Option Nat) (i : Nat) (x : Option Nat) : Nat → Option Nat := fun j => if j = i then x else f j
theorem upd_same (f : Nat → Option Nat) (i : Nat) (x : Option Nat) : upd f i x i = x := by simp [upd]
theorem upd_ne {f : Nat → Option Nat} {i j : Nat} {x : Option Nat} (h : j ≠ i) : upd f i x j = f j := by simp [upd, h]

def unO (k : Nat) (o nw : Nat → Option Nat) : Nat → Option Nat := match nw k with | some b => upd o b (o k) | none => o
def unN (k : Nat) (o nw : Nat → Option Nat) : Nat → Option Nat := match o k with | some a => upd nw a (nw k) | none => nw
def unH (k : Nat) (hd : Option Nat) (o nw : Nat → Option Nat) : Option Nat := match o k with | some _ => hd | none => nw k
def unT (k : Nat) (tl : Option Nat) (o nw : Nat → Option Nat) : Option Nat := match nw k with | some _ => tl | none => o k

theorem lt_of_get {l : List Nat} {p i : Nat} (h : l[p]? = some i) : p < l.length := by
  rcases Nat.lt_or_ge p l.length with h1 | h1
  · exact h1
  · rw [List.getElem?_eq_none h1] at h; cases h

theorem Good.unlink {n : Nat} {hd tl : Option Nat} {o nw : Nat → Option Nat} {ord : List Nat} (g : Good n hd tl o nw ord) {p k : Nat} (hp : ord[p]? = some k) :
    Good n (unH k hd o nw) (unT k tl o nw) (unO k o nw) (unN k o nw) (ord.eraseIdx p) := by
  have hlen := lt_of_get hp
  have ho := g.old p k hp
  have hn := g.new p k hp
  have hget : ∀ (j : Nat), (ord.eraseIdx p)[j]? = if j < p then ord[j]? else ord[j + 1]? := fun j => List.getElem?_eraseIdx
  have hl' : (ord.eraseIdx p).length = ord.length - 1 := List.length_eraseIdx_of_lt hlen
  refine ⟨?_, ?_, ?_, ?_, ?_, ?_⟩
  · rw [hget]
    unfold unH
    by_cases h0 : p = 0
    · subst h0
      rw [if_pos rfl] at ho
      rw [ho, if_neg (by omega)]
      exact hn
    · rw [if_neg h0, List.getElem?_eq_getElem (by omega)] at ho
      rw [ho, if_pos (by omega)]
      exact g.hd
  · rw [hl', hget]
    unfold unT
    by_cases hlast : p + 1 < ord.length
    · rw [List.getElem?_eq_getElem hlast] at hn
      rw [hn]
      have := g.tl
      rw [if_neg (by omega)] at this
      rw [if_neg (by omega), if_neg (by omega), show ord.length - 1 - 1 + 1 = ord.length - 1 from by omega]
      exact this
    · rw [List.getElem?_eq_none (by omega)] at hn
      rw [hn]
      show o k = _
      rw [ho]
      by_cases h0 : p = 0
      · rw [if_pos h0, if_pos (by omega)]
      · rw [if_neg h0, if_neg (by omega), if_pos (by omega)]
        congr 1
        omega
  · intro j i hj
    rw [hget] at hj
    have hq : ∃ q, ord[q]? = some i ∧ q ≠ p ∧ ((j < p ∧ q = j) ∨ (p ≤ j ∧ q = j + 1)) := by
      by_cases h : j < p
      · rw [if_pos h] at hj; exact ⟨j, hj, by omega, .inl ⟨h, rfl⟩⟩
      · rw [if_neg h] at hj; exact ⟨j + 1, hj, by omega, .inr ⟨by omega, rfl⟩⟩
    obtain ⟨q, hq, hqp, hc⟩ := hq
    have hoi := g.old q i hq
    by_cases hb : nw k = some i
    · have hq1 : q = p + 1 := g.inj q (p + 1) i hq (by rw [← hn]; exact hb)
      have hjp : j = p := by omega
      unfold unO
      rw [hb]
      show upd o i (o k) i = _
      rw [upd_same, ho, hjp]
      by_cases h0 : p = 0
      · rw [if_pos h0, if_pos h0]
      · rw [if_neg h0, if_neg h0, hget, if_pos (by omega)]
    · have e : unO k o nw i = o i := by
        unfold unO
        cases hk : nw k with
        | none => rfl
        | some b => exact upd_ne (fun h => hb (by rw [hk, h]))
      rw [e, hoi]
      rcases hc with ⟨h1, rfl⟩ | ⟨h1, rfl⟩
      · by_cases h0 : q = 0
        · rw [if_pos h0, if_pos h0]
        · rw [if_neg h0, if_neg h0, hget, if_pos (by omega)]
      · have hjp : j ≠ p := fun h => hb (by rw [hn, ← h]; exact hq)
        rw [if_neg (by omega), if_neg (by omega), hget, if_neg (by omega)]
        congr 1
        omega
  · intro j i hj
    rw [hget] at hj
    have hq : ∃ q, ord[q]? = some i ∧ q ≠ p ∧ ((j < p ∧ q = j) ∨ (p ≤ j ∧ q = j + 1)) := by
      by_cases h : j < p
      · rw [if_pos h] at hj; exact ⟨j, hj, by omega, .inl ⟨h, rfl⟩⟩
      · rw [if_neg h] at hj; exact ⟨j + 1, hj, by omega, .inr ⟨by omega, rfl⟩⟩
    obtain ⟨q, hq, hqp, hc⟩ := hq
    have hni := g.new q i hq
    by_cases ha : o k = some i
    · have hp0 : p ≠ 0 := fun h => by rw [if_pos h] at ho; rw [ho] at ha; cases ha
      rw [if_neg hp0] at ho
      have hq1 : q = p - 1 := g.inj q (p - 1) i hq (by rw [← ho]; exact ha)
      have hjp : j + 1 = p := by omega
      unfold unN
      rw [ha]
      show upd nw i (nw k) i = _
      rw [upd_same, hn, hget, hjp, if_neg (by omega)]
    · have e : unN k o nw i = nw i := by
        unfold unN
        cases hk : o k with
        | none => rfl
        | some b => exact upd_ne (fun h => ha (by rw [hk, h]))
      rw [e, hni, hget]
      rcases hc with ⟨h1, rfl⟩ | ⟨h1, rfl⟩
      · have hjp : q + 1 ≠ p := fun h => ha (by rw [ho, if_neg (by omega), ← h]; exact hq)
        rw [if_pos (by omega)]
      · rw [if_neg (by omega)]
  · intro a b i ha hb
    rw [hget] at ha hb
    by_cases h1 : a < p
    · rw [if_pos h1] at ha
      by_cases h2 : b < p
      · rw [if_pos h2] at hb; exact g.inj a b i ha hb
      · rw [if_neg h2] at hb; have := g.inj a (b + 1) i ha hb; omega
    · rw [if_neg h1] at ha
      by_cases h2 : b < p
      · rw [if_pos h2] at hb; have := g.inj (a + 1) b i ha hb; omega
      · rw [if_neg h2] at hb; have := g.inj (a + 1) (b + 1) i ha hb; omega
  · intro a i ha
    rw [hget] at ha
    by_cases h1 : a < p
    · rw [if_pos h1] at ha; exact g.lt a i ha
    · rw [if_neg h1] at ha; exact g.lt (a + 1) i ha

/-- The list as it is built: 0, 1, .., n - 1. -/
def oF (i : Nat) : Option Nat := if i = 0 then none else some (i - 1)
def nF (n : Nat) (i : Nat) : Option Nat := if i + 1 < n then some (i + 1) else none

theorem Good.start (n : Nat) : Good n (if n = 0 then none else some 0) (if n = 0 then none else some (n - 1)) oF (nF n) (List.range n) := by
  have hget : ∀ (j : Nat), (List.range n)[j]? = if j < n then some j else none := fun j => by
    by_cases h : j < n
    · rw [if_pos h, List.getElem?_range h]
    · rw [if_neg h, List.getElem?_eq_none (by simp; omega)]
  have hidx : ∀ (p i : Nat), (List.range n)[p]? = some i → p = i ∧ i < n := fun p i h => by
    rw [hget] at h
    by_cases hp : p < n
    · rw [if_pos hp] at h; cases h; exact ⟨rfl, hp⟩
    · rw [if_neg hp] at h; cases h
  refine ⟨?_, ?_, ?_, ?_, ?_, ?_⟩
  · rw [hget]
    by_cases h : n = 0
    · rw [if_pos h, if_neg (by omega)]
    · rw [if_neg h, if_pos (by omega)]
  · rw [List.length_range, hget]
    by_cases h : n = 0
    · rw [if_pos h, if_pos h]
    · rw [if_neg h, if_neg h, if_pos (by omega)]
  · intro p i h
    obtain ⟨rfl, hi⟩ := hidx p i h
    unfold oF
    by_cases h0 : p = 0
    · rw [if_pos h0, if_pos h0]
    · rw [if_neg h0, if_neg h0, hget, if_pos (by omega)]
  · intro p i h
    obtain ⟨rfl, hi⟩ := hidx p i h
    unfold nF
    rw [hget]
  · intro p q i h1 h2
    have := (hidx p i h1).1
    have := (hidx q i h2).1
    omega
  · intro p i h
    exact (hidx p i h).2

end Go.Proofs.Qxb6617882a
