import Derived.Test.Qxb6617102aNumC
import Derived.Deep.Slices
namespace Go.Proofs.Qxb6617102a
open Go.RowKit
set_option linter.unusedVariables false

theorem PathsAt.of {w : World} {a : Option Addr} {n : Nat} {S : Nat → ByteArray} (h : RowAt w a n (fun i => .string (S i))) (hs : ∀ i, i < n → (S i).size ≤ 9223372036854775807) : PathsAt w a n S := by
  rcases h with h | ⟨b, o, rfl, hb, hc⟩
  · exact .inl h
  · exact .inr ⟨b, o, rfl, hb, fun i hi => ⟨hc i hi, hs i hi⟩⟩

set_option maxHeartbeats 2000000 in
theorem num_shape (nm : ByteArray) (pl : Int) (apc : Option Addr) (npc cpc : Nat) (ln : Int) (ap : Option Addr) (np cp : Nat) (al : Option Addr) (nl cl : Nat) (ad : Option Addr) (nd cd : Nat) (ax : Option Addr) (nx cx : Nat) (xc : Bool) (w : World)
    (c1 : Hid (Calls Try.prog 16 #[.string nm, .int .i64 pl, .slice apc npc cpc, .int .i64 ln, .slice ap np cp, .slice al nl cl, .slice ad nd cd, .slice ax nx cx, .bool xc] w fun e w' => RB e ∧ w' = w))
    (c2 : Hid (Calls Try.prog 9 #[.string nm, .slice apc npc cpc, .slice ap np cp, .slice al nl cl, .slice ad nd cd, .slice ax nx cx] w fun e w' => TB nl e ∧ w' = w))
    (h : Hid (¬ (np = nl ∧ nd = nl ∧ nx = nl))) :
    Calls Try.prog 5 #[.string nm, .int .i64 pl, .slice apc npc cpc, .int .i64 ln, .slice ap np cp, .slice al nl cl, .slice ad nd cd, .slice ax nx cx, .bool xc] w
      fun e w' => e = .returned (.bool true) ∧ Below w.heap.size w w' := by
  go_enter Try.func5, Try.ntmps5
  go_wp2_with fail
  refine c1.out.mono ?_
  rintro e w' ⟨⟨b, rfl⟩, hw⟩
  subst w'
  cases b with
  | false =>
    go_wp2_with fail
    go_ret
    exact ⟨rfl, Below.refl _ _⟩
  | true =>
    go_wp2_with fail
    refine c2.out.mono ?_
    rintro e w' ⟨h', hw⟩
    subst w'
    rcases h' with rfl | ⟨rfl, hn⟩
    · go_wp2_with fail
      go_ret
      exact ⟨rfl, Below.refl _ _⟩
    · go_wp2_with fail
      refine (sameShape_no ap np cp al nl cl ad nd cd ax nx cx _ h.out).mono ?_
      rintro e w' ⟨rfl, hw⟩
      subst w'
      go_wp2_with fail
      go_ret
      exact ⟨rfl, Below.refl _ _⟩

theorem num_walk (nm : ByteArray) (pl : Int) (apc : Option Addr) (npc cpc : Nat) (ln : Int) (ap : Option Addr) (np cp : Nat) (al : Option Addr) (nl cl : Nat) (ad : Option Addr) (nd cd : Nat) (ax : Option Addr) (nx cx : Nat) (xc : Bool) (w : World)
    (S : Nat → ByteArray) (L : Nat → Int) (pd ex : Nat → Bool)
    (h0 : RowAt w ap np (fun i => .string (S i))) (hs : ∀ i, i < np → (S i).size ≤ maxLen) (h1 : RowAt w al nl (fun i => .int .i64 (L i))) (h2 : RowAt w ad nd (fun i => .bool (pd i))) (h3 : RowAt w ax nx (fun i => .bool (ex i)))
    (g1 : nm.size ≤ maxLen) (g2 : npc ≤ maxLen) (g3 : np ≤ maxLen) (g4 : nl ≤ maxLen) (g5 : nd ≤ maxLen) (g6 : nx ≤ maxLen) (hnil : al = none → nl = 0 ∧ cl = 0) :
    Calls Try.prog 5 #[.string nm, .int .i64 pl, .slice apc npc cpc, .int .i64 ln, .slice ap np cp, .slice al nl cl, .slice ad nd cd, .slice ax nx cx, .bool xc] w
      fun e w' => e = .returned (.bool true) ∧ Below w.heap.size w w' := by
  unfold maxLen at *
  have c1 := zzBytes9_calls nm pl apc npc cpc ln ap np cp al nl cl ad nd cd ax nx cx xc S w (PathsAt.of h0 hs) g1 g2 g3 g4 g5 g6
  have c2 := infoTooBig_calls nm apc npc cpc ap np cp al nl cl ad nd cd ax nx cx S w (PathsAt.of h0 hs) g1 g2 g3 g4 g5 g6
  by_cases hsame : np = nl ∧ nd = nl ∧ nx = nl
  · obtain ⟨rfl, rfl, rfl⟩ := hsame
    cases al with
    | none =>
      obtain ⟨rfl, rfl⟩ := hnil rfl
      exact num_nil nm pl apc npc cpc ln ap cp ad cd ax cx xc w c1 c2
    | some x => exact num_some nm pl apc npc cpc ln ap cp cl ad cd ax cx xc w x _ S L pd ex c1 c2 h0 h1 h2 h3
  · exact num_shape nm pl apc npc cpc ln ap np cp al nl cl ad nd cd ax nx cx xc w c1 c2 hsame

theorem add_plain (b off i : Nat) : (⟨b, off, none⟩ : Addr).add i = ⟨b, off + i, none⟩ := by
  unfold Addr.add
  by_cases h : i = 0
  · subst h; rfl
  · simp [h]

/-- A slice of one-cell elements, opened for the walk. -/
theorem row_open {H : Type} {enc : TypeId × Value → H} {P : Program} {W : World} {t e : TypeId} {a : Option Addr} {len cap : Nat} {d : DataW H} {ps : List MemPlace}
    (ht : P.underlying t = some (.slice e)) (hc : P.cellsOf e = 1) (h : DataW.Trod enc P W 0 (fun _ => true) true t (.slice a len cap) d ps) :
    (a = none → len = 0 ∧ cap = 0) ∧ len ≤ maxLen ∧ ∃ V : Nat → Value, RowAt W a len V ∧ ∀ i, i < len → ∃ n y, DataW.trod enc P W 0 (fun _ => true) true n e [V i] = some y := by
  obtain ⟨fuel, hf⟩ := h
  rcases Deep.open_slice1 ht hc hf with ⟨hcs, _⟩ | ⟨x, l, c, m, n, V, D, Pl, hcs, _, hl, hm, hmm, _, hcell⟩
  · simp [Value.cells] at hcs
    obtain ⟨rfl, rfl, rfl⟩ := hcs
    exact ⟨fun _ => ⟨rfl, rfl⟩, Nat.zero_le _, fun _ => .bool false, .inl rfl, fun i hi => absurd hi (Nat.not_lt_zero _)⟩
  · simp [Value.cells] at hcs
    obtain ⟨rfl, rfl, rfl⟩ := hcs
    simp only [if_true] at hmm
    subst hmm
    refine ⟨(fun h => by cases h), Nat.le_trans hl hm, V, ?_, fun i hi => ⟨n, _, (hcell i (by omega)).2⟩⟩
    by_cases h0 : len = 0
    · exact .inl h0
    · obtain ⟨b, off, spot⟩ := x
      have h1 := (hcell 0 (by omega)).1
      have hspot : spot = none := by simpa [Addr.add] using World.cell?_spot h1
      subst hspot
      exact .inr ⟨b, off, rfl, World.block_lt_of_cell? _ _ h1, fun i hi => by
        have h2 := (hcell i (by omega)).1
        rw [add_plain] at h2
        exact h2⟩

theorem RowAt.congr {w : World} {a : Option Addr} {n : Nat} {V V' : Nat → Value} (h : RowAt w a n V) (e : ∀ i, i < n → V i = V' i) : RowAt w a n V' := by
  rcases h with h | ⟨b, o, rfl, hb, hc⟩
  · exact .inl h
  · exact .inr ⟨b, o, rfl, hb, fun i hi => by rw [← e i hi]; exact hc i hi⟩

def strOf : Value → ByteArray | .string s => s | _ => ByteArray.empty
def boolOf : Value → Bool | .bool b => b | _ => false

theorem strings_open {H : Type} {enc : TypeId × Value → H} {P : Program} {W : World} {t e : TypeId} {a : Option Addr} {len cap : Nat} {d : DataW H} {ps : List MemPlace}
    (ht : P.underlying t = some (.slice e)) (he : P.underlying e = some .string) (hc : P.cellsOf e = 1) (h : DataW.Trod enc P W 0 (fun _ => true) true t (.slice a len cap) d ps) :
    len ≤ maxLen ∧ ∃ S : Nat → ByteArray, RowAt W a len (fun i => .string (S i)) ∧ ∀ i, i < len → (S i).size ≤ maxLen := by
  obtain ⟨_, hm, V, hV, hx⟩ := row_open ht hc h
  have key : ∀ i, i < len → V i = .string (strOf (V i)) ∧ (strOf (V i)).size ≤ maxLen := fun i hi => by
    obtain ⟨n, y, hy⟩ := hx i hi
    obtain ⟨s, hs, _, hsz⟩ := DataW.trod_string he hy
    simp only [List.cons.injEq, and_true] at hs
    rw [hs]
    exact ⟨rfl, hsz⟩
  exact ⟨hm, fun i => strOf (V i), hV.congr fun i hi => (key i hi).1, fun i hi => (key i hi).2⟩

theorem bools_open {H : Type} {enc : TypeId × Value → H} {P : Program} {W : World} {t e : TypeId} {a : Option Addr} {len cap : Nat} {d : DataW H} {ps : List MemPlace}
    (ht : P.underlying t = some (.slice e)) (he : P.underlying e = some .bool) (hc : P.cellsOf e = 1) (h : DataW.Trod enc P W 0 (fun _ => true) true t (.slice a len cap) d ps) :
    len ≤ maxLen ∧ ∃ S : Nat → Bool, RowAt W a len (fun i => .bool (S i)) := by
  obtain ⟨_, hm, V, hV, hx⟩ := row_open ht hc h
  have key : ∀ i, i < len → V i = .bool (boolOf (V i)) := fun i hi => by
    obtain ⟨n, y, hy⟩ := hx i hi
    obtain ⟨s, hs, _⟩ := DataW.trod_bool he hy
    simp only [List.cons.injEq, and_true] at hs
    rw [hs]
    rfl
  exact ⟨hm, fun i => boolOf (V i), hV.congr key⟩

theorem ints_open {H : Type} {enc : TypeId × Value → H} {P : Program} {W : World} {t e : TypeId} {k : IntKind} {a : Option Addr} {len cap : Nat} {d : DataW H} {ps : List MemPlace}
    (ht : P.underlying t = some (.slice e)) (he : P.underlying e = some (.int k)) (hc : P.cellsOf e = 1) (h : DataW.Trod enc P W 0 (fun _ => true) true t (.slice a len cap) d ps) :
    (a = none → len = 0 ∧ cap = 0) ∧ len ≤ maxLen ∧ ∃ S : Nat → Int, RowAt W a len (fun i => .int k (S i)) := by
  obtain ⟨hn, hm, V, hV, hx⟩ := row_open ht hc h
  have key : ∀ i, i < len → V i = .int k (intOf (V i)) := fun i hi => by
    obtain ⟨n, y, hy⟩ := hx i hi
    obtain ⟨s, hs, _⟩ := DataW.trod_int he hy
    simp only [List.cons.injEq, and_true] at hs
    rw [hs]
    rfl
  exact ⟨hn, hm, fun i => intOf (V i), hV.congr key⟩

end Go.Proofs.Qxb6617102a
