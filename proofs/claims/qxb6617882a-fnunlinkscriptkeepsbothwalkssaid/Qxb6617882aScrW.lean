import Derived.Test.Qxb6617882aScr
namespace Go.Proofs.Qxb6617882a
open Go.RowKit
set_option linter.unusedVariables false

/-- what the loop over the script keeps: the list's links make 'ord', and so do the cells of 'order' -/
structure St (w wr : World) (n bo : Nat) (ord : List Nat) (L : Nat) : Prop where
  ls : ∃ hd tl o nw, LS w wr n n hd tl o nw ∧ Good n hd tl o nw ord
  row : ∃ f, wr.rowIs bo 3 n f ∧ ∀ (j x : Nat), ord[j]? = some x → f j = .int .i64 (x : Int)
  len : ord.length = L
  le : L ≤ n
  hi : w.heap.size + 2 + n ≤ bo
structure StE (w wr : World) (n bo L : Nat) : Prop where
  ex : ∃ ord, St w wr n bo ord L

/-- what the filling loop keeps -/
structure Fi (w1 wr : World) (n k : Nat) : Prop where
  below : Below w1.heap.size w1 wr
  row : wr.rowIs w1.heap.size 3 n (fun j => if j < k then .int .i64 (j : Int) else .int .i64 0)

theorem Fi.start (w1 : World) (n : Nat) : Fi w1 (w1.alloc (.cells (madeCells #[.int .i64 0] n) 3)) n 0 :=
  ⟨(Below.refl _ _).alloc (Nat.le_refl _) _, (World.rowIs_made w1 _ n 3).congr fun i hi => by rw [if_neg (by omega)]⟩

theorem Fi.step {w1 wr : World} {n k : Nat} (h : Fi w1 wr n k) : Fi w1 (wr.setCell ⟨w1.heap.size, k, none⟩ (.int .i64 (k : Int))) n (k + 1) :=
  ⟨h.below.setCell (p := ⟨w1.heap.size, k, none⟩) (Nat.le_refl _) _, (h.row.set k _).congr fun q hq => by
    by_cases e : q = k
    · subst e; rw [if_pos rfl, if_pos (by omega)]
    · rw [if_neg e]
      by_cases e2 : q < k
      · rw [if_pos e2, if_pos (by omega)]
      · rw [if_neg e2, if_neg (by omega)]⟩

theorem StE.start {w w1 wr : World} {n : Nat} (hL : LS w w1 n n (if n = 0 then none else some 0) (if n = 0 then none else some (n - 1)) oF (nF n)) (hF : Fi w1 wr n n) : StE w wr n w1.heap.size n :=
  ⟨List.range n, ⟨_, _, _, _, hL.above (hF.below.mono hL.size), Good.start n⟩, ⟨_, hF.row, fun j x hx => by
    have hj := lt_of_get hx
    rw [List.length_range] at hj
    rw [List.getElem?_range hj] at hx
    rw [if_pos hj, Option.some.inj hx]⟩, by simp, Nat.le_refl _, hL.size⟩

theorem St.below {w wr : World} {n bo L : Nat} {ord : List Nat} (h : St w wr n bo ord L) : Below w.heap.size w wr := by
  obtain ⟨_, _, _, _, hL, _⟩ := h.ls
  exact hL.below
theorem StE.below {w wr : World} {n bo L : Nat} (h : StE w wr n bo L) : Below w.heap.size w wr := by
  obtain ⟨_, h⟩ := h.ex
  exact h.below

theorem St.get {w wr : World} {n bo L : Nat} {ord : List Nat} (h : St w wr n bo ord L) {q x : Nat} (hx : ord[q]? = some x) : wr.cell? ⟨bo, q, none⟩ = some (.int .i64 (x : Int)) := by
  obtain ⟨f, hf, hc⟩ := h.row
  have := lt_of_get hx
  have := h.len
  have := h.le
  rw [hf.cell (by omega), hc q x hx]

/-- what the shifting loop keeps; w2: the world behind unlink -/
structure Sh (w2 w4 : World) (n bo : Nat) (ord : List Nat) (p i : Nat) : Prop where
  below : Below bo w2 w4
  row : ∃ f, w4.rowIs bo 3 n f ∧ (∀ (q x : Nat), q < i → (ord.eraseIdx p)[q]? = some x → f q = .int .i64 (x : Int)) ∧ (∀ (q x : Nat), i < q → ord[q]? = some x → f q = .int .i64 (x : Int))

theorem Sh.start {w wr w2 : World} {n bo L : Nat} {ord : List Nat} (h : St w wr n bo ord L) (hk : Kept (w.heap.size + 2 + n) wr w2) (p : Nat) : Sh w2 w2 n bo ord p p := by
  obtain ⟨f, hf, hc⟩ := h.row
  refine ⟨Below.refl _ _, f, hk _ _ _ _ h.hi hf, fun q x hq hx => ?_, fun q x hq hx => hc q x hx⟩
  rw [List.getElem?_eraseIdx, if_pos hq] at hx
  exact hc q x hx

theorem Sh.get {w2 w4 : World} {n bo : Nat} {ord : List Nat} {p i : Nat} (h : Sh w2 w4 n bo ord p i) {x : Nat} (hx : ord[i + 1]? = some x) (hn : ord.length ≤ n) : w4.cell? ⟨bo, i + 1, none⟩ = some (.int .i64 (x : Int)) := by
  obtain ⟨f, hf, _, hc⟩ := h.row
  have := lt_of_get hx
  rw [hf.cell (by omega), hc (i + 1) x (by omega) hx]

theorem Sh.step {w2 w4 : World} {n bo : Nat} {ord : List Nat} {p i : Nat} (h : Sh w2 w4 n bo ord p i) (hpi : p ≤ i) {x : Nat} (hx : ord[i + 1]? = some x) : Sh w2 (w4.setCell ⟨bo, i, none⟩ (.int .i64 (x : Int))) n bo ord p (i + 1) := by
  obtain ⟨f, hf, h1, h2⟩ := h.row
  refine ⟨h.below.setCell (p := ⟨bo, i, none⟩) (Nat.le_refl _) _, _, hf.set i _, fun q y hq hy => ?_, fun q y hq hy => ?_⟩
  · by_cases e : q = i
    · subst e
      rw [List.getElem?_eraseIdx, if_neg (by omega), hx] at hy
      rw [if_pos rfl, Option.some.inj hy]
    · rw [if_neg e]
      exact h1 q y (by omega) hy
  · rw [if_neg (by omega)]
    exact h2 q y (by omega) hy

theorem Sh.done {w wr w2 w4 : World} {n bo L : Nat} {ord : List Nat} {p k i : Nat} {hd tl : Option Nat} {o nw : Nat → Option Nat} (h : St w wr n bo ord (L + 1)) (hp : ord[p]? = some k) (hs : Sh w2 w4 n bo ord p i) (hi : i = L)
    (hL : LS w w2 n n hd tl o nw) (hG : Good n hd tl o nw (ord.eraseIdx p)) : St w w4 n bo (ord.eraseIdx p) L := by
  subst hi
  have hlen := h.len
  have hpl := lt_of_get hp
  have hel : (ord.eraseIdx p).length = i := by rw [List.length_eraseIdx_of_lt hpl]; omega
  obtain ⟨f, hf, h1, _⟩ := hs.row
  refine ⟨⟨_, _, _, _, hL.above (hs.below.mono h.hi), hG⟩, ⟨f, hf, fun q x hx => h1 q x ?_ hx⟩, hel, by have := h.le; omega, h.hi⟩
  have := lt_of_get hx
  omega

theorem St.match {w wr : World} {n bo L : Nat} {ord : List Nat} (h : St w wr n bo ord L) (hn : n ≤ 4096) :
    Calls Try.prog 9 #[.pointer (some ⟨w.heap.size, 0, none⟩), .slice (some ⟨w.heap.size + 1, 0, none⟩) n n, .slice (some ⟨bo, 0, none⟩) L n] wr fun e w' => e = .returned (.bool true) ∧ w' = wr := by
  obtain ⟨hd, tl, o, nw, hL, hG⟩ := h.ls
  have := h.le
  exact match_calls hL hG bo n L h.len (by omega) (by omega) fun j x hx => h.get hx

/-- what unlink leaves, for the loop -/
structure Un (w wr w2 : World) (n : Nat) (ord : List Nat) (p : Nat) : Prop where
  kept : Kept (w.heap.size + 2 + n) wr w2
  ex : ∃ hd tl o nw, LS w w2 n n hd tl o nw ∧ Good n hd tl o nw (ord.eraseIdx p)

theorem St.unlink {w wr : World} {n bo L : Nat} {ord : List Nat} (h : St w wr n bo ord L) {p k : Nat} (hp : ord[p]? = some k) :
    Calls Try.prog 8 #[.pointer (some ⟨w.heap.size, 0, none⟩), .pointer (some ⟨w.heap.size + 2 + k, 0, none⟩)] wr fun e w' => e = .returned (.tuple #[]) ∧ Un w wr w' n ord p := by
  obtain ⟨hd, tl, o, nw, hL, hG⟩ := h.ls
  refine (unlink_calls2 hL hG hp).mono ?_
  rintro e w' ⟨rfl, hk, hL2⟩
  exact ⟨rfl, hk, _, _, _, _, hL2, hG.unlink hp⟩

theorem St.node {w wr : World} {n bo L : Nat} {ord : List Nat} (h : St w wr n bo ord L) {p k : Nat} (hp : ord[p]? = some k) : wr.cell? ⟨w.heap.size + 1, k, none⟩ = some (.pointer (some ⟨w.heap.size + 2 + k, 0, none⟩)) ∧ k < n := by
  obtain ⟨hd, tl, o, nw, hL, hG⟩ := h.ls
  have := hG.lt p k hp
  exact ⟨hL.cnode this this, this⟩

set_option maxRecDepth 100000 in
set_option maxHeartbeats 2000000 in
theorem scr_core (n len cap : Nat) (a : Option Addr) (S : Nat → Int) (w : World) (hR : RowAt w a len (fun i => .int .i64 (S i))) (hn : n ≤ 4096) (hlen : len ≤ 4096) :
    Calls Try.prog 5 #[.int .i64 n, .slice a len cap] w fun e w' => e = .returned (.bool true) ∧ Below w.heap.size w w' := by
  have hmk := run_make_row' (P := Try.prog) 33 3 (.int .i64 0) 8 Try.underlying33 Try.info3 rfl .i64 .i64 n (by omega) (by omega)
  have d1 : decide ((n : Int) < 0) = false := decide_eq_false (by omega)
  have d2 : decide (4096 < (n : Int)) = false := decide_eq_false (by omega)
  have d3 : decide (4096 < (len : Int)) = false := decide_eq_false (by omega)
  have HB : Hid (Calls Try.prog 10 #[.int .i64 n, .slice a len cap] w fun e w' => e = .returned (.bool true) ∧ w' = w) := by
    refine (bytes_calls n a len cap w (Nat.le_trans hlen (by decide))).mono ?_
    rintro e w' ⟨⟨b, rfl, hb⟩, rfl⟩
    rw [hb (by omega)]
    exact ⟨rfl, rfl⟩
  go_enter Try.func5, Try.ntmps5
  go_wp2_with fail
  refine HB.out.mono ?_
  rintro e w' ⟨rfl, hw⟩
  subst w'
  clear HB
  go_wp2_with fail
  go_loop [5] (fun i => ∃ j : Nat, j ≤ len ∧ i = .int .i64 j ∧ Hid (∀ q, q < j → 0 ≤ S q ∧ S q < n)) (fun i => len - (intOf i).toNat)
  case atStart => exact ⟨0, Nat.zero_le _, rfl, fun q hq => absurd hq (Nat.not_lt_zero _)⟩
  case round =>
    obtain ⟨j, hj, rfl, hS⟩ := hrel
    by_cases hlt : j < len
    · rcases hR with hR | ⟨b, o, ha, hb, hc⟩
      · omega
      · subst ha
        have c := hc j hlt
        clear hc
        by_cases e1 : S j < 0
        · have t1 : decide (S j < 0) = true := decide_eq_true e1
          clear e1
          go_wp2_with fail
          go_ret
          exact ⟨rfl, Below.refl _ _⟩
        · have t1 : decide (S j < 0) = false := decide_eq_false e1
          by_cases e2 : (n : Int) ≤ S j
          · have t2 : decide ((n : Int) ≤ S j) = true := decide_eq_true e2
            clear e1 e2
            go_wp2_with fail
            go_ret
            exact ⟨rfl, Below.refl _ _⟩
          · have t2 : decide ((n : Int) ≤ S j) = false := decide_eq_false e2
            have hS' : Hid (∀ q, q < j + 1 → 0 ≤ S q ∧ S q < n) := fun q hq => by
              by_cases eq : q = j
              · subst eq; omega
              · exact hS.out q (by omega)
            clear e1 e2 hS
            go_wp2_with fail
            go_round
            case rel => exact ⟨j + 1, by omega, by go_num, hS'⟩
            case measure => simp [intOf]; omega
    · obtain rfl : len = j := by omega
      clear hj hlt
      go_wp2_with fail
      refine (build_calls n w (by omega)).mono ?_
      rintro e w1 ⟨rfl, hL⟩
      have HL : Hid (LS w w1 n n (if n = 0 then none else some 0) (if n = 0 then none else some (n - 1)) oF (nF n)) := hL
      clear hL
      go_wp2_with fail
      go_loopw [9] (fun i wr => ∃ k : Nat, k ≤ n ∧ i = .int .i64 k ∧ Fi w1 wr n k) (fun i _ => n - (intOf i).toNat)
      case atStart => exact ⟨0, Nat.zero_le _, rfl, Fi.start w1 n⟩
      case round =>
        obtain ⟨k, hk, rfl, hF⟩ := hrel
        by_cases hlt : k < n
        · have c := hF.row.cell hlt
          have z := hF.row.frozen k
          have hF' := hF.step
          clear hF
          go_wp2_with fail
          go_roundw
          case rel => exact ⟨k + 1, by omega, by go_num, hF'⟩
          case measure => simp [intOf]; omega
        · obtain rfl : n = k := by omega
          have hS0 := StE.start HL.out hF
          clear hF HL hmk hk hlt
          go_wp2_with fail
          go_loopw [8, 10] (fun v i w4 => ∃ j L : Nat, j ≤ len ∧ i = .int .i64 j ∧ v = .slice (some ⟨w1.heap.size, 0, none⟩) L n ∧ StE w w4 n w1.heap.size L) (fun _ i _ => len - (intOf i).toNat)
          case atStart => exact ⟨0, n, Nat.zero_le _, rfl, rfl, hS0⟩
          case round =>
            clear hS0
            obtain ⟨j, L, hj, rfl, rfl, hE⟩ := hrel
            by_cases hlt : j < len
            · obtain ⟨ord, hst⟩ := hE.ex
              have hbel := hst.below
              have hLn := hst.le
              obtain ⟨k, hk⟩ : ∃ k : Nat, S j = k := ⟨(S j).toNat, by have := hS.out j hlt; omega⟩
              rcases (hR.below hbel) with hR0 | ⟨b, o, ha, hb, hc⟩
              · omega
              · subst ha
                have c : wr.cell? ⟨b, o + j, none⟩ = some (.int .i64 (S j)) := hc j hlt
                rw [hk] at c
                clear hc hb hbel hk
                go_wp2_with fail
                clear c
                go_loop [12, 13] (fun t i => ∃ q : Nat, q ≤ L ∧ i = .int .i64 q ∧ t = .int .i64 (-1)) (fun _ i => L - (intOf i).toNat)
                case atStart => exact ⟨0, Nat.zero_le _, rfl, rfl⟩
                case round =>
                  obtain ⟨q, hq, rfl, rfl⟩ := hrel
                  by_cases hql : q < L
                  · obtain ⟨x, hx⟩ : ∃ x, ord[q]? = some x := ⟨ord[q]'(by have := hst.len; omega), List.getElem?_eq_getElem (by have := hst.len; omega)⟩
                    have c := hst.get hx
                    by_cases hxk : x = k
                    · subst hxk
                      obtain ⟨cn, hxn⟩ := hst.node hx
                      have hU : Hid (Calls Try.prog 8 #[.pointer (some ⟨w.heap.size, 0, none⟩), .pointer (some ⟨w.heap.size + 2 + x, 0, none⟩)] wr fun e w' => e = .returned (.tuple #[]) ∧ Un w wr w' n ord q) := hst.unlink hx
                      have tk : ((x : Int) == (x : Int)) = true := by simp
                      go_wp2_with fail
                      refine hU.out.mono ?_
                      rintro e w2 ⟨rfl, hun⟩
                      have hsh0 := Sh.start hst hun.kept q
                      obtain ⟨L', hL'⟩ : ∃ L' : Nat, L = L' + 1 := ⟨L - 1, by omega⟩
                      clear hU cn c tk hE
                      go_wp2_with fail
                      go_loopw [14] (fun i w4 => ∃ i' : Nat, q ≤ i' ∧ i' < L ∧ i = .int .i64 i' ∧ Sh w2 w4 n w1.heap.size ord q i') (fun i _ => L - (intOf i).toNat)
                      case atStart => exact ⟨q, Nat.le_refl _, hql, rfl, hsh0⟩
                      case round =>
                        clear hsh0
                        obtain ⟨i, hqi, hiL, rfl, hsh⟩ := hrel
                        have wi : IntKind.i64.wrap ((i : Int) + 1) = ((i + 1 : Nat) : Int) := by rw [IntKind.wrap_i64]; omega
                        by_cases hi1 : i + 1 < L
                        · obtain ⟨y, hy⟩ : ∃ y, ord[i + 1]? = some y := ⟨ord[i + 1]'(by have := hst.len; omega), List.getElem?_eq_getElem (by have := hst.len; omega)⟩
                          have cy := hsh.get hy (by have := hst.len; omega)
                          have ci : ∃ v, wr.cell? ⟨w1.heap.size, i, none⟩ = some v := by
                            obtain ⟨f, hf, _⟩ := hsh.row
                            exact ⟨_, hf.cell (by omega)⟩
                          obtain ⟨v, cv⟩ := ci
                          have fz : wr.frozen? ⟨w1.heap.size, i, none⟩ = false := by
                            obtain ⟨f, hf, _⟩ := hsh.row
                            exact hf.frozen i
                          have hsh' := hsh.step hqi hy
                          clear hsh
                          go_wp2_with fail
                          go_roundw
                          case rel => exact ⟨i + 1, by omega, hi1, by go_num, hsh'⟩
                          case measure => simp [intOf]; omega
                        · have hst' : St w wr n w1.heap.size (ord.eraseIdx q) L' := by
                            obtain ⟨hd, tl, o, nw, a1, a2⟩ := hun.ex
                            subst hL'
                            exact Sh.done hst hx hsh (by omega) a1 a2
                          have hM : Hid (Calls Try.prog 9 #[.pointer (some ⟨w.heap.size, 0, none⟩), .slice (some ⟨w.heap.size + 1, 0, none⟩) n n, .slice (some ⟨w1.heap.size, 0, none⟩) L' n] wr fun e w' => e = .returned (.bool true) ∧ w' = wr) := hst'.match hn
                          have wl : IntKind.i64.wrap ((L : Int) - 1) = (L' : Int) := by rw [IntKind.wrap_i64]; omega
                          clear hun hsh
                          go_wp2_with fail
                          refine hM.out.mono ?_
                          rintro e w' ⟨rfl, hw⟩
                          subst hw
                          clear hM
                          go_wp2_with fail
                          go_roundw
                          case rel => exact ⟨j + 1, L', by omega, by go_num, rfl, ⟨_, hst'⟩⟩
                          case measure => simp [intOf]; omega
                    · have tk : ((x : Int) == (k : Int)) = false := by simp; omega
                      go_wp2_with fail
                      go_round
                      case rel => exact ⟨q + 1, by omega, by go_num, rfl⟩
                      case measure => simp [intOf]; omega
                  · obtain rfl : L = q := by omega
                    go_wp2_with fail
                    go_roundw
                    case rel => exact ⟨j + 1, L, by omega, by go_num, rfl, hE⟩
                    case measure => simp [intOf]; omega
            · have hB := hE.below
              clear hE
              go_wp2_with fail
              go_ret
              exact ⟨rfl, hB⟩

/-- func 5 answers true at every n and ks -/
theorem scr_walk (n : Int) (a : Option Addr) (len cap : Nat) (S : Nat → Int) (w : World) (hm : len ≤ maxLen) (hR : RowAt w a len (fun i => .int .i64 (S i))) :
    Calls Try.prog 5 #[.int .i64 n, .slice a len cap] w fun e w' => e = .returned (.bool true) ∧ Below w.heap.size w w' := by
  have hm' : len ≤ 9223372036854775807 := hm
  by_cases h0 : len ≤ 4096
  · by_cases h1 : n < 0
    · go_enter Try.func5, Try.ntmps5
      go_wp2_with fail
      refine (bytes_calls n a len cap w hm).mono ?_
      rintro e w' ⟨⟨b, rfl, hb⟩, hw⟩
      subst w'
      cases b <;> clear hb <;> go_wp2_with fail
      all_goals
        go_ret
        exact ⟨rfl, Below.refl _ _⟩
    · by_cases h2 : 4096 < n
      · go_enter Try.func5, Try.ntmps5
        go_wp2_with fail
        refine (bytes_calls n a len cap w hm).mono ?_
        rintro e w' ⟨⟨b, rfl, hb⟩, hw⟩
        subst w'
        cases b <;> clear hb <;> go_wp2_with fail
        all_goals
          go_ret
          exact ⟨rfl, Below.refl _ _⟩
      · obtain ⟨n', rfl⟩ := Int.eq_ofNat_of_zero_le (show 0 ≤ n by omega)
        exact scr_core n' len cap a S w hR (by omega) h0
  · have d : decide (4096 < (len : Int)) = true := decide_eq_true (by omega)
    have hw0 : IntKind.i64.wrap (len : Int) = (len : Int) := by rw [IntKind.wrap_i64]; omega
    go_enter Try.func5, Try.ntmps5
    go_wp2_with fail
    refine (bytes_calls n a len cap w hm).mono ?_
    rintro e w' ⟨⟨b, rfl, hb⟩, hw⟩
    subst w'
    by_cases h1 : n < 0
    · cases b <;> clear hb <;> go_wp2_with fail
      all_goals
        go_ret
        exact ⟨rfl, Below.refl _ _⟩
    · by_cases h2 : 4096 < n
      · cases b <;> clear hb <;> go_wp2_with fail
        all_goals
          go_ret
          exact ⟨rfl, Below.refl _ _⟩
      · cases b <;> clear hb <;> go_wp2_with fail
        all_goals
          go_ret
          exact ⟨rfl, Below.refl _ _⟩

end Go.Proofs.Qxb6617882a
