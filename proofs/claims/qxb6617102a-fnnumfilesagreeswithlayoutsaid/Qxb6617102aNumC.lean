import Derived.Test.Qxb6617102aNumB
namespace Go.Proofs.Qxb6617102a
open Go.RowKit
set_option linter.unusedVariables false

/-- What the walks are told of a []T of one-cell elements that came in: it has no element; or its cells hold V i. -/
def RowAt (w : World) (a : Option Addr) (n : Nat) (V : Nat → Value) : Prop :=
  n = 0 ∨ ∃ b o, a = some ⟨b, o, none⟩ ∧ b < w.heap.size ∧ ∀ i, i < n → w.cell? ⟨b, o + i, none⟩ = some (V i)

/-- mkFiles, in one form -/
theorem mkFiles_calls (ap al ad ax : Option Addr) (n cp cl cd cx : Nat) (S : Nat → ByteArray) (L : Nat → Int) (pd ex : Nat → Bool) (w : World) (hn : n ≤ 131072)
   (h0 : RowAt w ap n (fun i => .string (S i))) (h1 : RowAt w al n (fun i => .int .i64 (L i))) (h2 : RowAt w ad n (fun i => .bool (pd i))) (h3 : RowAt w ax n (fun i => .bool (ex i))) :
    Calls Try.prog 13 #[.slice ap n cp, .slice al n cl, .slice ad n cd, .slice ax n cx, .int .i64 0, .int .i64 n] w
      fun e w' => e = .returned (.slice (some ⟨w.heap.size, 0, none⟩) n n) ∧ MkRel w w' n n S L pd ex := by
  by_cases hz : n = 0
  · subst hz
    exact mkFiles_zero ap al ad ax cp cl cd cx S L pd ex w
  · rcases h0 with h | ⟨bp, op, rfl, kp, g0⟩
    · exact absurd h hz
    rcases h1 with h | ⟨bl, ol, rfl, kl, g1⟩
    · exact absurd h hz
    rcases h2 with h | ⟨bd, od, rfl, kd, g2⟩
    · exact absurd h hz
    rcases h3 with h | ⟨bx, ox, rfl, kx, g3⟩
    · exact absurd h hz
    exact mkFiles_some bp op bl ol bd od bx ox n cp cl cd cx S L pd ex w hn kp kl kd kx g0 g1 g2 g3

section
variable (nm : ByteArray) (pl : Int) (apc : Option Addr) (npc cpc : Nat) (ln : Int) (ap : Option Addr) (cp : Nat) (al : Option Addr) (cl : Nat) (ad : Option Addr) (cd : Nat) (ax : Option Addr) (cx : Nat) (xc : Bool)

set_option maxHeartbeats 2000000 in
/-- lengths is nil: a single file. -/
theorem num_nil (w : World)
    (c1 : Hid (Calls Try.prog 16 #[.string nm, .int .i64 pl, .slice apc npc cpc, .int .i64 ln, .slice ap 0 cp, .slice none 0 0, .slice ad 0 cd, .slice ax 0 cx, .bool xc] w fun e w' => RB e ∧ w' = w))
    (c2 : Hid (Calls Try.prog 9 #[.string nm, .slice apc npc cpc, .slice ap 0 cp, .slice none 0 0, .slice ad 0 cd, .slice ax 0 cx] w fun e w' => TB 0 e ∧ w' = w)) :
    Calls Try.prog 5 #[.string nm, .int .i64 pl, .slice apc npc cpc, .int .i64 ln, .slice ap 0 cp, .slice none 0 0, .slice ad 0 cd, .slice ax 0 cx, .bool xc] w
      fun e w' => e = .returned (.bool true) ∧ Below w.heap.size w w' := by
  have hne := fun w => run_neq_slice_nil_any (P := Try.prog) w 24 2 none 0 0 0 0 Try.underlying24
  have heq := fun w => Lib.run_eql_slice_nil (P := Try.prog) w 24 2 none 0 0 0 0 Try.underlying24
  go_enter Try.func5, Try.ntmps5
  go_wp2_with fail
  refine c1.out.mono ?_
  rintro e w' ⟨⟨b, rfl⟩, rfl⟩
  cases b with
  | false =>
    go_wp2_with fail
    go_ret
    exact ⟨rfl, Below.refl _ _⟩
  | true =>
    go_wp2_with fail
    refine c2.out.mono ?_
    rintro e w' ⟨h, rfl⟩
    rcases h with rfl | ⟨rfl, _⟩
    · go_wp2_with fail
      go_ret
      exact ⟨rfl, Below.refl _ _⟩
    · go_wp2_with fail
      refine (sameShape_yes ap 0 cp none 0 ad cd ax cx _).mono ?_
      rintro e w' ⟨rfl, rfl⟩
      go_wp2_with fail
      refine (mkInfo_calls nm pl _ ln _ xc _ apc none npc cpc 0 0 rfl rfl).mono ?_
      rintro e w' ⟨rfl, rfl⟩
      go_wp2_with fail
      refine (layoutEnds_nil _ ln _ (by simp) (by simp)).mono ?_
      rintro e w' ⟨rfl, rfl⟩
      go_wp2_with fail
      refine (numFiles_nil _ _ ?hc).mono ?_
      case hc => go_simp
      rintro e w' ⟨rfl, rfl⟩
      go_wp2_with fail
      go_ret
      exact ⟨rfl, (((Below.refl _ _).alloc (Nat.le_refl _) _).alloc (by simp) _).alloc (by simp; omega) _⟩

set_option maxHeartbeats 2000000 in
/-- lengths is not nil: a directory of n files. -/
theorem num_some (w : World) (x : Addr) (n : Nat) (S : Nat → ByteArray) (L : Nat → Int) (pd ex : Nat → Bool)
    (c1 : Hid (Calls Try.prog 16 #[.string nm, .int .i64 pl, .slice apc npc cpc, .int .i64 ln, .slice ap n cp, .slice (some x) n cl, .slice ad n cd, .slice ax n cx, .bool xc] w fun e w' => RB e ∧ w' = w))
    (c2 : Hid (Calls Try.prog 9 #[.string nm, .slice apc npc cpc, .slice ap n cp, .slice (some x) n cl, .slice ad n cd, .slice ax n cx] w fun e w' => TB n e ∧ w' = w))
    (h0 : RowAt w ap n (fun i => .string (S i))) (h1 : RowAt w (some x) n (fun i => .int .i64 (L i))) (h2 : RowAt w ad n (fun i => .bool (pd i))) (h3 : RowAt w ax n (fun i => .bool (ex i))) :
    Calls Try.prog 5 #[.string nm, .int .i64 pl, .slice apc npc cpc, .int .i64 ln, .slice ap n cp, .slice (some x) n cl, .slice ad n cd, .slice ax n cx, .bool xc] w
      fun e w' => e = .returned (.bool true) ∧ Below w.heap.size w w' := by
  have hne := fun w => run_neq_slice_nil_any (P := Try.prog) w 24 2 (some x) n cl 0 0 Try.underlying24
  have heq := fun w => Lib.run_eql_slice_nil (P := Try.prog) w 24 2 (some x) n cl 0 0 Try.underlying24
  go_enter Try.func5, Try.ntmps5
  go_wp2_with fail
  refine c1.out.mono ?_
  rintro e w' ⟨⟨b, rfl⟩, hw⟩
  subst w'
  cases b with
  | false =>
    go_wp2_with fail
    go_ret
    exact ⟨rfl, Below.refl _ _⟩
  | true =>
    go_wp2_with fail
    refine c2.out.mono ?_
    rintro e w' ⟨h, hw⟩
    subst w'
    rcases h with rfl | ⟨rfl, hn⟩
    · go_wp2_with fail
      go_ret
      exact ⟨rfl, Below.refl _ _⟩
    · go_wp2_with fail
      refine (sameShape_yes ap n cp (some x) cl ad cd ax cx _).mono ?_
      rintro e w' ⟨rfl, hw⟩
      subst w'
      go_wp2_with fail
      refine (mkFiles_calls ap (some x) ad ax n cp cl cd cx S L pd ex _ hn h0 h1 h2 h3).mono ?_
      rintro e w1 ⟨rfl, hr1⟩
      have b1 := hr1.below
      have F1 := hr1.files
      have l1 := F1.lt
      clear hr1
      go_wp2_with fail
      refine (mkInfo_calls nm pl _ ln _ xc _ apc (some ⟨w.heap.size, 0, none⟩) npc cpc n n rfl rfl).mono ?_
      rintro e w2 ⟨rfl, hw⟩
      subst hw
      go_wp2_with fail
      refine (layoutEnds_some _ w.heap.size n S L pd ex _ hn ?hc ?hb ?hF).mono ?_
      case hc => simp
      case hb => simp
      case hF => exact F1.below ((Below.refl _ _).alloc (Nat.le_refl _) _) l1
      rintro e w3 ⟨rfl, b3⟩
      have hz : w1.heap.size < w3.heap.size := by have := b3.size; simp at this; omega
      go_wp2_with fail
      refine (numFiles_some _ w.heap.size n S L pd ex _ hn ?hc ?hF).mono ?_
      case hc =>
        rw [b3.cell (by simp)]
        simp
      case hF => exact (F1.below ((Below.refl _ _).alloc (Nat.le_refl _) _) l1).below b3 (by simp; omega)
      rintro e w4 ⟨rfl, b4⟩
      have bb : Below w.heap.size w w4 := (b1.trans (((Below.refl w.heap.size w1).alloc (by omega) _).trans (b3.mono (by simp; omega)))).trans (b4.mono (by omega))
      have hcn := cnt_le pd n
      clear b1 F1 l1 b3 hz b4
      go_wp2_with fail
      go_loop [25, 26] (fun c i => ∃ (k z : Nat), k ≤ n ∧ i = .int .i64 k ∧ c = .int .i64 z ∧ Hid (z = cnt pd k) ∧ z ≤ k) (fun _ i => n - (intOf i).toNat)
      case atStart => exact ⟨0, 0, Nat.zero_le _, rfl, rfl, rfl, Nat.le_refl _⟩
      case round =>
        obtain ⟨k, z, hk, rfl, rfl, hz, hzk⟩ := hrel
        by_cases hlt : k < n
        · rcases h2 with h | ⟨bd, od, rfl, kd, g2⟩
          · exact absurd h (by omega)
          have g : w4.cell? ⟨bd, od + k, none⟩ = some (.bool (pd k)) := (bb.cell (p := ⟨bd, od + k, none⟩) kd).trans (g2 k hlt)
          clear g2 h0 h1 h3
          cases hp : pd k with
          | true =>
            have e : Hid (z + 1 = cnt pd (k + 1)) := by rw [Hid, cnt_true pd k hp, hz.out]
            rw [hp] at g
            clear hp
            go_wp2_with fail
            go_round
            case rel => exact ⟨k + 1, z + 1, by omega, by go_num, by go_num, e, by omega⟩
            case measure => simp [intOf]; omega
          | false =>
            have e : Hid (z = cnt pd (k + 1)) := by rw [Hid, cnt_false pd k hp, hz.out]
            rw [hp] at g
            clear hp
            go_wp2_with fail
            go_round
            case rel => exact ⟨k + 1, z, by omega, by go_num, rfl, e, by omega⟩
            case measure => simp [intOf]; omega
        · obtain rfl : k = n := by omega
          have e := hz.out
          subst e
          clear hz
          go_wp2_with fail
          go_ret
          exact ⟨rfl, bb⟩
end

end Go.Proofs.Qxb6617102a
