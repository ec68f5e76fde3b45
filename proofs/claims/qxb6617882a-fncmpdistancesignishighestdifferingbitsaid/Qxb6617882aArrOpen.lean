import Derived.Test.Qxb6617882aCmpLaw
import Derived.OpenShut
namespace Go.Proofs.Qxb6617882a
open Go.RowKit Go.ChangeShapes
set_option linter.unusedVariables false

theorem Try.cells22 : Try.prog.cellsOf 22 = 20 := by kernel_rfl

/-- An argument of type [20]byte, opened for the walk. -/
theorem arr_open {H : Type} {enc : TypeId × Value → H} {W : World} {base : Nat} {v : Value} {d : DataW H} {ps : List MemPlace}
    (hval : Value.okWide Try.prog W .any base 22 v) (h : DataW.Trod enc Try.prog W 0 (fun _ => true) true 22 v d ps) :
    ∃ f : Nat → Nat, v = .agg (cellsA f) ∧ ∀ i, f i < 256 := by
  simp only [Value.okWide, Try.underlying22] at hval
  obtain ⟨cs, rfl, hsz, _⟩ := hval
  rw [Try.cells22] at hsz
  obtain ⟨fuel, hf⟩ := h
  obtain ⟨xs, m, _, _, _, hlen, hall⟩ := DataW.trod_array Try.underlying22 hf
  have key : ∀ i, i < 20 → ∃ n : Nat, n < 256 ∧ cs[i]? = some (.int .u8 (n : Nat)) := by
    intro i hi
    have h1 := hall i hi
    have hx : ∃ y, xs[i]? = some y := ⟨xs[i]'(by omega), List.getElem?_eq_getElem (by omega)⟩
    obtain ⟨y, hy⟩ := hx
    rw [hy, Try.cells5, Nat.mul_one] at h1
    have hc : (List.take 1 (List.drop i (Value.agg cs).cells.toList)) = [cs[i]'(by omega)] := by
      show List.take 1 (List.drop i cs.toList) = _
      rw [List.drop_eq_getElem_cons (by simp; omega)]
      simp
    rw [hc] at h1
    obtain ⟨n, hn, _, hwf⟩ := DataW.trod_int Try.underlying5 h1
    simp only [List.cons.injEq, and_true] at hn
    have hb : 0 ≤ n ∧ n < 256 := by
      simp [Lit.wf, IntKind.min, IntKind.max, IntKind.bits, IntKind.signed] at hwf
      omega
    refine ⟨n.toNat, by omega, ?_⟩
    rw [Array.getElem?_eq_getElem (by omega), hn, show ((n.toNat : Nat) : Int) = n from by omega]
  refine ⟨fun i => (intOf (cs.getD i (.int .u8 0))).toNat, ?_, fun i => ?_⟩
  · congr 1
    refine Array.ext (by rw [hsz, cellsA_size]) fun i h1 h2 => ?_
    obtain ⟨n, hn, hc⟩ := key i (by omega)
    have h3 := cellsA_get (fun i => (intOf (cs.getD i (.int .u8 0))).toNat) (show i < 20 by omega)
    have e1 : cs[i] = .int .u8 (n : Nat) := by
      rw [Array.getElem?_eq_getElem h1] at hc
      exact Option.some.inj hc
    have e2 : (cellsA (fun i => (intOf (cs.getD i (.int .u8 0))).toNat))[i] = .int .u8 ((intOf (cs.getD i (.int .u8 0))).toNat : Nat) := by
      rw [Array.getElem?_eq_getElem h2] at h3
      exact Option.some.inj h3
    rw [e1, e2]
    have e3 : cs.getD i (.int .u8 0) = .int .u8 (n : Nat) := by
      simp [Array.getD, h1, e1]
    rw [e3]
    simp [intOf]
  · by_cases hi : i < 20
    · obtain ⟨n, hn, hc⟩ := key i hi
      have e3 : cs.getD i (.int .u8 0) = .int .u8 (n : Nat) := by
        rw [Array.getD_eq_getD_getElem?, hc]; rfl
      show (intOf (cs.getD i (.int .u8 0))).toNat < 256
      rw [e3]
      simp [intOf]
      omega
    · have e3 : cs.getD i (.int .u8 0) = .int .u8 0 := by
        rw [Array.getD_eq_getD_getElem?, Array.getElem?_eq_none (by omega)]; rfl
      show (intOf (cs.getD i (.int .u8 0))).toNat < 256
      rw [e3]
      simp [intOf]

end Go.Proofs.Qxb6617882a
