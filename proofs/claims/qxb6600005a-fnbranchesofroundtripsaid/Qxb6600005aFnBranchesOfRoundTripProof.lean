/-
  THE PROOF OF 'Rows.FnBranchesOfRoundTripSaid': the frame after the guide's skeleton for a slice, the walk in Qxb6600005aLaw.
-/
import Derived.Test.Qxb6600005aRows
import Derived.Test.Qxb6600005aLaw
import Derived.WalkKit
import Derived.ProofKit
import Derived.OpenShut
import Derived.ShutString
import Derived.ChangeOld
import Derived.Below
import Derived.Deep.Strs
namespace Go.Proofs.Qxb6600005a.fnBranchesOfRoundTrip
open Go.ChangeShapes Go.WideShapes Go.ChangeAt Go.RowKit

theorem own : ownKnob Try.prog.godebug = none := by kernel_rfl
theorem laidOut : laidOutB Try.prog = true := by kernel_rfl

/-- What the walk is told of the slice of strings that came in: it is nil; or it leads to a row of cells, each a string. -/
def IsStrs (w : World) (a : Option Addr) (len cap : Nat) (S : Nat → ByteArray) : Prop :=
  (a = none ∧ len = 0 ∧ cap = 0) ∨ ∃ x, a = some x ∧ len ≤ maxLen ∧ ∀ i, i < len → w.cell? (x.add i) = some (.string (S i))

theorem walk (a : Option Addr) (len cap : Nat) (S : Nat → ByteArray) (w : World) (h : IsStrs w a len cap S) :
    Calls Try.prog 7 #[.slice a len cap] w fun e w' => e = .returned (.bool true) ∧ Below w.heap.size w w' := by
  rcases h with ⟨rfl, rfl, rfl⟩ | ⟨x, rfl, hl, hc⟩
  · exact law_nil w
  · by_cases h0 : len = 0
    · subst h0; exact law_empty x cap w
    · obtain ⟨b, off, spot⟩ := x
      have hspot : spot = none := by simpa [Addr.add] using World.cell?_spot (hc 0 (by omega))
      subst hspot
      have hc' : ∀ k, k < len → w.cell? ⟨b, off + k, none⟩ = some (.string (S k)) := fun k hk => by rw [← add_plain]; exact hc k hk
      by_cases h1 : len ≤ 65536
      · exact law_any b off len cap S w h1 hc'
      · refine (law_great b off len cap S w hl h1 hc').mono ?_
        rintro e w' ⟨he, hw⟩
        exact ⟨he, by rw [hw]; exact Below.refl _ _⟩

set_option maxRecDepth 100000 in
theorem lifted (os : Os) (started : os.Started) (H : Type) (enc : TypeId × Value → H) :
    ReturnsInHanded {} Try.checked os 7 .any (Rows.fnBranchesOfRoundTripSpec.pre6 enc Try.prog Try.f7 Rows.fnBranchesOfRoundTripRow.domain false) (Rows.fnBranchesOfRoundTripSpec.post enc Try.prog Try.f7 false true false false) := by
  refine returnsInHanded_of_change (C := Try.checked) own started (by kernel_rfl) Try.func7
    (ChangeSpec.witness6 (enc := enc) (C := Try.checked) false ⟨#[], #[.slice none 0 0], []⟩ 8 (by kernel_rfl) (by kernel_rfl) (by kernel_rfl) (by kernel_rfl)) ?_
  intro W base args ds gs before hval0 hW hcnd _
  have hval : ∀ (j : Nat) t v, Try.f7.params[j]? = some t → args[j]? = some v → Value.okWide Try.prog W .any base t v := hval0
  have hW' := hW
  obtain ⟨p, q, hA0, hV, rfl, hfz, hnd⟩ := hW
  have hA : DataW.TrodAll enc Try.prog W 0 (fun _ => true) true Try.f7.params.toList args.toList ds p := hA0
  rw [Try.params7] at hA hval
  obtain ⟨v0, vs0, d0, ds0, p0, q0, hargs, rfl, rfl, h0, r0⟩ := trodAll_cons hA
  obtain ⟨rfl, rfl, rfl⟩ := trodAll_nil r0
  obtain rfl : args = #[v0] := by cases args; simp_all
  obtain ⟨rfl, rfl⟩ := trodVars_none hV
  obtain ⟨a0, len0, cap0, rfl⟩ := okWide_slice Try.underlying28 (hval 0 28 v0 rfl rfl)
  have k0 := h0
  have lt0 : ∀ x ∈ p0, x.block < W.heap.size := by obtain ⟨m, hm⟩ := k0; exact DataW.trod_lt m _ _ _ hm
  obtain ⟨S, w0⟩ : ∃ S, IsStrs W a0 len0 cap0 S := by
    obtain ⟨fuel, hf⟩ := h0
    rcases Go.Deep.open_strs Try.underlying28 Try.underlying9 (by kernel_rfl) hf with ⟨hcs, _⟩ | ⟨x, l, c, m, Sx, hcs, _, hl, hm, hmm, _, hcell⟩
    · simp [Value.cells] at hcs
      obtain ⟨rfl, rfl, rfl⟩ := hcs
      exact ⟨fun _ => ByteArray.empty, .inl ⟨rfl, rfl, rfl⟩⟩
    · simp [Value.cells] at hcs
      obtain ⟨rfl, rfl, rfl⟩ := hcs
      exact ⟨Sx, .inr ⟨_, rfl, Nat.le_trans hl hm, fun i hi => (hcell i (by rw [hmm]; split <;> omega)).1⟩⟩
  clear hA0 hval0
  refine (walk a0 len0 cap0 S W w0).mono fun e W' ⟨he, bel⟩ => ?_
  subst he
  exact ⟨_, rfl, _, _, _, [], _, [], hW', trodAll_mk1 (shut_bool Try.underlying4 _), (trodAll_cons_mk (Below.trod laidOut (by kernel_rfl) (of_decide_eq_true (by kernel_rfl)) k0 bel lt0) trodAll_mk0), rfl, bel.frame _, fun h => by cases h⟩

theorem over : Rows.fnBranchesOfRoundTripRow.holds Try.pinned (OpenSpec.ofChange Rows.fnBranchesOfRoundTripSpec) :=
  OpenClaim.holds_of_wide 7 Try.f7 rfl rfl rfl rfl rfl rfl rfl ⟨rfl, rfl, rfl, rfl, rfl⟩ rfl rfl rfl rfl rfl (by kernel_rfl) Try.func7 (by kernel_rfl)
    (of_decide_eq_true (by kernel_rfl)) (by unfold Func.isWrapper; first | (rw [if_pos (by decide +kernel)]; kernel_rfl) | (rw [if_neg (by decide +kernel)]; exact ⟨rfl, rfl⟩))
    (fun os started H enc _ => lifted os started H enc)

/-- THE STATEMENT -/
theorem proved : Rows.FnBranchesOfRoundTripSaid := over
end Go.Proofs.Qxb6600005a.fnBranchesOfRoundTrip
