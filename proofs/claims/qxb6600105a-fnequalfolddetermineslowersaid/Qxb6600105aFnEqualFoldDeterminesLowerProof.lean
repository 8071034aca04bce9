/-
  THE PROOF OF 'Rows.FnEqualFoldDeterminesLowerSaid': the frame by the guide's skeleton tool, the walk our own.
-/
import Derived.Test.Qxb6600105aRows
import Derived.Test.Qxb6600105aEnds
import Derived.WalkKit
import Derived.ProofKit
import Derived.OpenShut
import Derived.ShutString
import Derived.ChangeOld
import Derived.Below
namespace Go.Proofs.Qxb6600105a.fnEqualFoldDeterminesLower
open Go.ChangeShapes Go.WideShapes Go.ChangeAt Go.RowKit
open Go.ChangeMaps (open_string shut_string)
set_option linter.unusedVariables false

theorem own : ownKnob Try.prog.godebug = none := by kernel_rfl
theorem laidOut : laidOutB Try.prog = true := by kernel_rfl

/-- WHAT THE WALK IS TOLD OF A SLICE OF INTEGERS THAT CAME IN: it is nil; or it leads to a row of 'cap' cells, the numbers 'zs' (the first 'len' are its elements, the rest its spare room), each fitting its kind. -/
def IsRow (k : IntKind) (w : World) (a : Option Addr) (len cap : Nat) (zs : List Int) : Prop :=
  (a = none ∧ len = 0 ∧ cap = 0 ∧ zs = []) ∨
  ∃ x, a = some x ∧ len ≤ cap ∧ cap ≤ maxLen ∧ zs.length = cap ∧ (∀ i, i < zs.length → w.cell? (x.add i) = some (.int k (zs.getD i 0))) ∧ ∀ n ∈ zs, (Lit.int k n).wf = true

/-! ### STEP 1: THE WALK: the Go text returns true, AND WRITES NOTHING THAT WAS THERE: 'Below w.heap.size w w'' (Derived/Below.lean: '.refl', '.alloc', '.drew', '.setCell' at a new block, '.trans'). Open each 'IsRow' by 'rcases' AHEAD of 'go_enter'; part every test ahead of the walk. -/
theorem walk (a0 : Option Addr) (len0 cap0 : Nat) (z0 : List Int) (a1 : ByteArray) (a2 : ByteArray) (w : World) (w0 : IsRow .u8 w a0 len0 cap0 z0) (w1 : a1.size ≤ maxLen) (w2 : a2.size ≤ maxLen) :
    Calls Try.prog 5 #[.slice a0 len0 cap0, .string a1, .string a2] w fun e w' => e = .returned (.bool true) ∧ Below w.heap.size w w' := by
  have hm : len0 ≤ maxLen := by
    rcases w0 with ⟨_, rfl, _, _⟩ | ⟨_, _, h1, h2, _⟩
    · unfold maxLen; omega
    · omega
  by_cases g1 : len0 ≤ 262144
  · by_cases g2 : a1.size ≤ 262144
    · by_cases g3 : a2.size ≤ 262144
      · by_cases g4 : len0 ≤ a1.size
        · by_cases g5 : len0 ≤ a2.size
          · rcases w0 with ⟨rfl, rfl, rfl, _⟩ | ⟨x, rfl, hl, _, hz, hc, hw⟩
            · exact law_nil a1 a2 w g2 g3
            · by_cases h0 : len0 = 0
              · subst h0
                exact law_empty x cap0 a1 a2 w g2 g3
              · obtain ⟨b, off, spot⟩ := x
                have hspot : spot = none := by simpa [Addr.add] using World.cell?_spot (hc 0 (by omega))
                subst hspot
                obtain ⟨bs, hbs⟩ : ∃ bs : List UInt8, bs = (z0.take len0).map fun z => UInt8.ofNat z.toNat := ⟨_, rfl⟩
                have hlen : len0 = bs.length := by rw [hbs]; simp; omega
                have hseg : Seg w b off bs := fun k hk => by
                  have hk2 : k < len0 := by omega
                  have hkz : k < z0.length := by omega
                  have hwz := hw z0[k] (List.getElem_mem _)
                  have hb : 0 ≤ z0[k] ∧ z0[k] ≤ 255 := by simpa [Lit.wf, IntKind.min, IntKind.max, IntKind.bits, IntKind.signed] using hwz
                  have hcc := hc k hkz
                  rw [Addr.add_lit] at hcc
                  rw [hcc, tb_eq _ _ hk]
                  have e : bs[k] = UInt8.ofNat z0[k].toNat := by simp [hbs]
                  rw [e, List.getD_eq_getElem?_getD, List.getElem?_eq_getElem hkz]
                  have e2 : (UInt8.ofNat z0[k].toNat).toNat = z0[k].toNat := by simp; omega
                  rw [e2, Option.getD_some]
                  congr 2
                  omega
                clear hbs
                subst hlen
                exact law_any b off cap0 bs a1 a2 w g1 g2 g3 g4 g5 hseg
          · exact law_c5 a0 len0 cap0 a1 a2 w hm w1 w2 g1 g2 g3 g4 (by omega)
        · exact law_c4 a0 len0 cap0 a1 a2 w hm w1 w2 g1 g2 g3 (by omega)
      · exact law_c3 a0 len0 cap0 a1 a2 w hm w1 w2 g1 g2 (by omega)
    · exact law_c2 a0 len0 cap0 a1 a2 w hm w1 w2 g1 (by omega)
  · exact law_c1 a0 len0 cap0 a1 a2 w hm w1 w2 (by omega)

/-! ### THE ROW's STEP: WRITTEN OUT: LEAVE IT -/
set_option maxRecDepth 100000 in
theorem lifted (os : Os) (started : os.Started) (H : Type) (enc : TypeId × Value → H) :
    ReturnsInHanded {} Try.checked os 5 .any (Rows.fnEqualFoldDeterminesLowerSpec.pre6 enc Try.prog Try.f5 Rows.fnEqualFoldDeterminesLowerRow.domain false) (Rows.fnEqualFoldDeterminesLowerSpec.post enc Try.prog Try.f5 false true false false) := by
  refine returnsInHanded_of_change (C := Try.checked) own started (by kernel_rfl) Try.func5
    (ChangeSpec.witness6 (enc := enc) (C := Try.checked) false ⟨#[], #[.slice none 0 0, .string ByteArray.empty, .string ByteArray.empty], []⟩ 8 (by kernel_rfl) (by kernel_rfl) (by kernel_rfl) (by kernel_rfl)) ?_
  intro W base args ds gs before hval0 hW hcnd _
  have hval : ∀ (j : Nat) t v, Try.f5.params[j]? = some t → args[j]? = some v → Value.okWide Try.prog W .any base t v := hval0
  have hW' := hW
  obtain ⟨p, q, hA0, hV, rfl, hfz, hnd⟩ := hW
  have hA : DataW.TrodAll enc Try.prog W 0 (fun _ => true) true Try.f5.params.toList args.toList ds p := hA0
  rw [Try.params5] at hA hval
  obtain ⟨v0, vs0, d0, ds0, p0, q0, hargs, rfl, rfl, h0, r0⟩ := trodAll_cons hA
  obtain ⟨v1, vs1, d1, ds1, p1, q1, rfl, rfl, rfl, h1, r1⟩ := trodAll_cons r0
  obtain ⟨v2, vs2, d2, ds2, p2, q2, rfl, rfl, rfl, h2, r2⟩ := trodAll_cons r1
  obtain ⟨rfl, rfl, rfl⟩ := trodAll_nil r2
  obtain rfl : args = #[v0, v1, v2] := by cases args; simp_all
  obtain ⟨rfl, rfl⟩ := trodVars_none hV
  obtain ⟨a0, len0, cap0, rfl⟩ := okWide_slice Try.underlying23 (hval 0 23 v0 rfl rfl)
  have k0 := h0
  have lt0 : ∀ x ∈ p0, x.block < W.heap.size := by obtain ⟨m, hm⟩ := k0; exact DataW.trod_lt m _ _ _ hm
  obtain ⟨z0, w0⟩ : ∃ zs, IsRow .u8 W a0 len0 cap0 zs := by
    obtain ⟨fuel, hf⟩ := h0
    rcases open_ints Try.underlying23 Try.underlying5 (by kernel_rfl) hf with ⟨hcs, _⟩ | ⟨x, l, c, zs, hcs, _, hl, hm, hz, _, hcell, hwz⟩
    · simp [Value.cells] at hcs
      obtain ⟨rfl, rfl, rfl⟩ := hcs
      exact ⟨[], .inl ⟨rfl, rfl, rfl, rfl⟩⟩
    · simp [Value.cells] at hcs
      obtain ⟨rfl, rfl, rfl⟩ := hcs
      exact ⟨zs, .inr ⟨_, rfl, hl, hm, by simpa using hz, hcell, hwz⟩⟩
  obtain ⟨a1, rfl, rfl, rfl, w1⟩ := open_string Try.underlying9 (hval 1 9 v1 rfl rfl) h1
  obtain ⟨a2, rfl, rfl, rfl, w2⟩ := open_string Try.underlying9 (hval 2 9 v2 rfl rfl) h2
  clear hA0 hval0
  refine (walk a0 len0 cap0 z0 a1 a2 W w0 w1 w2).mono fun e W' ⟨he, bel⟩ => ?_
  subst he
  exact ⟨_, rfl, _, _, _, [], _, [], hW', trodAll_mk1 (shut_bool Try.underlying4 _), (trodAll_cons_mk (Below.trod laidOut (by kernel_rfl) (of_decide_eq_true (by kernel_rfl)) k0 bel lt0) (trodAll_cons_mk (shut_string Try.underlying9 w1) (trodAll_cons_mk (shut_string Try.underlying9 w2) trodAll_mk0))), rfl, bel.frame _, fun h => by cases h⟩

theorem over : Rows.fnEqualFoldDeterminesLowerRow.holds Try.pinned (OpenSpec.ofChange Rows.fnEqualFoldDeterminesLowerSpec) :=
  OpenClaim.holds_of_wide 5 Try.f5 rfl rfl rfl rfl rfl rfl rfl ⟨rfl, rfl, rfl, rfl, rfl⟩ rfl rfl rfl rfl rfl (by kernel_rfl) Try.func5 (by kernel_rfl)
    (of_decide_eq_true (by kernel_rfl)) (by unfold Func.isWrapper; first | (rw [if_pos (by decide +kernel)]; kernel_rfl) | (rw [if_neg (by decide +kernel)]; exact ⟨rfl, rfl⟩))
    (fun os started H enc _ => lifted os started H enc)

/-- ████ THE STATEMENT ████ -/
theorem proved : Rows.FnEqualFoldDeterminesLowerSaid := over
end Go.Proofs.Qxb6600105a.fnEqualFoldDeterminesLower
