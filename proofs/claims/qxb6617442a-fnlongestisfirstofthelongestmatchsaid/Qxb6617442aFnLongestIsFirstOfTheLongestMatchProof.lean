/-
  THE PROOF OF 'Rows.FnLongestIsFirstOfTheLongestMatchSaid': the row out of the two walks of the law (the word nil, or not).
-/
import Derived.Test.Qxb6617442aRows
import Derived.Test.Qxb6617442aOpen
namespace Go.Proofs.Qxb6617442a.fnLongestIsFirstOfTheLongestMatch
open Go.ChangeShapes Go.WideShapes Go.ChangeAt Go.RowKit

theorem own : ownKnob Try.prog.godebug = none := by kernel_rfl
theorem laidOut : laidOutB Try.prog = true := by kernel_rfl

/-- What the walk is told of the word: it is nil; or it leads to a row of bytes. -/
def IsRow (w : World) (a : Option Addr) (len cap : Nat) (zs : List Int) : Prop :=
  (a = none ∧ len = 0 ∧ cap = 0 ∧ zs = []) ∨
  ∃ x, a = some x ∧ len ≤ cap ∧ cap ≤ maxLen ∧ zs.length = cap ∧ (∀ i, i < zs.length → w.cell? (x.add i) = some (.int .u8 (zs.getD i 0))) ∧ ∀ n ∈ zs, (Lit.int .u8 n).wf = true

theorem walk (a0 : Option Addr) (len0 cap0 : Nat) (z0 : List Int) (cs : Array Value) (sl : Nat → Option Addr) (cap : Nat → Nat) (D : Nat → List (ByteArray × ByteArray)) (w : World) (w0 : IsRow w a0 len0 cap0 z0)
    (hcs : Cs cs sl cap D) (hr : Reads w sl D) (hsm : Small 9223372036854775807 D) :
    Calls Try.prog 4 #[.slice a0 len0 cap0, .agg cs] w (LPost w) := by
  rcases w0 with ⟨rfl, rfl, rfl, rfl⟩ | ⟨x, rfl, hlc, hcm, hz, hcell, hwf⟩
  · exact law_nil cs sl cap D w hcs hr hsm
  · have hu8 : ∀ j, j < len0 → (0 ≤ z0.getD j 0 ∧ z0.getD j 0 ≤ 255) := fun j hj => by
      have hm : z0.getD j 0 ∈ z0 := by
        have : j < z0.length := by omega
        simp [this]
      have hw := hwf _ hm
      have e1 : IntKind.u8.min = 0 := by decide
      have e2 : IntKind.u8.max = 255 := by decide
      simp only [Lit.wf, e1, e2, Bool.and_eq_true, decide_eq_true_eq] at hw
      exact hw
    refine law_some x len0 cap0 ((z0.take len0).map fun z => UInt8.ofNat z.toNat) cs sl cap D w (by simp; omega) (by unfold maxLen at hcm; omega) ?_ hcs hr hsm
    intro j v hv
    have hj : j < len0 := by
      have := (List.getElem?_eq_some_iff.1 hv).1
      simp [bc] at this
      omega
    have hr := hu8 j hj
    rw [hcell j (by omega), ← hv]
    have hjz : j < z0.length := by omega
    simp only [bc, List.map_map, List.getElem?_map, List.getElem?_take, hj, if_true, List.getD_eq_getElem?_getD] at hr ⊢
    rw [List.getElem?_eq_getElem hjz] at hr ⊢
    simp only [Option.getD_some, Option.map_some] at hr ⊢
    congr 2
    have : (UInt8.ofNat (z0[j]).toNat).toNat = (z0[j]).toNat := by
      simp
      omega
    rw [this]
    omega

set_option maxRecDepth 100000 in
theorem lifted (os : Os) (started : os.Started) (H : Type) (enc : TypeId × Value → H) :
    ReturnsInHanded {} Try.checked os 4 .any (Rows.fnLongestIsFirstOfTheLongestMatchSpec.pre6 enc Try.prog Try.f4 Rows.fnLongestIsFirstOfTheLongestMatchRow.domain false) (Rows.fnLongestIsFirstOfTheLongestMatchSpec.post enc Try.prog Try.f4 false true false false) := by
  refine returnsInHanded_of_change (C := Try.checked) own started (by kernel_rfl) Try.func4
    (ChangeSpec.witness6 (enc := enc) (C := Try.checked) false ⟨#[], #[.slice none 0 0, .agg nils], []⟩ 8 (by kernel_rfl) (by kernel_rfl) (by kernel_rfl) (by kernel_rfl)) ?_
  intro W base args ds gs before hval0 hW hcnd _
  have hval : ∀ (j : Nat) t v, Try.f4.params[j]? = some t → args[j]? = some v → Value.okWide Try.prog W .any base t v := hval0
  have hW' := hW
  obtain ⟨p, q, hA0, hV, rfl, hfz, hnd⟩ := hW
  have hA : DataW.TrodAll enc Try.prog W 0 (fun _ => true) true Try.f4.params.toList args.toList ds p := hA0
  rw [Try.params4] at hA hval
  obtain ⟨v0, vs0, d0, ds0, p0, q0, hargs, rfl, rfl, h0, r0⟩ := trodAll_cons hA
  obtain ⟨v1, vs1, d1, ds1, p1, q1, rfl, rfl, rfl, h1, r1⟩ := trodAll_cons r0
  obtain ⟨rfl, rfl, rfl⟩ := trodAll_nil r1
  obtain rfl : args = #[v0, v1] := by cases args; simp_all
  obtain ⟨rfl, rfl⟩ := trodVars_none hV
  obtain ⟨a0, len0, cap0, rfl⟩ := okWide_slice Try.underlying22 (hval 0 22 v0 rfl rfl)
  obtain ⟨cs, rfl⟩ : ∃ cs, v1 = .agg cs := by
    have hk := hval 1 26 v1 rfl rfl
    unfold Value.okWide at hk
    rw [Try.underlying26] at hk
    obtain ⟨cs, e, _⟩ := hk
    exact ⟨cs, e⟩
  have k0 := h0
  have k1 := h1
  have lt0 : ∀ x ∈ p0, x.block < W.heap.size := by obtain ⟨m, hm⟩ := k0; exact DataW.trod_lt m _ _ _ hm
  have lt1 : ∀ x ∈ p1, x.block < W.heap.size := by obtain ⟨m, hm⟩ := k1; exact DataW.trod_lt m _ _ _ hm
  obtain ⟨z0, w0⟩ : ∃ zs, IsRow W a0 len0 cap0 zs := by
    obtain ⟨fuel, hf⟩ := h0
    rcases open_ints Try.underlying22 Try.underlying5 (by kernel_rfl) hf with ⟨hcs, _⟩ | ⟨x, l, c, zs, hcs, _, hl, hm, hz, _, hcell, hwz⟩
    · simp [Value.cells] at hcs
      obtain ⟨rfl, rfl, rfl⟩ := hcs
      exact ⟨[], .inl ⟨rfl, rfl, rfl, rfl⟩⟩
    · simp [Value.cells] at hcs
      obtain ⟨rfl, rfl, rfl⟩ := hcs
      exact ⟨zs, .inr ⟨_, rfl, hl, hm, by simpa using hz, hcell, hwz⟩⟩
  obtain ⟨f1, hf1⟩ := h1
  obtain ⟨o1, o2, o3⟩ := open_rules (cs := cs) hf1
  clear hA0 hval0
  refine (walk a0 len0 cap0 z0 cs _ _ _ W w0 o1 o2 o3).mono fun e W' ⟨he, bel⟩ => ?_
  subst he
  exact ⟨_, rfl, _, _, _, [], _, [], hW', trodAll_mk1 (shut_bool Try.underlying4 _), (trodAll_cons_mk (Below.trod laidOut (by kernel_rfl) (of_decide_eq_true (by kernel_rfl)) k0 bel lt0) (trodAll_cons_mk (Below.trod laidOut (by kernel_rfl) (of_decide_eq_true (by kernel_rfl)) k1 bel lt1) trodAll_mk0)), rfl, bel.frame _, fun h => by cases h⟩

theorem over : Rows.fnLongestIsFirstOfTheLongestMatchRow.holds Try.pinned (OpenSpec.ofChange Rows.fnLongestIsFirstOfTheLongestMatchSpec) :=
  OpenClaim.holds_of_wide 4 Try.f4 rfl rfl rfl rfl rfl rfl rfl ⟨rfl, rfl, rfl, rfl, rfl⟩ rfl rfl rfl rfl rfl (by kernel_rfl) Try.func4 (by kernel_rfl)
    (of_decide_eq_true (by kernel_rfl)) (by unfold Func.isWrapper; first | (rw [if_pos (by decide +kernel)]; kernel_rfl) | (rw [if_neg (by decide +kernel)]; exact ⟨rfl, rfl⟩))
    (fun os started H enc _ => lifted os started H enc)

/-- THE STATEMENT. -/
theorem proved : Rows.FnLongestIsFirstOfTheLongestMatchSaid := over
end Go.Proofs.Qxb6617442a.fnLongestIsFirstOfTheLongestMatch
