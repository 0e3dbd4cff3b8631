/-
  The walks of hasDigit (10), String (5), modeTextIs (6), and the law (3).
-/
import Derived.Test.Qxb6618070aDoorDec
import Derived.Test.Qxb6618070aDoorTab
namespace Go.Proofs.Qxb6618070aDoor
open Go.RowKit

/-- The listed kinds' names. -/
def nm : Nat → List UInt8
  | 0 => [112, 101, 114, 115, 105, 115, 116, 101, 110, 116]
  | 1 => [101, 112, 104, 101, 109, 101, 114, 97, 108]
  | 2 => [112, 101, 114, 115, 105, 115, 116, 101, 110, 116, 45, 115, 101, 113, 117, 101, 110, 116, 105, 97, 108]
  | 3 => [101, 112, 104, 101, 109, 101, 114, 97, 108, 45, 115, 101, 113, 117, 101, 110, 116, 105, 97, 108]
  | 4 => [99, 111, 110, 116, 97, 105, 110, 101, 114]
  | 5 => [112, 101, 114, 115, 105, 115, 116, 101, 110, 116, 45, 119, 105, 116, 104, 45, 116, 116, 108]
  | _ => [112, 101, 114, 115, 105, 115, 116, 101, 110, 116, 45, 115, 101, 113, 117, 101, 110, 116, 105, 97, 108, 45, 119, 105, 116, 104, 45, 116, 116, 108]

/-- 'mode ' -/
def modeSp : List UInt8 := [109, 111, 100, 101, 32]
/-- THE TEXT OF A CREATE MODE. -/
def mtxt (n : Int) : List UInt8 := if 0 ≤ n ∧ n ≤ 6 then nm n.toNat else modeSp ++ Lib.itoa n

theorem ba_size (l : List UInt8) : (⟨l.toArray⟩ : ByteArray).size = l.length := by simp [ByteArray.size]
theorem ba_get (l : List UInt8) (i : Nat) (h : i < l.length) : (⟨l.toArray⟩ : ByteArray)[i]'(by rw [ba_size]; exact h) = l[i] := rfl

theorem mode_cat (L : List UInt8) : (⟨#[109, 111, 100, 101, 32]⟩ : ByteArray) ++ (⟨L.toArray⟩ : ByteArray) = ⟨(modeSp ++ L).toArray⟩ := by
  apply ByteArray.ext
  rw [ByteArray.data_append]
  simp [modeSp]

theorem nm_len : ∀ k, k ≤ 6 → 1 ≤ (nm k).length ∧ (nm k).length ≤ 40 := by decide
theorem nm_nodigit : ∀ k, k ≤ 6 → ∀ b ∈ nm k, b.toNat < 48 ∨ 57 < b.toNat := by decide
theorem nm_inj : ∀ j, j ≤ 6 → ∀ k, k ≤ 6 → nm j = nm k → j = k := by decide
theorem nm_mode : ∀ k, k ≤ 6 → (nm k).take 5 ≠ modeSp := by decide

theorem mtxt_inj {m n : Int} (h : mtxt m = mtxt n) : m = n := by
  unfold mtxt at h
  by_cases hm : 0 ≤ m ∧ m ≤ 6
  · by_cases hn : 0 ≤ n ∧ n ≤ 6
    · rw [if_pos hm, if_pos hn] at h
      have := nm_inj _ (by omega) _ (by omega) h
      omega
    · rw [if_pos hm, if_neg hn] at h
      exact absurd (by rw [h]; rfl) (nm_mode m.toNat (by omega))
  · by_cases hn : 0 ≤ n ∧ n ≤ 6
    · rw [if_neg hm, if_pos hn] at h
      exact absurd (by rw [← h]; rfl) (nm_mode n.toNat (by omega))
    · rw [if_neg hm, if_neg hn] at h
      exact itoa_inj (List.append_cancel_left h)

theorem mtxt_beq (m n : Int) : ((⟨(mtxt m).toArray⟩ : ByteArray).toList == (⟨(mtxt n).toArray⟩ : ByteArray).toList) = (m == n) := by
  rw [ByteArray.toList_mk, ByteArray.toList_mk]
  by_cases h : m = n
  · subst h
    simp
  · have h1 : (m == n) = false := by simpa using h
    rw [h1, beq_eq_false_iff_ne]
    exact fun e => h (mtxt_inj e)

set_option maxRecDepth 100000 in
set_option maxHeartbeats 400000 in
theorem hasDigit10 (s : ByteArray) (n : Nat) (hs : s.size = n) (hn : n ≤ 40) (hd : ∀ i (h : i < n), (s[i]'(by omega)).toNat < 48 ∨ 57 < (s[i]'(by omega)).toNat) (w : World) :
    Calls Tryd.prog 10 #[.string s] w fun e w' => e = .returned (.bool false) ∧ w' = w := by
  have HD := Hid.mk hd
  clear hd
  go_enter Tryd.func10, Tryd.ntmps10
  go_wp2_with fail
  go_loop [3] (fun i => ∃ k : Nat, k ≤ n ∧ i = .int .i64 k) (fun i => n - (intOf i).toNat)
  case atStart => exact ⟨0, by omega, rfl⟩
  case round =>
    obtain ⟨k, hk, rfl⟩ := hrel
    by_cases hlt : k < n
    · rcases HD.out k hlt with h | h
      · go_wp2_with fail
        go_round
        case rel => exact ⟨k + 1, by omega, by go_num⟩
        case measure => simp [intOf] <;> omega
      · go_wp2_with fail
        go_round
        case rel => exact ⟨k + 1, by omega, by go_num⟩
        case measure => simp [intOf] <;> omega
    · have hke : k = n := by omega
      subst hke
      go_wp2_with fail
      go_ret
      exact ⟨rfl, rfl⟩

theorem below_grow {B : Nat} {w : World} (hB : B ≤ w.heap.size) (k : Nat) (os : Array Obj) : Below B w (Sort.grow (w.drewN k) os) := by
  refine ⟨rfl, rfl, rfl, ?_, fun b hb => ?_⟩
  · show w.heap.size ≤ (w.heap ++ os).size
    simp
  · show (w.heap ++ os)[b]? = w.heap[b]?
    rw [Array.getElem?_append_left (by omega)]

/-- The table stands while nothing old turns. -/
theorem tab_later {w w' : World} (h : Lib.TabIs Tryd.prog w powName .u64 Lib.pow10Tab) (hb : Below w.heap.size w w') : Lib.TabIs Tryd.prog w' powName .u64 Lib.pow10Tab := by
  unfold Lib.TabIs World.var? at h ⊢
  obtain ⟨g, hg, hc⟩ := Option.bind_eq_some_iff.1 h
  refine Option.bind_eq_some_iff.2 ⟨g, hg, ?_⟩
  have hlt : g < w.heap.size := by
    cases hx : w.heap[g]? with
    | none =>
      rw [hx] at hc
      cases hc
    | some o => exact (Array.getElem?_eq_some_iff.1 hx).1
  rw [hb.block g hlt]
  exact hc

set_option maxRecDepth 100000 in
set_option maxHeartbeats 400000 in
theorem str_named (k : Nat) (hk : k ≤ 6) (w : World) :
    Calls Tryd.prog 5 #[.int .i32 (k : Int)] w fun e w' => e = .returned (.string ⟨(nm k).toArray⟩) ∧ Below w.heap.size w w' := by
  have hc : k = 0 ∨ k = 1 ∨ k = 2 ∨ k = 3 ∨ k = 4 ∨ k = 5 ∨ k = 6 := by omega
  rcases hc with rfl | rfl | rfl | rfl | rfl | rfl | rfl
  all_goals
    go_enter Tryd.func5, Tryd.ntmps5
    go_wp2_with fail
    go_ret
    exact ⟨rfl, Below.refl _ _⟩

theorem itoa_len (n : Int) (h : -2147483648 ≤ n ∧ n ≤ 2147483647) : (Lib.itoa n).length ≤ 40 := by
  have := Lib.itoa_length_le n (by omega) (by omega)
  omega

set_option maxRecDepth 100000 in
set_option maxHeartbeats 400000 in
theorem str_number (n : Int) (h : -2147483648 ≤ n ∧ n ≤ 2147483647) (hn : ¬ (0 ≤ n ∧ n ≤ 6)) (w : World) (htab : Lib.TabIs Tryd.prog w powName .u64 Lib.pow10Tab) :
    Calls Tryd.prog 5 #[.int .i32 n] w fun e w' => e = .returned (.string ⟨(modeSp ++ Lib.itoa n).toArray⟩) ∧ Below w.heap.size w w' := by
  have q0 : (n == 0) = false := by rw [beq_eq_false_iff_ne]; omega
  have q1 : (n == 1) = false := by rw [beq_eq_false_iff_ne]; omega
  have q2 : (n == 2) = false := by rw [beq_eq_false_iff_ne]; omega
  have q3 : (n == 3) = false := by rw [beq_eq_false_iff_ne]; omega
  have q4 : (n == 4) = false := by rw [beq_eq_false_iff_ne]; omega
  have q5 : (n == 5) = false := by rw [beq_eq_false_iff_ne]; omega
  have q6 : (n == 6) = false := by rw [beq_eq_false_iff_ne]; omega
  have HI := Hid.mk (itoa9 n (by omega) (by omega) w htab)
  have HC := Hid.mk (mode_cat (Lib.itoa n))
  have hz : ¬ 9223372036854775807 < 5 + (⟨(Lib.itoa n).toArray⟩ : ByteArray).size := by
    have := itoa_len n h
    rw [ba_size]
    omega
  obtain ⟨s, HS⟩ : ∃ s : ByteArray, Hid ((⟨(Lib.itoa n).toArray⟩ : ByteArray) = s) := ⟨_, Hid.mk rfl⟩
  obtain ⟨t, HT⟩ : ∃ t : ByteArray, Hid ((⟨(modeSp ++ Lib.itoa n).toArray⟩ : ByteArray) = t) := ⟨_, Hid.mk rfl⟩
  rw [HS.out] at HI HC hz
  rw [HT.out] at HC ⊢
  obtain ⟨h1, h2⟩ := h
  clear hn htab HS HT
  go_enter Tryd.func5, Tryd.ntmps5
  go_wp2_with fail
  refine HI.out.mono ?_
  rintro e w1 ⟨rfl, k, os, rfl⟩
  have hcat := HC.out
  go_wp2_with fail
  go_ret
  exact ⟨rfl, below_grow (Nat.le_refl _) k os⟩

/-- THE TEXT OF EVERY CREATE MODE. -/
theorem str_any (n : Int) (h : -2147483648 ≤ n ∧ n ≤ 2147483647) (w : World) (htab : Lib.TabIs Tryd.prog w powName .u64 Lib.pow10Tab) :
    Calls Tryd.prog 5 #[.int .i32 n] w fun e w' => e = .returned (.string ⟨(mtxt n).toArray⟩) ∧ Below w.heap.size w w' := by
  by_cases hc : 0 ≤ n ∧ n ≤ 6
  · rw [mtxt, if_pos hc]
    have := str_named n.toNat (by omega) w
    rw [show ((n.toNat : Nat) : Int) = n from by omega] at this
    exact this
  · rw [mtxt, if_neg hc]
    exact str_number n h hc w htab

set_option maxRecDepth 100000 in
set_option maxHeartbeats 400000 in
theorem is_named (n : Int) (h0 : 0 ≤ n) (h6 : n ≤ 6) (s : ByteArray) (k : Nat) (hs : s.size = k + 1) (_hk : k ≤ 39) (hc : ∀ w, Calls Tryd.prog 10 #[.string s] w fun e w' => e = .returned (.bool false) ∧ w' = w) (w : World) :
    Calls Tryd.prog 6 #[.int .i32 n, .string s] w fun e w' => e = .returned (.bool true) ∧ Below w.heap.size w w' := by
  have HC := Hid.mk hc
  clear hc
  go_enter Tryd.func6, Tryd.ntmps6
  go_wp2_with fail
  refine (HC.out w).mono ?_
  rintro e w1 ⟨rfl, hw⟩
  have := hw.symm
  subst this
  go_wp2_with fail
  go_ret
  exact ⟨rfl, Below.refl _ _⟩

set_option maxRecDepth 100000 in
set_option maxHeartbeats 400000 in
theorem is_number (n : Int) (hn : n < 0 ∨ 6 < n) (h1 : -2147483648 ≤ n) (h2 : n ≤ 2147483647) (s t : ByteArray) (hz : ¬ 9223372036854775807 < 5 + s.size) (hcat : (⟨#[109, 111, 100, 101, 32]⟩ : ByteArray) ++ s = t)
    (hc : ∀ w, Calls Tryd.prog 11 #[.int .i64 n] w fun e w' => e = .returned (.string s) ∧ Below w.heap.size w w') (w : World) :
    Calls Tryd.prog 6 #[.int .i32 n, .string t] w fun e w' => e = .returned (.bool true) ∧ Below w.heap.size w w' := by
  have HC := Hid.mk hc
  have HCAT := Hid.mk hcat
  clear hc hcat
  have hs : n < 0 ∨ (0 ≤ n ∧ ¬ n ≤ 6) := by omega
  clear hn
  rcases hs with h | ⟨h, h'⟩
  all_goals
    go_enter Tryd.func6, Tryd.ntmps6
    go_wp2_with fail
    refine (HC.out w).mono ?_
    rintro e w1 ⟨rfl, hb⟩
    have hcat := HCAT.out
    go_wp2_with fail
    go_ret
    exact ⟨by first | rfl | simp, hb⟩

theorem text_is (n : Int) (h : -2147483648 ≤ n ∧ n ≤ 2147483647) (w : World) :
    Calls Tryd.prog 6 #[.int .i32 n, .string ⟨(mtxt n).toArray⟩] w fun e w' => e = .returned (.bool true) ∧ Below w.heap.size w w' := by
  by_cases hc : 0 ≤ n ∧ n ≤ 6
  · rw [mtxt, if_pos hc]
    have hl := nm_len n.toNat (by omega)
    refine is_named n hc.1 hc.2 _ ((nm n.toNat).length - 1) (by rw [ba_size]; omega) (by omega) (fun w => ?_) w
    refine hasDigit10 _ _ (ba_size _) (by omega) (fun i hi => ?_) w
    rw [ba_get _ _ hi]
    exact nm_nodigit n.toNat (by omega) _ (List.getElem_mem hi)
  · rw [mtxt, if_neg hc]
    exact is_number n (by omega) h.1 h.2 ⟨(Lib.itoa n).toArray⟩ _ (by rw [ba_size]; have := itoa_len n h; omega) (mode_cat _) (fun w => dec_any n (by omega) w) w

set_option maxRecDepth 100000 in
set_option maxHeartbeats 1000000 in
theorem law3_of (m n : Int) (hm : -2147483648 ≤ m ∧ m ≤ 2147483647) (hn : -2147483648 ≤ n ∧ n ≤ 2147483647) (w : World) (htab : Lib.TabIs Tryd.prog w powName .u64 Lib.pow10Tab) :
    Calls Tryd.prog 3 #[.int .i32 m, .int .i32 n] w fun e w' => e = .returned (.bool true) ∧ Below w.heap.size w w' := by
  have HT := Hid.mk htab
  have HB := mtxt_beq m n
  obtain ⟨sa, HSA⟩ : ∃ s : ByteArray, Hid ((⟨(mtxt m).toArray⟩ : ByteArray) = s) := ⟨_, Hid.mk rfl⟩
  obtain ⟨sb, HSB⟩ : ∃ s : ByteArray, Hid ((⟨(mtxt n).toArray⟩ : ByteArray) = s) := ⟨_, Hid.mk rfl⟩
  have HSa : Hid (∀ w, Lib.TabIs Tryd.prog w powName .u64 Lib.pow10Tab → Calls Tryd.prog 5 #[.int .i32 m] w fun e w' => e = .returned (.string sa) ∧ Below w.heap.size w w') := Hid.mk (fun w h => by
    have := str_any m hm w h
    rw [HSA.out] at this
    exact this)
  have HSb : Hid (∀ w, Lib.TabIs Tryd.prog w powName .u64 Lib.pow10Tab → Calls Tryd.prog 5 #[.int .i32 n] w fun e w' => e = .returned (.string sb) ∧ Below w.heap.size w w') := Hid.mk (fun w h => by
    have := str_any n hn w h
    rw [HSB.out] at this
    exact this)
  have HIa : Hid (∀ w, Calls Tryd.prog 6 #[.int .i32 m, .string sa] w fun e w' => e = .returned (.bool true) ∧ Below w.heap.size w w') := Hid.mk (fun w => by
    have := text_is m hm w
    rw [HSA.out] at this
    exact this)
  have HIb : Hid (∀ w, Calls Tryd.prog 6 #[.int .i32 n, .string sb] w fun e w' => e = .returned (.bool true) ∧ Below w.heap.size w w') := Hid.mk (fun w => by
    have := text_is n hn w
    rw [HSB.out] at this
    exact this)
  rw [HSA.out, HSB.out] at HB
  clear HSA HSB hm hn htab
  obtain ⟨b, HBB⟩ : ∃ b : Bool, Hid ((m == n) = b) := ⟨_, Hid.mk rfl⟩
  have hb2 := HBB.out
  rw [hb2] at HB
  clear HBB
  go_enter Tryd.func3, Tryd.ntmps3
  go_wp2_with fail
  refine (HSa.out w HT.out).mono ?_
  rintro e w1 ⟨rfl, hb1⟩
  go_wp2_with fail
  refine (HSb.out w1 (tab_later HT.out hb1)).mono ?_
  rintro e w2 ⟨rfl, hb2'⟩
  have hbb := hb1.trans (hb2'.mono hb1.size)
  clear hb1 hb2'
  cases b
  all_goals
    go_wp2_with fail
    refine (HIa.out w2).mono ?_
    rintro e w3 ⟨rfl, hb3⟩
    have hbc := hbb.trans (hb3.mono hbb.size)
    clear hb3
    go_wp2_with fail
    refine (HIb.out w3).mono ?_
    rintro e w4 ⟨rfl, hb4⟩
    have hbd := hbc.trans (hb4.mono hbc.size)
    clear hb4
    go_wp2_with fail
    go_ret
    exact ⟨rfl, hbd⟩

theorem i32_range {a : Int} (h : (Lit.int .i32 a).wf = true) : -2147483648 ≤ a ∧ a ≤ 2147483647 := by
  have e1 : IntKind.i32.min = -2147483648 := by decide
  have e2 : IntKind.i32.max = 2147483647 := by decide
  simp only [Lit.wf, e1, e2, Bool.and_eq_true, decide_eq_true_eq] at h
  exact h

theorem law3 (m n : Int) (h : (Lit.int .i32 m).wf = true) (h' : (Lit.int .i32 n).wf = true) (w : World) (htab : Lib.TabIs Tryd.prog w powName .u64 Lib.pow10Tab) :
    Calls Tryd.prog 3 #[.int .i32 m, .int .i32 n] w fun e w' => e = .returned (.bool true) ∧ Below w.heap.size w w' :=
  law3_of m n (i32_range h) (i32_range h') w htab
end Go.Proofs.Qxb6618070aDoor
