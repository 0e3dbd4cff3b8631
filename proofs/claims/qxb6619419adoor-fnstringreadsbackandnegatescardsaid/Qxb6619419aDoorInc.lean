/-
  The walk of zzIncMajor (10).
-/
import Derived.Test.Qxb6619419aDoorStr
import Derived.Test.Qxb6619419aDoorDec
import Derived.Deep.OwnRows
namespace Go.Proofs.Qxb6619419aDoor
open Go.RowKit

/-- The array b of zzIncMajor, k digits done. -/
def arrK (m : Nat) (R tl : List UInt8) (k : Nat) : Array Value := (List.replicate (m + 1 - k) (Value.int .u8 0) ++ bc ((Dc.incK R k).1 ++ tl)).toArray

theorem arr_get (m : Nat) (R tl : List UInt8) (k : Nat) (h : k < m + 1) : (arrK m R tl k)[m - k]? = some (.int .u8 0) := by
  have e : m - k < (List.replicate (m + 1 - k) (Value.int .u8 0)).length := by simp; omega
  unfold arrK
  rw [List.getElem?_toArray, List.getElem?_append_left e, List.getElem?_replicate, if_pos (by omega)]

theorem arr_set (m : Nat) (R tl : List UInt8) (k : Nat) (h : k < m) (b : UInt8) (hb : (Dc.incK R (k + 1)).1 = b :: (Dc.incK R k).1) : (arrK m R tl k).setIfInBounds (m - k) (.int .u8 b.toNat) = arrK m R tl (k + 1) := by
  have e1 : m + 1 - k = (m + 1 - (k + 1)) + 1 := by omega
  have e2 : (List.replicate (m + 1 - (k + 1)) (Value.int .u8 0)).length = m - k := by simp
  unfold arrK
  rw [hb, e1, List.replicate_succ', List.append_assoc, List.setIfInBounds_toArray]
  congr 1
  rw [List.set_append_right _ _ (by omega), e2, Nat.sub_self]
  simp [bc]

theorem made_list (n : Nat) : madeCells #[Value.int .u8 0] n = (List.replicate n (Value.int .u8 0)).toArray := by
  apply Array.ext_getElem?
  intro i
  unfold madeCells
  rw [Array.getElem?_map, Array.getElem?_range, List.getElem?_toArray, List.getElem?_replicate]
  by_cases h : i < n
  · rw [if_pos h, if_pos h]
    show some ((#[Value.int .u8 0])[i % 1]!) = _
    rw [Nat.mod_one]
    rfl
  · rw [if_neg h, if_neg h]
    rfl

theorem made_get (n i : Nat) (h : i < n) : (madeCells #[Value.int .u8 0] n)[i]? = some (.int .u8 0) := by
  rw [made_list, List.getElem?_toArray, List.getElem?_replicate, if_pos h]

theorem arr_start (m : Nat) (R : List UInt8) (x y : UInt8) :
    (((madeCells #[Value.int .u8 0] (m + 4)).setIfInBounds (m + 3) (.int .u8 y.toNat)).setIfInBounds (m + 2) (.int .u8 x.toNat)).setIfInBounds (m + 1) (.int .u8 46) = arrK m R [46, x, y] 0 := by
  have hl : (List.replicate (m + 1) (Value.int .u8 0)).length = m + 1 := by simp
  have e0 : List.replicate (m + 4) (Value.int .u8 0) = List.replicate (m + 1) (Value.int .u8 0) ++ [.int .u8 0, .int .u8 0, .int .u8 0] := by
    rw [show m + 4 = m + 1 + 3 from rfl, ← List.replicate_append_replicate]
    rfl
  rw [made_list, e0]
  simp only [List.setIfInBounds_toArray, arrK, Dc.incK, List.nil_append, Nat.sub_zero]
  rw [List.set_append_right _ _ (by omega), List.set_append_right _ _ (by omega), List.set_append_right _ _ (by omega), hl, show m + 3 - (m + 1) = 2 from by omega, show m + 2 - (m + 1) = 1 from by omega, Nat.sub_self]
  rfl

theorem arr_all (m : Nat) (R tl : List UInt8) : arrK m R tl m = (Value.int .u8 0 :: bc ((Dc.incK R m).1 ++ tl)).toArray := by
  unfold arrK
  rw [show m + 1 - m = 1 from by omega]
  rfl

/-- What the increment comes to. -/
def incFin (R : List UInt8) (m : Nat) : List UInt8 := if (Dc.incK R m).2 = true then 49 :: (Dc.incK R m).1 else (Dc.incK R m).1

theorem range_new (w : World) (cs : List Value) (t : TypeId) : (w.alloc (.cells cs.toArray t)).rangeAt w.heap.size 0 cs := by
  have := World.rangeAt_of_block (heap_alloc_last w (.cells cs.toArray t)) 0 cs.length
  simpa using this

set_option maxRecDepth 100000 in
set_option maxHeartbeats 1000000 in
theorem inc_walk (s : ByteArray) (m : Nat) (R : List UInt8) (x y : UInt8) (hs : s.size = m + 3) (hm1 : 1 ≤ m) (hm2 : m ≤ 29) (w : World)
    (hdot : (s[m]'(by omega)).toNat = 46) (hx : (s[m + 1]'(by omega)) = x) (hy : (s[m + 2]'(by omega)) = y) (hdig : ∀ i (h : i < s.size), i ≠ m → 48 ≤ (s[i]).toNat ∧ (s[i]).toNat ≤ 57)
    (hR : ∀ k (h : k < m), R.getD k 0 = s[m - 1 - k]'(by omega)) :
    Calls Tryd.prog 10 #[.string s] w fun e w' => e = .returned (.tuple #[.string ⟨(incFin R m ++ [46, x, y]).toArray⟩, .bool true]) ∧ Below w.heap.size w w' := by
  have h1 : ((m : Int) + 3 - 3) = (m : Int) := by omega
  have HD := Hid.mk hdig
  have HR := Hid.mk hR
  clear hdig hR
  go_enter Tryd.func10, Tryd.ntmps10
  go_wp2_with fail
  go_loop [5] (fun i => ∃ k : Nat, k ≤ m + 3 ∧ i = .int .i64 k) (fun i => m + 3 - (intOf i).toNat)
  case atStart => exact ⟨0, by omega, rfl⟩
  case round =>
    obtain ⟨k, hk, rfl⟩ := hrel
    by_cases hlt : k < m + 3
    · by_cases hkm : k = m
      · subst hkm
        have hq : ((k : Int) != (k : Int)) = false := by simp
        go_wp2_with fail
        go_round
        case rel => exact ⟨k + 1, by omega, by go_num⟩
        case measure => simp [intOf] <;> omega
      · have hd := HD.out k (by omega) hkm
        have hq : ((k : Int) != (m : Int)) = true := by simp; omega
        go_wp2_with fail
        go_round
        case rel => exact ⟨k + 1, by omega, by go_num⟩
        case measure => simp [intOf] <;> omega
    · have hkm : k = m + 3 := by omega
      subst hkm
      have hmk := run_make_row' (P := Tryd.prog) 33 5 (.int .u8 0) 1 Tryd.underlying33 info5 rfl .i64 .i64 (m + 4) (by omega) (by omega)
      have ec : ((m + 4 : Nat) : Int) = (m : Int) + 3 + 1 := by omega
      rw [ec] at hmk
      have g3 := made_get (m + 4) (m + 3) (by omega)
      have g2 := made_get (m + 4) (m + 2) (by omega)
      have g1 := made_get (m + 4) (m + 1) (by omega)
      have HST := Hid.mk (arr_start m R x y)
      obtain ⟨A0, HA0⟩ : ∃ A0 : Array Value, Hid (madeCells #[.int .u8 0] (m + 4) = A0) := ⟨_, Hid.mk rfl⟩
      rw [HA0.out] at hmk g3 g2 g1 HST
      go_wp2_with fail
      rw [HST.out]
      go_loopw [7, 8, 9] (fun vj vc vi wr => ∃ k : Nat, k ≤ m ∧ vj = .int .i64 ((m : Int) - k) ∧ vc = .bool (Dc.incK R k).2 ∧ vi = .int .i64 ((m : Int) - k - 1) ∧ wr = w.alloc (.cells (arrK m R [46, x, y] k) 5)) (fun _ _ i _ => (intOf i + 1).toNat)
      case atStart => exact ⟨0, by omega, by go_num, rfl, by go_num, rfl⟩
      case round =>
        obtain ⟨k, hkm, rfl, rfl, rfl, rfl⟩ := hrel
        by_cases hk : k < m
        · obtain ⟨p, hp⟩ : ∃ p : Nat, p + k + 1 = m := ⟨m - 1 - k, by omega⟩
          have ei : (m : Int) - k - 1 = (p : Int) := by omega
          have ej : (m : Int) - k = (p : Int) + 1 := by omega
          have hRk := HR.out k hk
          simp only [show m - 1 - k = p from by omega] at hRk
          have hd := HD.out p (by omega) (by omega)
          have hget := arr_get m R [46, x, y] k (by omega)
          rw [show m - k = p + 1 from by omega] at hget
          have HSET : Hid (∀ b : UInt8, (Dc.incK R (k + 1)).1 = b :: (Dc.incK R k).1 → (arrK m R [46, x, y] k).setIfInBounds (p + 1) (.int .u8 b.toNat) = arrK m R [46, x, y] (k + 1)) := fun b hb => by
            have := arr_set m R [46, x, y] k hk b hb
            rw [show m - k = p + 1 from by omega] at this
            exact this
          obtain ⟨A, HA⟩ : ∃ A : Array Value, Hid (arrK m R [46, x, y] k = A) := ⟨_, Hid.mk rfl⟩
          rw [HA.out] at hget HSET ⊢
          rw [ei, ej]
          obtain ⟨c, HC⟩ : ∃ c : UInt8, Hid (s[p]'(by omega) = c) := ⟨_, Hid.mk rfl⟩
          have hsp : s[p]'(by omega) = c := HC.out
          rw [hsp] at hd hRk
          have HRK := Hid.mk hRk
          clear hRk
          obtain ⟨cb, HCB⟩ : ∃ cb : Bool, Hid ((Dc.incK R k).2 = cb) := ⟨_, Hid.mk rfl⟩
          rw [HCB.out]
          cases cb
          case true =>
            by_cases hc9 : c = 57
            · have hc' : ((c.toNat : Int) == 57) = true := by rw [hc9]; rfl
              have HK1 : Hid (Dc.incK R (k + 1) = (48 :: (Dc.incK R k).1, true)) := Hid.mk (by rw [Dc.incK, if_pos HCB.out, HRK.out, if_pos hc9])
              have HS := HSET.out 48 (by rw [HK1.out])
              have HS' : Hid (A.setIfInBounds (p + 1) (.int .u8 48) = arrK m R [46, x, y] (k + 1)) := HS
              clear hc9 HS
              go_wp2_with fail
              refine ⟨⟨k + 1, by omega, by go_num, by rw [HK1.out], by go_num, by rw [← HS'.out]⟩, by simp [intOf] <;> omega⟩
            · have hc' : ((c.toNat : Int) == 57) = false := by
                rw [beq_eq_false_iff_ne]
                intro e
                exact hc9 (UInt8.toNat_inj.1 (by show c.toNat = 57; omega))
              have hlt9 : c.toNat ≠ 57 := fun e => hc9 (UInt8.toNat_inj.1 e)
              have HK1 : Hid (Dc.incK R (k + 1) = ((c + 1) :: (Dc.incK R k).1, false)) := Hid.mk (by rw [Dc.incK, if_pos HCB.out, HRK.out, if_neg hc9])
              have HS := HSET.out (c + 1) (by rw [HK1.out])
              have e1 : (c + 1).toNat = c.toNat + 1 := by
                rw [UInt8.toNat_add]
                have : (1 : UInt8).toNat = 1 := rfl
                omega
              rw [e1] at HS
              have HS' : Hid (A.setIfInBounds (p + 1) (.int .u8 ((c.toNat : Int) + 1)) = arrK m R [46, x, y] (k + 1)) := Hid.mk (by rw [← HS]; rfl)
              clear hc9 HS e1
              go_wp2_with fail
              refine ⟨⟨k + 1, by omega, by go_num, by rw [HK1.out], by go_num, by rw [← HS'.out]⟩, by simp [intOf] <;> omega⟩
          case false =>
            have HK1 : Hid (Dc.incK R (k + 1) = (c :: (Dc.incK R k).1, false)) := Hid.mk (by rw [Dc.incK, if_neg (by rw [HCB.out]; decide), HRK.out])
            have HS' : Hid (A.setIfInBounds (p + 1) (.int .u8 c.toNat) = arrK m R [46, x, y] (k + 1)) := Hid.mk (HSET.out c (by rw [HK1.out]))
            go_wp2_with fail
            refine ⟨⟨k + 1, by omega, by go_num, by rw [HK1.out], by go_num, by rw [← HS'.out]⟩, by simp [intOf] <;> omega⟩
        · have hke : k = m := by omega
          subst hke
          rw [arr_all]
          obtain ⟨o, HO⟩ : ∃ o : List UInt8, Hid ((Dc.incK R k).1 = o) := ⟨_, Hid.mk rfl⟩
          have hol : o.length = k := by rw [← HO.out]; exact Dc.incK_length R k
          rw [HO.out]
          obtain ⟨cb, HCB⟩ : ∃ cb : Bool, Hid ((Dc.incK R k).2 = cb) := ⟨_, Hid.mk rfl⟩
          rw [HCB.out]
          cases cb
          case true =>
            have HF : Hid (incFin R k ++ [46, x, y] = 49 :: (o ++ [46, x, y])) := Hid.mk (by rw [incFin, if_pos HCB.out, HO.out]; rfl)
            have ei : (k : Int) - k - 1 = -1 := by omega
            rw [ei]
            have hcv : (convert 33 9 (.slice (some ⟨w.heap.size, 0, none⟩) (k + 4) (k + 4))).run Tryd.prog (w.alloc (.cells (Value.int .u8 49 :: bc (o ++ [46, x, y])).toArray 5)) = .ok (.string ⟨(49 :: (o ++ [46, x, y])).toArray⟩) (w.alloc (.cells (Value.int .u8 49 :: bc (o ++ [46, x, y])).toArray 5)) :=
              conv_bytes _ w.heap.size 0 (k + 4) (k + 4) (49 :: (o ++ [46, x, y])) (by simp; omega) (range_new w (bc (49 :: (o ++ [46, x, y]))) 5)
            go_wp2_with fail
            go_ret2
            exact ⟨by rw [HF.out]; rfl, (Below.refl _ _).alloc (Nat.le_refl _) _⟩
          case false =>
            have HF : Hid (incFin R k ++ [46, x, y] = o ++ [46, x, y]) := Hid.mk (by rw [incFin, if_neg (by rw [HCB.out]; decide), HO.out])
            have ei : (k : Int) - k - 1 = -1 := by omega
            rw [ei]
            have hcv : (convert 33 9 (.slice (some ⟨w.heap.size, 1, none⟩) (k + 3) (k + 3))).run Tryd.prog (w.alloc (.cells (Value.int .u8 0 :: bc (o ++ [46, x, y])).toArray 5)) = .ok (.string ⟨(o ++ [46, x, y]).toArray⟩) (w.alloc (.cells (Value.int .u8 0 :: bc (o ++ [46, x, y])).toArray 5)) :=
              conv_bytes _ w.heap.size 1 (k + 3) (k + 3) (o ++ [46, x, y]) (by simp; omega) (fun j v hv => by
                have := range_new w (Value.int .u8 0 :: bc (o ++ [46, x, y])) 5 (1 + j) v (by rw [Nat.add_comm]; simpa using hv)
                simpa using this)
            go_wp2_with fail
            go_ret2
            exact ⟨by rw [HF.out]; rfl, (Below.refl _ _).alloc (Nat.le_refl _) _⟩

theorem ba_size (l : List UInt8) : (⟨l.toArray⟩ : ByteArray).size = l.length := by simp [ByteArray.size]
theorem ba_get (l : List UInt8) (i : Nat) (h : i < l.length) : (⟨l.toArray⟩ : ByteArray)[i]'(by rw [ba_size]; exact h) = l[i] := rfl

/-- zzIncMajor AT THE TEXT OF AN AMOUNT. -/
theorem inc_text (m : Nat) (hm : m < 18446744073709551616) (w : World) :
    Calls Tryd.prog 10 #[.string ⟨(ustr m).toArray⟩] w fun e w' => e = .returned (.tuple #[.string ⟨(ustr (m + 100)).toArray⟩, .bool true]) ∧ Below w.heap.size w w' := by
  have hl := Lib.decDigits_length (m / 100)
  have h20 := Lib.nDigits_le20 (m / 100) (by omega)
  have hp := Lib.nDigits_pos (m / 100)
  have hD : ∀ i (h : i < (Lib.decDigits (m / 100)).length), 48 ≤ ((Lib.decDigits (m / 100))[i]).toNat ∧ ((Lib.decDigits (m / 100))[i]).toNat ≤ 57 := by
    intro i h
    simp only [Dc.dec_low, Dc.low_get]
    exact Dc.dg_range _ _
  have hx := dgt_toNat (k := m / 10 % 10) (by omega)
  have hy := dgt_toNat (k := m % 10) (by omega)
  have e1 : incFin (Lib.decDigits (m / 100)).reverse (Lib.decDigits (m / 100)).length ++ [46, dgt (m / 10 % 10), dgt (m % 10)] = ustr (m + 100) := by
    have : incFin (Lib.decDigits (m / 100)).reverse (Lib.decDigits (m / 100)).length = Dc.incAll (Lib.decDigits (m / 100)) := rfl
    rw [this, Dc.inc_dec, ustr]
    rw [show (m + 100) / 100 = m / 100 + 1 from by omega, show (m + 100) / 10 % 10 = m / 10 % 10 from by omega, show (m + 100) % 10 = m % 10 from by omega]
  have hw := inc_walk ⟨(ustr m).toArray⟩ (Lib.decDigits (m / 100)).length (Lib.decDigits (m / 100)).reverse (dgt (m / 10 % 10)) (dgt (m % 10)) (by rw [ba_size]; simp [ustr]) (by omega) (by omega) w
    (by rw [ba_get _ _ (by simp [ustr])]; simp only [ustr]; rw [List.getElem_append_right (by omega)]; simp)
    (by rw [ba_get _ _ (by simp [ustr])]; simp only [ustr]; rw [List.getElem_append_right (by omega)]; simp)
    (by rw [ba_get _ _ (by simp [ustr])]; simp only [ustr]; rw [List.getElem_append_right (by omega)]; simp)
    (fun i h hne => by
      have hi : i < (Lib.decDigits (m / 100)).length + 3 := by rw [ba_size] at h; simpa [ustr] using h
      rw [ba_get _ _ (by simp [ustr]; omega)]
      simp only [ustr]
      by_cases c : i < (Lib.decDigits (m / 100)).length
      · rw [List.getElem_append_left c]
        exact hD i c
      · rw [List.getElem_append_right (by omega)]
        have : i - (Lib.decDigits (m / 100)).length = 1 ∨ i - (Lib.decDigits (m / 100)).length = 2 := by omega
        rcases this with e | e
        · simp only [e]
          simp only [List.getElem_cons_succ, List.getElem_cons_zero, hx]
          omega
        · simp only [e]
          simp only [List.getElem_cons_succ, List.getElem_cons_zero, hy]
          omega)
    (fun k h => by
      rw [ba_get _ _ (by simp [ustr]; omega)]
      simp only [ustr]
      rw [List.getElem_append_left (by omega), List.getD_eq_getElem?_getD, List.getElem?_eq_getElem (by simpa using h), Option.getD_some, List.getElem_reverse])
  rw [e1] at hw
  exact hw

set_option maxRecDepth 100000 in
set_option maxHeartbeats 400000 in
theorem law5_out (a : Int) (h : a < 0 ∨ 9223372036854775707 < a) (w : World) :
    Calls Tryd.prog 5 #[.int .i64 a] w fun e w' => e = .returned (.bool true) ∧ Below w.heap.size w w' := by
  have hs : a < 0 ∨ (0 ≤ a ∧ 9223372036854775707 < a) := by omega
  clear h
  rcases hs with h | ⟨h0, h⟩
  all_goals
    go_enter Tryd.func5, Tryd.ntmps5
    go_wp2_with fail
    go_ret
    exact ⟨rfl, Below.refl _ _⟩

set_option maxRecDepth 100000 in
set_option maxHeartbeats 1000000 in
theorem law5_in (a : Int) (h0 : 0 ≤ a) (h1 : a ≤ 9223372036854775707) (w : World) (htab : Lib.TabIs Tryd.prog w powName .u64 Lib.pow10Tab) :
    Calls Tryd.prog 5 #[.int .i64 a] w fun e w' => e = .returned (.bool true) ∧ Below w.heap.size w w' := by
  have HT := Hid.mk htab
  clear htab
  have HE : Hid (ustr (a + 100).natAbs = ustr (a.natAbs + 100)) := Hid.mk (by congr 1; omega)
  go_enter Tryd.func5, Tryd.ntmps5
  go_wp2_with fail
  refine (str_pos a h0 (by omega) w HT.out).mono ?_
  rintro e w1 ⟨rfl, hb1⟩
  go_wp2_with fail
  refine (str_pos (a + 100) (by omega) (by omega) w1 (tab_later HT.out hb1)).mono ?_
  rintro e w2 ⟨rfl, hb2⟩
  rw [HE.out]
  have hb := hb1.trans (hb2.mono hb1.size)
  clear hb1 hb2
  go_wp2_with fail
  refine (inc_text a.natAbs (by omega) w2).mono ?_
  rintro e w3 ⟨rfl, hb3⟩
  have hbb := hb.trans (hb3.mono hb.size)
  clear hb hb3
  obtain ⟨L, HL⟩ : ∃ L : List UInt8, Hid (ustr (a.natAbs + 100) = L) := ⟨_, Hid.mk rfl⟩
  rw [HL.out]
  go_wp2_with fail
  go_ret
  exact ⟨by simp, hbb⟩

theorem i64_range {a : Int} (h : (Lit.int .i64 a).wf = true) : -9223372036854775808 ≤ a ∧ a ≤ 9223372036854775807 := by
  have e1 : IntKind.i64.min = -9223372036854775808 := by decide
  have e2 : IntKind.i64.max = 9223372036854775807 := by decide
  simp only [Lit.wf, e1, e2, Bool.and_eq_true, decide_eq_true_eq] at h
  exact h

theorem law5 (a : Int) (h : (Lit.int .i64 a).wf = true) (w : World) (htab : Lib.TabIs Tryd.prog w powName .u64 Lib.pow10Tab) :
    Calls Tryd.prog 5 #[.int .i64 a] w fun e w' => e = .returned (.bool true) ∧ Below w.heap.size w w' := by
  have hr := i64_range h
  by_cases hc : a < 0 ∨ 9223372036854775707 < a
  · exact law5_out a hc w
  · exact law5_in a (by omega) (by omega) w htab

end Go.Proofs.Qxb6619419aDoor
