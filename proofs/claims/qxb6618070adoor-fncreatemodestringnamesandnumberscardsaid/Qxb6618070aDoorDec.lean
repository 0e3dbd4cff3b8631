/-
  The walk of decimal (11).
-/
import Derived.Test.Qxb6618070aDoorShelf
import Derived.WalkKit
import Derived.WalkSpells
import Derived.WalkLawsBesides
import Derived.Deep.MidRow
import Derived.Deep.WholeRow
import Derived.Deep.OwnRows
import Derived.Laws.BytesArg
import Derived.Lib.ItoaNum
import Derived.Lib.ItoaLen
namespace Go.Proofs.Qxb6618070aDoor
open Go.RowKit
theorem Hid.mk {p : Prop} (h : p) : Hid p := h

/-- The cells of some bytes. -/
def bc (l : List UInt8) : List Value := l.map fun b => Value.int .u8 b.toNat
theorem bc_length (l : List UInt8) : (bc l).length = l.length := by simp [bc]

theorem conv_bytes (w : World) (g o n c : Nat) (l : List UInt8) (hl : l.length = n) (h : w.rangeAt g o (bc l)) :
    (convert 32 9 (.slice (some ⟨g, o, none⟩) n c)).run Tryd.prog w = .ok (.string ⟨l.toArray⟩) w := by
  have := run_convert_bytes_arg (P := Tryd.prog) w 32 5 Tryd.underlying32 Tryd.underlying5 g o n c (l.map fun b => (b.toNat : Int)) (by simpa using hl) (fun i hi => by
    have := h i (.int .u8 ((l[i]'(by omega)).toNat : Int)) (by simp [bc, show i < l.length from by omega])
    rw [this]
    simp [show i < l.length from by omega]) 9 Tryd.underlying9
  rw [this]
  congr 2
  simp only [strOfNums, List.map_map]
  congr 2
  conv => rhs; rw [← List.map_id l]
  apply List.map_congr_left
  intro b _
  simp

namespace Dc
open Go.Lib (dg decDigits nDigits decDigits_eq nDigits_pos nDigits_small nDigits_big lt_pow_nDigits)
/-- The k low digits of u, the greatest first. -/
def low (u : Nat) : Nat → List UInt8
  | 0 => []
  | k + 1 => dg u k :: low u k

theorem low_length (u : Nat) : ∀ k, (low u k).length = k
  | 0 => rfl
  | k + 1 => by simp [low, low_length u k]

theorem low_range (u : Nat) : ∀ k, (List.range k).map (fun t => dg u (k - 1 - t)) = low u k
  | 0 => rfl
  | k + 1 => by
    rw [List.range_succ_eq_map, List.map_cons, List.map_map, low, ← low_range u k]
    congr 1
    apply List.map_congr_left
    intro t _
    show dg u (k + 1 - 1 - (t + 1)) = dg u (k - 1 - t)
    congr 1
    omega

theorem dec_low (u : Nat) : decDigits u = low u (nDigits u) := by rw [decDigits_eq, low_range]

theorem dg_toNat (u j : Nat) : (dg u j).toNat = 48 + u / 10 ^ j % 10 := by
  simp [dg]
  omega

theorem pow_nDigits_le (u : Nat) (h : 1 ≤ u) : 10 ^ (nDigits u - 1) ≤ u := by
  suffices H : ∀ n u, u ≤ n → 1 ≤ u → 10 ^ (nDigits u - 1) ≤ u from H u u (Nat.le_refl _) h
  intro n
  induction n with
  | zero => intro u h1 h2; omega
  | succ n ih =>
    intro u h1 h2
    by_cases hs : u < 10
    · rw [nDigits_small hs]
      simpa using h2
    · rw [nDigits_big hs]
      have := ih (u / 10) (by omega) (by omega)
      have hp := nDigits_pos (u / 10)
      rw [Nat.add_sub_cancel]
      have e : 10 ^ nDigits (u / 10) = 10 ^ (nDigits (u / 10) - 1) * 10 := by
        rw [← Nat.pow_succ, Nat.succ_eq_add_one, Nat.sub_add_cancel hp]
      omega

/-- Where nothing is left, all digits are done. -/
theorem allDone {u k : Nat} (hu : 1 ≤ u) (hk : k ≤ nDigits u) (h : u / 10 ^ k = 0) : k = nDigits u := by
  rcases Nat.lt_or_ge k (nDigits u) with hc | hc
  · exfalso
    have h1 := pow_nDigits_le u hu
    have h2 : 10 ^ k ≤ 10 ^ (nDigits u - 1) := Nat.pow_le_pow_right (by omega) (by omega)
    have h3 : 0 < 10 ^ k := Nat.pow_pos (by omega)
    have := Nat.div_pos (Nat.le_trans h2 h1) h3
    omega
  · omega
/-- Where something is left, not all are done. -/
theorem more {u k : Nat} (hk : k ≤ nDigits u) (h : 0 < u / 10 ^ k) : k < nDigits u := by
  rcases Nat.lt_or_ge k (nDigits u) with hc | hc
  · exact hc
  · have e : k = nDigits u := by omega
    rw [e, Nat.div_eq_of_lt (lt_pow_nDigits u)] at h
    omega

theorem dec_inj : ∀ (n u v : Nat), u ≤ n → decDigits u = decDigits v → u = v := by
  intro n u v _ h
  have hl := congrArg List.length h
  rw [Go.Lib.decDigits_length, Go.Lib.decDigits_length] at hl
  rw [dec_low, dec_low, hl] at h
  have key : ∀ k, low u k = low v k → u % 10 ^ k = v % 10 ^ k := by
    intro k
    induction k with
    | zero => intro _; simp [Nat.mod_one]
    | succ k ih =>
      intro h
      rw [low, low] at h
      injection h with h1 h2
      have h1' := congrArg UInt8.toNat h1
      rw [dg_toNat, dg_toNat] at h1'
      have e1 : u % 10 ^ (k + 1) = u % 10 ^ k + 10 ^ k * (u / 10 ^ k % 10) := by rw [Nat.pow_succ, Nat.mod_mul]
      have e2 : v % 10 ^ (k + 1) = v % 10 ^ k + 10 ^ k * (v / 10 ^ k % 10) := by rw [Nat.pow_succ, Nat.mod_mul]
      rw [e1, e2, ih h2, show u / 10 ^ k % 10 = v / 10 ^ k % 10 from by omega]
  have := key _ h
  have h1 := lt_pow_nDigits u
  have h2 := lt_pow_nDigits v
  rw [hl] at h1
  rw [Nat.mod_eq_of_lt h1, Nat.mod_eq_of_lt h2] at this
  exact this
end Dc

/-- The array buf of decimal, the bytes L written at its end. -/
def arr (L : List UInt8) : Array Value := (List.replicate (24 - L.length) (Value.int .u8 0) ++ bc L).toArray

theorem arr_get (L : List UInt8) (p : Nat) (h : p + L.length + 1 = 24) : (arr L)[p]? = some (.int .u8 0) := by
  have e : p < (List.replicate (24 - L.length) (Value.int .u8 0)).length := by simp; omega
  unfold arr
  rw [List.getElem?_toArray, List.getElem?_append_left e, List.getElem?_replicate, if_pos (by omega)]

theorem arr_set (L : List UInt8) (p : Nat) (h : p + L.length + 1 = 24) (b : UInt8) : (arr L).setIfInBounds p (.int .u8 b.toNat) = arr (b :: L) := by
  have e1 : 24 - L.length = (24 - (L.length + 1)) + 1 := by omega
  have e2 : (List.replicate (24 - (L.length + 1)) (Value.int .u8 0)).length = p := by simp; omega
  unfold arr
  rw [e1, List.replicate_succ', List.append_assoc, List.setIfInBounds_toArray, List.length_cons]
  congr 1
  rw [List.set_append_right _ _ (by omega), e2, Nat.sub_self]
  simp [bc]

theorem arr_range (w : World) (L : List UInt8) (p : Nat) (h : p + L.length = 24) : (w.alloc (.cells (arr L) 31)).rangeAt w.heap.size p (bc L) := by
  have hb := World.rangeAt_of_block (heap_alloc_last w (.cells (arr L) 31)) 0 24
  have e : ((arr L).extract 0 (0 + 24)).toList = List.replicate (24 - L.length) (Value.int .u8 0) ++ bc L := by
    have hl : (List.replicate (24 - L.length) (Value.int .u8 0) ++ bc L).length = 24 := by simp [bc_length]; omega
    unfold arr
    rw [Array.toList_extract]
    simp only [List.extract_eq_take_drop]
    rw [List.drop_zero]
    exact List.take_of_length_le (by omega)
  rw [e] at hb
  intro j v hv
  have hlt : (List.replicate (24 - L.length) (Value.int .u8 0)).length = p := by simp; omega
  have := hb (p + j) v (by
    rw [List.getElem?_append_right (by omega), hlt, Nat.add_sub_cancel_left]
    exact hv)
  simpa using this

theorem slice_buf (w : World) (g p k : Nat) (h : p + k = 24) (hk : 1 ≤ k) : (Instr.sliceAt 31 (.pointer (some ⟨g, 0, none⟩)) (some (.int .i64 (p : Int))) none none).run Tryd.prog w = .ok (.slice (some ⟨g, p, none⟩) k k) w := by
  have e1 : Tryd.prog.arrayLen 31 = 24 := by kernel_rfl
  have e2 : Tryd.prog.elem 31 = 5 := by kernel_rfl
  rw [run_sliceAt_array_l w 31 ⟨g, 0, none⟩ (by kernel_rfl) .i64 p (by omega) (by rw [e1]; omega), e1, e2]
  rw [Tryd.sizeOf5]
  show Result.ok (Value.slice (some (if 24 = p then _ else Addr.add ⟨g, 0, none⟩ (p * 1))) (24 - p) (24 - p)) w = _
  rw [if_neg (by omega), show 24 - p = k from by omega, Nat.mul_one, Addr.add_mid, Nat.zero_add]

set_option maxRecDepth 100000 in
set_option maxHeartbeats 1000000 in
theorem dec_pos (x : Int) (v : Nat) (hx : x = (v : Int)) (hv : 1 ≤ v) (hv2 : v ≤ 4294967296) (w : World) :
    Calls Tryd.prog 11 #[.int .i64 x] w fun e w' => e = .returned (.string ⟨(Lib.decDigits v).toArray⟩) ∧ Below w.heap.size w w' := by
  have h0 : 0 < x := by omega
  have hn : decide (x < 0) = false := by simp; omega
  have h1 : x ≤ 4294967296 := by omega
  have hq : (x == 0) = false := by rw [beq_eq_false_iff_ne]; omega
  have HX := Hid.mk hx
  have h20 := Lib.nDigits_le20 v (by omega)
  have HD := Hid.mk (Dc.dec_low v)
  obtain ⟨N, HN⟩ : ∃ N, Hid (Lib.nDigits v = N) := ⟨_, Hid.mk rfl⟩
  rw [HN.out] at h20 HD
  have HMORE : Hid (∀ k, k ≤ N → 0 < v / 10 ^ k → k < N) := Hid.mk fun k hk h => by have := Dc.more (u := v) (k := k) (by rw [HN.out]; exact hk) h; rw [HN.out] at this; exact this
  have HPOS : Hid (1 ≤ N) := Hid.mk (by have := Lib.nDigits_pos v; rw [HN.out] at this; exact this)
  have HDONE : Hid (∀ k, k ≤ N → v / 10 ^ k = 0 → k = N) := Hid.mk fun k hk h => by have := Dc.allDone (u := v) (k := k) hv (by rw [HN.out]; exact hk) h; rw [HN.out] at this; exact this
  clear hx HN
  go_enter Tryd.func11, Tryd.ntmps11
  go_wp2_with fail
  go_loopw [4, 6] (fun vu vi wr => ∃ k : Nat, k ≤ N ∧ vu = .int .u64 ((v / 10 ^ k : Nat) : Int) ∧ vi = .int .i64 ((24 : Int) - k) ∧ wr = w.alloc (.cells (arr (Dc.low v k)) 31)) (fun _ vi _ => (intOf vi).toNat)
  case atStart => exact ⟨0, by omega, by rw [HX.out]; simp, by go_num, rfl⟩
  case round =>
    obtain ⟨k, hk, rfl, rfl, rfl⟩ := hrel
    have hlow := Dc.low_length v k
    by_cases hpos : 0 < v / 10 ^ k
    · have hkN := HMORE.out k hk hpos
      obtain ⟨p, hp⟩ : ∃ p : Nat, p + k + 1 = 24 := ⟨23 - k, by omega⟩
      have ei : (24 : Int) - k = (p : Int) + 1 := by omega
      have hget := arr_get (Dc.low v k) p (by omega)
      have HS := Hid.mk (arr_set (Dc.low v k) p (by omega) (Lib.dg v k))
      have HQ : Hid (v / 10 ^ (k + 1) = v / 10 ^ k / 10) := Hid.mk (by rw [Nat.pow_succ, Nat.div_div_eq_div_mul])
      have HG := Hid.mk (Dc.dg_toNat v k)
      have hqb : v / 10 ^ k ≤ 4294967296 := Nat.le_trans (Nat.div_le_self _ _) hv2
      have HL : Hid (Dc.low v (k + 1) = Lib.dg v k :: Dc.low v k) := Hid.mk rfl
      rw [← HL.out] at HS
      obtain ⟨A, HA⟩ : ∃ A : Array Value, Hid (arr (Dc.low v k) = A) := ⟨_, Hid.mk rfl⟩
      obtain ⟨q, HQQ⟩ : ∃ q : Nat, Hid (v / 10 ^ k = q) := ⟨_, Hid.mk rfl⟩
      rw [HA.out] at hget HS ⊢
      rw [HQQ.out] at hpos hqb HQ HG ⊢
      have HS' : Hid (A.setIfInBounds p (.int .u8 (48 + (q : Int) % 10)) = arr (Dc.low v (k + 1))) := Hid.mk (by rw [← HS.out, HG.out]; rfl)
      rw [ei]
      have hqi : (0 : Int) < (q : Int) := by omega
      clear HS HG HL
      go_wp2_with fail
      refine ⟨⟨k + 1, by omega, by rw [HQ.out]; go_num, by go_num, by rw [← HS'.out]⟩, by simp [intOf] <;> omega⟩
    · have hz : v / 10 ^ k = 0 := Nat.eq_zero_of_not_pos hpos
      have hkN := HDONE.out k hk hz
      have hk1 : 1 ≤ k := by have := HPOS.out; omega
      subst hkN
      obtain ⟨p, hp⟩ : ∃ p : Nat, p + k = 24 := ⟨24 - k, by omega⟩
      have ei : (24 : Int) - k = (p : Int) := by omega
      have hcv := conv_bytes (w.alloc (.cells (arr (Dc.low v k)) 31)) w.heap.size p k k (Dc.low v k) hlow (arr_range w _ p (by omega))
      have hsl : (Instr.sliceAt 31 (.pointer (some ⟨w.heap.size, 0, none⟩)) (some (.int .i64 (p : Int))) none none).run Tryd.prog (w.alloc (.cells (arr (Dc.low v k)) 31)) = .ok (.slice (some ⟨w.heap.size, p, none⟩) k k) (w.alloc (.cells (arr (Dc.low v k)) 31)) := slice_buf _ _ p k hp (by omega)
      rw [hz, ei]
      obtain ⟨L, HL⟩ : ∃ L : List UInt8, Hid (Dc.low v k = L) := ⟨_, Hid.mk rfl⟩
      rw [HL.out] at hcv hsl HD ⊢
      go_wp2_with fail
      go_ret
      exact ⟨by rw [HD.out]; rfl, (Below.refl _ _).alloc (Nat.le_refl _) _⟩

set_option maxRecDepth 100000 in
set_option maxHeartbeats 1000000 in
theorem dec_neg (x : Int) (v : Nat) (hx : x = -(v : Int)) (hv : 1 ≤ v) (hv2 : v ≤ 4294967296) (w : World) :
    Calls Tryd.prog 11 #[.int .i64 x] w fun e w' => e = .returned (.string ⟨(45 :: Lib.decDigits v).toArray⟩) ∧ Below w.heap.size w w' := by
  have h0 : x < 0 := by omega
  have hn : decide (x < 0) = true := by simpa using h0
  have h1 : -4294967296 ≤ x := by omega
  have hq : (x == 0) = false := by rw [beq_eq_false_iff_ne]; omega
  obtain ⟨b, hb⟩ : ∃ b : Int, -(x + 1) = b := ⟨_, rfl⟩
  have HX : Hid (b + 1 = (v : Int)) := Hid.mk (by omega)
  have hb1 : 0 ≤ b := by omega
  have hb2 : b ≤ 4294967296 := by omega
  have h20 := Lib.nDigits_le20 v (by omega)
  have HD := Hid.mk (Dc.dec_low v)
  obtain ⟨N, HN⟩ : ∃ N, Hid (Lib.nDigits v = N) := ⟨_, Hid.mk rfl⟩
  rw [HN.out] at h20 HD
  have HMORE : Hid (∀ k, k ≤ N → 0 < v / 10 ^ k → k < N) := Hid.mk fun k hk h => by have := Dc.more (u := v) (k := k) (by rw [HN.out]; exact hk) h; rw [HN.out] at this; exact this
  have HPOS : Hid (1 ≤ N) := Hid.mk (by have := Lib.nDigits_pos v; rw [HN.out] at this; exact this)
  have HDONE : Hid (∀ k, k ≤ N → v / 10 ^ k = 0 → k = N) := Hid.mk fun k hk h => by have := Dc.allDone (u := v) (k := k) hv (by rw [HN.out]; exact hk) h; rw [HN.out] at this; exact this
  clear hx HN
  go_enter Tryd.func11, Tryd.ntmps11
  go_wp2_with fail
  go_loopw [4, 6] (fun vu vi wr => ∃ k : Nat, k ≤ N ∧ vu = .int .u64 ((v / 10 ^ k : Nat) : Int) ∧ vi = .int .i64 ((24 : Int) - k) ∧ wr = w.alloc (.cells (arr (Dc.low v k)) 31)) (fun _ vi _ => (intOf vi).toNat)
  case atStart => exact ⟨0, by omega, by rw [HX.out]; simp, by go_num, rfl⟩
  case round =>
    obtain ⟨k, hk, rfl, rfl, rfl⟩ := hrel
    have hlow := Dc.low_length v k
    by_cases hpos : 0 < v / 10 ^ k
    · have hkN := HMORE.out k hk hpos
      obtain ⟨p, hp⟩ : ∃ p : Nat, p + k + 1 = 24 := ⟨23 - k, by omega⟩
      have ei : (24 : Int) - k = (p : Int) + 1 := by omega
      have hget := arr_get (Dc.low v k) p (by omega)
      have HS := Hid.mk (arr_set (Dc.low v k) p (by omega) (Lib.dg v k))
      have HQ : Hid (v / 10 ^ (k + 1) = v / 10 ^ k / 10) := Hid.mk (by rw [Nat.pow_succ, Nat.div_div_eq_div_mul])
      have HG := Hid.mk (Dc.dg_toNat v k)
      have hqb : v / 10 ^ k ≤ 4294967296 := Nat.le_trans (Nat.div_le_self _ _) hv2
      have HL : Hid (Dc.low v (k + 1) = Lib.dg v k :: Dc.low v k) := Hid.mk rfl
      rw [← HL.out] at HS
      obtain ⟨A, HA⟩ : ∃ A : Array Value, Hid (arr (Dc.low v k) = A) := ⟨_, Hid.mk rfl⟩
      obtain ⟨q, HQQ⟩ : ∃ q : Nat, Hid (v / 10 ^ k = q) := ⟨_, Hid.mk rfl⟩
      rw [HA.out] at hget HS ⊢
      rw [HQQ.out] at hpos hqb HQ HG ⊢
      have HS' : Hid (A.setIfInBounds p (.int .u8 (48 + (q : Int) % 10)) = arr (Dc.low v (k + 1))) := Hid.mk (by rw [← HS.out, HG.out]; rfl)
      rw [ei]
      have hqi : (0 : Int) < (q : Int) := by omega
      clear HS HG HL
      go_wp2_with fail
      refine ⟨⟨k + 1, by omega, by rw [HQ.out]; go_num, by go_num, by rw [← HS'.out]⟩, by simp [intOf] <;> omega⟩
    · have hz : v / 10 ^ k = 0 := Nat.eq_zero_of_not_pos hpos
      have hkN := HDONE.out k hk hz
      have hk1 : 1 ≤ k := by have := HPOS.out; omega
      subst hkN
      obtain ⟨p, hp⟩ : ∃ p : Nat, p + (k + 1) = 24 := ⟨23 - k, by omega⟩
      have ei : (24 : Int) - k = (p : Int) + 1 := by omega
      have hget := arr_get (Dc.low v k) p (by omega)
      have hset : (arr (Dc.low v k)).setIfInBounds p (.int .u8 45) = arr (45 :: Dc.low v k) := arr_set (Dc.low v k) p (by omega) 45
      have hcv := conv_bytes (w.alloc (.cells (arr (45 :: Dc.low v k)) 31)) w.heap.size p (k + 1) (k + 1) (45 :: Dc.low v k) (by simp [hlow]) (arr_range w _ p (by simp [hlow]; omega))
      have hsl : (Instr.sliceAt 31 (.pointer (some ⟨w.heap.size, 0, none⟩)) (some (.int .i64 (p : Int))) none none).run Tryd.prog (w.alloc (.cells (arr (45 :: Dc.low v k)) 31)) = .ok (.slice (some ⟨w.heap.size, p, none⟩) (k + 1) (k + 1)) (w.alloc (.cells (arr (45 :: Dc.low v k)) 31)) := slice_buf _ _ p (k + 1) hp (by omega)
      rw [hz, ei]
      obtain ⟨L, HL⟩ : ∃ L : List UInt8, Hid (Dc.low v k = L) := ⟨_, Hid.mk rfl⟩
      rw [HL.out] at hcv hsl HD hget hset ⊢
      obtain ⟨A, HA⟩ : ∃ A : Array Value, Hid (arr L = A) := ⟨_, Hid.mk rfl⟩
      obtain ⟨A', HA'⟩ : ∃ A' : Array Value, Hid (arr (45 :: L) = A') := ⟨_, Hid.mk rfl⟩
      rw [HA.out] at hget hset ⊢
      rw [HA'.out] at hset hcv hsl
      obtain ⟨M, HM⟩ : ∃ M : List UInt8, Hid (45 :: L = M) := ⟨_, Hid.mk rfl⟩
      rw [HM.out] at hcv
      go_wp2_with fail
      go_ret
      exact ⟨by rw [HD.out, HM.out]; rfl, (Below.refl _ _).alloc (Nat.le_refl _) _⟩

set_option maxRecDepth 100000 in
theorem dec_zero (w : World) :
    Calls Tryd.prog 11 #[.int .i64 0] w fun e w' => e = .returned (.string ⟨#[48]⟩) ∧ Below w.heap.size w w' := by
  go_enter Tryd.func11, Tryd.ntmps11
  go_wp2_with fail
  go_ret
  exact ⟨rfl, Below.refl _ _⟩

/-- decimal WRITES THE NUMERAL. -/
theorem dec_any (x : Int) (h : -4294967296 ≤ x ∧ x ≤ 4294967296) (w : World) :
    Calls Tryd.prog 11 #[.int .i64 x] w fun e w' => e = .returned (.string ⟨(Lib.itoa x).toArray⟩) ∧ Below w.heap.size w w' := by
  rcases Int.lt_trichotomy x 0 with hc | hc | hc
  · rw [Lib.itoa, if_pos hc]
    exact dec_neg x x.natAbs (by omega) (by omega) (by omega) w
  · subst hc
    have : Lib.itoa 0 = [48] := by rw [Lib.itoa, if_neg (by omega), Lib.decDigits_one (by decide)]; rfl
    rw [this]
    exact dec_zero w
  · rw [Lib.itoa, if_neg (by omega)]
    exact dec_pos x x.toNat (by omega) (by omega) (by omega) w

theorem itoa_inj {m n : Int} (h : Lib.itoa m = Lib.itoa n) : m = n := by
  have first : ∀ u : Nat, ∃ c L, Lib.decDigits u = c :: L ∧ c ≠ 45 := fun u => by
    have hp := Lib.nDigits_pos u
    rw [Dc.dec_low]
    obtain ⟨k, hk⟩ : ∃ k, Lib.nDigits u = k + 1 := ⟨Lib.nDigits u - 1, by omega⟩
    refine ⟨_, _, by rw [hk, Dc.low], fun e => ?_⟩
    have := congrArg UInt8.toNat e
    rw [Dc.dg_toNat] at this
    have e45 : (45 : UInt8).toNat = 45 := rfl
    omega
  unfold Lib.itoa at h
  by_cases hm : m < 0
  · by_cases hn : n < 0
    · rw [if_pos hm, if_pos hn] at h
      injection h with _ h
      have := Dc.dec_inj _ _ _ (Nat.le_refl _) h
      omega
    · rw [if_pos hm, if_neg hn] at h
      obtain ⟨c, L, e, hc⟩ := first n.toNat
      rw [e] at h
      injection h with h _
      exact absurd h.symm hc
  · by_cases hn : n < 0
    · rw [if_neg hm, if_pos hn] at h
      obtain ⟨c, L, e, hc⟩ := first m.toNat
      rw [e] at h
      injection h with h _
      exact absurd h hc
    · rw [if_neg hm, if_neg hn] at h
      have := Dc.dec_inj _ _ _ (Nat.le_refl _) h
      omega
end Go.Proofs.Qxb6618070aDoor
