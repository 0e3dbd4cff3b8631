/-
  The law FnParseChangesReadsWhatIsWritten (6): its walk.
-/
import Derived.Test.Qxb6620878aEnc
namespace Go.Proofs.Qxb6620878a
open Go.RowKit Go.Maps

set_option maxRecDepth 100000 in
set_option maxHeartbeats 1000000 in
theorem bytes6_any (x : Int) (a1 a2 a3 : Option Addr) (n1 c1 n2 c2 n3 c3 : Nat) (w : World) (b1 : n1 ≤ 9223372036854775807) (b2 : n2 ≤ 9223372036854775807) (b3 : n3 ≤ 9223372036854775807) :
    Calls Try.prog 16 #[.int .u64 x, .slice a1 n1 c1, .slice a2 n2 c2, .slice a3 n3 c3] w fun e w' => (∃ b, e = .returned (.bool b)) ∧ w' = w := by
  go_enter Try.func16, Try.ntmps16
  go_wp2
  all_goals (go_ret; exact ⟨⟨_, rfl⟩, rfl⟩)

set_option maxRecDepth 100000 in
set_option maxHeartbeats 1000000 in
theorem bytes6_small (x : Int) (a1 a2 a3 : Option Addr) (n1 c1 n2 c2 n3 c3 : Nat) (w : World) (b1 : n1 ≤ 262144) (b2 : n2 ≤ 262144) (b3 : n3 ≤ 262144) :
    Calls Try.prog 16 #[.int .u64 x, .slice a1 n1 c1, .slice a2 n2 c2, .slice a3 n3 c3] w fun e w' => e = .returned (.bool true) ∧ w' = w := by
  go_enter Try.func16, Try.ntmps16
  go_wp2
  go_ret
  exact ⟨rfl, rfl⟩

set_option maxRecDepth 100000 in
set_option maxHeartbeats 1000000 in
theorem law6_large (x : Int) (a1 a2 a3 : Option Addr) (n1 c1 n2 c2 n3 c3 : Nat) (w : World) (b1 : n1 ≤ 9223372036854775807) (b2 : n2 ≤ 9223372036854775807) (b3 : n3 ≤ 9223372036854775807)
    (hl : 262144 < n1 ∨ 262144 < n2 ∨ 262144 < n3) :
    Calls Try.prog 6 #[.int .u64 x, .slice a1 n1 c1, .slice a2 n2 c2, .slice a3 n3 c3] w fun e w' => e = .returned (.bool true) ∧ Below w.heap.size w w' := by
  have hs : 262144 < n1 ∨ (n1 ≤ 262144 ∧ 262144 < n2) ∨ (n1 ≤ 262144 ∧ n2 ≤ 262144 ∧ 262144 < n3) := by omega
  clear hl
  rcases hs with h1 | ⟨h1, h2⟩ | ⟨h1, h2, h3⟩
  all_goals
    go_enter Try.func6, Try.ntmps6
    go_wp2_with fail
    refine (bytes6_any x a1 a2 a3 n1 c1 n2 c2 n3 c3 w b1 b2 b3).mono ?_
    rintro e w' ⟨⟨b, rfl⟩, hw⟩
    have hw2 := hw.symm
    subst hw2
    clear hw
    cases b
    all_goals
      go_wp2_with fail
      go_ret
      exact ⟨rfl, Below.refl _ _⟩

set_option maxRecDepth 100000 in
set_option maxHeartbeats 1000000 in
theorem law6_odd (x : Int) (a1 a2 a3 : Option Addr) (n1 c1 n2 c2 n3 c3 : Nat) (w : World) (b1 : n1 ≤ 262144) (b2 : n2 ≤ 262144) (b3 : n3 ≤ 262144)
    (hl : ¬ n1 % 32 = 0 ∨ ¬ n2 % 32 = 0) :
    Calls Try.prog 6 #[.int .u64 x, .slice a1 n1 c1, .slice a2 n2 c2, .slice a3 n3 c3] w fun e w' => e = .returned (.bool true) ∧ Below w.heap.size w w' := by
  have hs : (((n1 : Int) % 32 != 0) = true) ∨ (((n1 : Int) % 32 != 0) = false ∧ ((n2 : Int) % 32 != 0) = true) := by
    by_cases h : n1 % 32 = 0
    · refine .inr ⟨?_, ?_⟩
      · simp; omega
      · simp; omega
    · refine .inl ?_
      simp; omega
  clear hl
  rcases hs with h1 | ⟨h1, h2⟩
  all_goals
    go_enter Try.func6, Try.ntmps6
    go_wp2_with fail
    refine (bytes6_small x a1 a2 a3 n1 c1 n2 c2 n3 c3 w b1 b2 b3).mono ?_
    rintro e w' ⟨rfl, hw⟩
    have hw2 := hw.symm
    subst hw2
    clear hw
    go_wp2_with fail
    go_ret
    exact ⟨rfl, Below.refl _ _⟩

/-- What is owned and not empty: its address and its bytes. -/
theorem own_bs {w : World} {B : Nat} {v : Value} {L : List UInt8} (h : w.ownsRow B 5 1 v L.length (bc L)) (h0 : 0 < L.length) :
    ∃ g c, v = .slice (some ⟨g, 0, none⟩) L.length c ∧ L.length ≤ c ∧ c ≤ 9223372036854775807 ∧ B ≤ g ∧ w.rangeAt g 0 (bc L) := by
  obtain ⟨_, h⟩ := h
  rcases h with ⟨_, h⟩ | ⟨g, cap, cur, hv, hb, hg, hn, hm, hs, ht⟩
  · omega
  · refine ⟨g, cap, hv, hn, by unfold maxLen at hm; omega, hb, ?_⟩
    have := World.rangeAt_of_block hg 0 L.length
    rw [← ht, Nat.mul_one]
    rw [Nat.zero_add] at this
    have e : (cur.extract 0 L.length).toList = cur.toList.take L.length := by simp
    rw [e] at this
    exact this

set_option maxRecDepth 100000 in
set_option maxHeartbeats 2000000 in
theorem law6_main (base : Nat) (hbase : base < 18446744073709551616) (a1 a2 a3 : Option Addr) (n1 c1 n2 c2 n3 c3 : Nat) (l1 l2 l3 : List UInt8) (w : World) (s1 : Sl w a1 n1 c1 l1) (s2 : Sl w a2 n2 c2 l2) (s3 : Sl w a3 n3 c3 l3)
    (b1 : n1 ≤ 262144) (b2 : n2 ≤ 262144) (b3 : n3 ≤ 262144) (m1 : n1 % 32 = 0) (m2 : n2 % 32 = 0) :
    Calls Try.prog 6 #[.int .u64 base, .slice a1 n1 c1, .slice a2 n2 c2, .slice a3 n3 c3] w fun e w' => e = .returned (.bool true) ∧ Below w.heap.size w w' := by
  have g1 : ((n1 : Int) % 32 != 0) = false := by simp; omega
  have g2 : ((n2 : Int) % 32 != 0) = false := by simp; omega
  have hln := enc_length base hbase l1 l2 l3 (by rw [s1.1]; exact b1) (by rw [s2.1]; exact b2) (by rw [s3.1]; exact b3)
  have HG : Hid (base ≤ 9223372036854775807 → _) := fun h => enc_good base hbase l1 l2 l3 (by rw [s1.1]; exact m1) (by rw [s2.1]; exact m2) (by rw [s1.1]; exact b1) (by rw [s2.1]; exact b2) h
  have HB : Hid (¬ base ≤ 9223372036854775807 → Bad (enc base l1 l2 l3)) := fun h => enc_big base hbase l1 l2 l3 h
  have hen := encode base hbase a1 a2 a3 n1 c1 n2 c2 n3 c3 l1 l2 l3 w s1 s2 s3 b1 b2 b3
  obtain ⟨L, HL⟩ : ∃ L : List UInt8, Hid (enc base l1 l2 l3 = L) := ⟨_, Hid.mk rfl⟩
  rw [HL.out] at hln HG HB hen
  clear m1 m2
  go_enter Try.func6, Try.ntmps6
  go_wp2_with fail
  refine (bytes6_small _ a1 a2 a3 n1 c1 n2 c2 n3 c3 w b1 b2 b3).mono ?_
  rintro e w' ⟨rfl, hw⟩
  have hw2 := hw.symm
  subst hw2
  clear hw
  go_wp2_with fail
  refine hen.mono ?_
  clear hen
  rintro e w1 ⟨v, rfl, hown, hb1⟩
  obtain ⟨g, cp, rfl, hcp, hcm, hg, hr⟩ := own_bs hown (by omega)
  clear hown
  go_wp2_with fail
  refine (zzparse (some ⟨g, 0, none⟩) L.length cp L _ rfl hcp hln.2 (.inr ⟨g, 0, rfl, hr⟩)).mono ?_
  rintro e w3 ⟨b, x1, y1, ok, rfl, hans, hb3⟩
  have hb := hb1.trans (hb3.mono hb1.size)
  clear hb3 hb1 hr
  by_cases hbig : base ≤ 9223372036854775807
  · obtain ⟨r0, r1, r2, e1, e2, e3, e4, e5, e6⟩ := HG.out hbig
    obtain ⟨p1, p2, N1, N2, rfl, rfl, rfl, hok, hw1, hw2⟩ := hans.of_good e1 e2 e3
    rw [e5, s1.1] at hw1
    rw [e6, s2.1] at hw2
    rw [e4, s3.1] at hok
    clear e1 e2 e3 e4 e5 e6 hans HG HB
    have HOK := Hid.mk hok
    clear hok
    have hbig' : (base : Int) ≤ 9223372036854775807 := by omega
    have hvv : ((base : Int) == (base : Int)) = true := by simp
    have t1 := s1.later hb
    have t2 := s2.later hb
    go_wp2_with fail
    refine (holds_int a1 n1 c1 l1 _ _ 0 (n1 / 32) p1 N1 _ rfl (by omega) s1.1 (by omega) s1.2.1 s1.2.2.1 t1.bs (by omega) (by rw [List.drop_zero]; exact hw1)).mono ?_
    rintro e w5 ⟨rfl, hb5⟩
    have hw5 := hw2.kept (w' := w5) (row := none) ⟨hb5.os, hb5.tape, hb5.output, hb5.size, fun k hk _ => hb5.block k hk⟩ (by simp)
    have t5 := t2.later hb5
    have hbb5 := hb.trans (hb5.mono hb.size)
    clear hw1 hw2 hb5 hb t1 t2
    go_wp2_with fail
    refine (holds_int a2 n2 c2 l2 _ _ 0 (n2 / 32) p2 N2 _ rfl (by omega) s2.1 (by omega) s2.2.1 s2.2.2.1 t5.bs (by omega) (by rw [List.drop_zero]; exact hw5)).mono ?_
    rintro e w6 ⟨rfl, hb6⟩
    have hbb6 := hbb5.trans (hb6.mono hbb5.size)
    clear hw5 hb6 hbb5 t5
    go_wp2_with fail
    have hfin : (ok == ((n3 : Int) == 0)) = true := by
      rw [HOK.out, beq_iff_eq, Bool.eq_iff_iff]
      simp
    go_ret
    exact ⟨congrArg (fun b => Ending.returned (.bool b)) hfin, hbb6⟩
  · obtain ⟨rfl, rfl, rfl, rfl⟩ := hans.of_bad (HB.out hbig)
    have hbig' : (9223372036854775807 : Int) < (base : Int) := by omega
    clear hans HG HB
    go_wp2_with fail
    refine (refused_yes _).mono ?_
    rintro e w9 ⟨rfl, rfl⟩
    go_wp2_with fail
    go_ret
    exact ⟨rfl, hb⟩

/-- The numbers that a slice's cells hold, as bytes. -/
theorem sl_of_row {w : World} {a : Option Addr} {len cap : Nat} {zs : List Int}
    (h : (a = none ∧ len = 0 ∧ cap = 0 ∧ zs = []) ∨ ∃ x, a = some x ∧ len ≤ cap ∧ cap ≤ maxLen ∧ zs.length = cap ∧ (∀ i, i < zs.length → w.cell? (x.add i) = some (.int .u8 (zs.getD i 0))) ∧ ∀ n ∈ zs, (Lit.int .u8 n).wf = true) :
    Sl w a len cap ((zs.take len).map fun z => UInt8.ofNat z.toNat) := by
  rcases h with ⟨rfl, rfl, rfl, rfl⟩ | ⟨x, rfl, hlc, hcm, hz, hcell, hwf⟩
  · exact ⟨rfl, Nat.le_refl _, by omega, .inl ⟨rfl, rfl, rfl⟩⟩
  · refine ⟨by simp; omega, hlc, by unfold maxLen at hcm; omega, .inr ⟨x, rfl, fun j v hv => ?_⟩⟩
    have hj : j < len := by
      have := (List.getElem?_eq_some_iff.1 hv).1
      simp [bc] at this
      omega
    have hjz : j < zs.length := by omega
    have hr : 0 ≤ zs[j] ∧ zs[j] ≤ 255 := by
      have hw := hwf _ (List.getElem_mem hjz)
      have e1 : IntKind.u8.min = 0 := by decide
      have e2 : IntKind.u8.max = 255 := by decide
      simp only [Lit.wf, e1, e2, Bool.and_eq_true, decide_eq_true_eq] at hw
      exact hw
    rw [hcell j hjz, ← hv]
    simp only [bc, List.map_map, List.getElem?_map, List.getElem?_take, hj, if_true, List.getD_eq_getElem?_getD]
    rw [List.getElem?_eq_getElem hjz]
    simp only [Option.getD_some, Option.map_some]
    congr 2
    have : (UInt8.ofNat (zs[j]).toNat).toNat = (zs[j]).toNat := by
      simp
      omega
    show zs[j] = ((UInt8.ofNat (zs[j]).toNat).toNat : Int)
    rw [this]
    omega

end Go.Proofs.Qxb6620878a
