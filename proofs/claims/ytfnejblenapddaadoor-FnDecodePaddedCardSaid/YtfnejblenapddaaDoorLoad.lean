/- What load32, load64 and hash return. -/
import Derived.Test.YtfnejblenapddaaDoorEmit
import Derived.Deep.QuietTactic
import Derived.BigQuiet
set_option linter.unusedVariables false
namespace Go.Proofs.YtfnejblenapddaaDoor
open Go Go.RowKit

/-- The byte at a place, as a number. -/
def at' (bs : List UInt8) (i : Nat) : Int := ((bs.getD i 0).toNat : Int)
theorem at'_range (bs : List UInt8) (i : Nat) : 0 ≤ at' bs i ∧ at' bs i < 256 := by
  unfold at'
  have := (bs.getD i 0).toNat_lt
  omega
theorem Bs.at {w : World} {b off : Nat} {bs : List UInt8} (h : Bs w b off bs) (i : Nat) (hi : i < bs.length) : w.cell? ⟨b, off + i, none⟩ = some (.int .u8 (at' bs i)) := by
  rw [h i hi]
  unfold at'
  simp [hi]

/-- Four bytes as a number. -/
def le4 (bs : List UInt8) (i : Nat) : Int := at' bs i + at' bs (i + 1) * 256 + at' bs (i + 2) * 65536 + at' bs (i + 3) * 16777216

/-- Some orders have been drawn. -/
def Drew (w w' : World) : Prop := ∃ n, w' = w.drewN n

set_option maxHeartbeats 1000000 in
set_option maxRecDepth 100000 in
theorem load32_any (b off n c i : Nat) (bs : List UInt8) (w : World) (hn : bs.length = n) (hb : Bs w b off bs) (hi : i + 4 ≤ n) (hnc : n ≤ c) (hc : c ≤ 9223372036854775807) :
    Calls Tryd.prog 47 #[.slice (some ⟨b, off, none⟩) n c, .int .i64 (i : Int)] w fun e w' => e = .returned (.int .u32 (le4 bs i)) ∧ Drew w w' := by
  have h0 := hb.at i (by omega)
  have h1 := hb.at (i + 1) (by omega)
  have h2 := hb.at (i + 2) (by omega)
  have h3 := hb.at (i + 3) (by omega)
  rw [← Nat.add_assoc] at h1 h2 h3
  have r0 := at'_range bs i
  have r1 := at'_range bs (i + 1)
  have r2 := at'_range bs (i + 2)
  have r3 := at'_range bs (i + 3)
  unfold le4
  generalize at' bs i = x0 at *
  generalize at' bs (i + 1) = x1 at *
  generalize at' bs (i + 2) = x2 at *
  generalize at' bs (i + 3) = x3 at *
  have Hn := Lib.hid hn
  clear hn hb
  obtain ⟨r00, r01⟩ := r0
  obtain ⟨r10, r11⟩ := r1
  obtain ⟨r20, r21⟩ := r2
  obtain ⟨r30, r31⟩ := r3
  have e4 : i + 4 - i = 4 := by omega
  go_enter Tryd.func47, Tryd.ntmps47
  go_wp2_with fail
  go_quiet (fail)
  go_wp2
  go_ret
  exact ⟨ret_ext (u32_four x0 x1 x2 x3 r00 r01 r10 r11 r20 r21 r30 r31), nq, rfl⟩

/-- Eight bytes as a number. -/
def le8 (bs : List UInt8) (i : Nat) : Int := at' bs i + at' bs (i + 1) * 256 + at' bs (i + 2) * 65536 + at' bs (i + 3) * 16777216 + at' bs (i + 4) * 4294967296 + at' bs (i + 5) * 1099511627776 + at' bs (i + 6) * 281474976710656 + at' bs (i + 7) * 72057594037927936

set_option maxHeartbeats 2000000 in
set_option maxRecDepth 100000 in
theorem load64_any (b off n c i : Nat) (bs : List UInt8) (w : World) (hn : bs.length = n) (hb : Bs w b off bs) (hi : i + 8 ≤ n) (hnc : n ≤ c) (hc : c ≤ 9223372036854775807) :
    Calls Tryd.prog 49 #[.slice (some ⟨b, off, none⟩) n c, .int .i64 (i : Int)] w fun e w' => e = .returned (.int .u64 (le8 bs i)) ∧ Drew w w' := by
  have h0 := hb.at i (by omega)
  have h1 := hb.at (i + 1) (by omega)
  have h2 := hb.at (i + 2) (by omega)
  have h3 := hb.at (i + 3) (by omega)
  have h4 := hb.at (i + 4) (by omega)
  have h5 := hb.at (i + 5) (by omega)
  have h6 := hb.at (i + 6) (by omega)
  have h7 := hb.at (i + 7) (by omega)
  rw [← Nat.add_assoc] at h1 h2 h3 h4 h5 h6 h7
  obtain ⟨r00, r01⟩ := at'_range bs i
  obtain ⟨r10, r11⟩ := at'_range bs (i + 1)
  obtain ⟨r20, r21⟩ := at'_range bs (i + 2)
  obtain ⟨r30, r31⟩ := at'_range bs (i + 3)
  obtain ⟨r40, r41⟩ := at'_range bs (i + 4)
  obtain ⟨r50, r51⟩ := at'_range bs (i + 5)
  obtain ⟨r60, r61⟩ := at'_range bs (i + 6)
  obtain ⟨r70, r71⟩ := at'_range bs (i + 7)
  unfold le8
  generalize at' bs i = x0 at *
  generalize at' bs (i + 1) = x1 at *
  generalize at' bs (i + 2) = x2 at *
  generalize at' bs (i + 3) = x3 at *
  generalize at' bs (i + 4) = x4 at *
  generalize at' bs (i + 5) = x5 at *
  generalize at' bs (i + 6) = x6 at *
  generalize at' bs (i + 7) = x7 at *
  have Hn := Lib.hid hn
  clear hn hb
  have e4 : i + 8 - i = 8 := by omega
  go_enter Tryd.func49, Tryd.ntmps49
  go_wp2_with fail
  go_quiet (fail)
  go_wp2
  go_ret
  exact ⟨ret_ext (u64_eight x0 x1 x2 x3 x4 x5 x6 x7 r00 r01 r10 r11 r20 r21 r30 r31 r40 r41 r50 r51 r60 r61 r70 r71), nq, rfl⟩

theorem le8_one (bs : List UInt8) (i : Nat) : le8 bs i / 256 % 4294967296 = le4 bs (i + 1) := by
  obtain ⟨r00, r01⟩ := at'_range bs i
  obtain ⟨r10, r11⟩ := at'_range bs (i + 1)
  obtain ⟨r20, r21⟩ := at'_range bs (i + 2)
  obtain ⟨r30, r31⟩ := at'_range bs (i + 3)
  obtain ⟨r40, r41⟩ := at'_range bs (i + 4)
  unfold le8 le4
  rw [show i + 1 + 1 = i + 2 from rfl, show i + 1 + 2 = i + 3 from rfl, show i + 1 + 3 = i + 4 from rfl]
  omega
theorem le8_range (bs : List UInt8) (i : Nat) : 0 ≤ le8 bs i ∧ le8 bs i < 18446744073709551616 := by
  obtain ⟨r00, r01⟩ := at'_range bs i
  obtain ⟨r10, r11⟩ := at'_range bs (i + 1)
  obtain ⟨r20, r21⟩ := at'_range bs (i + 2)
  obtain ⟨r30, r31⟩ := at'_range bs (i + 3)
  obtain ⟨r40, r41⟩ := at'_range bs (i + 4)
  obtain ⟨r50, r51⟩ := at'_range bs (i + 5)
  obtain ⟨r60, r61⟩ := at'_range bs (i + 6)
  obtain ⟨r70, r71⟩ := at'_range bs (i + 7)
  unfold le8
  omega
theorem le4_range (bs : List UInt8) (i : Nat) : 0 ≤ le4 bs i ∧ le4 bs i < 4294967296 := by
  obtain ⟨r00, r01⟩ := at'_range bs i
  obtain ⟨r10, r11⟩ := at'_range bs (i + 1)
  obtain ⟨r20, r21⟩ := at'_range bs (i + 2)
  obtain ⟨r30, r31⟩ := at'_range bs (i + 3)
  unfold le4
  omega
/-- Where four bytes tell the same number they are the same. -/
theorem le4_same (bs : List UInt8) (i j : Nat) (h : le4 bs i = le4 bs j) (hi : i + 4 ≤ bs.length) (hj : j + 4 ≤ bs.length) : ∀ k, k < 4 → bs[i + k]? = bs[j + k]? := by
  have key : ∀ k, k < 4 → at' bs (i + k) = at' bs (j + k) := by
    obtain ⟨r00, r01⟩ := at'_range bs i
    obtain ⟨r10, r11⟩ := at'_range bs (i + 1)
    obtain ⟨r20, r21⟩ := at'_range bs (i + 2)
    obtain ⟨r30, r31⟩ := at'_range bs (i + 3)
    obtain ⟨q00, q01⟩ := at'_range bs j
    obtain ⟨q10, q11⟩ := at'_range bs (j + 1)
    obtain ⟨q20, q21⟩ := at'_range bs (j + 2)
    obtain ⟨q30, q31⟩ := at'_range bs (j + 3)
    unfold le4 at h
    intro k hk
    have : k = 0 ∨ k = 1 ∨ k = 2 ∨ k = 3 := by omega
    rcases this with rfl | rfl | rfl | rfl
    · simp only [Nat.add_zero]; omega
    · omega
    · omega
    · omega
  intro k hk
  have := key k hk
  unfold at' at this
  rw [List.getElem?_eq_getElem (by omega), List.getElem?_eq_getElem (by omega)]
  simp only [List.getD_eq_getElem?_getD, List.getElem?_eq_getElem (show i + k < bs.length by omega), List.getElem?_eq_getElem (show j + k < bs.length by omega), Option.getD_some] at this
  congr 1
  exact UInt8.toNat_inj.1 (by omega)

set_option maxHeartbeats 400000 in
theorem hash_any (u s : Int) (w : World) (hu : 0 ≤ u) (hs : 0 ≤ s) (hs2 : s < 4294967296) :
    Calls Tryd.prog 46 #[.int .u32 u, .int .u32 s] w fun e w' => e = .returned (.int .u32 (u * 506832829 % 4294967296 / 2 ^ min s.toNat 32)) ∧ w' = w := by
  go_enter Tryd.func46, Tryd.ntmps46
  go_wp2
  go_ret
  exact ⟨rfl, rfl⟩

/-- hash returns some number. -/
def Hashed (w : World) (e : Ending) (w' : World) : Prop := ∃ h : Int, e = .returned (.int .u32 h) ∧ 0 ≤ h ∧ h < 4294967296 ∧ w' = w
theorem hash_some (u s : Int) (w : World) (hu : 0 ≤ u) (hs : 0 ≤ s) (hs2 : s < 4294967296) : Calls Tryd.prog 46 #[.int .u32 u, .int .u32 s] w (Hashed w) :=
  (hash_any u s w hu hs hs2).mono fun _ _ h => by
    refine ⟨_, h.1, ?_, ?_, h.2⟩
    · exact Int.ediv_nonneg (by omega) (Int.le_of_lt (Int.pow_pos (by decide)))
    · refine Int.lt_of_le_of_lt (Int.ediv_le_self _ (by omega)) (by omega)
theorem load32_at (j : Int) (b off n c i : Nat) (bs : List UInt8) (w : World) (hj : j = (i : Int)) (hn : bs.length = n) (hb : Bs w b off bs) (hi : i + 4 ≤ n) (hnc : n ≤ c) (hc : c ≤ 9223372036854775807) :
    Calls Tryd.prog 47 #[.slice (some ⟨b, off, none⟩) n c, .int .i64 j] w fun e w' => e = .returned (.int .u32 (le4 bs i)) ∧ Drew w w' := by
  subst hj
  exact load32_any b off n c i bs w hn hb hi hnc hc
theorem load64_at (j : Int) (b off n c i : Nat) (bs : List UInt8) (w : World) (hj : j = (i : Int)) (hn : bs.length = n) (hb : Bs w b off bs) (hi : i + 8 ≤ n) (hnc : n ≤ c) (hc : c ≤ 9223372036854775807) :
    Calls Tryd.prog 49 #[.slice (some ⟨b, off, none⟩) n c, .int .i64 j] w fun e w' => e = .returned (.int .u64 (le8 bs i)) ∧ Drew w w' := by
  subst hj
  exact load64_any b off n c i bs w hn hb hi hnc hc
end Go.Proofs.YtfnejblenapddaaDoor
