/- The description's Copy. -/
import Derived.Test.YtfnejblenapddaaDoorSpC
set_option linter.unusedVariables false
namespace Go.Proofs.YtfnejblenapddaaDoor
open Go Go.RowKit

theorem own_lit (w : World) (bs : List UInt8) (cs : Array Value) (h : cs.toList = bc bs) (hl : bs.length ≤ 1099511627776) : Own w.heap.size (w.alloc (.cells cs 5)) (.slice (some ⟨w.heap.size, 0, none⟩) bs.length bs.length) bs := by
  have hs : cs.size = bs.length := by rw [← Array.length_toList, h, bc_length]
  refine ⟨by rw [bc_length, Nat.mul_one], .inr ⟨w.heap.size, bs.length, cs, rfl, Nat.le_refl _, heap_alloc_new w _, Nat.le_refl _, by simp only [maxLen]; omega, by rw [hs, Nat.mul_one], ?_⟩⟩
  rw [h, Nat.mul_one, List.take_of_length_le (by rw [bc_length]; exact Nat.le_refl _)]

theorem two_cells {a b : Int} {x y : UInt8} (h1 : a = ((x.toNat : Nat) : Int)) (h2 : b = ((y.toNat : Nat) : Int)) : (#[Value.int .u8 a, Value.int .u8 b] : Array Value).toList = bc [x, y] := by rw [h1, h2]; rfl
theorem one_cell {a : Int} {x : UInt8} (h1 : a = ((x.toNat : Nat) : Int)) : (#[Value.int .u8 a] : Array Value).toList = bc [x] := by rw [h1]; rfl
theorem ofNat_cast (n : Nat) (h : n < 256) : (((UInt8.ofNat n).toNat : Nat) : Int) = (n : Int) := by rw [toNat_ofNat n h]

/-- What a spelled element leaves: bytes in memory of the call's own. -/
def Spelled (P : List UInt8 → Prop) (w : World) (e : Ending) (w' : World) : Prop := ∃ v' bs, e = .returned v' ∧ Own w.heap.size w' v' bs ∧ P bs ∧ Below w.heap.size w w'

theorem cp1_says (n f : Nat) (hn1 : 4 ≤ n) (hn2 : n ≤ 11) (hf1 : 1 ≤ f) (hf2 : f < 2048) : SaysCp [UInt8.ofNat (1 + (n - 4) * 4 + f / 256 * 32), UInt8.ofNat (f % 256)] f n := fun out h => Ev.one (step_cp1 n f [] out hn1 hn2 hf1 hf2 h)
theorem cpk_says (k n f : Nat) (hk : k = 2 ∨ k = 4) (hn1 : 1 ≤ n) (hn2 : n ≤ 64) (hf1 : 1 ≤ f) (hf2 : f < 256 ^ k) : SaysCp (UInt8.ofNat (k / 2 + 1 + (n - 1) * 4) :: leB k f) f n := fun out h => by
  have := step_cpk k n f [] out hk hn1 hn2 hf1 hf2 h
  rw [List.append_nil] at this
  exact Ev.one this

set_option maxRecDepth 10000 in
set_option maxHeartbeats 1600000 in
theorem copy_1 (n f : Nat) (w : World) (hf1 : 1 ≤ f) (hfit : fitsB 1 n f = true) : Calls Tryd.prog 30 #[.int .i64 1, .int .i64 (n : Int), .int .i64 (f : Int)] w (Spelled (fun bs => SaysCp bs f n ∧ bs.length ≤ 5) w) := by
  have hfi := fits_1 n f w
  rw [hfit] at hfi
  simp [fitsB] at hfit
  obtain ⟨⟨h1, h2⟩, h3⟩ := hfit
  have Hfi := Lib.hid hfi
  obtain ⟨m, rfl⟩ : ∃ m, n = m + 4 := ⟨n - 4, by omega⟩
  have hs := cp1_says (m + 4) f h1 h2 hf1 h3
  rw [show m + 4 - 4 = m from by omega] at hs
  have Hs := Lib.hid hs
  have hm : m ≤ 7 := by omega
  have hn4 : ((m + 4 : Nat) : Int) - 4 = (m : Int) := by omega
  clear hfi hs h2 h1
  go_enter Tryd.func30, Tryd.ntmps30
  go_wp2_with fail
  refine (Hfi.out).mono ?_
  rintro e w1 ⟨rfl, rfl⟩
  clear Hfi
  go_wp2_with fail
  go_ret
  refine ⟨_, [UInt8.ofNat (1 + m * 4 + f / 256 * 32), UInt8.ofNat (f % 256)], rfl, own_lit w1 [UInt8.ofNat (1 + m * 4 + f / 256 * 32), UInt8.ofNat (f % 256)] _ (two_cells ?_ ?_) (by simp), ⟨Hs.out, by simp⟩, (Below.refl _ _).alloc (Nat.le_refl _) _⟩
  · rw [ofNat_cast _ (by omega)]; omega
  · rw [ofNat_cast _ (by omega)]; omega

/-- Within the bytes of an offset. -/
def CpyInv (w : World) (bs : List UInt8) (k : Nat) (v2 v7 v8 : Value) (wr : World) : Prop :=
  ∃ (i fi : Nat) (pre : List UInt8), v2 = .int .i64 (fi : Int) ∧ v8 = .int .i64 (i : Int) ∧ i ≤ k ∧ fi ≤ 4294967295 ∧ bs = pre ++ leB (k - i) fi ∧ pre.length = i + 1 ∧ Own w.heap.size wr v7 pre ∧ Below w.heap.size w wr

set_option maxRecDepth 10000 in
set_option maxHeartbeats 3200000 in
theorem copy_2 (n f : Nat) (w : World) (hf1 : 1 ≤ f) (hfit : fitsB 2 n f = true) : Calls Tryd.prog 30 #[.int .i64 2, .int .i64 (n : Int), .int .i64 (f : Int)] w (Spelled (fun bs => SaysCp bs f n ∧ bs.length ≤ 5) w) := by
  have hfi := fits_2 n f w
  rw [hfit] at hfi
  simp [fitsB] at hfit
  obtain ⟨⟨h1, h2⟩, h3⟩ := hfit
  have Hfi := Lib.hid hfi
  obtain ⟨m, rfl⟩ : ∃ m, n = m + 1 := ⟨n - 1, by omega⟩
  have hs := cpk_says 2 (m + 1) f (by omega) (by omega) h2 hf1 (by omega)
  rw [show 2 / 2 + 1 + (m + 1 - 1) * 4 = 2 + m * 4 from by omega] at hs
  have Hs := Lib.hid hs
  have hm : m ≤ 63 := by omega
  have hf4 : f ≤ 4294967295 := by omega
  obtain ⟨bs, hbs⟩ : ∃ bs, UInt8.ofNat (2 + m * 4) :: leB 2 f = bs := ⟨_, rfl⟩
  rw [hbs] at Hs
  have hbl : bs.length = 2 + 1 := by rw [← hbs, List.length_cons, leB_length]
  have Hbs := Lib.hid hbs
  have Hbl := Lib.hid hbl
  clear hfi hs h2 h1 hbs hbl h3
  go_enter Tryd.func30, Tryd.ntmps30
  go_wp2_with fail
  refine (Hfi.out).mono ?_
  rintro e w1 ⟨rfl, rfl⟩
  clear Hfi
  go_wp2_with fail
  go_loopw [2, 7, 8] (CpyInv w1 bs 2) (fun _ _ v8 _ => 2 - (intOf v8).toNat)
  case atStart =>
    exact ⟨0, f, [UInt8.ofNat (2 + m * 4)], rfl, rfl, by omega, hf4, by rw [← Hbs.out]; rfl, rfl, own_lit w1 [UInt8.ofNat (2 + m * 4)] _ (one_cell (by rw [ofNat_cast _ (by omega)]; omega)) (by simp), (Below.refl _ _).alloc (Nat.le_refl _) _⟩
  case round =>
    obtain ⟨i, fi, pre, rfl, rfl, hi, hfi, hbe, hpl, hown, hbel⟩ := hrel
    by_cases hik : i < 2
    · have hz : (fi : Int) % 256 = ((((UInt8.ofNat (fi % 256)).toNat) : Nat) : Int) := by rw [ofNat_cast _ (by omega)]; omega
      have hbl := (Below.refl wr.heap.size wr).alloc (Nat.le_refl _) (.cells #[.int .u8 ((fi : Int) % 256)] 5)
      have HO1 := Lib.hid (hown.below hbl)
      have Hnew := Lib.hid (bs_one wr ((fi : Int) % 256) (UInt8.ofNat (fi % 256)) hz)
      have HB1 := Lib.hid (hbel.trans (hbl.mono hbel.size))
      have Hbe := Lib.hid hbe
      have Hpl := Lib.hid hpl
      have hpl1 : pre.length + 1 ≤ 1099511627776 := by omega
      have hsz : w1.heap.size ≤ (wr.alloc (.cells #[.int .u8 ((fi : Int) % 256)] 5)).heap.size := HB1.out.size
      clear hz hbl hbe hpl hown hbel
      go_wp2_with (at_builtin; go_loud (refine wpList_app rfl (.tmp 44) (.tmp 48) rfl w1.heap.size _ pre rfl HO1.out wr.heap.size 0 1 1 [UInt8.ofNat (fi % 256)] rfl rfl Hnew.out hpl1 hsz ?_); intro v' w' hown' hb'; have HO := Lib.hid hown'; have HB' := Lib.hid hb'; clear hown' hb')
      go_roundw
      case rel =>
        refine ⟨i + 1, fi / 256, pre ++ [UInt8.ofNat (fi % 256)], int_ext (by omega), int_ext (by omega), by omega, by omega, ?_, by rw [List.length_append, Hpl.out]; rfl, HO.out, HB1.out.trans HB'.out⟩
        rw [Hbe.out, show 2 - i = (2 - (i + 1)) + 1 from by omega, leB]
        simp
      case measure => simp only [intOf]; omega
    · obtain rfl : i = 2 := by omega
      have hpe : bs = pre := by rw [hbe, Nat.sub_self, leB, List.append_nil]
      have Hown := Lib.hid hown
      have Hbel := Lib.hid hbel
      have Hpe := Lib.hid hpe
      clear hown hbel hbe hpl hpe
      go_wp2_with fail
      go_ret
      exact ⟨_, pre, rfl, Hown.out, ⟨by rw [← Hpe.out]; exact Hs.out, by rw [← Hpe.out, Hbl.out]; omega⟩, Hbel.out⟩

set_option maxRecDepth 10000 in
set_option maxHeartbeats 3200000 in
theorem copy_3 (n f : Nat) (w : World) (hf1 : 1 ≤ f) (hfit : fitsB 3 n f = true) : Calls Tryd.prog 30 #[.int .i64 3, .int .i64 (n : Int), .int .i64 (f : Int)] w (Spelled (fun bs => SaysCp bs f n ∧ bs.length ≤ 5) w) := by
  have hfi := fits_3 n f w
  rw [hfit] at hfi
  simp [fitsB] at hfit
  obtain ⟨⟨h1, h2⟩, h3⟩ := hfit
  have Hfi := Lib.hid hfi
  obtain ⟨m, rfl⟩ : ∃ m, n = m + 1 := ⟨n - 1, by omega⟩
  have hs := cpk_says 4 (m + 1) f (by omega) (by omega) h2 hf1 (by omega)
  rw [show 4 / 2 + 1 + (m + 1 - 1) * 4 = 3 + m * 4 from by omega] at hs
  have Hs := Lib.hid hs
  have hm : m ≤ 63 := by omega
  have hf4 : f ≤ 4294967295 := by omega
  obtain ⟨bs, hbs⟩ : ∃ bs, UInt8.ofNat (3 + m * 4) :: leB 4 f = bs := ⟨_, rfl⟩
  rw [hbs] at Hs
  have hbl : bs.length = 4 + 1 := by rw [← hbs, List.length_cons, leB_length]
  have Hbs := Lib.hid hbs
  have Hbl := Lib.hid hbl
  clear hfi hs h2 h1 hbs hbl h3
  go_enter Tryd.func30, Tryd.ntmps30
  go_wp2_with fail
  refine (Hfi.out).mono ?_
  rintro e w1 ⟨rfl, rfl⟩
  clear Hfi
  go_wp2_with fail
  go_loopw [2, 7, 8] (CpyInv w1 bs 4) (fun _ _ v8 _ => 4 - (intOf v8).toNat)
  case atStart =>
    exact ⟨0, f, [UInt8.ofNat (3 + m * 4)], rfl, rfl, by omega, hf4, by rw [← Hbs.out]; rfl, rfl, own_lit w1 [UInt8.ofNat (3 + m * 4)] _ (one_cell (by rw [ofNat_cast _ (by omega)]; omega)) (by simp), (Below.refl _ _).alloc (Nat.le_refl _) _⟩
  case round =>
    obtain ⟨i, fi, pre, rfl, rfl, hi, hfi, hbe, hpl, hown, hbel⟩ := hrel
    by_cases hik : i < 4
    · have hz : (fi : Int) % 256 = ((((UInt8.ofNat (fi % 256)).toNat) : Nat) : Int) := by rw [ofNat_cast _ (by omega)]; omega
      have hbl := (Below.refl wr.heap.size wr).alloc (Nat.le_refl _) (.cells #[.int .u8 ((fi : Int) % 256)] 5)
      have HO1 := Lib.hid (hown.below hbl)
      have Hnew := Lib.hid (bs_one wr ((fi : Int) % 256) (UInt8.ofNat (fi % 256)) hz)
      have HB1 := Lib.hid (hbel.trans (hbl.mono hbel.size))
      have Hbe := Lib.hid hbe
      have Hpl := Lib.hid hpl
      have hpl1 : pre.length + 1 ≤ 1099511627776 := by omega
      have hsz : w1.heap.size ≤ (wr.alloc (.cells #[.int .u8 ((fi : Int) % 256)] 5)).heap.size := HB1.out.size
      clear hz hbl hbe hpl hown hbel
      go_wp2_with (at_builtin; go_loud (refine wpList_app rfl (.tmp 44) (.tmp 48) rfl w1.heap.size _ pre rfl HO1.out wr.heap.size 0 1 1 [UInt8.ofNat (fi % 256)] rfl rfl Hnew.out hpl1 hsz ?_); intro v' w' hown' hb'; have HO := Lib.hid hown'; have HB' := Lib.hid hb'; clear hown' hb')
      go_roundw
      case rel =>
        refine ⟨i + 1, fi / 256, pre ++ [UInt8.ofNat (fi % 256)], int_ext (by omega), int_ext (by omega), by omega, by omega, ?_, by rw [List.length_append, Hpl.out]; rfl, HO.out, HB1.out.trans HB'.out⟩
        rw [Hbe.out, show 4 - i = (4 - (i + 1)) + 1 from by omega, leB]
        simp
      case measure => simp only [intOf]; omega
    · obtain rfl : i = 4 := by omega
      have hpe : bs = pre := by rw [hbe, Nat.sub_self, leB, List.append_nil]
      have Hown := Lib.hid hown
      have Hbel := Lib.hid hbel
      have Hpe := Lib.hid hpe
      clear hown hbel hbe hpl hpe
      go_wp2_with fail
      go_ret
      exact ⟨_, pre, rfl, Hown.out, ⟨by rw [← Hpe.out]; exact Hs.out, by rw [← Hpe.out, Hbl.out]; omega⟩, Hbel.out⟩

end Go.Proofs.YtfnejblenapddaaDoor
