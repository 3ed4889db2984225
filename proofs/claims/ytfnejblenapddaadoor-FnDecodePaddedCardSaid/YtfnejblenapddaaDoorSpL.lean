/- The description's Literal. -/
import Derived.Test.YtfnejblenapddaaDoorSpC2
set_option linter.unusedVariables false
namespace Go.Proofs.YtfnejblenapddaaDoor
open Go Go.RowKit

/-- These bytes say a text. -/
def SaysL (t bs : List UInt8) : Prop := (∀ out, Ev bs out (out ++ t)) ∧ bs.length ≤ t.length + 5

theorem lit0_says (t : List UInt8) (h1 : 1 ≤ t.length) (h2 : t.length ≤ 60) : SaysL t ([UInt8.ofNat ((t.length - 1) * 4)] ++ t) := ⟨fun out => by
  have := step_lit0 t [] out h1 h2
  rw [List.append_nil] at this
  exact Ev.one this, by simp⟩
theorem litk_says (k : Nat) (t : List UInt8) (h1 : 1 ≤ t.length) (hk1 : 1 ≤ k) (hk : k ≤ 4) (h2 : t.length - 1 < 256 ^ k) : SaysL t ((UInt8.ofNat ((59 + k) * 4) :: leB k (t.length - 1)) ++ t) := ⟨fun out => by
  have := step_litk k t [] out h1 hk1 hk h2
  rw [List.append_nil] at this
  exact Ev.one this, by simp [leB_length]; omega⟩

/-- Within the bytes of a length. -/
def LitInv (w : World) (bs : List UInt8) (k : Nat) (v5 v6 v7 : Value) (wr : World) : Prop :=
  ∃ (i fi : Nat) (pre : List UInt8), v5 = .int .i64 (fi : Int) ∧ v7 = .int .i64 (i : Int) ∧ i ≤ k ∧ fi ≤ 4294967295 ∧ bs = pre ++ leB (k - i) fi ∧ pre.length = i + 1 ∧ Own w.heap.size wr v6 pre ∧ Below w.heap.size w wr

set_option maxRecDepth 10000 in
set_option maxHeartbeats 3200000 in
theorem literal_0a (ad : Addr) (n1 c : Nat) (t : List UInt8) (w : World) (hR : Rd w (.slice (some ad) (n1 + 1) c) t) (hl : t.length = n1 + 1) (hhi : n1 < 60) : Calls Tryd.prog 31 #[.slice (some ad) (n1 + 1) c, .int .i64 0] w (Spelled (SaysL t) w) := by
  have HR := Lib.hid hR
  have Hl := Lib.hid hl
  have hn1 : ((n1 + 1 : Nat) : Int) - 1 = (n1 : Int) := by omega
  have f60 : ((n1 : Int) < 60) = True := by simp; omega
  have f256 : (256 ≤ (n1 : Int)) = False := by simp; omega
  have f65536 : (65536 ≤ (n1 : Int)) = False := by simp; omega
  have f16777216 : (16777216 ≤ (n1 : Int)) = False := by simp; omega
  clear hR hl
  have hz : (n1 : Int) * 4 = ((((UInt8.ofNat (n1 * 4)).toNat) : Nat) : Int) := by rw [ofNat_cast _ (by omega)]; omega
  have hso := lit0_says t (by rw [Hl.out]; omega) (by rw [Hl.out]; omega)
  rw [Hl.out, show n1 + 1 - 1 = n1 from by omega] at hso
  have hbl := (Below.refl w.heap.size w).alloc (Nat.le_refl _) (.cells #[.int .u8 ((n1 : Int) * 4)] 5)
  have HO := Lib.hid (own_lit w [UInt8.ofNat (n1 * 4)] _ (one_cell hz) (by simp))
  have HR1 := Lib.hid (HR.out.below hbl)
  have Hso := Lib.hid hso
  have HB1 := Lib.hid hbl
  have hln : [UInt8.ofNat (n1 * 4)].length + t.length ≤ 1099511627776 := by rw [Hl.out]; simp; omega
  have hsz := hbl.size
  clear hz hso hbl
  go_enter Tryd.func31, Tryd.ntmps31
  go_wp2_with (at_builtin; go_loud (refine wpList_appA rfl (.tmp 20) (.tmp 21) rfl w.heap.size _ [UInt8.ofNat (n1 * 4)] rfl HO.out _ t rfl HR1.out (.inr ⟨_, _, _, rfl⟩) hln hsz ?_); intro v' w' hown' hb' hg'; have HO2 := Lib.hid hown'; have HB2 := Lib.hid hb'; clear hown' hb' hg')
  go_ret
  exact ⟨_, _, rfl, HO2.out, Hso.out, HB1.out.trans HB2.out⟩

set_option maxRecDepth 10000 in
set_option maxHeartbeats 3200000 in
theorem literal_0b (ad : Addr) (n1 c : Nat) (t : List UInt8) (w : World) (hR : Rd w (.slice (some ad) (n1 + 1) c) t) (hl : t.length = n1 + 1) (hlo : 60 ≤ n1) (hhi : n1 < 256) : Calls Tryd.prog 31 #[.slice (some ad) (n1 + 1) c, .int .i64 0] w (Spelled (SaysL t) w) := by
  have HR := Lib.hid hR
  have Hl := Lib.hid hl
  have hn1 : ((n1 + 1 : Nat) : Int) - 1 = (n1 : Int) := by omega
  have f60 : ((n1 : Int) < 60) = False := by simp; omega
  have f256 : (256 ≤ (n1 : Int)) = False := by simp; omega
  have f65536 : (65536 ≤ (n1 : Int)) = False := by simp; omega
  have f16777216 : (16777216 ≤ (n1 : Int)) = False := by simp; omega
  clear hR hl
  have hs := litk_says 1 t (by rw [Hl.out]; omega) (by omega) (by omega) (by rw [Hl.out]; omega)
  rw [Hl.out, show n1 + 1 - 1 = n1 from by omega] at hs
  obtain ⟨bs, hbs⟩ : ∃ bs, UInt8.ofNat ((59 + 1) * 4) :: leB 1 n1 = bs := ⟨_, rfl⟩
  rw [hbs] at hs
  have hbl : bs.length = 1 + 1 := by rw [← hbs, List.length_cons, leB_length]
  have Hs := Lib.hid hs
  have Hbs := Lib.hid hbs
  have Hbl := Lib.hid hbl
  clear hs hbs hbl
  go_enter Tryd.func31, Tryd.ntmps31
  go_wp2_with fail
  go_loopw [5, 6, 7] (LitInv w bs 1) (fun _ _ v7 _ => 1 - (intOf v7).toNat)
  case atStart =>
    exact ⟨0, n1, [UInt8.ofNat ((59 + 1) * 4)], rfl, rfl, by omega, by omega, by rw [← Hbs.out]; rfl, rfl, own_lit w [UInt8.ofNat ((59 + 1) * 4)] _ (one_cell (by decide)) (by simp), (Below.refl _ _).alloc (Nat.le_refl _) _⟩
  case round =>
    obtain ⟨i, fi, pre, rfl, rfl, hi, hfi, hbe, hpl, hown, hbel⟩ := hrel
    by_cases hik : i < 1
    · have hz : (fi : Int) % 256 = ((((UInt8.ofNat (fi % 256)).toNat) : Nat) : Int) := by rw [ofNat_cast _ (by omega)]; omega
      have hbl := (Below.refl wr.heap.size wr).alloc (Nat.le_refl _) (.cells #[.int .u8 ((fi : Int) % 256)] 5)
      have HO1 := Lib.hid (hown.below hbl)
      have Hnew := Lib.hid (bs_one wr ((fi : Int) % 256) (UInt8.ofNat (fi % 256)) hz)
      have HB1 := Lib.hid (hbel.trans (hbl.mono hbel.size))
      have Hbe := Lib.hid hbe
      have Hpl := Lib.hid hpl
      have hpl1 : pre.length + 1 ≤ 1099511627776 := by omega
      have hsz : w.heap.size ≤ (wr.alloc (.cells #[.int .u8 ((fi : Int) % 256)] 5)).heap.size := HB1.out.size
      clear hz hbl hbe hpl hown hbel
      go_wp2_with (at_builtin; go_loud (refine wpList_app rfl (.tmp 57) (.tmp 61) rfl w.heap.size _ pre rfl HO1.out wr.heap.size 0 1 1 [UInt8.ofNat (fi % 256)] rfl rfl Hnew.out hpl1 hsz ?_); intro v' w' hown' hb'; have HO := Lib.hid hown'; have HB' := Lib.hid hb'; clear hown' hb')
      go_roundw
      case rel =>
        refine ⟨i + 1, fi / 256, pre ++ [UInt8.ofNat (fi % 256)], int_ext (by omega), int_ext (by omega), by omega, by omega, ?_, by rw [List.length_append, Hpl.out]; rfl, HO.out, HB1.out.trans HB'.out⟩
        rw [Hbe.out, show 1 - i = (1 - (i + 1)) + 1 from by omega, leB]
        simp
      case measure => simp only [intOf]; omega
    · obtain rfl : i = 1 := by omega
      have hpe : bs = pre := by rw [hbe, Nat.sub_self, leB, List.append_nil]
      subst hpe
      have Hown := Lib.hid hown
      have Hbel := Lib.hid hbel
      have HR1 := Lib.hid (HR.out.below hbel)
      have hln : bs.length + t.length ≤ 1099511627776 := by rw [Hl.out, Hbl.out]; omega
      have hsz := hbel.size
      clear hown hbel hbe hpl
      go_wp2_with (at_builtin; go_loud (refine wpList_appA rfl (.tmp 65) (.tmp 66) rfl w.heap.size _ bs rfl Hown.out _ t rfl HR1.out (.inr ⟨_, _, _, rfl⟩) hln hsz ?_); intro v' w' hown' hb' hg'; have HO2 := Lib.hid hown'; have HB2 := Lib.hid hb'; clear hown' hb' hg')
      go_ret
      exact ⟨_, _, rfl, HO2.out, Hs.out, Hbel.out.trans HB2.out⟩

set_option maxRecDepth 10000 in
set_option maxHeartbeats 3200000 in
theorem literal_0c (ad : Addr) (n1 c : Nat) (t : List UInt8) (w : World) (hR : Rd w (.slice (some ad) (n1 + 1) c) t) (hl : t.length = n1 + 1) (hlo : 256 ≤ n1) (hhi : n1 < 65536) : Calls Tryd.prog 31 #[.slice (some ad) (n1 + 1) c, .int .i64 0] w (Spelled (SaysL t) w) := by
  have HR := Lib.hid hR
  have Hl := Lib.hid hl
  have hn1 : ((n1 + 1 : Nat) : Int) - 1 = (n1 : Int) := by omega
  have f60 : ((n1 : Int) < 60) = False := by simp; omega
  have f256 : (256 ≤ (n1 : Int)) = True := by simp; omega
  have f65536 : (65536 ≤ (n1 : Int)) = False := by simp; omega
  have f16777216 : (16777216 ≤ (n1 : Int)) = False := by simp; omega
  clear hR hl
  have hs := litk_says 2 t (by rw [Hl.out]; omega) (by omega) (by omega) (by rw [Hl.out]; omega)
  rw [Hl.out, show n1 + 1 - 1 = n1 from by omega] at hs
  obtain ⟨bs, hbs⟩ : ∃ bs, UInt8.ofNat ((59 + 2) * 4) :: leB 2 n1 = bs := ⟨_, rfl⟩
  rw [hbs] at hs
  have hbl : bs.length = 2 + 1 := by rw [← hbs, List.length_cons, leB_length]
  have Hs := Lib.hid hs
  have Hbs := Lib.hid hbs
  have Hbl := Lib.hid hbl
  clear hs hbs hbl
  go_enter Tryd.func31, Tryd.ntmps31
  go_wp2_with fail
  go_loopw [5, 6, 7] (LitInv w bs 2) (fun _ _ v7 _ => 2 - (intOf v7).toNat)
  case atStart =>
    exact ⟨0, n1, [UInt8.ofNat ((59 + 2) * 4)], rfl, rfl, by omega, by omega, by rw [← Hbs.out]; rfl, rfl, own_lit w [UInt8.ofNat ((59 + 2) * 4)] _ (one_cell (by decide)) (by simp), (Below.refl _ _).alloc (Nat.le_refl _) _⟩
  case round =>
    obtain ⟨i, fi, pre, rfl, rfl, hi, hfi, hbe, hpl, hown, hbel⟩ := hrel
    by_cases hik : i < 2
    · have hz : (fi : Int) % 256 = ((((UInt8.ofNat (fi % 256)).toNat) : Nat) : Int) := by rw [ofNat_cast _ (by omega)]; omega
      have hbl := (Below.refl wr.heap.size wr).alloc (Nat.le_refl _) (.cells #[.int .u8 ((fi : Int) % 256)] 5)
      have HO1 := Lib.hid (hown.below hbl)
      have Hnew := Lib.hid (bs_one wr ((fi : Int) % 256) (UInt8.ofNat (fi % 256)) hz)
      have HB1 := Lib.hid (hbel.trans (hbl.mono hbel.size))
      have Hbe := Lib.hid hbe
      have Hpl := Lib.hid hpl
      have hpl1 : pre.length + 1 ≤ 1099511627776 := by omega
      have hsz : w.heap.size ≤ (wr.alloc (.cells #[.int .u8 ((fi : Int) % 256)] 5)).heap.size := HB1.out.size
      clear hz hbl hbe hpl hown hbel
      go_wp2_with (at_builtin; go_loud (refine wpList_app rfl (.tmp 57) (.tmp 61) rfl w.heap.size _ pre rfl HO1.out wr.heap.size 0 1 1 [UInt8.ofNat (fi % 256)] rfl rfl Hnew.out hpl1 hsz ?_); intro v' w' hown' hb'; have HO := Lib.hid hown'; have HB' := Lib.hid hb'; clear hown' hb')
      go_roundw
      case rel =>
        refine ⟨i + 1, fi / 256, pre ++ [UInt8.ofNat (fi % 256)], int_ext (by omega), int_ext (by omega), by omega, by omega, ?_, by rw [List.length_append, Hpl.out]; rfl, HO.out, HB1.out.trans HB'.out⟩
        rw [Hbe.out, show 2 - i = (2 - (i + 1)) + 1 from by omega, leB]
        simp
      case measure => simp only [intOf]; omega
    · obtain rfl : i = 2 := by omega
      have hpe : bs = pre := by rw [hbe, Nat.sub_self, leB, List.append_nil]
      subst hpe
      have Hown := Lib.hid hown
      have Hbel := Lib.hid hbel
      have HR1 := Lib.hid (HR.out.below hbel)
      have hln : bs.length + t.length ≤ 1099511627776 := by rw [Hl.out, Hbl.out]; omega
      have hsz := hbel.size
      clear hown hbel hbe hpl
      go_wp2_with (at_builtin; go_loud (refine wpList_appA rfl (.tmp 65) (.tmp 66) rfl w.heap.size _ bs rfl Hown.out _ t rfl HR1.out (.inr ⟨_, _, _, rfl⟩) hln hsz ?_); intro v' w' hown' hb' hg'; have HO2 := Lib.hid hown'; have HB2 := Lib.hid hb'; clear hown' hb' hg')
      go_ret
      exact ⟨_, _, rfl, HO2.out, Hs.out, Hbel.out.trans HB2.out⟩

set_option maxRecDepth 10000 in
set_option maxHeartbeats 3200000 in
theorem literal_0d (ad : Addr) (n1 c : Nat) (t : List UInt8) (w : World) (hR : Rd w (.slice (some ad) (n1 + 1) c) t) (hl : t.length = n1 + 1) (hlo : 65536 ≤ n1) (hhi : n1 < 1000000) : Calls Tryd.prog 31 #[.slice (some ad) (n1 + 1) c, .int .i64 0] w (Spelled (SaysL t) w) := by
  have HR := Lib.hid hR
  have Hl := Lib.hid hl
  have hn1 : ((n1 + 1 : Nat) : Int) - 1 = (n1 : Int) := by omega
  have f60 : ((n1 : Int) < 60) = False := by simp; omega
  have f256 : (256 ≤ (n1 : Int)) = True := by simp; omega
  have f65536 : (65536 ≤ (n1 : Int)) = True := by simp; omega
  have f16777216 : (16777216 ≤ (n1 : Int)) = False := by simp; omega
  clear hR hl
  have hs := litk_says 3 t (by rw [Hl.out]; omega) (by omega) (by omega) (by rw [Hl.out]; omega)
  rw [Hl.out, show n1 + 1 - 1 = n1 from by omega] at hs
  obtain ⟨bs, hbs⟩ : ∃ bs, UInt8.ofNat ((59 + 3) * 4) :: leB 3 n1 = bs := ⟨_, rfl⟩
  rw [hbs] at hs
  have hbl : bs.length = 3 + 1 := by rw [← hbs, List.length_cons, leB_length]
  have Hs := Lib.hid hs
  have Hbs := Lib.hid hbs
  have Hbl := Lib.hid hbl
  clear hs hbs hbl
  go_enter Tryd.func31, Tryd.ntmps31
  go_wp2_with fail
  go_loopw [5, 6, 7] (LitInv w bs 3) (fun _ _ v7 _ => 3 - (intOf v7).toNat)
  case atStart =>
    exact ⟨0, n1, [UInt8.ofNat ((59 + 3) * 4)], rfl, rfl, by omega, by omega, by rw [← Hbs.out]; rfl, rfl, own_lit w [UInt8.ofNat ((59 + 3) * 4)] _ (one_cell (by decide)) (by simp), (Below.refl _ _).alloc (Nat.le_refl _) _⟩
  case round =>
    obtain ⟨i, fi, pre, rfl, rfl, hi, hfi, hbe, hpl, hown, hbel⟩ := hrel
    by_cases hik : i < 3
    · have hz : (fi : Int) % 256 = ((((UInt8.ofNat (fi % 256)).toNat) : Nat) : Int) := by rw [ofNat_cast _ (by omega)]; omega
      have hbl := (Below.refl wr.heap.size wr).alloc (Nat.le_refl _) (.cells #[.int .u8 ((fi : Int) % 256)] 5)
      have HO1 := Lib.hid (hown.below hbl)
      have Hnew := Lib.hid (bs_one wr ((fi : Int) % 256) (UInt8.ofNat (fi % 256)) hz)
      have HB1 := Lib.hid (hbel.trans (hbl.mono hbel.size))
      have Hbe := Lib.hid hbe
      have Hpl := Lib.hid hpl
      have hpl1 : pre.length + 1 ≤ 1099511627776 := by omega
      have hsz : w.heap.size ≤ (wr.alloc (.cells #[.int .u8 ((fi : Int) % 256)] 5)).heap.size := HB1.out.size
      clear hz hbl hbe hpl hown hbel
      go_wp2_with (at_builtin; go_loud (refine wpList_app rfl (.tmp 57) (.tmp 61) rfl w.heap.size _ pre rfl HO1.out wr.heap.size 0 1 1 [UInt8.ofNat (fi % 256)] rfl rfl Hnew.out hpl1 hsz ?_); intro v' w' hown' hb'; have HO := Lib.hid hown'; have HB' := Lib.hid hb'; clear hown' hb')
      go_roundw
      case rel =>
        refine ⟨i + 1, fi / 256, pre ++ [UInt8.ofNat (fi % 256)], int_ext (by omega), int_ext (by omega), by omega, by omega, ?_, by rw [List.length_append, Hpl.out]; rfl, HO.out, HB1.out.trans HB'.out⟩
        rw [Hbe.out, show 3 - i = (3 - (i + 1)) + 1 from by omega, leB]
        simp
      case measure => simp only [intOf]; omega
    · obtain rfl : i = 3 := by omega
      have hpe : bs = pre := by rw [hbe, Nat.sub_self, leB, List.append_nil]
      subst hpe
      have Hown := Lib.hid hown
      have Hbel := Lib.hid hbel
      have HR1 := Lib.hid (HR.out.below hbel)
      have hln : bs.length + t.length ≤ 1099511627776 := by rw [Hl.out, Hbl.out]; omega
      have hsz := hbel.size
      clear hown hbel hbe hpl
      go_wp2_with (at_builtin; go_loud (refine wpList_appA rfl (.tmp 65) (.tmp 66) rfl w.heap.size _ bs rfl Hown.out _ t rfl HR1.out (.inr ⟨_, _, _, rfl⟩) hln hsz ?_); intro v' w' hown' hb' hg'; have HO2 := Lib.hid hown'; have HB2 := Lib.hid hb'; clear hown' hb' hg')
      go_ret
      exact ⟨_, _, rfl, HO2.out, Hs.out, Hbel.out.trans HB2.out⟩

set_option maxRecDepth 10000 in
set_option maxHeartbeats 3200000 in
theorem literal_1a (ad : Addr) (n1 c : Nat) (t : List UInt8) (w : World) (hR : Rd w (.slice (some ad) (n1 + 1) c) t) (hl : t.length = n1 + 1) (hhi : n1 < 60) : Calls Tryd.prog 31 #[.slice (some ad) (n1 + 1) c, .int .i64 1] w (Spelled (SaysL t) w) := by
  have HR := Lib.hid hR
  have Hl := Lib.hid hl
  have hn1 : ((n1 + 1 : Nat) : Int) - 1 = (n1 : Int) := by omega
  have f60 : ((n1 : Int) < 60) = True := by simp; omega
  have f256 : (256 ≤ (n1 : Int)) = False := by simp; omega
  have f65536 : (65536 ≤ (n1 : Int)) = False := by simp; omega
  have f16777216 : (16777216 ≤ (n1 : Int)) = False := by simp; omega
  clear hR hl
  have hs := litk_says 1 t (by rw [Hl.out]; omega) (by omega) (by omega) (by rw [Hl.out]; omega)
  rw [Hl.out, show n1 + 1 - 1 = n1 from by omega] at hs
  obtain ⟨bs, hbs⟩ : ∃ bs, UInt8.ofNat ((59 + 1) * 4) :: leB 1 n1 = bs := ⟨_, rfl⟩
  rw [hbs] at hs
  have hbl : bs.length = 1 + 1 := by rw [← hbs, List.length_cons, leB_length]
  have Hs := Lib.hid hs
  have Hbs := Lib.hid hbs
  have Hbl := Lib.hid hbl
  clear hs hbs hbl
  go_enter Tryd.func31, Tryd.ntmps31
  go_wp2_with fail
  go_loopw [5, 6, 7] (LitInv w bs 1) (fun _ _ v7 _ => 1 - (intOf v7).toNat)
  case atStart =>
    exact ⟨0, n1, [UInt8.ofNat ((59 + 1) * 4)], rfl, rfl, by omega, by omega, by rw [← Hbs.out]; rfl, rfl, own_lit w [UInt8.ofNat ((59 + 1) * 4)] _ (one_cell (by decide)) (by simp), (Below.refl _ _).alloc (Nat.le_refl _) _⟩
  case round =>
    obtain ⟨i, fi, pre, rfl, rfl, hi, hfi, hbe, hpl, hown, hbel⟩ := hrel
    by_cases hik : i < 1
    · have hz : (fi : Int) % 256 = ((((UInt8.ofNat (fi % 256)).toNat) : Nat) : Int) := by rw [ofNat_cast _ (by omega)]; omega
      have hbl := (Below.refl wr.heap.size wr).alloc (Nat.le_refl _) (.cells #[.int .u8 ((fi : Int) % 256)] 5)
      have HO1 := Lib.hid (hown.below hbl)
      have Hnew := Lib.hid (bs_one wr ((fi : Int) % 256) (UInt8.ofNat (fi % 256)) hz)
      have HB1 := Lib.hid (hbel.trans (hbl.mono hbel.size))
      have Hbe := Lib.hid hbe
      have Hpl := Lib.hid hpl
      have hpl1 : pre.length + 1 ≤ 1099511627776 := by omega
      have hsz : w.heap.size ≤ (wr.alloc (.cells #[.int .u8 ((fi : Int) % 256)] 5)).heap.size := HB1.out.size
      clear hz hbl hbe hpl hown hbel
      go_wp2_with (at_builtin; go_loud (refine wpList_app rfl (.tmp 57) (.tmp 61) rfl w.heap.size _ pre rfl HO1.out wr.heap.size 0 1 1 [UInt8.ofNat (fi % 256)] rfl rfl Hnew.out hpl1 hsz ?_); intro v' w' hown' hb'; have HO := Lib.hid hown'; have HB' := Lib.hid hb'; clear hown' hb')
      go_roundw
      case rel =>
        refine ⟨i + 1, fi / 256, pre ++ [UInt8.ofNat (fi % 256)], int_ext (by omega), int_ext (by omega), by omega, by omega, ?_, by rw [List.length_append, Hpl.out]; rfl, HO.out, HB1.out.trans HB'.out⟩
        rw [Hbe.out, show 1 - i = (1 - (i + 1)) + 1 from by omega, leB]
        simp
      case measure => simp only [intOf]; omega
    · obtain rfl : i = 1 := by omega
      have hpe : bs = pre := by rw [hbe, Nat.sub_self, leB, List.append_nil]
      subst hpe
      have Hown := Lib.hid hown
      have Hbel := Lib.hid hbel
      have HR1 := Lib.hid (HR.out.below hbel)
      have hln : bs.length + t.length ≤ 1099511627776 := by rw [Hl.out, Hbl.out]; omega
      have hsz := hbel.size
      clear hown hbel hbe hpl
      go_wp2_with (at_builtin; go_loud (refine wpList_appA rfl (.tmp 65) (.tmp 66) rfl w.heap.size _ bs rfl Hown.out _ t rfl HR1.out (.inr ⟨_, _, _, rfl⟩) hln hsz ?_); intro v' w' hown' hb' hg'; have HO2 := Lib.hid hown'; have HB2 := Lib.hid hb'; clear hown' hb' hg')
      go_ret
      exact ⟨_, _, rfl, HO2.out, Hs.out, Hbel.out.trans HB2.out⟩

set_option maxRecDepth 10000 in
set_option maxHeartbeats 3200000 in
theorem literal_1b (ad : Addr) (n1 c : Nat) (t : List UInt8) (w : World) (hR : Rd w (.slice (some ad) (n1 + 1) c) t) (hl : t.length = n1 + 1) (hlo : 60 ≤ n1) (hhi : n1 < 256) : Calls Tryd.prog 31 #[.slice (some ad) (n1 + 1) c, .int .i64 1] w (Spelled (SaysL t) w) := by
  have HR := Lib.hid hR
  have Hl := Lib.hid hl
  have hn1 : ((n1 + 1 : Nat) : Int) - 1 = (n1 : Int) := by omega
  have f60 : ((n1 : Int) < 60) = False := by simp; omega
  have f256 : (256 ≤ (n1 : Int)) = False := by simp; omega
  have f65536 : (65536 ≤ (n1 : Int)) = False := by simp; omega
  have f16777216 : (16777216 ≤ (n1 : Int)) = False := by simp; omega
  clear hR hl
  have hs := litk_says 1 t (by rw [Hl.out]; omega) (by omega) (by omega) (by rw [Hl.out]; omega)
  rw [Hl.out, show n1 + 1 - 1 = n1 from by omega] at hs
  obtain ⟨bs, hbs⟩ : ∃ bs, UInt8.ofNat ((59 + 1) * 4) :: leB 1 n1 = bs := ⟨_, rfl⟩
  rw [hbs] at hs
  have hbl : bs.length = 1 + 1 := by rw [← hbs, List.length_cons, leB_length]
  have Hs := Lib.hid hs
  have Hbs := Lib.hid hbs
  have Hbl := Lib.hid hbl
  clear hs hbs hbl
  go_enter Tryd.func31, Tryd.ntmps31
  go_wp2_with fail
  go_loopw [5, 6, 7] (LitInv w bs 1) (fun _ _ v7 _ => 1 - (intOf v7).toNat)
  case atStart =>
    exact ⟨0, n1, [UInt8.ofNat ((59 + 1) * 4)], rfl, rfl, by omega, by omega, by rw [← Hbs.out]; rfl, rfl, own_lit w [UInt8.ofNat ((59 + 1) * 4)] _ (one_cell (by decide)) (by simp), (Below.refl _ _).alloc (Nat.le_refl _) _⟩
  case round =>
    obtain ⟨i, fi, pre, rfl, rfl, hi, hfi, hbe, hpl, hown, hbel⟩ := hrel
    by_cases hik : i < 1
    · have hz : (fi : Int) % 256 = ((((UInt8.ofNat (fi % 256)).toNat) : Nat) : Int) := by rw [ofNat_cast _ (by omega)]; omega
      have hbl := (Below.refl wr.heap.size wr).alloc (Nat.le_refl _) (.cells #[.int .u8 ((fi : Int) % 256)] 5)
      have HO1 := Lib.hid (hown.below hbl)
      have Hnew := Lib.hid (bs_one wr ((fi : Int) % 256) (UInt8.ofNat (fi % 256)) hz)
      have HB1 := Lib.hid (hbel.trans (hbl.mono hbel.size))
      have Hbe := Lib.hid hbe
      have Hpl := Lib.hid hpl
      have hpl1 : pre.length + 1 ≤ 1099511627776 := by omega
      have hsz : w.heap.size ≤ (wr.alloc (.cells #[.int .u8 ((fi : Int) % 256)] 5)).heap.size := HB1.out.size
      clear hz hbl hbe hpl hown hbel
      go_wp2_with (at_builtin; go_loud (refine wpList_app rfl (.tmp 57) (.tmp 61) rfl w.heap.size _ pre rfl HO1.out wr.heap.size 0 1 1 [UInt8.ofNat (fi % 256)] rfl rfl Hnew.out hpl1 hsz ?_); intro v' w' hown' hb'; have HO := Lib.hid hown'; have HB' := Lib.hid hb'; clear hown' hb')
      go_roundw
      case rel =>
        refine ⟨i + 1, fi / 256, pre ++ [UInt8.ofNat (fi % 256)], int_ext (by omega), int_ext (by omega), by omega, by omega, ?_, by rw [List.length_append, Hpl.out]; rfl, HO.out, HB1.out.trans HB'.out⟩
        rw [Hbe.out, show 1 - i = (1 - (i + 1)) + 1 from by omega, leB]
        simp
      case measure => simp only [intOf]; omega
    · obtain rfl : i = 1 := by omega
      have hpe : bs = pre := by rw [hbe, Nat.sub_self, leB, List.append_nil]
      subst hpe
      have Hown := Lib.hid hown
      have Hbel := Lib.hid hbel
      have HR1 := Lib.hid (HR.out.below hbel)
      have hln : bs.length + t.length ≤ 1099511627776 := by rw [Hl.out, Hbl.out]; omega
      have hsz := hbel.size
      clear hown hbel hbe hpl
      go_wp2_with (at_builtin; go_loud (refine wpList_appA rfl (.tmp 65) (.tmp 66) rfl w.heap.size _ bs rfl Hown.out _ t rfl HR1.out (.inr ⟨_, _, _, rfl⟩) hln hsz ?_); intro v' w' hown' hb' hg'; have HO2 := Lib.hid hown'; have HB2 := Lib.hid hb'; clear hown' hb' hg')
      go_ret
      exact ⟨_, _, rfl, HO2.out, Hs.out, Hbel.out.trans HB2.out⟩

set_option maxRecDepth 10000 in
set_option maxHeartbeats 3200000 in
theorem literal_1c (ad : Addr) (n1 c : Nat) (t : List UInt8) (w : World) (hR : Rd w (.slice (some ad) (n1 + 1) c) t) (hl : t.length = n1 + 1) (hlo : 256 ≤ n1) (hhi : n1 < 65536) : Calls Tryd.prog 31 #[.slice (some ad) (n1 + 1) c, .int .i64 1] w (Spelled (SaysL t) w) := by
  have HR := Lib.hid hR
  have Hl := Lib.hid hl
  have hn1 : ((n1 + 1 : Nat) : Int) - 1 = (n1 : Int) := by omega
  have f60 : ((n1 : Int) < 60) = False := by simp; omega
  have f256 : (256 ≤ (n1 : Int)) = True := by simp; omega
  have f65536 : (65536 ≤ (n1 : Int)) = False := by simp; omega
  have f16777216 : (16777216 ≤ (n1 : Int)) = False := by simp; omega
  clear hR hl
  have hs := litk_says 2 t (by rw [Hl.out]; omega) (by omega) (by omega) (by rw [Hl.out]; omega)
  rw [Hl.out, show n1 + 1 - 1 = n1 from by omega] at hs
  obtain ⟨bs, hbs⟩ : ∃ bs, UInt8.ofNat ((59 + 2) * 4) :: leB 2 n1 = bs := ⟨_, rfl⟩
  rw [hbs] at hs
  have hbl : bs.length = 2 + 1 := by rw [← hbs, List.length_cons, leB_length]
  have Hs := Lib.hid hs
  have Hbs := Lib.hid hbs
  have Hbl := Lib.hid hbl
  clear hs hbs hbl
  go_enter Tryd.func31, Tryd.ntmps31
  go_wp2_with fail
  go_loopw [5, 6, 7] (LitInv w bs 2) (fun _ _ v7 _ => 2 - (intOf v7).toNat)
  case atStart =>
    exact ⟨0, n1, [UInt8.ofNat ((59 + 2) * 4)], rfl, rfl, by omega, by omega, by rw [← Hbs.out]; rfl, rfl, own_lit w [UInt8.ofNat ((59 + 2) * 4)] _ (one_cell (by decide)) (by simp), (Below.refl _ _).alloc (Nat.le_refl _) _⟩
  case round =>
    obtain ⟨i, fi, pre, rfl, rfl, hi, hfi, hbe, hpl, hown, hbel⟩ := hrel
    by_cases hik : i < 2
    · have hz : (fi : Int) % 256 = ((((UInt8.ofNat (fi % 256)).toNat) : Nat) : Int) := by rw [ofNat_cast _ (by omega)]; omega
      have hbl := (Below.refl wr.heap.size wr).alloc (Nat.le_refl _) (.cells #[.int .u8 ((fi : Int) % 256)] 5)
      have HO1 := Lib.hid (hown.below hbl)
      have Hnew := Lib.hid (bs_one wr ((fi : Int) % 256) (UInt8.ofNat (fi % 256)) hz)
      have HB1 := Lib.hid (hbel.trans (hbl.mono hbel.size))
      have Hbe := Lib.hid hbe
      have Hpl := Lib.hid hpl
      have hpl1 : pre.length + 1 ≤ 1099511627776 := by omega
      have hsz : w.heap.size ≤ (wr.alloc (.cells #[.int .u8 ((fi : Int) % 256)] 5)).heap.size := HB1.out.size
      clear hz hbl hbe hpl hown hbel
      go_wp2_with (at_builtin; go_loud (refine wpList_app rfl (.tmp 57) (.tmp 61) rfl w.heap.size _ pre rfl HO1.out wr.heap.size 0 1 1 [UInt8.ofNat (fi % 256)] rfl rfl Hnew.out hpl1 hsz ?_); intro v' w' hown' hb'; have HO := Lib.hid hown'; have HB' := Lib.hid hb'; clear hown' hb')
      go_roundw
      case rel =>
        refine ⟨i + 1, fi / 256, pre ++ [UInt8.ofNat (fi % 256)], int_ext (by omega), int_ext (by omega), by omega, by omega, ?_, by rw [List.length_append, Hpl.out]; rfl, HO.out, HB1.out.trans HB'.out⟩
        rw [Hbe.out, show 2 - i = (2 - (i + 1)) + 1 from by omega, leB]
        simp
      case measure => simp only [intOf]; omega
    · obtain rfl : i = 2 := by omega
      have hpe : bs = pre := by rw [hbe, Nat.sub_self, leB, List.append_nil]
      subst hpe
      have Hown := Lib.hid hown
      have Hbel := Lib.hid hbel
      have HR1 := Lib.hid (HR.out.below hbel)
      have hln : bs.length + t.length ≤ 1099511627776 := by rw [Hl.out, Hbl.out]; omega
      have hsz := hbel.size
      clear hown hbel hbe hpl
      go_wp2_with (at_builtin; go_loud (refine wpList_appA rfl (.tmp 65) (.tmp 66) rfl w.heap.size _ bs rfl Hown.out _ t rfl HR1.out (.inr ⟨_, _, _, rfl⟩) hln hsz ?_); intro v' w' hown' hb' hg'; have HO2 := Lib.hid hown'; have HB2 := Lib.hid hb'; clear hown' hb' hg')
      go_ret
      exact ⟨_, _, rfl, HO2.out, Hs.out, Hbel.out.trans HB2.out⟩

set_option maxRecDepth 10000 in
set_option maxHeartbeats 3200000 in
theorem literal_1d (ad : Addr) (n1 c : Nat) (t : List UInt8) (w : World) (hR : Rd w (.slice (some ad) (n1 + 1) c) t) (hl : t.length = n1 + 1) (hlo : 65536 ≤ n1) (hhi : n1 < 1000000) : Calls Tryd.prog 31 #[.slice (some ad) (n1 + 1) c, .int .i64 1] w (Spelled (SaysL t) w) := by
  have HR := Lib.hid hR
  have Hl := Lib.hid hl
  have hn1 : ((n1 + 1 : Nat) : Int) - 1 = (n1 : Int) := by omega
  have f60 : ((n1 : Int) < 60) = False := by simp; omega
  have f256 : (256 ≤ (n1 : Int)) = True := by simp; omega
  have f65536 : (65536 ≤ (n1 : Int)) = True := by simp; omega
  have f16777216 : (16777216 ≤ (n1 : Int)) = False := by simp; omega
  clear hR hl
  have hs := litk_says 3 t (by rw [Hl.out]; omega) (by omega) (by omega) (by rw [Hl.out]; omega)
  rw [Hl.out, show n1 + 1 - 1 = n1 from by omega] at hs
  obtain ⟨bs, hbs⟩ : ∃ bs, UInt8.ofNat ((59 + 3) * 4) :: leB 3 n1 = bs := ⟨_, rfl⟩
  rw [hbs] at hs
  have hbl : bs.length = 3 + 1 := by rw [← hbs, List.length_cons, leB_length]
  have Hs := Lib.hid hs
  have Hbs := Lib.hid hbs
  have Hbl := Lib.hid hbl
  clear hs hbs hbl
  go_enter Tryd.func31, Tryd.ntmps31
  go_wp2_with fail
  go_loopw [5, 6, 7] (LitInv w bs 3) (fun _ _ v7 _ => 3 - (intOf v7).toNat)
  case atStart =>
    exact ⟨0, n1, [UInt8.ofNat ((59 + 3) * 4)], rfl, rfl, by omega, by omega, by rw [← Hbs.out]; rfl, rfl, own_lit w [UInt8.ofNat ((59 + 3) * 4)] _ (one_cell (by decide)) (by simp), (Below.refl _ _).alloc (Nat.le_refl _) _⟩
  case round =>
    obtain ⟨i, fi, pre, rfl, rfl, hi, hfi, hbe, hpl, hown, hbel⟩ := hrel
    by_cases hik : i < 3
    · have hz : (fi : Int) % 256 = ((((UInt8.ofNat (fi % 256)).toNat) : Nat) : Int) := by rw [ofNat_cast _ (by omega)]; omega
      have hbl := (Below.refl wr.heap.size wr).alloc (Nat.le_refl _) (.cells #[.int .u8 ((fi : Int) % 256)] 5)
      have HO1 := Lib.hid (hown.below hbl)
      have Hnew := Lib.hid (bs_one wr ((fi : Int) % 256) (UInt8.ofNat (fi % 256)) hz)
      have HB1 := Lib.hid (hbel.trans (hbl.mono hbel.size))
      have Hbe := Lib.hid hbe
      have Hpl := Lib.hid hpl
      have hpl1 : pre.length + 1 ≤ 1099511627776 := by omega
      have hsz : w.heap.size ≤ (wr.alloc (.cells #[.int .u8 ((fi : Int) % 256)] 5)).heap.size := HB1.out.size
      clear hz hbl hbe hpl hown hbel
      go_wp2_with (at_builtin; go_loud (refine wpList_app rfl (.tmp 57) (.tmp 61) rfl w.heap.size _ pre rfl HO1.out wr.heap.size 0 1 1 [UInt8.ofNat (fi % 256)] rfl rfl Hnew.out hpl1 hsz ?_); intro v' w' hown' hb'; have HO := Lib.hid hown'; have HB' := Lib.hid hb'; clear hown' hb')
      go_roundw
      case rel =>
        refine ⟨i + 1, fi / 256, pre ++ [UInt8.ofNat (fi % 256)], int_ext (by omega), int_ext (by omega), by omega, by omega, ?_, by rw [List.length_append, Hpl.out]; rfl, HO.out, HB1.out.trans HB'.out⟩
        rw [Hbe.out, show 3 - i = (3 - (i + 1)) + 1 from by omega, leB]
        simp
      case measure => simp only [intOf]; omega
    · obtain rfl : i = 3 := by omega
      have hpe : bs = pre := by rw [hbe, Nat.sub_self, leB, List.append_nil]
      subst hpe
      have Hown := Lib.hid hown
      have Hbel := Lib.hid hbel
      have HR1 := Lib.hid (HR.out.below hbel)
      have hln : bs.length + t.length ≤ 1099511627776 := by rw [Hl.out, Hbl.out]; omega
      have hsz := hbel.size
      clear hown hbel hbe hpl
      go_wp2_with (at_builtin; go_loud (refine wpList_appA rfl (.tmp 65) (.tmp 66) rfl w.heap.size _ bs rfl Hown.out _ t rfl HR1.out (.inr ⟨_, _, _, rfl⟩) hln hsz ?_); intro v' w' hown' hb' hg'; have HO2 := Lib.hid hown'; have HB2 := Lib.hid hb'; clear hown' hb' hg')
      go_ret
      exact ⟨_, _, rfl, HO2.out, Hs.out, Hbel.out.trans HB2.out⟩

set_option maxRecDepth 10000 in
set_option maxHeartbeats 3200000 in
theorem literal_2a (ad : Addr) (n1 c : Nat) (t : List UInt8) (w : World) (hR : Rd w (.slice (some ad) (n1 + 1) c) t) (hl : t.length = n1 + 1) (hhi : n1 < 60) : Calls Tryd.prog 31 #[.slice (some ad) (n1 + 1) c, .int .i64 2] w (Spelled (SaysL t) w) := by
  have HR := Lib.hid hR
  have Hl := Lib.hid hl
  have hn1 : ((n1 + 1 : Nat) : Int) - 1 = (n1 : Int) := by omega
  have f60 : ((n1 : Int) < 60) = True := by simp; omega
  have f256 : (256 ≤ (n1 : Int)) = False := by simp; omega
  have f65536 : (65536 ≤ (n1 : Int)) = False := by simp; omega
  have f16777216 : (16777216 ≤ (n1 : Int)) = False := by simp; omega
  clear hR hl
  have hs := litk_says 2 t (by rw [Hl.out]; omega) (by omega) (by omega) (by rw [Hl.out]; omega)
  rw [Hl.out, show n1 + 1 - 1 = n1 from by omega] at hs
  obtain ⟨bs, hbs⟩ : ∃ bs, UInt8.ofNat ((59 + 2) * 4) :: leB 2 n1 = bs := ⟨_, rfl⟩
  rw [hbs] at hs
  have hbl : bs.length = 2 + 1 := by rw [← hbs, List.length_cons, leB_length]
  have Hs := Lib.hid hs
  have Hbs := Lib.hid hbs
  have Hbl := Lib.hid hbl
  clear hs hbs hbl
  go_enter Tryd.func31, Tryd.ntmps31
  go_wp2_with fail
  go_loopw [5, 6, 7] (LitInv w bs 2) (fun _ _ v7 _ => 2 - (intOf v7).toNat)
  case atStart =>
    exact ⟨0, n1, [UInt8.ofNat ((59 + 2) * 4)], rfl, rfl, by omega, by omega, by rw [← Hbs.out]; rfl, rfl, own_lit w [UInt8.ofNat ((59 + 2) * 4)] _ (one_cell (by decide)) (by simp), (Below.refl _ _).alloc (Nat.le_refl _) _⟩
  case round =>
    obtain ⟨i, fi, pre, rfl, rfl, hi, hfi, hbe, hpl, hown, hbel⟩ := hrel
    by_cases hik : i < 2
    · have hz : (fi : Int) % 256 = ((((UInt8.ofNat (fi % 256)).toNat) : Nat) : Int) := by rw [ofNat_cast _ (by omega)]; omega
      have hbl := (Below.refl wr.heap.size wr).alloc (Nat.le_refl _) (.cells #[.int .u8 ((fi : Int) % 256)] 5)
      have HO1 := Lib.hid (hown.below hbl)
      have Hnew := Lib.hid (bs_one wr ((fi : Int) % 256) (UInt8.ofNat (fi % 256)) hz)
      have HB1 := Lib.hid (hbel.trans (hbl.mono hbel.size))
      have Hbe := Lib.hid hbe
      have Hpl := Lib.hid hpl
      have hpl1 : pre.length + 1 ≤ 1099511627776 := by omega
      have hsz : w.heap.size ≤ (wr.alloc (.cells #[.int .u8 ((fi : Int) % 256)] 5)).heap.size := HB1.out.size
      clear hz hbl hbe hpl hown hbel
      go_wp2_with (at_builtin; go_loud (refine wpList_app rfl (.tmp 57) (.tmp 61) rfl w.heap.size _ pre rfl HO1.out wr.heap.size 0 1 1 [UInt8.ofNat (fi % 256)] rfl rfl Hnew.out hpl1 hsz ?_); intro v' w' hown' hb'; have HO := Lib.hid hown'; have HB' := Lib.hid hb'; clear hown' hb')
      go_roundw
      case rel =>
        refine ⟨i + 1, fi / 256, pre ++ [UInt8.ofNat (fi % 256)], int_ext (by omega), int_ext (by omega), by omega, by omega, ?_, by rw [List.length_append, Hpl.out]; rfl, HO.out, HB1.out.trans HB'.out⟩
        rw [Hbe.out, show 2 - i = (2 - (i + 1)) + 1 from by omega, leB]
        simp
      case measure => simp only [intOf]; omega
    · obtain rfl : i = 2 := by omega
      have hpe : bs = pre := by rw [hbe, Nat.sub_self, leB, List.append_nil]
      subst hpe
      have Hown := Lib.hid hown
      have Hbel := Lib.hid hbel
      have HR1 := Lib.hid (HR.out.below hbel)
      have hln : bs.length + t.length ≤ 1099511627776 := by rw [Hl.out, Hbl.out]; omega
      have hsz := hbel.size
      clear hown hbel hbe hpl
      go_wp2_with (at_builtin; go_loud (refine wpList_appA rfl (.tmp 65) (.tmp 66) rfl w.heap.size _ bs rfl Hown.out _ t rfl HR1.out (.inr ⟨_, _, _, rfl⟩) hln hsz ?_); intro v' w' hown' hb' hg'; have HO2 := Lib.hid hown'; have HB2 := Lib.hid hb'; clear hown' hb' hg')
      go_ret
      exact ⟨_, _, rfl, HO2.out, Hs.out, Hbel.out.trans HB2.out⟩

set_option maxRecDepth 10000 in
set_option maxHeartbeats 3200000 in
theorem literal_2b (ad : Addr) (n1 c : Nat) (t : List UInt8) (w : World) (hR : Rd w (.slice (some ad) (n1 + 1) c) t) (hl : t.length = n1 + 1) (hlo : 60 ≤ n1) (hhi : n1 < 256) : Calls Tryd.prog 31 #[.slice (some ad) (n1 + 1) c, .int .i64 2] w (Spelled (SaysL t) w) := by
  have HR := Lib.hid hR
  have Hl := Lib.hid hl
  have hn1 : ((n1 + 1 : Nat) : Int) - 1 = (n1 : Int) := by omega
  have f60 : ((n1 : Int) < 60) = False := by simp; omega
  have f256 : (256 ≤ (n1 : Int)) = False := by simp; omega
  have f65536 : (65536 ≤ (n1 : Int)) = False := by simp; omega
  have f16777216 : (16777216 ≤ (n1 : Int)) = False := by simp; omega
  clear hR hl
  have hs := litk_says 2 t (by rw [Hl.out]; omega) (by omega) (by omega) (by rw [Hl.out]; omega)
  rw [Hl.out, show n1 + 1 - 1 = n1 from by omega] at hs
  obtain ⟨bs, hbs⟩ : ∃ bs, UInt8.ofNat ((59 + 2) * 4) :: leB 2 n1 = bs := ⟨_, rfl⟩
  rw [hbs] at hs
  have hbl : bs.length = 2 + 1 := by rw [← hbs, List.length_cons, leB_length]
  have Hs := Lib.hid hs
  have Hbs := Lib.hid hbs
  have Hbl := Lib.hid hbl
  clear hs hbs hbl
  go_enter Tryd.func31, Tryd.ntmps31
  go_wp2_with fail
  go_loopw [5, 6, 7] (LitInv w bs 2) (fun _ _ v7 _ => 2 - (intOf v7).toNat)
  case atStart =>
    exact ⟨0, n1, [UInt8.ofNat ((59 + 2) * 4)], rfl, rfl, by omega, by omega, by rw [← Hbs.out]; rfl, rfl, own_lit w [UInt8.ofNat ((59 + 2) * 4)] _ (one_cell (by decide)) (by simp), (Below.refl _ _).alloc (Nat.le_refl _) _⟩
  case round =>
    obtain ⟨i, fi, pre, rfl, rfl, hi, hfi, hbe, hpl, hown, hbel⟩ := hrel
    by_cases hik : i < 2
    · have hz : (fi : Int) % 256 = ((((UInt8.ofNat (fi % 256)).toNat) : Nat) : Int) := by rw [ofNat_cast _ (by omega)]; omega
      have hbl := (Below.refl wr.heap.size wr).alloc (Nat.le_refl _) (.cells #[.int .u8 ((fi : Int) % 256)] 5)
      have HO1 := Lib.hid (hown.below hbl)
      have Hnew := Lib.hid (bs_one wr ((fi : Int) % 256) (UInt8.ofNat (fi % 256)) hz)
      have HB1 := Lib.hid (hbel.trans (hbl.mono hbel.size))
      have Hbe := Lib.hid hbe
      have Hpl := Lib.hid hpl
      have hpl1 : pre.length + 1 ≤ 1099511627776 := by omega
      have hsz : w.heap.size ≤ (wr.alloc (.cells #[.int .u8 ((fi : Int) % 256)] 5)).heap.size := HB1.out.size
      clear hz hbl hbe hpl hown hbel
      go_wp2_with (at_builtin; go_loud (refine wpList_app rfl (.tmp 57) (.tmp 61) rfl w.heap.size _ pre rfl HO1.out wr.heap.size 0 1 1 [UInt8.ofNat (fi % 256)] rfl rfl Hnew.out hpl1 hsz ?_); intro v' w' hown' hb'; have HO := Lib.hid hown'; have HB' := Lib.hid hb'; clear hown' hb')
      go_roundw
      case rel =>
        refine ⟨i + 1, fi / 256, pre ++ [UInt8.ofNat (fi % 256)], int_ext (by omega), int_ext (by omega), by omega, by omega, ?_, by rw [List.length_append, Hpl.out]; rfl, HO.out, HB1.out.trans HB'.out⟩
        rw [Hbe.out, show 2 - i = (2 - (i + 1)) + 1 from by omega, leB]
        simp
      case measure => simp only [intOf]; omega
    · obtain rfl : i = 2 := by omega
      have hpe : bs = pre := by rw [hbe, Nat.sub_self, leB, List.append_nil]
      subst hpe
      have Hown := Lib.hid hown
      have Hbel := Lib.hid hbel
      have HR1 := Lib.hid (HR.out.below hbel)
      have hln : bs.length + t.length ≤ 1099511627776 := by rw [Hl.out, Hbl.out]; omega
      have hsz := hbel.size
      clear hown hbel hbe hpl
      go_wp2_with (at_builtin; go_loud (refine wpList_appA rfl (.tmp 65) (.tmp 66) rfl w.heap.size _ bs rfl Hown.out _ t rfl HR1.out (.inr ⟨_, _, _, rfl⟩) hln hsz ?_); intro v' w' hown' hb' hg'; have HO2 := Lib.hid hown'; have HB2 := Lib.hid hb'; clear hown' hb' hg')
      go_ret
      exact ⟨_, _, rfl, HO2.out, Hs.out, Hbel.out.trans HB2.out⟩

set_option maxRecDepth 10000 in
set_option maxHeartbeats 3200000 in
theorem literal_2c (ad : Addr) (n1 c : Nat) (t : List UInt8) (w : World) (hR : Rd w (.slice (some ad) (n1 + 1) c) t) (hl : t.length = n1 + 1) (hlo : 256 ≤ n1) (hhi : n1 < 65536) : Calls Tryd.prog 31 #[.slice (some ad) (n1 + 1) c, .int .i64 2] w (Spelled (SaysL t) w) := by
  have HR := Lib.hid hR
  have Hl := Lib.hid hl
  have hn1 : ((n1 + 1 : Nat) : Int) - 1 = (n1 : Int) := by omega
  have f60 : ((n1 : Int) < 60) = False := by simp; omega
  have f256 : (256 ≤ (n1 : Int)) = True := by simp; omega
  have f65536 : (65536 ≤ (n1 : Int)) = False := by simp; omega
  have f16777216 : (16777216 ≤ (n1 : Int)) = False := by simp; omega
  clear hR hl
  have hs := litk_says 2 t (by rw [Hl.out]; omega) (by omega) (by omega) (by rw [Hl.out]; omega)
  rw [Hl.out, show n1 + 1 - 1 = n1 from by omega] at hs
  obtain ⟨bs, hbs⟩ : ∃ bs, UInt8.ofNat ((59 + 2) * 4) :: leB 2 n1 = bs := ⟨_, rfl⟩
  rw [hbs] at hs
  have hbl : bs.length = 2 + 1 := by rw [← hbs, List.length_cons, leB_length]
  have Hs := Lib.hid hs
  have Hbs := Lib.hid hbs
  have Hbl := Lib.hid hbl
  clear hs hbs hbl
  go_enter Tryd.func31, Tryd.ntmps31
  go_wp2_with fail
  go_loopw [5, 6, 7] (LitInv w bs 2) (fun _ _ v7 _ => 2 - (intOf v7).toNat)
  case atStart =>
    exact ⟨0, n1, [UInt8.ofNat ((59 + 2) * 4)], rfl, rfl, by omega, by omega, by rw [← Hbs.out]; rfl, rfl, own_lit w [UInt8.ofNat ((59 + 2) * 4)] _ (one_cell (by decide)) (by simp), (Below.refl _ _).alloc (Nat.le_refl _) _⟩
  case round =>
    obtain ⟨i, fi, pre, rfl, rfl, hi, hfi, hbe, hpl, hown, hbel⟩ := hrel
    by_cases hik : i < 2
    · have hz : (fi : Int) % 256 = ((((UInt8.ofNat (fi % 256)).toNat) : Nat) : Int) := by rw [ofNat_cast _ (by omega)]; omega
      have hbl := (Below.refl wr.heap.size wr).alloc (Nat.le_refl _) (.cells #[.int .u8 ((fi : Int) % 256)] 5)
      have HO1 := Lib.hid (hown.below hbl)
      have Hnew := Lib.hid (bs_one wr ((fi : Int) % 256) (UInt8.ofNat (fi % 256)) hz)
      have HB1 := Lib.hid (hbel.trans (hbl.mono hbel.size))
      have Hbe := Lib.hid hbe
      have Hpl := Lib.hid hpl
      have hpl1 : pre.length + 1 ≤ 1099511627776 := by omega
      have hsz : w.heap.size ≤ (wr.alloc (.cells #[.int .u8 ((fi : Int) % 256)] 5)).heap.size := HB1.out.size
      clear hz hbl hbe hpl hown hbel
      go_wp2_with (at_builtin; go_loud (refine wpList_app rfl (.tmp 57) (.tmp 61) rfl w.heap.size _ pre rfl HO1.out wr.heap.size 0 1 1 [UInt8.ofNat (fi % 256)] rfl rfl Hnew.out hpl1 hsz ?_); intro v' w' hown' hb'; have HO := Lib.hid hown'; have HB' := Lib.hid hb'; clear hown' hb')
      go_roundw
      case rel =>
        refine ⟨i + 1, fi / 256, pre ++ [UInt8.ofNat (fi % 256)], int_ext (by omega), int_ext (by omega), by omega, by omega, ?_, by rw [List.length_append, Hpl.out]; rfl, HO.out, HB1.out.trans HB'.out⟩
        rw [Hbe.out, show 2 - i = (2 - (i + 1)) + 1 from by omega, leB]
        simp
      case measure => simp only [intOf]; omega
    · obtain rfl : i = 2 := by omega
      have hpe : bs = pre := by rw [hbe, Nat.sub_self, leB, List.append_nil]
      subst hpe
      have Hown := Lib.hid hown
      have Hbel := Lib.hid hbel
      have HR1 := Lib.hid (HR.out.below hbel)
      have hln : bs.length + t.length ≤ 1099511627776 := by rw [Hl.out, Hbl.out]; omega
      have hsz := hbel.size
      clear hown hbel hbe hpl
      go_wp2_with (at_builtin; go_loud (refine wpList_appA rfl (.tmp 65) (.tmp 66) rfl w.heap.size _ bs rfl Hown.out _ t rfl HR1.out (.inr ⟨_, _, _, rfl⟩) hln hsz ?_); intro v' w' hown' hb' hg'; have HO2 := Lib.hid hown'; have HB2 := Lib.hid hb'; clear hown' hb' hg')
      go_ret
      exact ⟨_, _, rfl, HO2.out, Hs.out, Hbel.out.trans HB2.out⟩

set_option maxRecDepth 10000 in
set_option maxHeartbeats 3200000 in
theorem literal_2d (ad : Addr) (n1 c : Nat) (t : List UInt8) (w : World) (hR : Rd w (.slice (some ad) (n1 + 1) c) t) (hl : t.length = n1 + 1) (hlo : 65536 ≤ n1) (hhi : n1 < 1000000) : Calls Tryd.prog 31 #[.slice (some ad) (n1 + 1) c, .int .i64 2] w (Spelled (SaysL t) w) := by
  have HR := Lib.hid hR
  have Hl := Lib.hid hl
  have hn1 : ((n1 + 1 : Nat) : Int) - 1 = (n1 : Int) := by omega
  have f60 : ((n1 : Int) < 60) = False := by simp; omega
  have f256 : (256 ≤ (n1 : Int)) = True := by simp; omega
  have f65536 : (65536 ≤ (n1 : Int)) = True := by simp; omega
  have f16777216 : (16777216 ≤ (n1 : Int)) = False := by simp; omega
  clear hR hl
  have hs := litk_says 3 t (by rw [Hl.out]; omega) (by omega) (by omega) (by rw [Hl.out]; omega)
  rw [Hl.out, show n1 + 1 - 1 = n1 from by omega] at hs
  obtain ⟨bs, hbs⟩ : ∃ bs, UInt8.ofNat ((59 + 3) * 4) :: leB 3 n1 = bs := ⟨_, rfl⟩
  rw [hbs] at hs
  have hbl : bs.length = 3 + 1 := by rw [← hbs, List.length_cons, leB_length]
  have Hs := Lib.hid hs
  have Hbs := Lib.hid hbs
  have Hbl := Lib.hid hbl
  clear hs hbs hbl
  go_enter Tryd.func31, Tryd.ntmps31
  go_wp2_with fail
  go_loopw [5, 6, 7] (LitInv w bs 3) (fun _ _ v7 _ => 3 - (intOf v7).toNat)
  case atStart =>
    exact ⟨0, n1, [UInt8.ofNat ((59 + 3) * 4)], rfl, rfl, by omega, by omega, by rw [← Hbs.out]; rfl, rfl, own_lit w [UInt8.ofNat ((59 + 3) * 4)] _ (one_cell (by decide)) (by simp), (Below.refl _ _).alloc (Nat.le_refl _) _⟩
  case round =>
    obtain ⟨i, fi, pre, rfl, rfl, hi, hfi, hbe, hpl, hown, hbel⟩ := hrel
    by_cases hik : i < 3
    · have hz : (fi : Int) % 256 = ((((UInt8.ofNat (fi % 256)).toNat) : Nat) : Int) := by rw [ofNat_cast _ (by omega)]; omega
      have hbl := (Below.refl wr.heap.size wr).alloc (Nat.le_refl _) (.cells #[.int .u8 ((fi : Int) % 256)] 5)
      have HO1 := Lib.hid (hown.below hbl)
      have Hnew := Lib.hid (bs_one wr ((fi : Int) % 256) (UInt8.ofNat (fi % 256)) hz)
      have HB1 := Lib.hid (hbel.trans (hbl.mono hbel.size))
      have Hbe := Lib.hid hbe
      have Hpl := Lib.hid hpl
      have hpl1 : pre.length + 1 ≤ 1099511627776 := by omega
      have hsz : w.heap.size ≤ (wr.alloc (.cells #[.int .u8 ((fi : Int) % 256)] 5)).heap.size := HB1.out.size
      clear hz hbl hbe hpl hown hbel
      go_wp2_with (at_builtin; go_loud (refine wpList_app rfl (.tmp 57) (.tmp 61) rfl w.heap.size _ pre rfl HO1.out wr.heap.size 0 1 1 [UInt8.ofNat (fi % 256)] rfl rfl Hnew.out hpl1 hsz ?_); intro v' w' hown' hb'; have HO := Lib.hid hown'; have HB' := Lib.hid hb'; clear hown' hb')
      go_roundw
      case rel =>
        refine ⟨i + 1, fi / 256, pre ++ [UInt8.ofNat (fi % 256)], int_ext (by omega), int_ext (by omega), by omega, by omega, ?_, by rw [List.length_append, Hpl.out]; rfl, HO.out, HB1.out.trans HB'.out⟩
        rw [Hbe.out, show 3 - i = (3 - (i + 1)) + 1 from by omega, leB]
        simp
      case measure => simp only [intOf]; omega
    · obtain rfl : i = 3 := by omega
      have hpe : bs = pre := by rw [hbe, Nat.sub_self, leB, List.append_nil]
      subst hpe
      have Hown := Lib.hid hown
      have Hbel := Lib.hid hbel
      have HR1 := Lib.hid (HR.out.below hbel)
      have hln : bs.length + t.length ≤ 1099511627776 := by rw [Hl.out, Hbl.out]; omega
      have hsz := hbel.size
      clear hown hbel hbe hpl
      go_wp2_with (at_builtin; go_loud (refine wpList_appA rfl (.tmp 65) (.tmp 66) rfl w.heap.size _ bs rfl Hown.out _ t rfl HR1.out (.inr ⟨_, _, _, rfl⟩) hln hsz ?_); intro v' w' hown' hb' hg'; have HO2 := Lib.hid hown'; have HB2 := Lib.hid hb'; clear hown' hb' hg')
      go_ret
      exact ⟨_, _, rfl, HO2.out, Hs.out, Hbel.out.trans HB2.out⟩

set_option maxRecDepth 10000 in
set_option maxHeartbeats 3200000 in
theorem literal_3a (ad : Addr) (n1 c : Nat) (t : List UInt8) (w : World) (hR : Rd w (.slice (some ad) (n1 + 1) c) t) (hl : t.length = n1 + 1) (hhi : n1 < 60) : Calls Tryd.prog 31 #[.slice (some ad) (n1 + 1) c, .int .i64 3] w (Spelled (SaysL t) w) := by
  have HR := Lib.hid hR
  have Hl := Lib.hid hl
  have hn1 : ((n1 + 1 : Nat) : Int) - 1 = (n1 : Int) := by omega
  have f60 : ((n1 : Int) < 60) = True := by simp; omega
  have f256 : (256 ≤ (n1 : Int)) = False := by simp; omega
  have f65536 : (65536 ≤ (n1 : Int)) = False := by simp; omega
  have f16777216 : (16777216 ≤ (n1 : Int)) = False := by simp; omega
  clear hR hl
  have hs := litk_says 3 t (by rw [Hl.out]; omega) (by omega) (by omega) (by rw [Hl.out]; omega)
  rw [Hl.out, show n1 + 1 - 1 = n1 from by omega] at hs
  obtain ⟨bs, hbs⟩ : ∃ bs, UInt8.ofNat ((59 + 3) * 4) :: leB 3 n1 = bs := ⟨_, rfl⟩
  rw [hbs] at hs
  have hbl : bs.length = 3 + 1 := by rw [← hbs, List.length_cons, leB_length]
  have Hs := Lib.hid hs
  have Hbs := Lib.hid hbs
  have Hbl := Lib.hid hbl
  clear hs hbs hbl
  go_enter Tryd.func31, Tryd.ntmps31
  go_wp2_with fail
  go_loopw [5, 6, 7] (LitInv w bs 3) (fun _ _ v7 _ => 3 - (intOf v7).toNat)
  case atStart =>
    exact ⟨0, n1, [UInt8.ofNat ((59 + 3) * 4)], rfl, rfl, by omega, by omega, by rw [← Hbs.out]; rfl, rfl, own_lit w [UInt8.ofNat ((59 + 3) * 4)] _ (one_cell (by decide)) (by simp), (Below.refl _ _).alloc (Nat.le_refl _) _⟩
  case round =>
    obtain ⟨i, fi, pre, rfl, rfl, hi, hfi, hbe, hpl, hown, hbel⟩ := hrel
    by_cases hik : i < 3
    · have hz : (fi : Int) % 256 = ((((UInt8.ofNat (fi % 256)).toNat) : Nat) : Int) := by rw [ofNat_cast _ (by omega)]; omega
      have hbl := (Below.refl wr.heap.size wr).alloc (Nat.le_refl _) (.cells #[.int .u8 ((fi : Int) % 256)] 5)
      have HO1 := Lib.hid (hown.below hbl)
      have Hnew := Lib.hid (bs_one wr ((fi : Int) % 256) (UInt8.ofNat (fi % 256)) hz)
      have HB1 := Lib.hid (hbel.trans (hbl.mono hbel.size))
      have Hbe := Lib.hid hbe
      have Hpl := Lib.hid hpl
      have hpl1 : pre.length + 1 ≤ 1099511627776 := by omega
      have hsz : w.heap.size ≤ (wr.alloc (.cells #[.int .u8 ((fi : Int) % 256)] 5)).heap.size := HB1.out.size
      clear hz hbl hbe hpl hown hbel
      go_wp2_with (at_builtin; go_loud (refine wpList_app rfl (.tmp 57) (.tmp 61) rfl w.heap.size _ pre rfl HO1.out wr.heap.size 0 1 1 [UInt8.ofNat (fi % 256)] rfl rfl Hnew.out hpl1 hsz ?_); intro v' w' hown' hb'; have HO := Lib.hid hown'; have HB' := Lib.hid hb'; clear hown' hb')
      go_roundw
      case rel =>
        refine ⟨i + 1, fi / 256, pre ++ [UInt8.ofNat (fi % 256)], int_ext (by omega), int_ext (by omega), by omega, by omega, ?_, by rw [List.length_append, Hpl.out]; rfl, HO.out, HB1.out.trans HB'.out⟩
        rw [Hbe.out, show 3 - i = (3 - (i + 1)) + 1 from by omega, leB]
        simp
      case measure => simp only [intOf]; omega
    · obtain rfl : i = 3 := by omega
      have hpe : bs = pre := by rw [hbe, Nat.sub_self, leB, List.append_nil]
      subst hpe
      have Hown := Lib.hid hown
      have Hbel := Lib.hid hbel
      have HR1 := Lib.hid (HR.out.below hbel)
      have hln : bs.length + t.length ≤ 1099511627776 := by rw [Hl.out, Hbl.out]; omega
      have hsz := hbel.size
      clear hown hbel hbe hpl
      go_wp2_with (at_builtin; go_loud (refine wpList_appA rfl (.tmp 65) (.tmp 66) rfl w.heap.size _ bs rfl Hown.out _ t rfl HR1.out (.inr ⟨_, _, _, rfl⟩) hln hsz ?_); intro v' w' hown' hb' hg'; have HO2 := Lib.hid hown'; have HB2 := Lib.hid hb'; clear hown' hb' hg')
      go_ret
      exact ⟨_, _, rfl, HO2.out, Hs.out, Hbel.out.trans HB2.out⟩

set_option maxRecDepth 10000 in
set_option maxHeartbeats 3200000 in
theorem literal_3b (ad : Addr) (n1 c : Nat) (t : List UInt8) (w : World) (hR : Rd w (.slice (some ad) (n1 + 1) c) t) (hl : t.length = n1 + 1) (hlo : 60 ≤ n1) (hhi : n1 < 256) : Calls Tryd.prog 31 #[.slice (some ad) (n1 + 1) c, .int .i64 3] w (Spelled (SaysL t) w) := by
  have HR := Lib.hid hR
  have Hl := Lib.hid hl
  have hn1 : ((n1 + 1 : Nat) : Int) - 1 = (n1 : Int) := by omega
  have f60 : ((n1 : Int) < 60) = False := by simp; omega
  have f256 : (256 ≤ (n1 : Int)) = False := by simp; omega
  have f65536 : (65536 ≤ (n1 : Int)) = False := by simp; omega
  have f16777216 : (16777216 ≤ (n1 : Int)) = False := by simp; omega
  clear hR hl
  have hs := litk_says 3 t (by rw [Hl.out]; omega) (by omega) (by omega) (by rw [Hl.out]; omega)
  rw [Hl.out, show n1 + 1 - 1 = n1 from by omega] at hs
  obtain ⟨bs, hbs⟩ : ∃ bs, UInt8.ofNat ((59 + 3) * 4) :: leB 3 n1 = bs := ⟨_, rfl⟩
  rw [hbs] at hs
  have hbl : bs.length = 3 + 1 := by rw [← hbs, List.length_cons, leB_length]
  have Hs := Lib.hid hs
  have Hbs := Lib.hid hbs
  have Hbl := Lib.hid hbl
  clear hs hbs hbl
  go_enter Tryd.func31, Tryd.ntmps31
  go_wp2_with fail
  go_loopw [5, 6, 7] (LitInv w bs 3) (fun _ _ v7 _ => 3 - (intOf v7).toNat)
  case atStart =>
    exact ⟨0, n1, [UInt8.ofNat ((59 + 3) * 4)], rfl, rfl, by omega, by omega, by rw [← Hbs.out]; rfl, rfl, own_lit w [UInt8.ofNat ((59 + 3) * 4)] _ (one_cell (by decide)) (by simp), (Below.refl _ _).alloc (Nat.le_refl _) _⟩
  case round =>
    obtain ⟨i, fi, pre, rfl, rfl, hi, hfi, hbe, hpl, hown, hbel⟩ := hrel
    by_cases hik : i < 3
    · have hz : (fi : Int) % 256 = ((((UInt8.ofNat (fi % 256)).toNat) : Nat) : Int) := by rw [ofNat_cast _ (by omega)]; omega
      have hbl := (Below.refl wr.heap.size wr).alloc (Nat.le_refl _) (.cells #[.int .u8 ((fi : Int) % 256)] 5)
      have HO1 := Lib.hid (hown.below hbl)
      have Hnew := Lib.hid (bs_one wr ((fi : Int) % 256) (UInt8.ofNat (fi % 256)) hz)
      have HB1 := Lib.hid (hbel.trans (hbl.mono hbel.size))
      have Hbe := Lib.hid hbe
      have Hpl := Lib.hid hpl
      have hpl1 : pre.length + 1 ≤ 1099511627776 := by omega
      have hsz : w.heap.size ≤ (wr.alloc (.cells #[.int .u8 ((fi : Int) % 256)] 5)).heap.size := HB1.out.size
      clear hz hbl hbe hpl hown hbel
      go_wp2_with (at_builtin; go_loud (refine wpList_app rfl (.tmp 57) (.tmp 61) rfl w.heap.size _ pre rfl HO1.out wr.heap.size 0 1 1 [UInt8.ofNat (fi % 256)] rfl rfl Hnew.out hpl1 hsz ?_); intro v' w' hown' hb'; have HO := Lib.hid hown'; have HB' := Lib.hid hb'; clear hown' hb')
      go_roundw
      case rel =>
        refine ⟨i + 1, fi / 256, pre ++ [UInt8.ofNat (fi % 256)], int_ext (by omega), int_ext (by omega), by omega, by omega, ?_, by rw [List.length_append, Hpl.out]; rfl, HO.out, HB1.out.trans HB'.out⟩
        rw [Hbe.out, show 3 - i = (3 - (i + 1)) + 1 from by omega, leB]
        simp
      case measure => simp only [intOf]; omega
    · obtain rfl : i = 3 := by omega
      have hpe : bs = pre := by rw [hbe, Nat.sub_self, leB, List.append_nil]
      subst hpe
      have Hown := Lib.hid hown
      have Hbel := Lib.hid hbel
      have HR1 := Lib.hid (HR.out.below hbel)
      have hln : bs.length + t.length ≤ 1099511627776 := by rw [Hl.out, Hbl.out]; omega
      have hsz := hbel.size
      clear hown hbel hbe hpl
      go_wp2_with (at_builtin; go_loud (refine wpList_appA rfl (.tmp 65) (.tmp 66) rfl w.heap.size _ bs rfl Hown.out _ t rfl HR1.out (.inr ⟨_, _, _, rfl⟩) hln hsz ?_); intro v' w' hown' hb' hg'; have HO2 := Lib.hid hown'; have HB2 := Lib.hid hb'; clear hown' hb' hg')
      go_ret
      exact ⟨_, _, rfl, HO2.out, Hs.out, Hbel.out.trans HB2.out⟩

set_option maxRecDepth 10000 in
set_option maxHeartbeats 3200000 in
theorem literal_3c (ad : Addr) (n1 c : Nat) (t : List UInt8) (w : World) (hR : Rd w (.slice (some ad) (n1 + 1) c) t) (hl : t.length = n1 + 1) (hlo : 256 ≤ n1) (hhi : n1 < 65536) : Calls Tryd.prog 31 #[.slice (some ad) (n1 + 1) c, .int .i64 3] w (Spelled (SaysL t) w) := by
  have HR := Lib.hid hR
  have Hl := Lib.hid hl
  have hn1 : ((n1 + 1 : Nat) : Int) - 1 = (n1 : Int) := by omega
  have f60 : ((n1 : Int) < 60) = False := by simp; omega
  have f256 : (256 ≤ (n1 : Int)) = True := by simp; omega
  have f65536 : (65536 ≤ (n1 : Int)) = False := by simp; omega
  have f16777216 : (16777216 ≤ (n1 : Int)) = False := by simp; omega
  clear hR hl
  have hs := litk_says 3 t (by rw [Hl.out]; omega) (by omega) (by omega) (by rw [Hl.out]; omega)
  rw [Hl.out, show n1 + 1 - 1 = n1 from by omega] at hs
  obtain ⟨bs, hbs⟩ : ∃ bs, UInt8.ofNat ((59 + 3) * 4) :: leB 3 n1 = bs := ⟨_, rfl⟩
  rw [hbs] at hs
  have hbl : bs.length = 3 + 1 := by rw [← hbs, List.length_cons, leB_length]
  have Hs := Lib.hid hs
  have Hbs := Lib.hid hbs
  have Hbl := Lib.hid hbl
  clear hs hbs hbl
  go_enter Tryd.func31, Tryd.ntmps31
  go_wp2_with fail
  go_loopw [5, 6, 7] (LitInv w bs 3) (fun _ _ v7 _ => 3 - (intOf v7).toNat)
  case atStart =>
    exact ⟨0, n1, [UInt8.ofNat ((59 + 3) * 4)], rfl, rfl, by omega, by omega, by rw [← Hbs.out]; rfl, rfl, own_lit w [UInt8.ofNat ((59 + 3) * 4)] _ (one_cell (by decide)) (by simp), (Below.refl _ _).alloc (Nat.le_refl _) _⟩
  case round =>
    obtain ⟨i, fi, pre, rfl, rfl, hi, hfi, hbe, hpl, hown, hbel⟩ := hrel
    by_cases hik : i < 3
    · have hz : (fi : Int) % 256 = ((((UInt8.ofNat (fi % 256)).toNat) : Nat) : Int) := by rw [ofNat_cast _ (by omega)]; omega
      have hbl := (Below.refl wr.heap.size wr).alloc (Nat.le_refl _) (.cells #[.int .u8 ((fi : Int) % 256)] 5)
      have HO1 := Lib.hid (hown.below hbl)
      have Hnew := Lib.hid (bs_one wr ((fi : Int) % 256) (UInt8.ofNat (fi % 256)) hz)
      have HB1 := Lib.hid (hbel.trans (hbl.mono hbel.size))
      have Hbe := Lib.hid hbe
      have Hpl := Lib.hid hpl
      have hpl1 : pre.length + 1 ≤ 1099511627776 := by omega
      have hsz : w.heap.size ≤ (wr.alloc (.cells #[.int .u8 ((fi : Int) % 256)] 5)).heap.size := HB1.out.size
      clear hz hbl hbe hpl hown hbel
      go_wp2_with (at_builtin; go_loud (refine wpList_app rfl (.tmp 57) (.tmp 61) rfl w.heap.size _ pre rfl HO1.out wr.heap.size 0 1 1 [UInt8.ofNat (fi % 256)] rfl rfl Hnew.out hpl1 hsz ?_); intro v' w' hown' hb'; have HO := Lib.hid hown'; have HB' := Lib.hid hb'; clear hown' hb')
      go_roundw
      case rel =>
        refine ⟨i + 1, fi / 256, pre ++ [UInt8.ofNat (fi % 256)], int_ext (by omega), int_ext (by omega), by omega, by omega, ?_, by rw [List.length_append, Hpl.out]; rfl, HO.out, HB1.out.trans HB'.out⟩
        rw [Hbe.out, show 3 - i = (3 - (i + 1)) + 1 from by omega, leB]
        simp
      case measure => simp only [intOf]; omega
    · obtain rfl : i = 3 := by omega
      have hpe : bs = pre := by rw [hbe, Nat.sub_self, leB, List.append_nil]
      subst hpe
      have Hown := Lib.hid hown
      have Hbel := Lib.hid hbel
      have HR1 := Lib.hid (HR.out.below hbel)
      have hln : bs.length + t.length ≤ 1099511627776 := by rw [Hl.out, Hbl.out]; omega
      have hsz := hbel.size
      clear hown hbel hbe hpl
      go_wp2_with (at_builtin; go_loud (refine wpList_appA rfl (.tmp 65) (.tmp 66) rfl w.heap.size _ bs rfl Hown.out _ t rfl HR1.out (.inr ⟨_, _, _, rfl⟩) hln hsz ?_); intro v' w' hown' hb' hg'; have HO2 := Lib.hid hown'; have HB2 := Lib.hid hb'; clear hown' hb' hg')
      go_ret
      exact ⟨_, _, rfl, HO2.out, Hs.out, Hbel.out.trans HB2.out⟩

set_option maxRecDepth 10000 in
set_option maxHeartbeats 3200000 in
theorem literal_3d (ad : Addr) (n1 c : Nat) (t : List UInt8) (w : World) (hR : Rd w (.slice (some ad) (n1 + 1) c) t) (hl : t.length = n1 + 1) (hlo : 65536 ≤ n1) (hhi : n1 < 1000000) : Calls Tryd.prog 31 #[.slice (some ad) (n1 + 1) c, .int .i64 3] w (Spelled (SaysL t) w) := by
  have HR := Lib.hid hR
  have Hl := Lib.hid hl
  have hn1 : ((n1 + 1 : Nat) : Int) - 1 = (n1 : Int) := by omega
  have f60 : ((n1 : Int) < 60) = False := by simp; omega
  have f256 : (256 ≤ (n1 : Int)) = True := by simp; omega
  have f65536 : (65536 ≤ (n1 : Int)) = True := by simp; omega
  have f16777216 : (16777216 ≤ (n1 : Int)) = False := by simp; omega
  clear hR hl
  have hs := litk_says 3 t (by rw [Hl.out]; omega) (by omega) (by omega) (by rw [Hl.out]; omega)
  rw [Hl.out, show n1 + 1 - 1 = n1 from by omega] at hs
  obtain ⟨bs, hbs⟩ : ∃ bs, UInt8.ofNat ((59 + 3) * 4) :: leB 3 n1 = bs := ⟨_, rfl⟩
  rw [hbs] at hs
  have hbl : bs.length = 3 + 1 := by rw [← hbs, List.length_cons, leB_length]
  have Hs := Lib.hid hs
  have Hbs := Lib.hid hbs
  have Hbl := Lib.hid hbl
  clear hs hbs hbl
  go_enter Tryd.func31, Tryd.ntmps31
  go_wp2_with fail
  go_loopw [5, 6, 7] (LitInv w bs 3) (fun _ _ v7 _ => 3 - (intOf v7).toNat)
  case atStart =>
    exact ⟨0, n1, [UInt8.ofNat ((59 + 3) * 4)], rfl, rfl, by omega, by omega, by rw [← Hbs.out]; rfl, rfl, own_lit w [UInt8.ofNat ((59 + 3) * 4)] _ (one_cell (by decide)) (by simp), (Below.refl _ _).alloc (Nat.le_refl _) _⟩
  case round =>
    obtain ⟨i, fi, pre, rfl, rfl, hi, hfi, hbe, hpl, hown, hbel⟩ := hrel
    by_cases hik : i < 3
    · have hz : (fi : Int) % 256 = ((((UInt8.ofNat (fi % 256)).toNat) : Nat) : Int) := by rw [ofNat_cast _ (by omega)]; omega
      have hbl := (Below.refl wr.heap.size wr).alloc (Nat.le_refl _) (.cells #[.int .u8 ((fi : Int) % 256)] 5)
      have HO1 := Lib.hid (hown.below hbl)
      have Hnew := Lib.hid (bs_one wr ((fi : Int) % 256) (UInt8.ofNat (fi % 256)) hz)
      have HB1 := Lib.hid (hbel.trans (hbl.mono hbel.size))
      have Hbe := Lib.hid hbe
      have Hpl := Lib.hid hpl
      have hpl1 : pre.length + 1 ≤ 1099511627776 := by omega
      have hsz : w.heap.size ≤ (wr.alloc (.cells #[.int .u8 ((fi : Int) % 256)] 5)).heap.size := HB1.out.size
      clear hz hbl hbe hpl hown hbel
      go_wp2_with (at_builtin; go_loud (refine wpList_app rfl (.tmp 57) (.tmp 61) rfl w.heap.size _ pre rfl HO1.out wr.heap.size 0 1 1 [UInt8.ofNat (fi % 256)] rfl rfl Hnew.out hpl1 hsz ?_); intro v' w' hown' hb'; have HO := Lib.hid hown'; have HB' := Lib.hid hb'; clear hown' hb')
      go_roundw
      case rel =>
        refine ⟨i + 1, fi / 256, pre ++ [UInt8.ofNat (fi % 256)], int_ext (by omega), int_ext (by omega), by omega, by omega, ?_, by rw [List.length_append, Hpl.out]; rfl, HO.out, HB1.out.trans HB'.out⟩
        rw [Hbe.out, show 3 - i = (3 - (i + 1)) + 1 from by omega, leB]
        simp
      case measure => simp only [intOf]; omega
    · obtain rfl : i = 3 := by omega
      have hpe : bs = pre := by rw [hbe, Nat.sub_self, leB, List.append_nil]
      subst hpe
      have Hown := Lib.hid hown
      have Hbel := Lib.hid hbel
      have HR1 := Lib.hid (HR.out.below hbel)
      have hln : bs.length + t.length ≤ 1099511627776 := by rw [Hl.out, Hbl.out]; omega
      have hsz := hbel.size
      clear hown hbel hbe hpl
      go_wp2_with (at_builtin; go_loud (refine wpList_appA rfl (.tmp 65) (.tmp 66) rfl w.heap.size _ bs rfl Hown.out _ t rfl HR1.out (.inr ⟨_, _, _, rfl⟩) hln hsz ?_); intro v' w' hown' hb' hg'; have HO2 := Lib.hid hown'; have HB2 := Lib.hid hb'; clear hown' hb' hg')
      go_ret
      exact ⟨_, _, rfl, HO2.out, Hs.out, Hbel.out.trans HB2.out⟩

set_option maxRecDepth 10000 in
set_option maxHeartbeats 3200000 in
theorem literal_4a (ad : Addr) (n1 c : Nat) (t : List UInt8) (w : World) (hR : Rd w (.slice (some ad) (n1 + 1) c) t) (hl : t.length = n1 + 1) (hhi : n1 < 60) : Calls Tryd.prog 31 #[.slice (some ad) (n1 + 1) c, .int .i64 4] w (Spelled (SaysL t) w) := by
  have HR := Lib.hid hR
  have Hl := Lib.hid hl
  have hn1 : ((n1 + 1 : Nat) : Int) - 1 = (n1 : Int) := by omega
  have f60 : ((n1 : Int) < 60) = True := by simp; omega
  have f256 : (256 ≤ (n1 : Int)) = False := by simp; omega
  have f65536 : (65536 ≤ (n1 : Int)) = False := by simp; omega
  have f16777216 : (16777216 ≤ (n1 : Int)) = False := by simp; omega
  clear hR hl
  have hs := litk_says 4 t (by rw [Hl.out]; omega) (by omega) (by omega) (by rw [Hl.out]; omega)
  rw [Hl.out, show n1 + 1 - 1 = n1 from by omega] at hs
  obtain ⟨bs, hbs⟩ : ∃ bs, UInt8.ofNat ((59 + 4) * 4) :: leB 4 n1 = bs := ⟨_, rfl⟩
  rw [hbs] at hs
  have hbl : bs.length = 4 + 1 := by rw [← hbs, List.length_cons, leB_length]
  have Hs := Lib.hid hs
  have Hbs := Lib.hid hbs
  have Hbl := Lib.hid hbl
  clear hs hbs hbl
  go_enter Tryd.func31, Tryd.ntmps31
  go_wp2_with fail
  go_loopw [5, 6, 7] (LitInv w bs 4) (fun _ _ v7 _ => 4 - (intOf v7).toNat)
  case atStart =>
    exact ⟨0, n1, [UInt8.ofNat ((59 + 4) * 4)], rfl, rfl, by omega, by omega, by rw [← Hbs.out]; rfl, rfl, own_lit w [UInt8.ofNat ((59 + 4) * 4)] _ (one_cell (by decide)) (by simp), (Below.refl _ _).alloc (Nat.le_refl _) _⟩
  case round =>
    obtain ⟨i, fi, pre, rfl, rfl, hi, hfi, hbe, hpl, hown, hbel⟩ := hrel
    by_cases hik : i < 4
    · have hz : (fi : Int) % 256 = ((((UInt8.ofNat (fi % 256)).toNat) : Nat) : Int) := by rw [ofNat_cast _ (by omega)]; omega
      have hbl := (Below.refl wr.heap.size wr).alloc (Nat.le_refl _) (.cells #[.int .u8 ((fi : Int) % 256)] 5)
      have HO1 := Lib.hid (hown.below hbl)
      have Hnew := Lib.hid (bs_one wr ((fi : Int) % 256) (UInt8.ofNat (fi % 256)) hz)
      have HB1 := Lib.hid (hbel.trans (hbl.mono hbel.size))
      have Hbe := Lib.hid hbe
      have Hpl := Lib.hid hpl
      have hpl1 : pre.length + 1 ≤ 1099511627776 := by omega
      have hsz : w.heap.size ≤ (wr.alloc (.cells #[.int .u8 ((fi : Int) % 256)] 5)).heap.size := HB1.out.size
      clear hz hbl hbe hpl hown hbel
      go_wp2_with (at_builtin; go_loud (refine wpList_app rfl (.tmp 57) (.tmp 61) rfl w.heap.size _ pre rfl HO1.out wr.heap.size 0 1 1 [UInt8.ofNat (fi % 256)] rfl rfl Hnew.out hpl1 hsz ?_); intro v' w' hown' hb'; have HO := Lib.hid hown'; have HB' := Lib.hid hb'; clear hown' hb')
      go_roundw
      case rel =>
        refine ⟨i + 1, fi / 256, pre ++ [UInt8.ofNat (fi % 256)], int_ext (by omega), int_ext (by omega), by omega, by omega, ?_, by rw [List.length_append, Hpl.out]; rfl, HO.out, HB1.out.trans HB'.out⟩
        rw [Hbe.out, show 4 - i = (4 - (i + 1)) + 1 from by omega, leB]
        simp
      case measure => simp only [intOf]; omega
    · obtain rfl : i = 4 := by omega
      have hpe : bs = pre := by rw [hbe, Nat.sub_self, leB, List.append_nil]
      subst hpe
      have Hown := Lib.hid hown
      have Hbel := Lib.hid hbel
      have HR1 := Lib.hid (HR.out.below hbel)
      have hln : bs.length + t.length ≤ 1099511627776 := by rw [Hl.out, Hbl.out]; omega
      have hsz := hbel.size
      clear hown hbel hbe hpl
      go_wp2_with (at_builtin; go_loud (refine wpList_appA rfl (.tmp 65) (.tmp 66) rfl w.heap.size _ bs rfl Hown.out _ t rfl HR1.out (.inr ⟨_, _, _, rfl⟩) hln hsz ?_); intro v' w' hown' hb' hg'; have HO2 := Lib.hid hown'; have HB2 := Lib.hid hb'; clear hown' hb' hg')
      go_ret
      exact ⟨_, _, rfl, HO2.out, Hs.out, Hbel.out.trans HB2.out⟩

set_option maxRecDepth 10000 in
set_option maxHeartbeats 3200000 in
theorem literal_4b (ad : Addr) (n1 c : Nat) (t : List UInt8) (w : World) (hR : Rd w (.slice (some ad) (n1 + 1) c) t) (hl : t.length = n1 + 1) (hlo : 60 ≤ n1) (hhi : n1 < 256) : Calls Tryd.prog 31 #[.slice (some ad) (n1 + 1) c, .int .i64 4] w (Spelled (SaysL t) w) := by
  have HR := Lib.hid hR
  have Hl := Lib.hid hl
  have hn1 : ((n1 + 1 : Nat) : Int) - 1 = (n1 : Int) := by omega
  have f60 : ((n1 : Int) < 60) = False := by simp; omega
  have f256 : (256 ≤ (n1 : Int)) = False := by simp; omega
  have f65536 : (65536 ≤ (n1 : Int)) = False := by simp; omega
  have f16777216 : (16777216 ≤ (n1 : Int)) = False := by simp; omega
  clear hR hl
  have hs := litk_says 4 t (by rw [Hl.out]; omega) (by omega) (by omega) (by rw [Hl.out]; omega)
  rw [Hl.out, show n1 + 1 - 1 = n1 from by omega] at hs
  obtain ⟨bs, hbs⟩ : ∃ bs, UInt8.ofNat ((59 + 4) * 4) :: leB 4 n1 = bs := ⟨_, rfl⟩
  rw [hbs] at hs
  have hbl : bs.length = 4 + 1 := by rw [← hbs, List.length_cons, leB_length]
  have Hs := Lib.hid hs
  have Hbs := Lib.hid hbs
  have Hbl := Lib.hid hbl
  clear hs hbs hbl
  go_enter Tryd.func31, Tryd.ntmps31
  go_wp2_with fail
  go_loopw [5, 6, 7] (LitInv w bs 4) (fun _ _ v7 _ => 4 - (intOf v7).toNat)
  case atStart =>
    exact ⟨0, n1, [UInt8.ofNat ((59 + 4) * 4)], rfl, rfl, by omega, by omega, by rw [← Hbs.out]; rfl, rfl, own_lit w [UInt8.ofNat ((59 + 4) * 4)] _ (one_cell (by decide)) (by simp), (Below.refl _ _).alloc (Nat.le_refl _) _⟩
  case round =>
    obtain ⟨i, fi, pre, rfl, rfl, hi, hfi, hbe, hpl, hown, hbel⟩ := hrel
    by_cases hik : i < 4
    · have hz : (fi : Int) % 256 = ((((UInt8.ofNat (fi % 256)).toNat) : Nat) : Int) := by rw [ofNat_cast _ (by omega)]; omega
      have hbl := (Below.refl wr.heap.size wr).alloc (Nat.le_refl _) (.cells #[.int .u8 ((fi : Int) % 256)] 5)
      have HO1 := Lib.hid (hown.below hbl)
      have Hnew := Lib.hid (bs_one wr ((fi : Int) % 256) (UInt8.ofNat (fi % 256)) hz)
      have HB1 := Lib.hid (hbel.trans (hbl.mono hbel.size))
      have Hbe := Lib.hid hbe
      have Hpl := Lib.hid hpl
      have hpl1 : pre.length + 1 ≤ 1099511627776 := by omega
      have hsz : w.heap.size ≤ (wr.alloc (.cells #[.int .u8 ((fi : Int) % 256)] 5)).heap.size := HB1.out.size
      clear hz hbl hbe hpl hown hbel
      go_wp2_with (at_builtin; go_loud (refine wpList_app rfl (.tmp 57) (.tmp 61) rfl w.heap.size _ pre rfl HO1.out wr.heap.size 0 1 1 [UInt8.ofNat (fi % 256)] rfl rfl Hnew.out hpl1 hsz ?_); intro v' w' hown' hb'; have HO := Lib.hid hown'; have HB' := Lib.hid hb'; clear hown' hb')
      go_roundw
      case rel =>
        refine ⟨i + 1, fi / 256, pre ++ [UInt8.ofNat (fi % 256)], int_ext (by omega), int_ext (by omega), by omega, by omega, ?_, by rw [List.length_append, Hpl.out]; rfl, HO.out, HB1.out.trans HB'.out⟩
        rw [Hbe.out, show 4 - i = (4 - (i + 1)) + 1 from by omega, leB]
        simp
      case measure => simp only [intOf]; omega
    · obtain rfl : i = 4 := by omega
      have hpe : bs = pre := by rw [hbe, Nat.sub_self, leB, List.append_nil]
      subst hpe
      have Hown := Lib.hid hown
      have Hbel := Lib.hid hbel
      have HR1 := Lib.hid (HR.out.below hbel)
      have hln : bs.length + t.length ≤ 1099511627776 := by rw [Hl.out, Hbl.out]; omega
      have hsz := hbel.size
      clear hown hbel hbe hpl
      go_wp2_with (at_builtin; go_loud (refine wpList_appA rfl (.tmp 65) (.tmp 66) rfl w.heap.size _ bs rfl Hown.out _ t rfl HR1.out (.inr ⟨_, _, _, rfl⟩) hln hsz ?_); intro v' w' hown' hb' hg'; have HO2 := Lib.hid hown'; have HB2 := Lib.hid hb'; clear hown' hb' hg')
      go_ret
      exact ⟨_, _, rfl, HO2.out, Hs.out, Hbel.out.trans HB2.out⟩

set_option maxRecDepth 10000 in
set_option maxHeartbeats 3200000 in
theorem literal_4c (ad : Addr) (n1 c : Nat) (t : List UInt8) (w : World) (hR : Rd w (.slice (some ad) (n1 + 1) c) t) (hl : t.length = n1 + 1) (hlo : 256 ≤ n1) (hhi : n1 < 65536) : Calls Tryd.prog 31 #[.slice (some ad) (n1 + 1) c, .int .i64 4] w (Spelled (SaysL t) w) := by
  have HR := Lib.hid hR
  have Hl := Lib.hid hl
  have hn1 : ((n1 + 1 : Nat) : Int) - 1 = (n1 : Int) := by omega
  have f60 : ((n1 : Int) < 60) = False := by simp; omega
  have f256 : (256 ≤ (n1 : Int)) = True := by simp; omega
  have f65536 : (65536 ≤ (n1 : Int)) = False := by simp; omega
  have f16777216 : (16777216 ≤ (n1 : Int)) = False := by simp; omega
  clear hR hl
  have hs := litk_says 4 t (by rw [Hl.out]; omega) (by omega) (by omega) (by rw [Hl.out]; omega)
  rw [Hl.out, show n1 + 1 - 1 = n1 from by omega] at hs
  obtain ⟨bs, hbs⟩ : ∃ bs, UInt8.ofNat ((59 + 4) * 4) :: leB 4 n1 = bs := ⟨_, rfl⟩
  rw [hbs] at hs
  have hbl : bs.length = 4 + 1 := by rw [← hbs, List.length_cons, leB_length]
  have Hs := Lib.hid hs
  have Hbs := Lib.hid hbs
  have Hbl := Lib.hid hbl
  clear hs hbs hbl
  go_enter Tryd.func31, Tryd.ntmps31
  go_wp2_with fail
  go_loopw [5, 6, 7] (LitInv w bs 4) (fun _ _ v7 _ => 4 - (intOf v7).toNat)
  case atStart =>
    exact ⟨0, n1, [UInt8.ofNat ((59 + 4) * 4)], rfl, rfl, by omega, by omega, by rw [← Hbs.out]; rfl, rfl, own_lit w [UInt8.ofNat ((59 + 4) * 4)] _ (one_cell (by decide)) (by simp), (Below.refl _ _).alloc (Nat.le_refl _) _⟩
  case round =>
    obtain ⟨i, fi, pre, rfl, rfl, hi, hfi, hbe, hpl, hown, hbel⟩ := hrel
    by_cases hik : i < 4
    · have hz : (fi : Int) % 256 = ((((UInt8.ofNat (fi % 256)).toNat) : Nat) : Int) := by rw [ofNat_cast _ (by omega)]; omega
      have hbl := (Below.refl wr.heap.size wr).alloc (Nat.le_refl _) (.cells #[.int .u8 ((fi : Int) % 256)] 5)
      have HO1 := Lib.hid (hown.below hbl)
      have Hnew := Lib.hid (bs_one wr ((fi : Int) % 256) (UInt8.ofNat (fi % 256)) hz)
      have HB1 := Lib.hid (hbel.trans (hbl.mono hbel.size))
      have Hbe := Lib.hid hbe
      have Hpl := Lib.hid hpl
      have hpl1 : pre.length + 1 ≤ 1099511627776 := by omega
      have hsz : w.heap.size ≤ (wr.alloc (.cells #[.int .u8 ((fi : Int) % 256)] 5)).heap.size := HB1.out.size
      clear hz hbl hbe hpl hown hbel
      go_wp2_with (at_builtin; go_loud (refine wpList_app rfl (.tmp 57) (.tmp 61) rfl w.heap.size _ pre rfl HO1.out wr.heap.size 0 1 1 [UInt8.ofNat (fi % 256)] rfl rfl Hnew.out hpl1 hsz ?_); intro v' w' hown' hb'; have HO := Lib.hid hown'; have HB' := Lib.hid hb'; clear hown' hb')
      go_roundw
      case rel =>
        refine ⟨i + 1, fi / 256, pre ++ [UInt8.ofNat (fi % 256)], int_ext (by omega), int_ext (by omega), by omega, by omega, ?_, by rw [List.length_append, Hpl.out]; rfl, HO.out, HB1.out.trans HB'.out⟩
        rw [Hbe.out, show 4 - i = (4 - (i + 1)) + 1 from by omega, leB]
        simp
      case measure => simp only [intOf]; omega
    · obtain rfl : i = 4 := by omega
      have hpe : bs = pre := by rw [hbe, Nat.sub_self, leB, List.append_nil]
      subst hpe
      have Hown := Lib.hid hown
      have Hbel := Lib.hid hbel
      have HR1 := Lib.hid (HR.out.below hbel)
      have hln : bs.length + t.length ≤ 1099511627776 := by rw [Hl.out, Hbl.out]; omega
      have hsz := hbel.size
      clear hown hbel hbe hpl
      go_wp2_with (at_builtin; go_loud (refine wpList_appA rfl (.tmp 65) (.tmp 66) rfl w.heap.size _ bs rfl Hown.out _ t rfl HR1.out (.inr ⟨_, _, _, rfl⟩) hln hsz ?_); intro v' w' hown' hb' hg'; have HO2 := Lib.hid hown'; have HB2 := Lib.hid hb'; clear hown' hb' hg')
      go_ret
      exact ⟨_, _, rfl, HO2.out, Hs.out, Hbel.out.trans HB2.out⟩

set_option maxRecDepth 10000 in
set_option maxHeartbeats 3200000 in
theorem literal_4d (ad : Addr) (n1 c : Nat) (t : List UInt8) (w : World) (hR : Rd w (.slice (some ad) (n1 + 1) c) t) (hl : t.length = n1 + 1) (hlo : 65536 ≤ n1) (hhi : n1 < 1000000) : Calls Tryd.prog 31 #[.slice (some ad) (n1 + 1) c, .int .i64 4] w (Spelled (SaysL t) w) := by
  have HR := Lib.hid hR
  have Hl := Lib.hid hl
  have hn1 : ((n1 + 1 : Nat) : Int) - 1 = (n1 : Int) := by omega
  have f60 : ((n1 : Int) < 60) = False := by simp; omega
  have f256 : (256 ≤ (n1 : Int)) = True := by simp; omega
  have f65536 : (65536 ≤ (n1 : Int)) = True := by simp; omega
  have f16777216 : (16777216 ≤ (n1 : Int)) = False := by simp; omega
  clear hR hl
  have hs := litk_says 4 t (by rw [Hl.out]; omega) (by omega) (by omega) (by rw [Hl.out]; omega)
  rw [Hl.out, show n1 + 1 - 1 = n1 from by omega] at hs
  obtain ⟨bs, hbs⟩ : ∃ bs, UInt8.ofNat ((59 + 4) * 4) :: leB 4 n1 = bs := ⟨_, rfl⟩
  rw [hbs] at hs
  have hbl : bs.length = 4 + 1 := by rw [← hbs, List.length_cons, leB_length]
  have Hs := Lib.hid hs
  have Hbs := Lib.hid hbs
  have Hbl := Lib.hid hbl
  clear hs hbs hbl
  go_enter Tryd.func31, Tryd.ntmps31
  go_wp2_with fail
  go_loopw [5, 6, 7] (LitInv w bs 4) (fun _ _ v7 _ => 4 - (intOf v7).toNat)
  case atStart =>
    exact ⟨0, n1, [UInt8.ofNat ((59 + 4) * 4)], rfl, rfl, by omega, by omega, by rw [← Hbs.out]; rfl, rfl, own_lit w [UInt8.ofNat ((59 + 4) * 4)] _ (one_cell (by decide)) (by simp), (Below.refl _ _).alloc (Nat.le_refl _) _⟩
  case round =>
    obtain ⟨i, fi, pre, rfl, rfl, hi, hfi, hbe, hpl, hown, hbel⟩ := hrel
    by_cases hik : i < 4
    · have hz : (fi : Int) % 256 = ((((UInt8.ofNat (fi % 256)).toNat) : Nat) : Int) := by rw [ofNat_cast _ (by omega)]; omega
      have hbl := (Below.refl wr.heap.size wr).alloc (Nat.le_refl _) (.cells #[.int .u8 ((fi : Int) % 256)] 5)
      have HO1 := Lib.hid (hown.below hbl)
      have Hnew := Lib.hid (bs_one wr ((fi : Int) % 256) (UInt8.ofNat (fi % 256)) hz)
      have HB1 := Lib.hid (hbel.trans (hbl.mono hbel.size))
      have Hbe := Lib.hid hbe
      have Hpl := Lib.hid hpl
      have hpl1 : pre.length + 1 ≤ 1099511627776 := by omega
      have hsz : w.heap.size ≤ (wr.alloc (.cells #[.int .u8 ((fi : Int) % 256)] 5)).heap.size := HB1.out.size
      clear hz hbl hbe hpl hown hbel
      go_wp2_with (at_builtin; go_loud (refine wpList_app rfl (.tmp 57) (.tmp 61) rfl w.heap.size _ pre rfl HO1.out wr.heap.size 0 1 1 [UInt8.ofNat (fi % 256)] rfl rfl Hnew.out hpl1 hsz ?_); intro v' w' hown' hb'; have HO := Lib.hid hown'; have HB' := Lib.hid hb'; clear hown' hb')
      go_roundw
      case rel =>
        refine ⟨i + 1, fi / 256, pre ++ [UInt8.ofNat (fi % 256)], int_ext (by omega), int_ext (by omega), by omega, by omega, ?_, by rw [List.length_append, Hpl.out]; rfl, HO.out, HB1.out.trans HB'.out⟩
        rw [Hbe.out, show 4 - i = (4 - (i + 1)) + 1 from by omega, leB]
        simp
      case measure => simp only [intOf]; omega
    · obtain rfl : i = 4 := by omega
      have hpe : bs = pre := by rw [hbe, Nat.sub_self, leB, List.append_nil]
      subst hpe
      have Hown := Lib.hid hown
      have Hbel := Lib.hid hbel
      have HR1 := Lib.hid (HR.out.below hbel)
      have hln : bs.length + t.length ≤ 1099511627776 := by rw [Hl.out, Hbl.out]; omega
      have hsz := hbel.size
      clear hown hbel hbe hpl
      go_wp2_with (at_builtin; go_loud (refine wpList_appA rfl (.tmp 65) (.tmp 66) rfl w.heap.size _ bs rfl Hown.out _ t rfl HR1.out (.inr ⟨_, _, _, rfl⟩) hln hsz ?_); intro v' w' hown' hb' hg'; have HO2 := Lib.hid hown'; have HB2 := Lib.hid hb'; clear hown' hb' hg')
      go_ret
      exact ⟨_, _, rfl, HO2.out, Hs.out, Hbel.out.trans HB2.out⟩

theorem literal_any (kz : Int) (k : Nat) (ad : Addr) (n1 c : Nat) (t : List UInt8) (w : World) (hkz : kz = (k : Int)) (hk : k ≤ 4) (hR : Rd w (.slice (some ad) (n1 + 1) c) t) (hl : t.length = n1 + 1) (h2 : n1 < 1000000) :
    Calls Tryd.prog 31 #[.slice (some ad) (n1 + 1) c, .int .i64 kz] w (Spelled (SaysL t) w) := by
  subst hkz
  rcases (by omega : k = 0 ∨ k = 1 ∨ k = 2 ∨ k = 3 ∨ k = 4) with rfl | rfl | rfl | rfl | rfl
  · rcases (by omega : n1 < 60 ∨ (60 ≤ n1 ∧ n1 < 256) ∨ (256 ≤ n1 ∧ n1 < 65536) ∨ 65536 ≤ n1) with h | ⟨h, h'⟩ | ⟨h, h'⟩ | h
    · exact literal_0a ad n1 c t w hR hl h
    · exact literal_0b ad n1 c t w hR hl h h'
    · exact literal_0c ad n1 c t w hR hl h h'
    · exact literal_0d ad n1 c t w hR hl h h2
  · rcases (by omega : n1 < 60 ∨ (60 ≤ n1 ∧ n1 < 256) ∨ (256 ≤ n1 ∧ n1 < 65536) ∨ 65536 ≤ n1) with h | ⟨h, h'⟩ | ⟨h, h'⟩ | h
    · exact literal_1a ad n1 c t w hR hl h
    · exact literal_1b ad n1 c t w hR hl h h'
    · exact literal_1c ad n1 c t w hR hl h h'
    · exact literal_1d ad n1 c t w hR hl h h2
  · rcases (by omega : n1 < 60 ∨ (60 ≤ n1 ∧ n1 < 256) ∨ (256 ≤ n1 ∧ n1 < 65536) ∨ 65536 ≤ n1) with h | ⟨h, h'⟩ | ⟨h, h'⟩ | h
    · exact literal_2a ad n1 c t w hR hl h
    · exact literal_2b ad n1 c t w hR hl h h'
    · exact literal_2c ad n1 c t w hR hl h h'
    · exact literal_2d ad n1 c t w hR hl h h2
  · rcases (by omega : n1 < 60 ∨ (60 ≤ n1 ∧ n1 < 256) ∨ (256 ≤ n1 ∧ n1 < 65536) ∨ 65536 ≤ n1) with h | ⟨h, h'⟩ | ⟨h, h'⟩ | h
    · exact literal_3a ad n1 c t w hR hl h
    · exact literal_3b ad n1 c t w hR hl h h'
    · exact literal_3c ad n1 c t w hR hl h h'
    · exact literal_3d ad n1 c t w hR hl h h2
  · rcases (by omega : n1 < 60 ∨ (60 ≤ n1 ∧ n1 < 256) ∨ (256 ≤ n1 ∧ n1 < 65536) ∨ 65536 ≤ n1) with h | ⟨h, h'⟩ | ⟨h, h'⟩ | h
    · exact literal_4a ad n1 c t w hR hl h
    · exact literal_4b ad n1 c t w hR hl h h'
    · exact literal_4c ad n1 c t w hR hl h h'
    · exact literal_4d ad n1 c t w hR hl h h2
end Go.Proofs.YtfnejblenapddaaDoor
