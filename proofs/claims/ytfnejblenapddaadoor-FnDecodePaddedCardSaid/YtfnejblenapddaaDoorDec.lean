/- decode tells what the elements of a block say, or that they are not well formed. -/
import Derived.Test.YtfnejblenapddaaDoorDecM
import Derived.Test.YtfnejblenapddaaDoorFr
set_option linter.unusedVariables false
namespace Go.Proofs.YtfnejblenapddaaDoor
open Go Go.RowKit

/-- What holds of the frame at every round. -/
structure DFr (A B : Option Addr) (N c n lc d : Nat) (a : Act) : Prop where
  size : a.tmps.size = 371
  defs : a.defers = []
  s0 : a.tmps.getD 0 undef = .slice A N c
  s1 : a.tmps.getD 1 undef = .slice B n lc
  s5 : a.tmps.getD 5 undef = .int .i64 (d : Int)

/-- What holds of the memory at every round: s bytes are read, d bytes are said. -/
structure DMem (g N b off n : Nat) (src : List UInt8) (w : World) (d s : Nat) (out : List UInt8) (wr : World) : Prop where
  ol : out.length = d
  dN : d ≤ N
  sn : s ≤ n
  dd : D N (src.drop s) out = D N src []
  dst : 0 < N → Dst wr g N out
  src : Bs wr b off src
  gb : w.grownBy wr (some g)

/-- At the head of a round. -/
def DInv (A B : Option Addr) (g N c b off n lc : Nat) (src : List UInt8) (w : World) (a : Act) (wr : World) : Prop :=
  ∃ (d s : Nat) (out : List UInt8), DFr A B N c n lc d a ∧ a.tmps.getD 6 undef = .int .i64 (s : Int) ∧ DMem g N b off n src w d s out wr
def DMu (n : Nat) (a : Act) (_ : World) : Nat := n - (intOf (a.tmps.getD 6 undef)).toNat

/-- Behind the head of a literal. -/
def DLit (A B : Option Addr) (g N c b off n lc : Nat) (src : List UInt8) (wr : World) (d s : Nat) (out : List UInt8) (a : Act) (w5 : World) : Prop :=
  DFr A B N c n lc d a ∧ Drew wr w5 ∧ ∃ (s1 q : Nat), a.tmps.getD 6 undef = .int .i64 (s1 : Int) ∧ a.tmps.getD 9 undef = .int .u32 (q : Int) ∧ s < s1 ∧ s1 ≤ n ∧ q < 4294967296 ∧
    D N (src.drop s) out = if n < s1 + (q + 1) then none else if N < d + (q + 1) then none else D N (src.drop (s1 + (q + 1))) (out ++ (src.drop s1).take (q + 1))

/-- Behind the head of a copy. -/
def DCp (A B : Option Addr) (g N c b off n lc : Nat) (src : List UInt8) (wr : World) (d s : Nat) (out : List UInt8) (a : Act) (w5 : World) : Prop :=
  DFr A B N c n lc d a ∧ Drew wr w5 ∧ ∃ (s1 f m : Nat), a.tmps.getD 6 undef = .int .i64 (s1 : Int) ∧ a.tmps.getD 7 undef = .int .i64 (f : Int) ∧ a.tmps.getD 8 undef = .int .i64 (m : Int) ∧ s < s1 ∧ s1 ≤ n ∧ f < 4294967296 ∧ 1 ≤ m ∧ m ≤ 64 ∧
    D N (src.drop s) out = if f = 0 ∨ d < f then none else if N < d + m then none else D N (src.drop s1) (cp out f m)

/-- At the head of the byte by byte copy. -/
def DIn (A B : Option Addr) (g N c b off n lc d s1 f m df : Nat) (src out : List UInt8) (w : World) (a : Act) (wr : World) : Prop :=
  DFr A B N c n lc d a ∧ a.tmps.getD 6 undef = .int .i64 (s1 : Int) ∧ a.tmps.getD 8 undef = .int .i64 (m : Int) ∧ a.tmps.getD 10 undef = .slice (some ⟨g, d, none⟩) m (c - d) ∧
    a.tmps.getD 11 undef = .slice (some ⟨g, df, none⟩) m (c - df) ∧ a.tmps.getD 352 undef = .int .i64 (m : Int) ∧
    ∃ j : Nat, j ≤ m ∧ a.tmps.getD 353 undef = .int .i64 (j : Int) ∧ Dst wr g N (cp out f j) ∧ Bs wr b off src ∧ w.grownBy wr (some g)
def DInMu (m : Nat) (a : Act) (_ : World) : Nat := m - (intOf (a.tmps.getD 353 undef)).toNat

set_option maxHeartbeats 8000000 in
set_option maxRecDepth 100000 in
theorem decode_any (A B : Option Addr) (g N c b off n lc : Nat) (src : List UInt8) (w : World) (hl : src.length = n) (hn : n ≤ 1099511627776) (hN : N ≤ 4294967296) (hNc : N ≤ c) (hc : c ≤ 9223372036854775807)
    (hA : 0 < N → A = some ⟨g, 0, none⟩) (hD0 : 0 < N → Dst w g N []) (hB : 0 < n → B = some ⟨b, off, none⟩) (hS0 : Bs w b off src) (hbg : b ≠ g) (hnl : n ≤ lc) (hlc : lc ≤ 9223372036854775807) :
    Calls Tryd.prog 38 #[.slice A N c, .slice B n lc] w (Decoded N src w g) := by
  have Hl := Lib.hid hl
  have HA := Lib.hid hA
  have HB := Lib.hid hB
  have HS0 := Lib.hid hS0
  have HD0 := Lib.hid hD0
  clear hl hA hB hS0 hD0
  go_enter Tryd.func38, Tryd.ntmps38
  go_wp2
  refine wp_loop (DInv A B g N c b off n lc src w) (DMu n) ?_ ?_
  · exact ⟨0, 0, [], ⟨rfl, rfl, rfl, rfl, rfl⟩, rfl, ⟨rfl, Nat.zero_le _, Nat.zero_le _, by rw [List.drop_zero], HD0.out, HS0.out, gb_refl _ _⟩⟩
  intro a0 wr hI
  obtain ⟨d, s, out, hF, h6, hM⟩ := hI
  obtain ⟨fr, rfl, hfr⟩ := open371 a0 hF.size hF.defs
  have e0 := (hfr 0).symm.trans hF.s0
  have e1 := (hfr 1).symm.trans hF.s1
  have e5 := (hfr 5).symm.trans hF.s5
  have e6 := (hfr 6).symm.trans h6
  rw [e0, e1, e5, e6]
  clear hF h6 hfr e0 e1 e5 e6
  have hdN := hM.dN
  have hsn := hM.sn
  by_cases hlt : s < n
  · obtain rfl := HB.out (by omega)
    obtain ⟨v, hv⟩ : ∃ v, bt src s = v := ⟨_, rfl⟩
    have hv256 : v < 256 := hv ▸ bt_lt src s
    have hc0 : wr.cell? ⟨b, off + s, none⟩ = some (.int .u8 (v : Int)) := by rw [← hv]; exact hM.src.bt s (by rw [Hl.out]; omega)
    have Hv := Lib.hid hv
    clear hv
    have hs0 : s < src.length := by rw [Hl.out]; exact hlt
    have Hs0 := Lib.hid hs0
    clear hs0
    go_upto_block 2 with fail
    refine wp_meet (DCp A (some ⟨b, off, none⟩) g N c b off n lc src wr d s out) ?_ ?_
    · have htag : v % 4 = 0 ∨ v % 4 = 1 ∨ v % 4 = 2 ∨ v % 4 = 3 := by omega
      rcases htag with ht | ht | ht | ht
      · have hand : bits .and .u8 (v : Int) 3 = 0 := by rw [u8_and3 _ (by omega) (by omega)]; omega
        go_upto_block 3 with fail
        refine wp_meet (DLit A (some ⟨b, off, none⟩) g N c b off n lc src wr d s out) ?_ ?_
        · have hhi : v / 4 < 60 ∨ v / 4 = 60 ∨ v / 4 = 61 ∨ v / 4 = 62 ∨ v / 4 = 63 := by omega
          rcases hhi with hhi | hhi | hhi | hhi | hhi
          · obtain ⟨q, hq⟩ : ∃ q : Nat, v / 4 = q := ⟨_, rfl⟩
            have hqe : (v : Int) / 4 = (q : Int) := by omega
            have hq60 : q < 60 := by omega
            have HDQ : D N (src.drop s) out = if src.length < s + 1 + (q + 1) then none else if N < out.length + (q + 1) then none else D N (src.drop (s + 1 + (q + 1))) (out ++ (src.drop (s + 1)).take (q + 1)) :=
              D_lit (k := 0) Hs0.out (by rw [Hv.out]; exact ht) (fun b hb => by unfold ext; rw [hb, Hv.out, if_pos ht, if_pos hhi]) rfl (by have := Hs0.out; omega) (fun b hb => by unfold eln; rw [hb, Hv.out, if_pos ht, if_pos hhi]; omega)
            rw [Hl.out, hM.ol] at HDQ
            have HDQ' := Lib.hid HDQ
            clear HDQ hhi hq
            go_wp2_with fail
            exact ⟨⟨rfl, rfl, rfl, rfl, rfl⟩, ⟨0, rfl⟩, s + 1, q, by go_num, rfl, by omega, by omega, by omega, HDQ'.out⟩
          · have hqe : (v : Int) / 4 = 60 := by omega
            by_cases hsh : n < s + 2
            · have hno : D N (src.drop s) out = none := D_short (k := 1) Hs0.out (fun b hb => by unfold ext; rw [hb, Hv.out, if_pos ht, if_neg (by omega)]; omega) (by rw [Hl.out]; omega)
              clear hhi
              have Hfin := Lib.hid (show Decoded N src w g (.returned (.int .i64 1)) wr from ⟨hM.gb, .inl ⟨by rw [← hM.dd]; exact hno, rfl⟩⟩)
              clear hno
              go_wp2_with fail
              go_ret
              exact Hfin.out
            · have hc1 := hM.src.bt (s + 1) (by rw [Hl.out]; omega)
              have hr1 := bt_lt src (s + 1)
              obtain ⟨y1, hy1⟩ : ∃ y, bt src (s + 1) = y := ⟨_, rfl⟩
              rw [hy1] at hc1 hr1
              have Hy1 := Lib.hid hy1
              clear hy1
              have HDQ : D N (src.drop s) out = if src.length < s + 2 + (y1 + 1) then none else if N < out.length + (y1 + 1) then none else D N (src.drop (s + 2 + (y1 + 1))) (out ++ (src.drop (s + 2)).take (y1 + 1)) :=
                D_lit (k := 1) Hs0.out (by rw [Hv.out]; exact ht) (fun b hb => by unfold ext; rw [hb, Hv.out, if_pos ht, if_neg (by omega)]; omega) (by omega) (by rw [Hl.out]; omega) (fun b hb => by unfold eln; rw [hb, Hv.out, if_pos ht, if_neg (by omega)]; rw [le_take1 src (s + 1) (by have := Hl.out; omega), Hy1.out])
              rw [Hl.out, hM.ol] at HDQ
              have HDQ' := Lib.hid HDQ
              have hq32 : y1 < 4294967296 := by omega

              clear HDQ hhi

              go_wp2_with fail
              exact ⟨⟨rfl, rfl, rfl, rfl, rfl⟩, ⟨0, rfl⟩, s + 2, y1, by go_num, rfl, by omega, by omega, by omega, HDQ'.out⟩
          · have hqe : (v : Int) / 4 = 61 := by omega
            by_cases hsh : n < s + 3
            · have hno : D N (src.drop s) out = none := D_short (k := 2) Hs0.out (fun b hb => by unfold ext; rw [hb, Hv.out, if_pos ht, if_neg (by omega)]; omega) (by rw [Hl.out]; omega)
              clear hhi
              have Hfin := Lib.hid (show Decoded N src w g (.returned (.int .i64 1)) wr from ⟨hM.gb, .inl ⟨by rw [← hM.dd]; exact hno, rfl⟩⟩)
              clear hno
              go_wp2_with fail
              go_ret
              exact Hfin.out
            · have hc1 := hM.src.bt (s + 1) (by rw [Hl.out]; omega)
              have hr1 := bt_lt src (s + 1)
              have hc2 := hM.src.bt (s + 2) (by rw [Hl.out]; omega)
              have hr2 := bt_lt src (s + 2)
              obtain ⟨y1, hy1⟩ : ∃ y, bt src (s + 1) = y := ⟨_, rfl⟩
              rw [hy1] at hc1 hr1
              obtain ⟨y2, hy2⟩ : ∃ y, bt src (s + 2) = y := ⟨_, rfl⟩
              rw [hy2] at hc2 hr2
              have Hy1 := Lib.hid hy1
              clear hy1
              have Hy2 := Lib.hid hy2
              clear hy2
              obtain ⟨q, hq⟩ : ∃ q : Nat, q = y1 + y2 * 256 := ⟨_, rfl⟩
              have HDQ : D N (src.drop s) out = if src.length < s + 3 + (q + 1) then none else if N < out.length + (q + 1) then none else D N (src.drop (s + 3 + (q + 1))) (out ++ (src.drop (s + 3)).take (q + 1)) :=
                D_lit (k := 2) Hs0.out (by rw [Hv.out]; exact ht) (fun b hb => by unfold ext; rw [hb, Hv.out, if_pos ht, if_neg (by omega)]; omega) (by omega) (by rw [Hl.out]; omega) (fun b hb => by unfold eln; rw [hb, Hv.out, if_pos ht, if_neg (by omega)]; rw [le_take2 src (s + 1) (by have := Hl.out; omega), show s + 1 + 1 = s + 2 from rfl, Hy1.out, Hy2.out]; omega)
              rw [Hl.out, hM.ol] at HDQ
              have HDQ' := Lib.hid HDQ
              have hq32 : q < 4294967296 := by omega
              have hbt : bits .or .u32 (y1 : Int) ((y2 : Int) * 256) = (q : Int) := by rw [u32_two _ _ (by omega) (by omega) (by omega) (by omega)]; omega
              clear HDQ hhi
              have hi10 : (0 : Int) ≤ (s : Int) + 1 := by omega
              have hi11 : (s : Int) + 1 < (n : Int) := by omega
              have hi20 : (0 : Int) ≤ (s : Int) + 2 := by omega
              have hi21 : (s : Int) + 2 < (n : Int) := by omega
              clear hq
              go_wp2_with fail
              go_quiet (fail)
              go_wp2_with fail
              exact ⟨⟨rfl, rfl, rfl, rfl, rfl⟩, ⟨_, rfl⟩, s + 3, q, by go_num, rfl, by omega, by omega, by omega, HDQ'.out⟩
          · have hqe : (v : Int) / 4 = 62 := by omega
            by_cases hsh : n < s + 4
            · have hno : D N (src.drop s) out = none := D_short (k := 3) Hs0.out (fun b hb => by unfold ext; rw [hb, Hv.out, if_pos ht, if_neg (by omega)]; omega) (by rw [Hl.out]; omega)
              clear hhi
              have Hfin := Lib.hid (show Decoded N src w g (.returned (.int .i64 1)) wr from ⟨hM.gb, .inl ⟨by rw [← hM.dd]; exact hno, rfl⟩⟩)
              clear hno
              go_wp2_with fail
              go_ret
              exact Hfin.out
            · have hc1 := hM.src.bt (s + 1) (by rw [Hl.out]; omega)
              have hr1 := bt_lt src (s + 1)
              have hc2 := hM.src.bt (s + 2) (by rw [Hl.out]; omega)
              have hr2 := bt_lt src (s + 2)
              have hc3 := hM.src.bt (s + 3) (by rw [Hl.out]; omega)
              have hr3 := bt_lt src (s + 3)
              obtain ⟨y1, hy1⟩ : ∃ y, bt src (s + 1) = y := ⟨_, rfl⟩
              rw [hy1] at hc1 hr1
              obtain ⟨y2, hy2⟩ : ∃ y, bt src (s + 2) = y := ⟨_, rfl⟩
              rw [hy2] at hc2 hr2
              obtain ⟨y3, hy3⟩ : ∃ y, bt src (s + 3) = y := ⟨_, rfl⟩
              rw [hy3] at hc3 hr3
              have Hy1 := Lib.hid hy1
              clear hy1
              have Hy2 := Lib.hid hy2
              clear hy2
              have Hy3 := Lib.hid hy3
              clear hy3
              obtain ⟨q, hq⟩ : ∃ q : Nat, q = y1 + y2 * 256 + y3 * 65536 := ⟨_, rfl⟩
              have HDQ : D N (src.drop s) out = if src.length < s + 4 + (q + 1) then none else if N < out.length + (q + 1) then none else D N (src.drop (s + 4 + (q + 1))) (out ++ (src.drop (s + 4)).take (q + 1)) :=
                D_lit (k := 3) Hs0.out (by rw [Hv.out]; exact ht) (fun b hb => by unfold ext; rw [hb, Hv.out, if_pos ht, if_neg (by omega)]; omega) (by omega) (by rw [Hl.out]; omega) (fun b hb => by unfold eln; rw [hb, Hv.out, if_pos ht, if_neg (by omega)]; rw [le_take3 src (s + 1) (by have := Hl.out; omega), show s + 1 + 1 = s + 2 from rfl, show s + 1 + 2 = s + 3 from rfl, Hy1.out, Hy2.out, Hy3.out]; omega)
              rw [Hl.out, hM.ol] at HDQ
              have HDQ' := Lib.hid HDQ
              have hq32 : q < 4294967296 := by omega
              have hbt : bits .or .u32 (bits .or .u32 (y1 : Int) ((y2 : Int) * 256)) ((y3 : Int) * 65536) = (q : Int) := by rw [u32_three _ _ _ (by omega) (by omega) (by omega) (by omega) (by omega) (by omega)]; omega
              clear HDQ hhi
              have hi10 : (0 : Int) ≤ (s : Int) + 1 := by omega
              have hi11 : (s : Int) + 1 < (n : Int) := by omega
              have hi20 : (0 : Int) ≤ (s : Int) + 2 := by omega
              have hi21 : (s : Int) + 2 < (n : Int) := by omega
              have hi30 : (0 : Int) ≤ (s : Int) + 3 := by omega
              have hi31 : (s : Int) + 3 < (n : Int) := by omega
              clear hq
              go_wp2_with fail
              go_quiet (fail)
              go_wp2_with fail
              exact ⟨⟨rfl, rfl, rfl, rfl, rfl⟩, ⟨_, rfl⟩, s + 4, q, by go_num, rfl, by omega, by omega, by omega, HDQ'.out⟩
          · have hqe : (v : Int) / 4 = 63 := by omega
            by_cases hsh : n < s + 5
            · have hno : D N (src.drop s) out = none := D_short (k := 4) Hs0.out (fun b hb => by unfold ext; rw [hb, Hv.out, if_pos ht, if_neg (by omega)]; omega) (by rw [Hl.out]; omega)
              clear hhi
              have Hfin := Lib.hid (show Decoded N src w g (.returned (.int .i64 1)) wr from ⟨hM.gb, .inl ⟨by rw [← hM.dd]; exact hno, rfl⟩⟩)
              clear hno
              go_wp2_with fail
              go_ret
              exact Hfin.out
            · have hc1 := hM.src.bt (s + 1) (by rw [Hl.out]; omega)
              have hr1 := bt_lt src (s + 1)
              have hc2 := hM.src.bt (s + 2) (by rw [Hl.out]; omega)
              have hr2 := bt_lt src (s + 2)
              have hc3 := hM.src.bt (s + 3) (by rw [Hl.out]; omega)
              have hr3 := bt_lt src (s + 3)
              have hc4 := hM.src.bt (s + 4) (by rw [Hl.out]; omega)
              have hr4 := bt_lt src (s + 4)
              obtain ⟨y1, hy1⟩ : ∃ y, bt src (s + 1) = y := ⟨_, rfl⟩
              rw [hy1] at hc1 hr1
              obtain ⟨y2, hy2⟩ : ∃ y, bt src (s + 2) = y := ⟨_, rfl⟩
              rw [hy2] at hc2 hr2
              obtain ⟨y3, hy3⟩ : ∃ y, bt src (s + 3) = y := ⟨_, rfl⟩
              rw [hy3] at hc3 hr3
              obtain ⟨y4, hy4⟩ : ∃ y, bt src (s + 4) = y := ⟨_, rfl⟩
              rw [hy4] at hc4 hr4
              have Hy1 := Lib.hid hy1
              clear hy1
              have Hy2 := Lib.hid hy2
              clear hy2
              have Hy3 := Lib.hid hy3
              clear hy3
              have Hy4 := Lib.hid hy4
              clear hy4
              obtain ⟨q, hq⟩ : ∃ q : Nat, q = y1 + y2 * 256 + y3 * 65536 + y4 * 16777216 := ⟨_, rfl⟩
              have HDQ : D N (src.drop s) out = if src.length < s + 5 + (q + 1) then none else if N < out.length + (q + 1) then none else D N (src.drop (s + 5 + (q + 1))) (out ++ (src.drop (s + 5)).take (q + 1)) :=
                D_lit (k := 4) Hs0.out (by rw [Hv.out]; exact ht) (fun b hb => by unfold ext; rw [hb, Hv.out, if_pos ht, if_neg (by omega)]; omega) (by omega) (by rw [Hl.out]; omega) (fun b hb => by unfold eln; rw [hb, Hv.out, if_pos ht, if_neg (by omega)]; rw [le_take4 src (s + 1) (by have := Hl.out; omega), show s + 1 + 1 = s + 2 from rfl, show s + 1 + 2 = s + 3 from rfl, show s + 1 + 3 = s + 4 from rfl, Hy1.out, Hy2.out, Hy3.out, Hy4.out]; omega)
              rw [Hl.out, hM.ol] at HDQ
              have HDQ' := Lib.hid HDQ
              have hq32 : q < 4294967296 := by omega
              have hbt : bits .or .u32 (bits .or .u32 (bits .or .u32 (y1 : Int) ((y2 : Int) * 256)) ((y3 : Int) * 65536)) ((y4 : Int) * 16777216) = (q : Int) := by rw [u32_four _ _ _ _ (by omega) (by omega) (by omega) (by omega) (by omega) (by omega) (by omega) (by omega)]; omega
              clear HDQ hhi
              have hi10 : (0 : Int) ≤ (s : Int) + 1 := by omega
              have hi11 : (s : Int) + 1 < (n : Int) := by omega
              have hi20 : (0 : Int) ≤ (s : Int) + 2 := by omega
              have hi21 : (s : Int) + 2 < (n : Int) := by omega
              have hi30 : (0 : Int) ≤ (s : Int) + 3 := by omega
              have hi31 : (s : Int) + 3 < (n : Int) := by omega
              have hi40 : (0 : Int) ≤ (s : Int) + 4 := by omega
              have hi41 : (s : Int) + 4 < (n : Int) := by omega
              clear hq
              go_wp2_with fail
              go_quiet (fail)
              go_wp2_with fail
              exact ⟨⟨rfl, rfl, rfl, rfl, rfl⟩, ⟨_, rfl⟩, s + 5, q, by go_num, rfl, by omega, by omega, by omega, HDQ'.out⟩
        · intro a5 w5 hLt
          obtain ⟨hF, hdr, s1, q, h6, h9, hss1, hs1n, hq32, hDQ⟩ := hLt
          have HDQ := Lib.hid hDQ
          clear hDQ
          obtain ⟨f5, rfl, hf5⟩ := open371 a5 hF.size hF.defs
          have e0 := (hf5 0).symm.trans hF.s0
          have e1 := (hf5 1).symm.trans hF.s1
          have e5 := (hf5 5).symm.trans hF.s5
          have e6 := (hf5 6).symm.trans h6
          have e9 := (hf5 9).symm.trans h9
          rw [e0, e1, e5, e6, e9]
          clear hF h6 h9 hf5 e0 e1 e5 e6 e9 hc0 hand
          by_cases hN1 : N < d + (q + 1)
          · have hno : D N (src.drop s) out = none := by
              rw [HDQ.out]
              simp only [if_pos hN1, ite_self]
            have Hfin := Lib.hid (show Decoded N src w g (.returned (.int .i64 1)) w5 from ⟨gb_trans hM.gb (drew_gb hdr _), .inl ⟨by rw [← hM.dd]; exact hno, rfl⟩⟩)
            clear hno
            go_wp2_with fail
            go_ret
            exact Hfin.out
          by_cases hn1 : n < s1 + (q + 1)
          · have hno : D N (src.drop s) out = none := by rw [HDQ.out, if_pos hn1]
            have Hfin := Lib.hid (show Decoded N src w g (.returned (.int .i64 1)) w5 from ⟨gb_trans hM.gb (drew_gb hdr _), .inl ⟨by rw [← hM.dd]; exact hno, rfl⟩⟩)
            clear hno
            go_wp2_with fail
            go_ret
            exact Hfin.out
          · obtain ⟨wd, rfl⟩ := hdr
            have hDok := HDQ.out
            rw [if_neg hn1, if_neg hN1] at hDok
            have HDok := Lib.hid (hDok.symm.trans hM.dd)
            clear hDok
            obtain rfl := HA.out (by omega)
            obtain ⟨L, hL1, hL2, hL3⟩ := hM.dst (by omega)
            have hlen : ((src.drop s1).take (q + 1)).length = q + 1 := by simp; rw [Hl.out]; omega
            obtain ⟨w2, hrun, hB2, hg2⟩ := run_copy_blk (w := (wr.drewN wd).drew) (dl := N - d) (dc := c - d) (sl := q + 1) (sc := lc - s1) (o := d) (bs := (src.drop s1).take (q + 1)) hL2 ((hM.src.drop s1).take (q + 1)) (by rw [hlen]; omega) (by rw [hlen]; omega)
            rw [hlen] at hrun
            have hs1' := slice_from g 0 N c d (by omega) (by omega)
            simp only [Nat.zero_add] at hs1'
            have hs2' := slice_mid b off n lc s1 (s1 + (q + 1)) (by omega) (by omega) (by omega)
            rw [show s1 + (q + 1) - s1 = q + 1 from by omega] at hs2'
            obtain ⟨q1, hq1⟩ : ∃ q1, q + 1 = q1 := ⟨_, rfl⟩
            have hM2 : DMem g N b off n src w (d + (q + 1)) (s1 + (q + 1)) (out ++ (src.drop s1).take (q + 1)) w2 := ⟨by rw [List.length_append, hlen, hM.ol], by omega, by omega, HDok.out,
              fun _ => Dst.more hL1 hL3 (by rw [hlen, hM.ol]; omega) (by rw [hM.ol]; exact hB2), hM.src.grown (gb_trans (gb_drewN wr (wd + 1) _) hg2) hbg, gb_trans hM.gb (gb_trans (gb_drewN wr (wd + 1) _) hg2)⟩
            rw [hq1] at hM2 hs2' hrun
            have hqe : (q : Int) + 1 = (q1 : Int) := by omega
            have hqs : ((s1 + q1 : Nat) : Int) = (s1 : Int) + (q1 : Int) := by omega
            rw [hqs] at hs2'
            have hq1b : q1 ≤ 4294967296 := by omega
            have hq1n : s1 + q1 ≤ n := by omega
            have hq1N : d + q1 ≤ N := by omega
            have hq10 : 0 < q1 := by omega
            have hwr : IntKind.i64.wrap ((s1 : Int) + (q1 : Int)) = (s1 : Int) + (q1 : Int) := by rw [IntKind.wrap_i64]; omega
            have HM2 := Lib.hid hM2
            clear hL1 hL2 hL3 hB2 hg2 hM2 hlen hq1 hN1 hn1 hqs HDok HDQ hM
            go_wp2_with fail
            go_still_tail 9, (by kernel_rfl)
            change wpList _ _ _ _ _ (wr.drewN wd).drew
            generalize (wr.drewN wd).drew = w4 at hrun ⊢
            go_wp2_with fail
            exact ⟨⟨d + q1, s1 + q1, _, ⟨rfl, rfl, rfl, rfl, int_ext (by omega)⟩, int_ext (by omega), HM2.out⟩, by simp [DMu, intOf]; omega⟩
      · have hand : bits .and .u8 (v : Int) 3 = 1 := by rw [u8_and3 _ (by omega) (by omega)]; omega
        by_cases hsh : n < s + 2
        · have hno : D N (src.drop s) out = none := D_short (k := 1) Hs0.out (fun b hb => by unfold ext; rw [hb, Hv.out, if_neg (by omega), if_pos ht]) (by rw [Hl.out]; omega)
          have Hfin := Lib.hid (show Decoded N src w g (.returned (.int .i64 1)) wr from ⟨hM.gb, .inl ⟨by rw [← hM.dd]; exact hno, rfl⟩⟩)
          clear hno
          go_wp2_with fail
          go_ret
          exact Hfin.out
        · have hc1 := hM.src.bt (s + 1) (by rw [Hl.out]; omega)
          have hr1 := bt_lt src (s + 1)
          obtain ⟨y1, hy1⟩ : ∃ y, bt src (s + 1) = y := ⟨_, rfl⟩
          rw [hy1] at hc1 hr1
          have Hy1 := Lib.hid hy1
          clear hy1
          obtain ⟨f, hf⟩ : ∃ f : Nat, f = v / 32 * 256 + y1 := ⟨_, rfl⟩
          obtain ⟨m, hm⟩ : ∃ m : Nat, m = v / 4 % 8 + 4 := ⟨_, rfl⟩
          have HDQ : D N (src.drop s) out = if f = 0 ∨ out.length < f then none else if N < out.length + m then none else D N (src.drop (s + 2)) (cp out f m) :=
            D_cp (k := 1) Hs0.out (by rw [Hv.out]; omega) (fun b hb => by unfold ext; rw [hb, Hv.out, if_neg (by omega), if_pos ht]) (by omega) (by rw [Hl.out]; omega) (fun b hb => by unfold eln; rw [hb, Hv.out, if_neg (by omega), if_pos ht]; omega) (fun b hb => by unfold far; rw [hb, Hv.out, if_pos ht]; rw [le_take1 src (s + 1) (by have := Hl.out; omega), Hy1.out]; omega)
          rw [hM.ol] at HDQ
          have HDQ' := Lib.hid HDQ
          have hf32 : f < 4294967296 := by omega
          have hm1 : 1 ≤ m := by omega
          have hm2 : m ≤ 64 := by omega
          have hb7 : bits .and .i64 ((v : Int) / 4) 7 = (v : Int) / 4 % 8 := i64_and7 _ (by omega) (by omega)
          have hml : (4 : Int) + (v : Int) / 4 % 8 = (m : Int) := by omega
          have hb224 : bits .and .u32 (v : Int) 224 = (v : Int) / 32 * 32 := u32_and224 _ (by omega) (by omega)
          have hbt : bits .or .u32 ((v : Int) / 32 * 32 * 8) (y1 : Int) = (f : Int) := by rw [show (v : Int) / 32 = ((v / 32 : Nat) : Int) from by omega, u32_hi (v / 32) y1 (by omega) (by omega)]; omega
          clear HDQ
          have hi00 : (0 : Int) ≤ (s : Int) := by omega
          have hi01 : (s : Int) < (n : Int) := by omega
          have hi10 : (0 : Int) ≤ (s : Int) + 1 := by omega
          have hi11 : (s : Int) + 1 < (n : Int) := by omega
          clear hf hm
          go_wp2_with fail
          go_quiet (fail)
          go_wp2_with fail
          exact ⟨⟨rfl, rfl, rfl, rfl, rfl⟩, ⟨_, rfl⟩, s + 2, f, m, int_ext (by omega), rfl, rfl, by omega, by omega, hf32, hm1, hm2, HDQ'.out⟩
      · have hand : bits .and .u8 (v : Int) 3 = 2 := by rw [u8_and3 _ (by omega) (by omega)]; omega
        by_cases hsh : n < s + 3
        · have hno : D N (src.drop s) out = none := D_short (k := 2) Hs0.out (fun b hb => by unfold ext; rw [hb, Hv.out, if_neg (by omega), if_neg (by omega), if_pos ht]) (by rw [Hl.out]; omega)
          have Hfin := Lib.hid (show Decoded N src w g (.returned (.int .i64 1)) wr from ⟨hM.gb, .inl ⟨by rw [← hM.dd]; exact hno, rfl⟩⟩)
          clear hno
          go_wp2_with fail
          go_ret
          exact Hfin.out
        · have hc1 := hM.src.bt (s + 1) (by rw [Hl.out]; omega)
          have hr1 := bt_lt src (s + 1)
          have hc2 := hM.src.bt (s + 2) (by rw [Hl.out]; omega)
          have hr2 := bt_lt src (s + 2)
          obtain ⟨y1, hy1⟩ : ∃ y, bt src (s + 1) = y := ⟨_, rfl⟩
          rw [hy1] at hc1 hr1
          obtain ⟨y2, hy2⟩ : ∃ y, bt src (s + 2) = y := ⟨_, rfl⟩
          rw [hy2] at hc2 hr2
          have Hy1 := Lib.hid hy1
          clear hy1
          have Hy2 := Lib.hid hy2
          clear hy2
          obtain ⟨f, hf⟩ : ∃ f : Nat, f = y1 + y2 * 256 := ⟨_, rfl⟩
          obtain ⟨m, hm⟩ : ∃ m : Nat, m = v / 4 + 1 := ⟨_, rfl⟩
          have HDQ : D N (src.drop s) out = if f = 0 ∨ out.length < f then none else if N < out.length + m then none else D N (src.drop (s + 3)) (cp out f m) :=
            D_cp (k := 2) Hs0.out (by rw [Hv.out]; omega) (fun b hb => by unfold ext; rw [hb, Hv.out, if_neg (by omega), if_neg (by omega), if_pos ht]) (by omega) (by rw [Hl.out]; omega) (fun b hb => by unfold eln; rw [hb, Hv.out, if_neg (by omega), if_neg (by omega)]; omega) (fun b hb => by unfold far; rw [hb, Hv.out, if_neg (by omega)]; rw [le_take2 src (s + 1) (by have := Hl.out; omega), show s + 1 + 1 = s + 2 from rfl, Hy1.out, Hy2.out]; omega)
          rw [hM.ol] at HDQ
          have HDQ' := Lib.hid HDQ
          have hf32 : f < 4294967296 := by omega
          have hm1 : 1 ≤ m := by omega
          have hm2 : m ≤ 64 := by omega
          have hml : (1 : Int) + (v : Int) / 4 = (m : Int) := by omega
          have hbt : bits .or .u32 (y1 : Int) ((y2 : Int) * 256) = (f : Int) := by rw [u32_two _ _ (by omega) (by omega) (by omega) (by omega)]; omega
          clear HDQ
          have hi00 : (0 : Int) ≤ (s : Int) := by omega
          have hi01 : (s : Int) < (n : Int) := by omega
          have hi10 : (0 : Int) ≤ (s : Int) + 1 := by omega
          have hi11 : (s : Int) + 1 < (n : Int) := by omega
          have hi20 : (0 : Int) ≤ (s : Int) + 2 := by omega
          have hi21 : (s : Int) + 2 < (n : Int) := by omega
          clear hf hm
          go_wp2_with fail
          go_quiet (fail)
          go_wp2_with fail
          exact ⟨⟨rfl, rfl, rfl, rfl, rfl⟩, ⟨_, rfl⟩, s + 3, f, m, int_ext (by omega), rfl, rfl, by omega, by omega, hf32, hm1, hm2, HDQ'.out⟩
      · have hand : bits .and .u8 (v : Int) 3 = 3 := by rw [u8_and3 _ (by omega) (by omega)]; omega
        by_cases hsh : n < s + 5
        · have hno : D N (src.drop s) out = none := D_short (k := 4) Hs0.out (fun b hb => by unfold ext; rw [hb, Hv.out, if_neg (by omega), if_neg (by omega), if_neg (by omega)]) (by rw [Hl.out]; omega)
          have Hfin := Lib.hid (show Decoded N src w g (.returned (.int .i64 1)) wr from ⟨hM.gb, .inl ⟨by rw [← hM.dd]; exact hno, rfl⟩⟩)
          clear hno
          go_wp2_with fail
          go_ret
          exact Hfin.out
        · have hc1 := hM.src.bt (s + 1) (by rw [Hl.out]; omega)
          have hr1 := bt_lt src (s + 1)
          have hc2 := hM.src.bt (s + 2) (by rw [Hl.out]; omega)
          have hr2 := bt_lt src (s + 2)
          have hc3 := hM.src.bt (s + 3) (by rw [Hl.out]; omega)
          have hr3 := bt_lt src (s + 3)
          have hc4 := hM.src.bt (s + 4) (by rw [Hl.out]; omega)
          have hr4 := bt_lt src (s + 4)
          obtain ⟨y1, hy1⟩ : ∃ y, bt src (s + 1) = y := ⟨_, rfl⟩
          rw [hy1] at hc1 hr1
          obtain ⟨y2, hy2⟩ : ∃ y, bt src (s + 2) = y := ⟨_, rfl⟩
          rw [hy2] at hc2 hr2
          obtain ⟨y3, hy3⟩ : ∃ y, bt src (s + 3) = y := ⟨_, rfl⟩
          rw [hy3] at hc3 hr3
          obtain ⟨y4, hy4⟩ : ∃ y, bt src (s + 4) = y := ⟨_, rfl⟩
          rw [hy4] at hc4 hr4
          have Hy1 := Lib.hid hy1
          clear hy1
          have Hy2 := Lib.hid hy2
          clear hy2
          have Hy3 := Lib.hid hy3
          clear hy3
          have Hy4 := Lib.hid hy4
          clear hy4
          obtain ⟨f, hf⟩ : ∃ f : Nat, f = y1 + y2 * 256 + y3 * 65536 + y4 * 16777216 := ⟨_, rfl⟩
          obtain ⟨m, hm⟩ : ∃ m : Nat, m = v / 4 + 1 := ⟨_, rfl⟩
          have HDQ : D N (src.drop s) out = if f = 0 ∨ out.length < f then none else if N < out.length + m then none else D N (src.drop (s + 5)) (cp out f m) :=
            D_cp (k := 4) Hs0.out (by rw [Hv.out]; omega) (fun b hb => by unfold ext; rw [hb, Hv.out, if_neg (by omega), if_neg (by omega), if_neg (by omega)]) (by omega) (by rw [Hl.out]; omega) (fun b hb => by unfold eln; rw [hb, Hv.out, if_neg (by omega), if_neg (by omega)]; omega) (fun b hb => by unfold far; rw [hb, Hv.out, if_neg (by omega)]; rw [le_take4 src (s + 1) (by have := Hl.out; omega), show s + 1 + 1 = s + 2 from rfl, show s + 1 + 2 = s + 3 from rfl, show s + 1 + 3 = s + 4 from rfl, Hy1.out, Hy2.out, Hy3.out, Hy4.out]; omega)
          rw [hM.ol] at HDQ
          have HDQ' := Lib.hid HDQ
          have hf32 : f < 4294967296 := by omega
          have hm1 : 1 ≤ m := by omega
          have hm2 : m ≤ 64 := by omega
          have hml : (1 : Int) + (v : Int) / 4 = (m : Int) := by omega
          have hbt : bits .or .u32 (bits .or .u32 (bits .or .u32 (y1 : Int) ((y2 : Int) * 256)) ((y3 : Int) * 65536)) ((y4 : Int) * 16777216) = (f : Int) := by rw [u32_four _ _ _ _ (by omega) (by omega) (by omega) (by omega) (by omega) (by omega) (by omega) (by omega)]; omega
          clear HDQ
          have hi00 : (0 : Int) ≤ (s : Int) := by omega
          have hi01 : (s : Int) < (n : Int) := by omega
          have hi10 : (0 : Int) ≤ (s : Int) + 1 := by omega
          have hi11 : (s : Int) + 1 < (n : Int) := by omega
          have hi20 : (0 : Int) ≤ (s : Int) + 2 := by omega
          have hi21 : (s : Int) + 2 < (n : Int) := by omega
          have hi30 : (0 : Int) ≤ (s : Int) + 3 := by omega
          have hi31 : (s : Int) + 3 < (n : Int) := by omega
          have hi40 : (0 : Int) ≤ (s : Int) + 4 := by omega
          have hi41 : (s : Int) + 4 < (n : Int) := by omega
          clear hf hm
          go_wp2_with fail
          go_quiet (fail)
          go_wp2_with fail
          exact ⟨⟨rfl, rfl, rfl, rfl, rfl⟩, ⟨_, rfl⟩, s + 5, f, m, int_ext (by omega), rfl, rfl, by omega, by omega, hf32, hm1, hm2, HDQ'.out⟩
    · intro a5 w5 hCp
      obtain ⟨hF, hdr, s1, f, m, h6, h7, h8, hss1, hs1n, hf32, hm1, hm2, hDQ⟩ := hCp
      have HDQ := Lib.hid hDQ
      clear hDQ
      obtain ⟨f5, rfl, hf5⟩ := open371 a5 hF.size hF.defs
      have e0 := (hf5 0).symm.trans hF.s0
      have e1 := (hf5 1).symm.trans hF.s1
      have e5 := (hf5 5).symm.trans hF.s5
      have e6 := (hf5 6).symm.trans h6
      have e7 := (hf5 7).symm.trans h7
      have e8 := (hf5 8).symm.trans h8
      rw [e0, e1, e5, e6, e7, e8]
      clear hF h6 h7 h8 hf5 e0 e1 e5 e6 e7 e8 hc0
      by_cases hf0 : f = 0
      · subst hf0
        have hno : D N (src.drop s) out = none := by rw [HDQ.out, if_pos (.inl rfl)]
        have Hfin := Lib.hid (show Decoded N src w g (.returned (.int .i64 1)) w5 from ⟨gb_trans hM.gb (drew_gb hdr _), .inl ⟨by rw [← hM.dd]; exact hno, rfl⟩⟩)
        clear hno
        go_wp2_with fail
        go_ret
        exact Hfin.out
      by_cases hdf : d < f
      · have hno : D N (src.drop s) out = none := by rw [HDQ.out, if_pos (.inr hdf)]
        have Hfin := Lib.hid (show Decoded N src w g (.returned (.int .i64 1)) w5 from ⟨gb_trans hM.gb (drew_gb hdr _), .inl ⟨by rw [← hM.dd]; exact hno, rfl⟩⟩)
        clear hno
        go_wp2_with fail
        go_ret
        exact Hfin.out
      by_cases hN1 : N < d + m
      · have hno : D N (src.drop s) out = none := by rw [HDQ.out, if_neg (by omega), if_pos hN1]
        have Hfin := Lib.hid (show Decoded N src w g (.returned (.int .i64 1)) w5 from ⟨gb_trans hM.gb (drew_gb hdr _), .inl ⟨by rw [← hM.dd]; exact hno, rfl⟩⟩)
        clear hno
        go_wp2_with fail
        go_ret
        exact Hfin.out
      obtain ⟨wd, rfl⟩ := hdr
      have hDok := HDQ.out
      rw [if_neg (by omega), if_neg hN1] at hDok
      have HDok := Lib.hid (hDok.symm.trans hM.dd)
      clear hDok
      obtain rfl := HA.out (by omega)
      obtain ⟨df, hdfe⟩ : ∃ df : Nat, d = df + f := ⟨d - f, by omega⟩
      have hdfi : (d : Int) - (f : Int) = (df : Int) := by omega
      have hwr1 : IntKind.i64.wrap (df : Int) = (df : Int) := by rw [IntKind.wrap_i64]; omega
      have hwr2 : IntKind.i64.wrap ((d : Int) + (m : Int)) = (d : Int) + (m : Int) := by rw [IntKind.wrap_i64]; omega
      have hsl1 := slice_mid g 0 N c d (d + m) (by omega) (by omega) (by omega)
      rw [show d + m - d = m from by omega, Nat.zero_add, show ((d + m : Nat) : Int) = (d : Int) + (m : Int) from by omega] at hsl1
      have hsl2 := slice_from g 0 N c df (by omega) (by omega)
      rw [Nat.zero_add] at hsl2
      by_cases hmf : m ≤ f
      · obtain ⟨L, hL1, hL2, hL3⟩ := hM.dst (by omega)
        have hlen : ((out.drop df).take m).length = m := by simp; rw [hM.ol]; omega
        have hbs : Bs (wr.drewN wd).drew g df ((out.drop df).take m) := by
          refine Blk.toBs (L := L) hL2 df (by rw [hlen]; omega) ?_
          rw [hlen]
          have e : (L.drop df).take m = ((L.take out.length).drop df).take m := by
            rw [List.drop_take, List.take_take, hM.ol, Nat.min_eq_left (by omega)]
          rw [e, hL3]
          simp [bc, List.map_take, List.map_drop]
        obtain ⟨w2, hrun, hB2, hg2⟩ := run_copy_blk (w := (wr.drewN wd).drew) (g := g) (o := d) (dl := m) (dc := c - d) (b := g) (off := df) (sl := N - df) (sc := c - df) (L := L) (bs := (out.drop df).take m) hL2 hbs (by rw [hlen]; omega) (by rw [hlen]; omega)
        rw [hlen] at hrun
        have hcp : cp out f m = out ++ (out.drop df).take m := by
          rw [cp_far out f m hmf (by rw [hM.ol]; omega), hM.ol, show d - f = df from by omega]
        have hM2 : DMem g N b off n src w (d + m) s1 (cp out f m) w2 := ⟨by rw [cp_length, hM.ol], by omega, by omega, HDok.out,
          fun _ => by rw [hcp]; exact Dst.more hL1 hL3 (by rw [hlen, hM.ol]; omega) (by rw [hM.ol]; exact hB2), hM.src.grown (gb_trans (gb_drewN wr (wd + 1) _) hg2) hbg, gb_trans hM.gb (gb_trans (gb_drewN wr (wd + 1) _) hg2)⟩
        have HM2 := Lib.hid hM2
        have Hdfe := Lib.hid hdfe
        clear hL1 hL2 hL3 hB2 hg2 hM2 hlen hcp hbs HDok HDQ hM hdfe
        go_wp2_with fail
        go_still_tail 11, (by kernel_rfl)
        change wpList _ _ _ _ _ (wr.drewN wd).drew
        generalize (wr.drewN wd).drew = w4 at hrun ⊢
        go_wp2_with fail
        exact ⟨⟨d + m, s1, _, ⟨rfl, rfl, rfl, rfl, int_ext (by omega)⟩, rfl, HM2.out⟩, by simp [DMu, intOf]; omega⟩
      · have hsl3 : ∀ W, (Instr.slice 22 (.slice (some ⟨g, df, none⟩) (N - df) (c - df)) none (some (.int .i64 (m : Int))) none).run Tryd.prog W = .ok (.slice (some ⟨g, df, none⟩) m (c - df)) W := slice_to g df (N - df) (c - df) m (by omega)
        have hD5 := (hM.dst (by omega)).drewn wd
        have Hdfe := Lib.hid hdfe
        clear hdfe
        go_wp2_with fail
        refine wp_loop (DIn (some ⟨g, 0, none⟩) (some ⟨b, off, none⟩) g N c b off n lc d s1 f m df src out w) (DInMu m) ?_ ?_
        · exact ⟨⟨rfl, rfl, rfl, rfl, rfl⟩, rfl, rfl, rfl, rfl, rfl, 0, by omega, rfl, hD5, hM.src, gb_trans hM.gb (gb_drewN _ _ _)⟩
        clear hwr1 hwr2 hsl1 hsl2 hsl3 hD5
        intro a6 w6 hIn
        obtain ⟨hF, h6, h8, h10, h11, h352, j, hjm, h353, hDj, hSj, hgj⟩ := hIn
        obtain ⟨f6, rfl, hf6⟩ := open371 a6 hF.size hF.defs
        have e0 := (hf6 0).symm.trans hF.s0
        have e1 := (hf6 1).symm.trans hF.s1
        have e5 := (hf6 5).symm.trans hF.s5
        have e6 := (hf6 6).symm.trans h6
        have e8 := (hf6 8).symm.trans h8
        have e10 := (hf6 10).symm.trans h10
        have e11 := (hf6 11).symm.trans h11
        have e352 := (hf6 352).symm.trans h352
        have e353 := (hf6 353).symm.trans h353
        rw [e0, e1, e5, e6, e8, e10, e11, e352, e353]
        clear hF h6 h8 h10 h11 h352 h353 hf6 e0 e1 e5 e6 e8 e10 e11 e352 e353
        have hol := hM.ol
        by_cases hjl : j < m
        · have hcj : (cp out f j).length = d + j := by rw [cp_length, hol]
          have hld := hDj.at (df + j) (by have := Hdfe.out; omega) (by omega)
          obtain ⟨x0, hx0⟩ := hDj.cell_some (d + j) (by omega)
          have hfz := hDj.free (d + j)
          have hD7 : Dst (w6.setCell ⟨g, d + j, none⟩ (.int .u8 (((cp out f j).getD (df + j) 0).toNat : Int))) g N (cp out f (j + 1)) := by
            rw [cp_succ, hol, show d + j - f = df + j by have := Hdfe.out; omega]
            exact hDj.push hcj (by omega) _
          have hS7 : Bs (w6.setCell ⟨g, d + j, none⟩ (.int .u8 (((cp out f j).getD (df + j) 0).toNat : Int))) b off src := hSj.set_other (a := ⟨g, d + j, none⟩) hbg _
          have hg7 : w.grownBy (w6.setCell ⟨g, d + j, none⟩ (.int .u8 (((cp out f j).getD (df + j) 0).toNat : Int))) (some g) := gb_trans hgj (gb_set _ _ _ _)
          generalize ((cp out f j).getD (df + j) 0).toNat = xv at hld hD7 hS7 hg7
          have HD7 := Lib.hid hD7
          have HS7 := Lib.hid hS7
          have Hg7 := Lib.hid hg7
          have Hol := Lib.hid hol
          clear hD7 hS7 hg7 hcj hM hol hDj hSj hgj HDQ HDok
          go_wp2_with fail
          exact ⟨⟨⟨rfl, rfl, rfl, rfl, rfl⟩, rfl, rfl, rfl, rfl, rfl, j + 1, by omega, int_ext (by omega), HD7.out, HS7.out, Hg7.out⟩, by simp [DInMu, intOf]; omega⟩
        · obtain rfl : j = m := by omega
          have hM2 : DMem g N b off n src w (d + j) s1 (cp out f j) w6 := ⟨by rw [cp_length, hol], by omega, by omega, HDok.out, fun _ => hDj, hSj, hgj⟩
          have HM2 := Lib.hid hM2
          clear hM2 hM hol hDj hSj hgj HDQ HDok
          go_wp2_with fail
          exact ⟨⟨d + j, s1, _, ⟨rfl, rfl, rfl, rfl, int_ext (by omega)⟩, rfl, HM2.out⟩, by simp [DMu, intOf]; omega⟩
  · obtain rfl : s = n := by omega
    have hDn := hM.dd
    rw [List.drop_eq_nil_of_le (by rw [Hl.out]; exact Nat.le_refl _), D_nil, hM.ol] at hDn
    by_cases hdn : d = N
    · rw [if_pos hdn] at hDn
      have hfin : Decoded N src w g (.returned (.int .i64 0)) wr := ⟨hM.gb, .inr ⟨out, hDn.symm, rfl, fun hp => (hM.dst hp).full (by rw [hM.ol]; exact hdn)⟩⟩
      have Hfin := Lib.hid hfin
      have hb1 : ((d : Int) == (N : Int)) = true := by simp; omega
      have hb2 : ((d : Int) != (N : Int)) = false := by simp; omega
      clear hfin hDn hdn
      go_wp2_with fail
      go_ret
      exact Hfin.out
    · rw [if_neg hdn] at hDn
      have hfin : Decoded N src w g (.returned (.int .i64 1)) wr := ⟨hM.gb, .inl ⟨hDn.symm, rfl⟩⟩
      have Hfin := Lib.hid hfin
      have hb1 : ((d : Int) == (N : Int)) = false := by simp; omega
      have hb2 : ((d : Int) != (N : Int)) = true := by simp; omega
      clear hfin hDn hdn
      go_wp2_with fail
      go_ret
      exact Hfin.out
end Go.Proofs.YtfnejblenapddaaDoor
