/- impl.DecodedLen and impl.MaxEncodedLen by their contract. -/
import Derived.Test.YtfnejblenapddaaDoorLawA
set_option linter.unusedVariables false
namespace Go.Proofs.YtfnejblenapddaaDoor
open Go Go.RowKit

theorem size42 : (Tryd.prog.info? 42).map (·.size) = some 2 := by kernel_rfl

set_option maxHeartbeats 800000 in
theorem implMax_any (n : Nat) (w : World) (hn : n ≤ 2147483647) : Calls Tryd.prog 24 #[.int .i64 (n : Int)] w fun e w' => e = .returned (.int .i64 ((32 + n + n / 6 : Nat) : Int)) ∧ w' = w := by
  have h := maxEnc_any n w hn
  generalize 32 + n + n / 6 = m at *
  have H := Lib.hid h
  clear h
  go_enter Tryd.func24, Tryd.ntmps24
  go_wp2_with fail
  refine (H.out).mono ?_
  rintro e w1 ⟨rfl, rfl⟩
  go_wp2_with fail
  go_ret
  exact ⟨rfl, rfl⟩

set_option maxHeartbeats 800000 in
theorem snLen_of (A : Option Addr) (c n x s : Nat) (w : World) (hd : Calls Tryd.prog 37 #[.slice A n c] w fun e w' => Drew w w' ∧ e = .returned (.tuple #[.int .i64 (x : Int), .int .i64 (s : Int), .nilIface])) :
    Calls Tryd.prog 34 #[.slice A n c] w fun e w' => Drew w w' ∧ e = .returned (.tuple #[.int .i64 (x : Int), .nilIface]) := by
  have Hd := Lib.hid hd
  clear hd
  go_enter Tryd.func34, Tryd.ntmps34
  go_wp2_with fail
  refine (Hd.out).mono ?_
  rintro e w1 ⟨hdr, rfl⟩
  have Hdr := Lib.hid hdr
  clear hdr Hd
  go_wp2_with fail
  go_ret2
  exact ⟨Hdr.out, rfl⟩

set_option maxHeartbeats 1600000 in
theorem implLen_any (v : Value) (h body : List UInt8) (x : Nat) (w : World) (hh : Hdr h x) (hl : h.length ≤ 9) (hx : x ≤ 4294967295) (hR : Rd w v (h ++ body)) (hn : (h ++ body).length ≤ 1099511627776) :
    Calls Tryd.prog 23 #[v] w fun e w' => e = .returned (.agg #[.int .i64 (x : Int), .int .i64 0]) ∧ Below w.heap.size w w' := by
  have hb0 := (Below.refl w.heap.size w).alloc (Nat.le_refl _) (.cells #[.int .i64 0, .int .i64 0] 42)
  have hcl := clone_any v (h ++ body) (w.alloc (.cells #[.int .i64 0, .int .i64 0] 42)) (hR.below hb0) hn
  have Hcl := Lib.hid hcl
  clear hcl hR
  go_enter Tryd.func23, Tryd.ntmps23
  go_wp2_with fail
  refine (Hcl.out).mono ?_
  rintro e w1 ⟨v1, rfl, hown, hb1⟩
  have hR1 := hown.rd
  obtain ⟨A, c, rfl, h2, h3, h4, h5⟩ := hR1
  have hp := hh.pos
  have hj : h.length - 1 + 1 = h.length := by omega
  have hlen : (h ++ body).length = h.length + body.length := List.length_append
  have hval : v7 ((h ++ body).take (h.length - 1 + 1)) = x := by rw [hj, List.take_left' rfl, hh.val]
  have hd := decodedLen_any A c (h ++ body).length (h.length - 1) (h ++ body) w1 rfl ⟨A, c, rfl, h2, h3, h4, h5⟩ hn (by omega) (by omega)
    (fun i hi => by rw [bt_append_left _ _ _ (by omega)]; exact hh.pre i (by omega)) (by rw [bt_append_left _ _ _ (by omega)]; exact hh.last) (by rw [hval]; exact hx)
  rw [hval, hj] at hd
  have hs := snLen_of A c _ x h.length w1 hd
  have Hs := Lib.hid hs
  have hblk1 : w1.heap[w.heap.size]? = some (.cells #[.int .i64 0, .int .i64 0] 42 (0, 0)) := by rw [hb1.block w.heap.size (by simp), heap_alloc_new]
  have HB1 := Lib.hid (hb0.trans (hb1.mono hb0.size))
  have Hblk1 := Lib.hid hblk1
  generalize (h ++ body).length = n at *
  clear hd hs hown hb1 hblk1 h2 h3 h4 h5 hval hj hlen hp Hcl hb0
  go_wp2_with fail
  refine (Hs.out).mono ?_
  rintro e w2 ⟨hdr, rfl⟩
  have hblk2 : w2.heap[w.heap.size]? = some (.cells #[.int .i64 0, .int .i64 0] 42 (0, 0)) := by obtain ⟨m, rfl⟩ := hdr; exact Hblk1.out
  have hc0 : w2.cell? ⟨w.heap.size, 0, none⟩ = some (.int .i64 0) := cell_of_row _ _ 0 _ _ _ hblk2
  have hc1 : w2.cell? ⟨w.heap.size, 1, none⟩ = some (.int .i64 0) := cell_of_row _ _ 1 _ _ _ hblk2
  have hf0 := frozen_of_row _ _ 0 _ _ hblk2
  have hf1 := frozen_of_row _ _ 1 _ _ hblk2
  have Hblk2 := Lib.hid hblk2
  have HB2 := Lib.hid (HB1.out.trans (hdr.below w.heap.size))
  clear hblk2 hdr Hs
  go_wp2_with fail
  have e1 := heap_setCell_same w2 w.heap.size 0 _ 42 (.int .i64 (x : Int)) Hblk2.out
  have e2 := heap_setCell_same _ w.heap.size 1 _ 42 (.int .i64 0) e1
  refine bodyPost_ret (results_cell_row rfl _ _ w.heap.size 42 #[.int .i64 (x : Int), .int .i64 0] (0, 0) _ rfl e2 Tryd.underlying42 rfl size42) rfl ?_
  exact ⟨rfl, (HB2.out.setCell (p := ⟨w.heap.size, 0, none⟩) (Nat.le_refl _) _).setCell (p := ⟨w.heap.size, 1, none⟩) (Nat.le_refl _) _⟩
end Go.Proofs.YtfnejblenapddaaDoor
