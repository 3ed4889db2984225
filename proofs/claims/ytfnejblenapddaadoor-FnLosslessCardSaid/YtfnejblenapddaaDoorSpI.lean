/- The description's little and item. -/
import Derived.Test.YtfnejblenapddaaDoorSpH
set_option linter.unusedVariables false
namespace Go.Proofs.YtfnejblenapddaaDoor
open Go Go.RowKit

theorem le_lt (l : List UInt8) : le l < 256 ^ l.length := by
  induction l with
  | nil => simp [le]
  | cons x r ih =>
    simp only [le, List.length_cons, Nat.pow_succ]
    have := x.toNat_lt
    omega

set_option maxHeartbeats 1600000 in
theorem little_any (A : Option Addr) (c n k : Nat) (bs : List UInt8) (w : World) (hl : bs.length = n) (h1 : Rd w (.slice A n c) bs) (hk : k ≤ n) (hk4 : k ≤ 4) (hk0 : 0 < k) :
    Calls Tryd.prog 44 #[.slice A n c, .int .i64 (k : Int)] w fun e w' => w' = w ∧ e = .returned (.int .i64 ((le (bs.take k) : Nat) : Int)) := by
  have h1' : ∃ b off, A = some ⟨b, off, none⟩ ∧ Bs w b off bs := by
    obtain ⟨A, c, he, _, _, _, h⟩ := h1
    simp only [Value.slice.injEq] at he
    obtain ⟨rfl, _, rfl⟩ := he
    exact h (by omega)
  obtain ⟨b1, o1, rfl, hB1⟩ := h1'
  have Hl := Lib.hid hl
  have HB1 := Lib.hid hB1
  have hnk : ((n : Int) < (k : Int)) = False := by simp; omega
  clear hl h1 hB1
  go_enter Tryd.func44, Tryd.ntmps44
  go_wp2_with fail
  go_loopw [6, 5] (fun vi va wr => ∃ t : Nat, vi = .int .i64 ((t : Int) - 1) ∧ va = .int .i64 ((le ((bs.drop t).take (k - t)) : Nat) : Int) ∧ t ≤ k ∧ wr = w) (fun vi _ _ => (intOf vi + 1).toNat)
  case atStart => exact ⟨k, by first | rfl | exact int_ext (by omega), by rw [Nat.sub_self, List.take_zero]; rfl, Nat.le_refl _, rfl⟩
  case round =>
    obtain ⟨t, rfl, rfl, ht, rfl⟩ := hrel
    by_cases h0 : 0 < t
    · obtain ⟨s, rfl⟩ : ∃ s, t = s + 1 := ⟨t - 1, by omega⟩
      have hc1 : wr.cell? ⟨b1, o1 + s, none⟩ = some (.int .u8 ((bt bs s : Nat) : Int)) := HB1.out.bt s (by rw [Hl.out]; omega)
      have hlt := le_take bs (k - (s + 1)) s (by rw [Hl.out]; omega)
      rw [show k - (s + 1) + 1 = k - s from by omega] at hlt
      have hb := le_lt ((bs.drop (s + 1)).take (k - (s + 1)))
      have hb2 : le ((bs.drop (s + 1)).take (k - (s + 1))) < 256 ^ 4 := Nat.lt_of_lt_of_le hb (Nat.pow_le_pow_right (by decide) (by rw [List.length_take]; omega))
      rw [show (256 : Nat) ^ 4 = 4294967296 from rfl] at hb2
      have hx := bt_lt bs s
      have Hlt := Lib.hid hlt
      clear hlt hb
      generalize le ((bs.drop (s + 1)).take (k - (s + 1))) = y at *
      generalize bt bs s = x at *
      have hi : (((s + 1 : Nat) : Int) - 1) = (s : Int) := by omega
      rw [hi]
      have hs0 : (0 : Int) ≤ (s : Int) := by omega
      have hs1 : (s : Int) < (n : Int) := by omega
      clear hi
      go_wp2_with fail
      case roundEnd => exact ⟨⟨s, rfl, int_ext (by rw [Hlt.out]; omega), by omega, trivial⟩, by simp only [intOf]; omega⟩
    · obtain rfl : t = 0 := by omega
      go_wp2_with fail
      go_ret
      exact ⟨rfl, ret_ext (by rw [Nat.sub_zero, List.drop_zero])⟩

theorem little_at (j : Int) (A : Option Addr) (c n k : Nat) (bs : List UInt8) (w : World) (hj : j = (k : Int)) (hl : bs.length = n) (h1 : Rd w (.slice A n c) bs) (hk : k ≤ n) (hk4 : k ≤ 4) (hk0 : 0 < k) :
    Calls Tryd.prog 44 #[.slice A n c, .int .i64 j] w fun e w' => w' = w ∧ e = .returned (.int .i64 ((le (bs.take k) : Nat) : Int)) := by
  subst hj
  exact little_any A c n k bs w hl h1 hk hk4 hk0

theorem results_tmp4 {fn : Func} {t u v x : Tmp} (h : fn.results = #[.tmp t, .tmp u, .tmp v, .tmp x]) (tmps : Array Value) (P : Program) (w : World) :
    (results fn tmps).run P w = .ok (.tuple #[tmps.getD t undef, tmps.getD u undef, tmps.getD v undef, tmps.getD x undef]) w := by
  simp [results, h]
theorem quad_ext {x y : Bool} {a b c a' b' c' : Int} (h0 : x = y) (h1 : a = a') (h2 : b = b') (h3 : c = c') : (Ending.returned (.tuple #[.bool x, .int .i64 a, .int .i64 b, .int .i64 c])) = .returned (.tuple #[.bool y, .int .i64 a', .int .i64 b', .int .i64 c']) := by rw [h0, h1, h2, h3]

/-- What item tells. -/
def itemEnd (b : UInt8) (r : List UInt8) : Ending :=
  .returned (.tuple #[.bool (decide (b.toNat % 4 ≠ 0)), .int .i64 ((eln b (r.take (ext b)) : Nat) : Int), .int .i64 (((if b.toNat % 4 = 0 then 0 else far b (r.take (ext b))) : Nat) : Int), .int .i64 ((ext b + 1 : Nat) : Int)])

set_option maxHeartbeats 3200000 in
theorem item_any (b1 o1 n c : Nat) (b : UInt8) (r : List UInt8) (w : World) (hl : (b :: r).length = n) (hB : Bs w b1 o1 (b :: r)) (hnc : n ≤ c) (hc : c ≤ 9223372036854775807) (hext : ext b ≤ r.length) :
    Calls Tryd.prog 33 #[.slice (some ⟨b1, o1, none⟩) n c] w fun e w' => w' = w ∧ e = itemEnd b r := by
  have hc0 : w.cell? ⟨b1, o1, none⟩ = some (.int .u8 (b.toNat : Int)) := hB 0 (by simp)
  have hrl : n = r.length + 1 := by rw [← hl]; simp
  have hBr : Bs w b1 (o1 + 1) r := hB.drop 1
  have hsl : ∀ k, 0 < k → ext b = k → ∀ W, (Instr.slice 22 (.slice (some ⟨b1, o1, none⟩) n c) (some (.int .i64 1)) none none).run Tryd.prog W = .ok (.slice (some ⟨b1, o1 + 1, none⟩) (n - 1) (c - 1)) W := fun k hk hek => slice_from b1 o1 n c 1 (by omega) (by omega)
  have hlit : ∀ (j : Int) (k : Nat), j = (k : Int) → ext b = k → 0 < k → k ≤ 4 → Calls Tryd.prog 44 #[.slice (some ⟨b1, o1 + 1, none⟩) (n - 1) (c - 1), .int .i64 j] w fun e w' => w' = w ∧ e = .returned (.int .i64 ((le (r.take k) : Nat) : Int)) := fun j k hj hek h0 h4 =>
    little_at j _ (c - 1) (n - 1) k r w hj (by omega) ⟨_, c - 1, by rw [show r.length = n - 1 from by omega], by omega, by omega, (fun h => by cases h), fun _ => ⟨b1, o1 + 1, rfl, hBr⟩⟩ (by omega) h4 h0
  have hle : ∀ k, le (r.take k) < 256 ^ k := fun k => Nat.lt_of_lt_of_le (le_lt _) (Nat.pow_le_pow_right (by decide) (by rw [List.length_take]; omega))
  obtain ⟨v, hv⟩ : ∃ v, b.toNat = v := ⟨_, rfl⟩
  have hv256 : v < 256 := by rw [← hv]; exact b.toNat_lt
  obtain ⟨q, hq⟩ : ∃ q, v / 4 = q := ⟨_, rfl⟩
  have hqe : (v : Int) / 4 = (q : Int) := by omega
  rw [hv] at hc0
  have hit : itemEnd b r = .returned (.tuple #[.bool (decide (v % 4 ≠ 0)), .int .i64 ((eln b (r.take (ext b)) : Nat) : Int), .int .i64 (((if v % 4 = 0 then 0 else far b (r.take (ext b))) : Nat) : Int), .int .i64 ((ext b + 1 : Nat) : Int)]) := by unfold itemEnd; rw [hv]
  obtain ⟨R, hR⟩ : ∃ R, itemEnd b r = R := ⟨_, rfl⟩
  rw [hR]
  rw [hit] at hR
  have HR := Lib.hid hR
  have Hv := Lib.hid hv
  have Hq := Lib.hid hq
  have Hlit := Lib.hid hlit
  have Hle := Lib.hid hle
  have Hsl := Lib.hid hsl
  have hn0 : (0 : Int) < (n : Int) := by omega
  clear hit hv hB hBr hl hlit hle hsl hq hext hrl hR
  rcases (by omega : v % 4 = 0 ∨ v % 4 = 1 ∨ v % 4 = 2 ∨ v % 4 = 3) with ht | ht | ht | ht
  · have hte : (v : Int) % 4 = 0 := by omega
    rcases (by omega : q < 60 ∨ q = 60 ∨ q = 61 ∨ q = 62 ∨ q = 63) with hq60 | hq60 | hq60 | hq60 | hq60
    · have he : ext b = 0 := by unfold ext; rw [Hv.out, if_pos ht, Hq.out, if_pos hq60]
      have hn : ∀ x, eln b x = q + 1 := fun x => by unfold eln; rw [Hv.out, if_pos ht, Hq.out, if_pos hq60]
      have He := Lib.hid he
      have Hn := Lib.hid hn
      have Ht := Lib.hid ht
      clear he hn ht
      go_enter Tryd.func33, Tryd.ntmps33
      go_wp2_with fail
      refine bodyPost_ret (results_tmp4 rfl _ _ _) rfl ?_
      refine ⟨rfl, ?_⟩
      rw [← HR.out]
      exact quad_ext (by simp [Ht.out]) (by rw [Hn.out]; omega) (by rw [if_pos Ht.out]; rfl) (by rw [He.out]; rfl)
    · have he : ext b = 1 := by unfold ext; rw [Hv.out, if_pos ht, Hq.out, if_neg (by omega)]; omega
      have hn : ∀ x, eln b x = le x + 1 := fun x => by unfold eln; rw [Hv.out, if_pos ht, Hq.out, if_neg (by omega)]
      subst hq60
      have hsl := Hsl.out 1 (by omega) he
      have hcall := Hlit.out 1 1 rfl he (by omega) (by omega)
      have hlt := Hle.out 1
      have hle0 : le (r.take 1) < 4294967296 := Nat.lt_of_lt_of_le hlt (by decide)
      have Hcall := Lib.hid hcall
      have He := Lib.hid he
      have Hn := Lib.hid hn
      have Ht := Lib.hid ht
      obtain ⟨z, hz⟩ : ∃ z, le (r.take 1) = z := ⟨_, rfl⟩
      rw [hz] at Hcall hle0
      have Hz := Lib.hid hz
      clear he hn ht hcall hlt hz
      go_enter Tryd.func33, Tryd.ntmps33
      go_wp2_with fail
      refine (Hcall.out).mono ?_
      rintro e w1 ⟨rfl, rfl⟩
      clear Hcall
      go_wp2_with fail
      refine bodyPost_ret (results_tmp4 rfl _ _ _) rfl ?_
      refine ⟨rfl, ?_⟩
      rw [← HR.out]
      exact quad_ext (by simp [Ht.out]) (by rw [Hn.out, He.out, Hz.out]; omega) (by rw [if_pos Ht.out]; rfl) (by rw [He.out]; rfl)
    · have he : ext b = 2 := by unfold ext; rw [Hv.out, if_pos ht, Hq.out, if_neg (by omega)]; omega
      have hn : ∀ x, eln b x = le x + 1 := fun x => by unfold eln; rw [Hv.out, if_pos ht, Hq.out, if_neg (by omega)]
      subst hq60
      have hsl := Hsl.out 2 (by omega) he
      have hcall := Hlit.out 2 2 rfl he (by omega) (by omega)
      have hlt := Hle.out 2
      have hle0 : le (r.take 2) < 4294967296 := Nat.lt_of_lt_of_le hlt (by decide)
      have Hcall := Lib.hid hcall
      have He := Lib.hid he
      have Hn := Lib.hid hn
      have Ht := Lib.hid ht
      obtain ⟨z, hz⟩ : ∃ z, le (r.take 2) = z := ⟨_, rfl⟩
      rw [hz] at Hcall hle0
      have Hz := Lib.hid hz
      clear he hn ht hcall hlt hz
      go_enter Tryd.func33, Tryd.ntmps33
      go_wp2_with fail
      refine (Hcall.out).mono ?_
      rintro e w1 ⟨rfl, rfl⟩
      clear Hcall
      go_wp2_with fail
      refine bodyPost_ret (results_tmp4 rfl _ _ _) rfl ?_
      refine ⟨rfl, ?_⟩
      rw [← HR.out]
      exact quad_ext (by simp [Ht.out]) (by rw [Hn.out, He.out, Hz.out]; omega) (by rw [if_pos Ht.out]; rfl) (by rw [He.out]; rfl)
    · have he : ext b = 3 := by unfold ext; rw [Hv.out, if_pos ht, Hq.out, if_neg (by omega)]; omega
      have hn : ∀ x, eln b x = le x + 1 := fun x => by unfold eln; rw [Hv.out, if_pos ht, Hq.out, if_neg (by omega)]
      subst hq60
      have hsl := Hsl.out 3 (by omega) he
      have hcall := Hlit.out 3 3 rfl he (by omega) (by omega)
      have hlt := Hle.out 3
      have hle0 : le (r.take 3) < 4294967296 := Nat.lt_of_lt_of_le hlt (by decide)
      have Hcall := Lib.hid hcall
      have He := Lib.hid he
      have Hn := Lib.hid hn
      have Ht := Lib.hid ht
      obtain ⟨z, hz⟩ : ∃ z, le (r.take 3) = z := ⟨_, rfl⟩
      rw [hz] at Hcall hle0
      have Hz := Lib.hid hz
      clear he hn ht hcall hlt hz
      go_enter Tryd.func33, Tryd.ntmps33
      go_wp2_with fail
      refine (Hcall.out).mono ?_
      rintro e w1 ⟨rfl, rfl⟩
      clear Hcall
      go_wp2_with fail
      refine bodyPost_ret (results_tmp4 rfl _ _ _) rfl ?_
      refine ⟨rfl, ?_⟩
      rw [← HR.out]
      exact quad_ext (by simp [Ht.out]) (by rw [Hn.out, He.out, Hz.out]; omega) (by rw [if_pos Ht.out]; rfl) (by rw [He.out]; rfl)
    · have he : ext b = 4 := by unfold ext; rw [Hv.out, if_pos ht, Hq.out, if_neg (by omega)]; omega
      have hn : ∀ x, eln b x = le x + 1 := fun x => by unfold eln; rw [Hv.out, if_pos ht, Hq.out, if_neg (by omega)]
      subst hq60
      have hsl := Hsl.out 4 (by omega) he
      have hcall := Hlit.out 4 4 rfl he (by omega) (by omega)
      have hlt := Hle.out 4
      have hle0 : le (r.take 4) < 4294967296 := Nat.lt_of_lt_of_le hlt (by decide)
      have Hcall := Lib.hid hcall
      have He := Lib.hid he
      have Hn := Lib.hid hn
      have Ht := Lib.hid ht
      obtain ⟨z, hz⟩ : ∃ z, le (r.take 4) = z := ⟨_, rfl⟩
      rw [hz] at Hcall hle0
      have Hz := Lib.hid hz
      clear he hn ht hcall hlt hz
      go_enter Tryd.func33, Tryd.ntmps33
      go_wp2_with fail
      refine (Hcall.out).mono ?_
      rintro e w1 ⟨rfl, rfl⟩
      clear Hcall
      go_wp2_with fail
      refine bodyPost_ret (results_tmp4 rfl _ _ _) rfl ?_
      refine ⟨rfl, ?_⟩
      rw [← HR.out]
      exact quad_ext (by simp [Ht.out]) (by rw [Hn.out, He.out, Hz.out]; omega) (by rw [if_pos Ht.out]; rfl) (by rw [He.out]; rfl)
  · have hte : (v : Int) % 4 = 1 := by omega
    have he : ext b = 1 := by unfold ext; rw [Hv.out, if_neg (by omega), if_pos ht]
    have hn : ∀ x, eln b x = q % 8 + 4 := fun x => by unfold eln; rw [Hv.out, if_neg (by omega), if_pos ht, Hq.out]
    have hfa : ∀ x, far b x = q / 8 * 256 + le x := fun x => by unfold far; rw [Hv.out, if_pos ht, Hq.out]
    have hsl := Hsl.out 1 (by omega) he
    have hcall := Hlit.out 1 1 rfl he (by omega) (by omega)
    have hlt := Hle.out 1
    have hle0 : le (r.take 1) < 256 := hlt
    have hq64 : q < 64 := by have := Hq.out; omega
    have Hcall := Lib.hid hcall
    have He := Lib.hid he
    have Hn := Lib.hid hn
    have Hf := Lib.hid hfa
    have Ht := Lib.hid ht
    obtain ⟨z, hz⟩ : ∃ z, le (r.take 1) = z := ⟨_, rfl⟩
    rw [hz] at Hcall hle0
    have Hz := Lib.hid hz
    clear he hn ht hcall hlt hz hfa
    go_enter Tryd.func33, Tryd.ntmps33
    go_wp2_with fail
    refine (Hcall.out).mono ?_
    rintro e w1 ⟨rfl, rfl⟩
    clear Hcall
    go_wp2_with fail
    refine bodyPost_ret (results_tmp4 rfl _ _ _) rfl ?_
    refine ⟨rfl, ?_⟩
    rw [← HR.out]
    exact quad_ext (by simp [Ht.out]) (by rw [Hn.out]; omega) (by rw [if_neg (by rw [Ht.out]; decide), He.out, Hf.out, Hz.out]; omega) (by rw [He.out]; rfl)
  · have hte : (v : Int) % 4 = 2 := by omega
    have he : ext b = 2 := by unfold ext; rw [Hv.out, if_neg (by omega), if_neg (by omega), if_pos ht]
    have hn : ∀ x, eln b x = q + 1 := fun x => by unfold eln; rw [Hv.out, if_neg (by omega), if_neg (by omega), Hq.out]
    have hfa : ∀ x, far b x = le x := fun x => by unfold far; rw [Hv.out, if_neg (by omega)]
    have hsl := Hsl.out 2 (by omega) he
    have hcall := Hlit.out 2 2 rfl he (by omega) (by omega)
    have hlt := Hle.out 2
    have hle0 : le (r.take 2) < 4294967296 := Nat.lt_of_lt_of_le hlt (by decide)
    have hq64 : q < 64 := by have := Hq.out; omega
    have Hcall := Lib.hid hcall
    have He := Lib.hid he
    have Hn := Lib.hid hn
    have Hf := Lib.hid hfa
    have Ht := Lib.hid ht
    obtain ⟨z, hz⟩ : ∃ z, le (r.take 2) = z := ⟨_, rfl⟩
    rw [hz] at Hcall hle0
    have Hz := Lib.hid hz
    clear he hn ht hcall hlt hz hfa
    go_enter Tryd.func33, Tryd.ntmps33
    go_wp2_with fail
    refine (Hcall.out).mono ?_
    rintro e w1 ⟨rfl, rfl⟩
    clear Hcall
    go_wp2_with fail
    refine bodyPost_ret (results_tmp4 rfl _ _ _) rfl ?_
    refine ⟨rfl, ?_⟩
    rw [← HR.out]
    exact quad_ext (by simp [Ht.out]) (by rw [Hn.out]; omega) (by rw [if_neg (by rw [Ht.out]; decide), He.out, Hf.out, Hz.out]) (by rw [He.out]; rfl)
  · have hte : (v : Int) % 4 = 3 := by omega
    have he : ext b = 4 := by unfold ext; rw [Hv.out, if_neg (by omega), if_neg (by omega), if_neg (by omega)]
    have hn : ∀ x, eln b x = q + 1 := fun x => by unfold eln; rw [Hv.out, if_neg (by omega), if_neg (by omega), Hq.out]
    have hfa : ∀ x, far b x = le x := fun x => by unfold far; rw [Hv.out, if_neg (by omega)]
    have hsl := Hsl.out 4 (by omega) he
    have hcall := Hlit.out 4 4 rfl he (by omega) (by omega)
    have hlt := Hle.out 4
    have hle0 : le (r.take 4) < 4294967296 := Nat.lt_of_lt_of_le hlt (by decide)
    have hq64 : q < 64 := by have := Hq.out; omega
    have Hcall := Lib.hid hcall
    have He := Lib.hid he
    have Hn := Lib.hid hn
    have Hf := Lib.hid hfa
    have Ht := Lib.hid ht
    obtain ⟨z, hz⟩ : ∃ z, le (r.take 4) = z := ⟨_, rfl⟩
    rw [hz] at Hcall hle0
    have Hz := Lib.hid hz
    clear he hn ht hcall hlt hz hfa
    go_enter Tryd.func33, Tryd.ntmps33
    go_wp2_with fail
    refine (Hcall.out).mono ?_
    rintro e w1 ⟨rfl, rfl⟩
    clear Hcall
    go_wp2_with fail
    refine bodyPost_ret (results_tmp4 rfl _ _ _) rfl ?_
    refine ⟨rfl, ?_⟩
    rw [← HR.out]
    exact quad_ext (by simp [Ht.out]) (by rw [Hn.out]; omega) (by rw [if_neg (by rw [Ht.out]; decide), He.out, Hf.out, Hz.out]) (by rw [He.out]; rfl)
end Go.Proofs.YtfnejblenapddaaDoor
