/- What encodeBlock writes: elements that say the text that it is given. -/
import Derived.Test.YtfnejblenapddaaDoorEncM
import Derived.Deep.QuietTactic
import Derived.BigQuiet
import Derived.ScopeJumps
import Derived.Deep.RegionHeld3
set_option linter.unusedVariables false
namespace Go.Proofs.YtfnejblenapddaaDoor
open Go Go.RowKit

theorem ev_more_lit {E bs : List UInt8} {ne q : Nat} (h : Ev E [] (bs.take ne)) (h1 : ne < q) (h2 : q ≤ bs.length) (h3 : bs.length ≤ 65536) :
    Ev (E ++ (litH (q - ne) ++ (bs.drop ne).take (q - ne))) [] (bs.take q) := by
  have hl : ((bs.drop ne).take (q - ne)).length = q - ne := by simp; omega
  have := ev_lit ((bs.drop ne).take (q - ne)) (bs.take ne) (by omega) (by omega)
  rw [hl] at this
  have e : bs.take ne ++ (bs.drop ne).take (q - ne) = bs.take q := by
    have := List.take_add (l := bs) (i := ne) (j := q - ne)
    rw [show ne + (q - ne) = q from by omega] at this
    exact this.symm
  rw [e] at this
  exact h.append this

theorem ev_more_cp {E B bs : List UInt8} {base s f : Nat} (h : Ev E [] (bs.take base)) (hB : SaysCp B f (s - base)) (h0 : 0 < f) (hf : f ≤ base) (hs : base ≤ s) (hl : s ≤ bs.length)
    (hm : ∀ i, i < s - base → bs[base - f + i]? = bs[base + i]?) : Ev (E ++ B) [] (bs.take s) := by
  have h1 := hB (bs.take base) (by simp; omega)
  rw [cp_match bs base f (s - base) hf h0 (by omega) hm, show base + (s - base) = s from by omega] at h1
  exact h.append h1

theorem match_more {bs : List UInt8} {e i s x : Nat} (h : ∀ t, t < e - s → bs[x + t]? = bs[s + t]?) (hi : i + s = e + x) (heq : at' bs i = at' bs e) (hs : s ≤ e) (he : e < bs.length) (hie : i < e) :
    ∀ t, t < e + 1 - s → bs[x + t]? = bs[s + t]? := by
  intro t ht
  by_cases hlt : t < e - s
  · exact h t hlt
  · have h1 : x + t = i := by omega
    have h2 : s + t = e := by omega
    rw [h1, h2, List.getElem?_eq_getElem (by omega), List.getElem?_eq_getElem he]
    unfold at' at heq
    simp only [List.getD_eq_getElem?_getD, List.getElem?_eq_getElem (show i < bs.length by omega), List.getElem?_eq_getElem he, Option.getD_some] at heq
    congr 1
    exact UInt8.toNat_inj.1 (by omega)

/-- What encodeBlock leaves. -/
def Encoded (w : World) (g o : Nat) (L : List Value) (bs : List UInt8) (e : Ending) (w' : World) : Prop :=
  ∃ E : List UInt8, e = .returned (.int .i64 (E.length : Int)) ∧ Ev E [] bs ∧ E.length ≤ bs.length + bs.length / 65 + 3 ∧ Wrote w w' g (splice L o (bc E))

set_option maxRecDepth 100000 in
/-- Where the walk jumps out: all but a last literal is written. -/
def Jump (w : World) (g o n c b off m lc : Nat) (L : List Value) (bs : List UInt8) (a' : Act) (w' : World) : Prop :=
  ∃ d ne : Nat, (∃ s, St w w' g o w.heap.size b off L bs d ne s) ∧ d ≤ ne + ne / 65 ∧ ne ≤ m ∧
    ∃ u2 u3 u5 u6 u7 u8 u10 u11 u12 u13 u14 u15 u16 u17 u18 u19 u20 u21 u22 u23 u24 u25 u26 u27 u28 u29 u30 u31 u32 u33 u34 u35 u36 u37 u38 u39 u40 u41 u42 u43 u44 u45 u46 u47 u48 u49 u50 u51 u52 u53 u54 u55 u56 u57 u58 u59 u60 u61 u62 u63 u64 u65 u66 u67 u68 u69 u70 u71 u72 u73 u74 u75 u76 u77 u78 u79 u80 u81 u82 u83 u84 u85 u86 u87 u88 u89 u90 u91 u92 u93 u94 u95 u96 u97 u98 u99 u100 u101 u102 u103 u104 u105 u106 u107 u108 u109 u110 u111 u112 u113 u114 u115 u116 u117 u118 u119 u120 u121 u122 u123 u124 u125 u126 u127 u128 u129 u130 u131 u132 u133 u134 u135 u136 u137 u138 u139 u140 u141 u142 u143 u144 u145 u146 u147 u148 u149 u150 u151 u152 u153 u154 u155 u156 u157 u158 u159 u160 u161 u162 u163 u164 u165 u166 u167 u168 u169 u170 u171 u172 u173 u174 u175 u176 u177 u178 u179 u180 u181 u182 u183 : Value, a' = ⟨#[.slice (some ⟨g, o, none⟩) n c, .slice (some ⟨b, off, none⟩) m lc, u2, u3, .int .i64 (d : Int), u5, u6, u7, u8, .int .i64 (ne : Int), u10, u11, u12, u13, u14, u15, u16, u17, u18, u19, u20, u21, u22, u23, u24, u25, u26, u27, u28, u29, u30, u31, u32, u33, u34, u35, u36, u37, u38, u39, u40, u41, u42, u43, u44, u45, u46, u47, u48, u49, u50, u51, u52, u53, u54, u55, u56, u57, u58, u59, u60, u61, u62, u63, u64, u65, u66, u67, u68, u69, u70, u71, u72, u73, u74, u75, u76, u77, u78, u79, u80, u81, u82, u83, u84, u85, u86, u87, u88, u89, u90, u91, u92, u93, u94, u95, u96, u97, u98, u99, u100, u101, u102, u103, u104, u105, u106, u107, u108, u109, u110, u111, u112, u113, u114, u115, u116, u117, u118, u119, u120, u121, u122, u123, u124, u125, u126, u127, u128, u129, u130, u131, u132, u133, u134, u135, u136, u137, u138, u139, u140, u141, u142, u143, u144, u145, u146, u147, u148, u149, u150, u151, u152, u153, u154, u155, u156, u157, u158, u159, u160, u161, u162, u163, u164, u165, u166, u167, u168, u169, u170, u171, u172, u173, u174, u175, u176, u177, u178, u179, u180, u181, u182, u183], []⟩

set_option maxHeartbeats 4000000 in
set_option maxRecDepth 100000 in
theorem encodeBlock_any (g o n c b off m lc : Nat) (L : List Value) (bs : List UInt8) (w : World) (hl : bs.length = m) (hm : 17 ≤ m) (hm2 : m ≤ 65536) (hB : Blk w g L) (hfit : o + n ≤ L.length) (hroom : m + m / 65 + 3 ≤ n)
    (hnc : n ≤ c) (hc : c ≤ 9223372036854775807) (hb : Bs w b off bs) (hbg : b ≠ g) (hmc : m ≤ lc) (hlc : lc ≤ 9223372036854775807) :
    Calls Tryd.prog 43 #[.slice (some ⟨g, o, none⟩) n c, .slice (some ⟨b, off, none⟩) m lc] w (Encoded w g o L bs) := by
  have hgK := hB.lt
  have hbK := hb.lt (by omega)
  have hz := run_zero74
  have S0 : St w (w.alloc (.cells Z16 74)) g o w.heap.size b off L bs 0 0 1 := ⟨⟨[], rfl, .nil _, by rw [show bc [] = [] from rfl, splice_nil]; exact hB.of_eq (heap_alloc_old w _ hgK)⟩, hb.of_eq (fun h => heap_alloc_old w _ h), Tb.made w (by omega), gb_mono (World.grownBy_alloc w _ none)⟩
  have r1 := le4_range bs 1
  have Hl := Lib.hid hl
  clear hl hB hb
  go_enter Tryd.func43, Tryd.ntmps43
  go_wp2
  refine wp_scope_jumps 0 (Jump w g o n c b off m lc L bs) (fun _ _ => 0) rfl ?_ ?_
  · go_wp2
    go_loop [5, 6] (fun sh ts => ∃ a t : Int, 0 ≤ a ∧ a < 4294967296 ∧ 256 ≤ t ∧ t < 32768 ∧ sh = .int .u32 a ∧ ts = .int .i64 t) (fun _ ts => 32768 - (intOf ts).toNat)
    case atStart => exact ⟨24, 256, by omega, by omega, by omega, by omega, rfl, rfl⟩
    case round =>
      obtain ⟨a, t, ha0, ha1, ht0, ht1, rfl, rfl⟩ := hrel
      by_cases h1 : t < 16384 ∧ t < m
      · obtain ⟨h1, h2⟩ := h1
        go_wp2
        go_round
        case rel => exact ⟨_, t * 2, by omega, by omega, by omega, by omega, rfl, by go_num⟩
        case measure => simp [intOf]; omega
      · by_cases h1' : t < 16384
        all_goals
          go_wp2_with (first
            | (go_at_call 47; refine (load32_at _ b off m lc 1 bs _ rfl Hl.out S0.src (by omega) hmc hlc).mono ?_; rintro e w' ⟨rfl, nq, rfl⟩)
            | (go_at_call 46; refine (hash_some _ _ _ r1.1 ha0 ha1).mono ?_; rintro e w' ⟨hh, rfl, hh0, hh1, rfl⟩))
          clear h1 h1' ht0 ht1
          go_loopw [4, 9, 10, 11] (fun vd vne vs vh wr => ∃ (d ne s : Nat) (h : Int), vd = .int .i64 (d : Int) ∧ vne = .int .i64 (ne : Int) ∧ vs = .int .i64 (s : Int) ∧ vh = .int .u32 h ∧ 0 ≤ h ∧ h < 4294967296 ∧ ne < s ∧ s + 15 ≤ m ∧ d ≤ ne + ne / 65 ∧ St w wr g o w.heap.size b off L bs d ne s)
            (fun _ _ vs _ _ => m - (intOf vs).toNat)
          case atStart => exact ⟨0, 0, 1, hh, rfl, rfl, rfl, rfl, hh0, hh1, by omega, by omega, by omega, S0.drew ⟨nq, rfl⟩⟩
          case round =>
            obtain ⟨d, ne, s, h, rfl, rfl, rfl, rfl, hh0', hh1', hns, hsm, hd, hS⟩ := hrel
            go_hide hQ
            go_wp2
            go_loopw [11, 12, 13] (fun vh vk vq wr2 => ∃ (q k : Nat) (h : Int), vh = .int .u32 h ∧ vk = .int .i64 (k : Int) ∧ vq = .int .i64 (q : Int) ∧ 0 ≤ h ∧ h < 4294967296 ∧ 32 ≤ k ∧ k ≤ 32 + q ∧ s ≤ q ∧ q + 15 ≤ m ∧ St w wr2 g o w.heap.size b off L bs d ne q)
              (fun _ _ vq _ => m - (intOf vq).toNat)
            case atStart => exact ⟨s, 32, h, rfl, rfl, rfl, hh0', hh1', by omega, by omega, by omega, hsm, hS⟩
            case round =>
              obtain ⟨q, k, h2, rfl, rfl, rfl, hh0'', hh1'', hk1, hk2, hsq, hqm, hS2⟩ := hrel
              obtain ⟨nb, hnb⟩ : ∃ nb : Nat, k / 32 = nb := ⟨_, rfl⟩
              have ek : (k : Int) / 32 = (nb : Int) := by omega
              have hnb1 : 1 ≤ nb := by omega
              have hnb2 : nb ≤ k := by omega
              have Hnb := Lib.hid hnb
              clear hnb
              subst hQ
              by_cases hlim : m < q + nb + 15
              · go_wp2
                go_step3
                refine ⟨rfl, d, ne, ⟨q, hS2⟩, hd, by omega, ?_⟩
                repeat apply Exists.intro
                rfl
              · obtain ⟨idx, hidx⟩ : ∃ idx : Nat, h2 % 16384 = (idx : Int) := ⟨(h2 % 16384).toNat, by omega⟩
                have hand : bits .and .u32 h2 16383 = (idx : Int) := by rw [u32_and16383 h2 hh0'' hh1'', hidx]
                have hidx2 : idx < 16384 := by omega
                have Hidx := Lib.hid hidx
                clear hidx
                obtain ⟨x, hxq, hx⟩ := hS2.tbl.at idx hidx2
                have hfz := hS2.tbl.free idx
                have hS3 := hS2.put (s' := q + 1) (by omega) (by omega) (Nat.le_refl _) idx q (by omega) (by omega)
                have r2 := le4_range bs (q + nb)
                by_cases heq : le4 bs q = le4 bs x
                · have hbq : (le4 bs q == le4 bs x) = true := by simpa using heq
                  have Heq := Lib.hid heq
                  clear heq
                  go_wp2_with fail
                  refine (load32_at ((q : Int) + (nb : Int)) b off m lc (q + nb) bs _ (by omega) Hl.out hS3.src (by omega) hmc hlc).mono ?_
                  rintro e w' ⟨rfl, nq2, rfl⟩
                  go_wp2_with fail
                  refine (hash_some _ _ _ r2.1 ha0 ha1).mono ?_
                  rintro e w' ⟨h3, rfl, h30, h31, rfl⟩
                  go_wp2_with fail
                  refine (load32_at (q : Int) b off m lc q bs _ rfl Hl.out (hS3.drew ⟨nq2, rfl⟩).src (by omega) hmc hlc).mono ?_
                  rintro e w' ⟨rfl, nq3, rfl⟩
                  go_wp2_with fail
                  refine (load32_at (x : Int) b off m lc x bs _ rfl Hl.out (hS3.drew ⟨nq2 + nq3, rfl⟩).src (by omega) hmc hlc).mono ?_
                  rintro e w' ⟨rfl, nq4, rfl⟩
                  have hS4 := hS3.drew ⟨nq2 + nq3 + nq4, rfl⟩
                  clear hx hfz hS3 hS2 hS hand
                  go_wp2_with fail
                  generalize (wr.setCell ⟨w.heap.size, idx, none⟩ (.int .u16 (q : Int))).drewN (nq2 + nq3 + nq4) = w3 at hS4 ⊢
                  obtain ⟨E, hEl, hEv, hEB⟩ := hS4.out
                  have hll : litL (q - ne) ≤ 3 := by unfold litL; repeat' split
                                                     all_goals omega
                  obtain ⟨p, hp⟩ : ∃ p : Nat, p = q - ne + litL (q - ne) := ⟨_, rfl⟩
                  have hBl : (litH (q - ne) ++ (bs.drop ne).take (q - ne)).length = p := by rw [List.length_append, litH_length, hp]; simp [Hl.out]; omega
                  have hcall : ∀ w4 : World, Blk w4 g (splice L o (bc E)) → Bs w4 b off bs → Calls Tryd.prog 42 #[.slice (some ⟨g, o + d, none⟩) (n - d) (c - d), .slice (some ⟨b, off + ne, none⟩) (q - ne) (lc - ne)] w4
                      fun e w' => e = .returned (.int .i64 (p : Int)) ∧ Wrote w4 w' g (splice (splice L o (bc E)) (o + d) (bc (litH (q - ne) ++ (bs.drop ne).take (q - ne)))) := fun w4 e4 s4 => by
                    rw [hp]
                    exact emitLiteral_any g (o + d) (n - d) (c - d) b (off + ne) (lc - ne) (q - ne) (splice L o (bc E)) ((bs.drop ne).take (q - ne)) w4 (by simp [Hl.out]; omega) e4 (by rw [length_splice _ _ _ (by rw [bc_length]; omega)]; omega) (by omega) (by omega) (by omega) (by omega) (by omega) ((s4.drop ne).take (q - ne)) hbg
                  have hrm := room_copy (m := 0) (c := 0) hd (ov := litL (q - ne)) (L := q - ne) rfl (by omega)
                  have hd2 : d + p ≤ q + (q + 4) / 65 + 1 := by have := hrm.1; rw [show ne + (q - ne) = q from by omega] at this; omega
                  have hwr : IntKind.i64.wrap ((d : Int) + (p : Int)) = ((d + p : Nat) : Int) := by rw [IntKind.wrap_i64]; omega
                  have hev2 := ev_more_lit hEv (q := q) (by omega) (by rw [Hl.out]; omega) (by rw [Hl.out]; omega)
                  have Hcall := Lib.hid hcall
                  have HEl := Lib.hid hEl
                  have HBl := Lib.hid hBl
                  clear hcall hEl hrm hp hBl
                  have hs1 := slice_from g o n c d (by omega) (by omega)
                  have hs2 := slice_mid b off m lc ne q (by omega) (by omega) (by omega)
                  go_region_held3 (fun w' => w3 = w3) (rfl) (first | (go_at_call 42; refine (Hcall.out _ (by exact hEB) (by exact hS4.src)).mono ?_; rintro e w5 ⟨rfl, hW5⟩))
                  have hS5 := (hS4.drew ⟨1, rfl⟩).more2 (ne' := q) E _ HEl.out (by omega) hbg HBl.out (by omega) hev2 hW5
                  have hm4 : Hid (∀ i, i < 4 → bs[x + i]? = bs[q + i]?) := le4_same bs x q Heq.out.symm (by rw [Hl.out]; omega) (by rw [Hl.out]; omega)
                  clear hs1 hs2 hwr hW5 Hcall hS4 hEB hev2 HBl HEl hbq hz S0 r2 hEv hll
                  go_wp2_with fail
                  go_hide hQ2
                  go_loopw [4, 10, 14] (fun vd vs vc wr5 => ∃ (d5 s5 x5 : Nat), vd = .int .i64 (d5 : Int) ∧ vs = .int .i64 (s5 : Int) ∧ vc = .int .i64 (x5 : Int) ∧ x5 < s5 ∧ s5 + 15 < m ∧ q ≤ s5 ∧ d5 ≤ s5 + (s5 + 4) / 65 + 1 ∧ Hid (∀ i, i < 4 → bs[x5 + i]? = bs[s5 + i]?) ∧ St w wr5 g o w.heap.size b off L bs d5 s5 (s5 + 1))
                    (fun _ vs _ _ => m - (intOf vs).toNat)
                  case atStart =>
                    exact ⟨d + p, q, x, rfl, rfl, rfl, hxq, by omega, Nat.le_refl _, hd2, hm4, hS5⟩
                  case round =>
                    obtain ⟨d5, s5, x5, rfl, rfl, rfl, hx5, hs5, hqs5, hd5, hm5, hS6⟩ := hrel
                    clear hS5 hm4 hd2 hd
                    go_wp2_with fail
                    go_hide hQ3
                    go_loopw [10, 17] (fun vs vi wr7 => ∃ (e i : Nat), vs = .int .i64 (e : Int) ∧ vi = .int .i64 (i : Int) ∧ s5 + 4 ≤ e ∧ e ≤ m ∧ i < e ∧ Hid (i + s5 = e + x5) ∧ Hid (∀ t, t < e - s5 → bs[x5 + t]? = bs[s5 + t]?) ∧ St w wr7 g o w.heap.size b off L bs d5 s5 (s5 + 1))
                      (fun vs _ _ => m - (intOf vs).toNat)
                    case atStart =>
                      exact ⟨s5 + 4, x5 + 4, by go_num, by go_num, by omega, by omega, by omega, (show x5 + 4 + s5 = s5 + 4 + x5 by omega), (show ∀ t, t < s5 + 4 - s5 → _ from fun t ht => hm5.out t (by omega)), hS6⟩
                    case round =>
                      obtain ⟨e, i, rfl, rfl, he1, he2, hie, hieq, hme, hS7⟩ := hrel
                      by_cases hgo : e < m ∧ at' bs i = at' bs e
                      · obtain ⟨hem, heqb⟩ := hgo
                        have hci := hS7.src.at i (by rw [Hl.out]; omega)
                        have hce := hS7.src.at e (by rw [Hl.out]; omega)
                        have hi0 : (0 : Int) ≤ (i : Int) := by omega
                        have hi1 : (i : Int) < (m : Int) := by omega
                        have he0 : (0 : Int) ≤ (e : Int) := by omega
                        have hem' : (e : Int) < (m : Int) := by omega
                        have hbb : (at' bs i == at' bs e) = true := by simpa using heqb
                        have hme' : Hid (∀ t, t < e + 1 - s5 → bs[x5 + t]? = bs[s5 + t]?) := match_more hme.out hieq.out heqb (by omega) (by rw [Hl.out]; omega) (by omega)
                        clear heqb
                        subst hQ3
                        go_wp2_with fail
                        go_quiet (fail)
                        go_wp2_with fail
                        go_roundw
                        case rel => exact ⟨e + 1, i + 1, by go_num, by go_num, by omega, by omega, by omega, (show i + 1 + s5 = e + 1 + x5 by have := hieq.out; omega), hme', hS7.drew ⟨_, rfl⟩⟩
                        case measure => simp [intOf]; omega
                      · obtain ⟨E, hEl, hEv, hEB⟩ := hS7.out
                        have hcp : ∀ w4 : World, Blk w4 g (splice L o (bc E)) → Calls Tryd.prog 48 #[.slice (some ⟨g, o + d5, none⟩) (n - d5) (c - d5), .int .i64 ((s5 : Int) - (x5 : Int)), .int .i64 ((e : Int) - (s5 : Int))] w4 (Copied w4 g (o + d5) (s5 - x5) (e - s5) (splice L o (bc E))) := fun w4 e4 =>
                          emitCopy_at _ _ g (o + d5) (n - d5) (c - d5) (s5 - x5) (e - s5) (splice L o (bc E)) w4 (by omega) (by omega) e4 (by rw [length_splice _ _ _ (by rw [bc_length]; omega)]; omega) (by omega) (by omega) (by omega) (by omega) (by omega) (by omega) (by omega)
                        have Hcp := Lib.hid hcp
                        have HEl := Lib.hid hEl
                        have hs3 := slice_from g o n c d5 (by omega) (by omega)
                        clear hcp hEl
                        by_cases hem : e < m
                        focus
                          have hci := hS7.src.at i (by rw [Hl.out]; omega)
                          have hce := hS7.src.at e (by rw [Hl.out]; omega)
                          have hi0 : (0 : Int) ≤ (i : Int) := by omega
                          have hi1 : (i : Int) < (m : Int) := by omega
                          have he0 : (0 : Int) ≤ (e : Int) := by omega
                          have hem' : (e : Int) < (m : Int) := by omega
                          have hbb : (at' bs i == at' bs e) = false := by
                            have : ¬ at' bs i = at' bs e := fun h => hgo ⟨hem, h⟩
                            simpa using this
                          clear hgo
                          subst hQ3
                          go_wp2_with fail
                          go_quiet (fail)
                          go_wp2_with fail
                          clear hci hce hbb
                        rotate_left
                        focus
                          have hdm : decide ((e : Int) < (m : Int)) = false := decide_eq_false (by omega)
                          clear hgo
                          subst hQ3
                          go_wp2_with fail
                          go_quiet (fail)
                          go_wp2_with fail
                          clear hdm
                        all_goals
                          refine (Hcp.out _ (by exact hEB)).mono ?_
                          rintro e' w6 ⟨B, rfl, hsays, hBl, hW6⟩
                          have hev3 := ev_more_cp (s := e) hEv hsays (by omega) (by omega) (by omega) (by rw [Hl.out]; omega) (fun t ht => by rw [show s5 - (s5 - x5) + t = x5 + t from by omega]; exact hme.out t ht)
                          have hS8 := (hS7.drew ⟨nq, rfl⟩).more2 (ne' := e) (p := B.length) E B HEl.out (by omega) hbg rfl (by omega) hev3 hW6
                          have hro := room_on hd5 (show 4 ≤ e - s5 by omega) hBl
                          rw [show s5 + (e - s5) = e from by omega] at hro
                          obtain ⟨dd, hdd'⟩ : ∃ dd : Nat, d5 + B.length = dd := ⟨_, rfl⟩
                          rw [hdd'] at hS8 hro
                          have hdd : (d5 : Int) + (B.length : Int) = (dd : Int) := by omega
                          clear hdd' hW6 hev3 hEB hEv HEl Hcp hS7 hs3 hd5 hsays hBl
                          by_cases hlim2 : m ≤ e + 15
                          · subst hQ2
                            go_wp2_with fail
                            go_step3
                            refine ⟨rfl, dd, e, ⟨_, hS8⟩, hro, he2, ?_⟩
                            repeat apply Exists.intro
                            try rfl
                          · first
                            | (exfalso; omega)
                            | skip
                              go_wp2_with fail
                              refine (load64_at ((e : Int) - 1) b off m lc (e - 1) bs _ (by omega) Hl.out hS8.src (by omega) hmc hlc).mono ?_
                              rintro e' w' ⟨rfl, nq8, rfl⟩
                              have hX := le8_range bs (e - 1)
                              have hX1 := le8_one bs (e - 1)
                              rw [show e - 1 + 1 = e from by omega] at hX1
                              obtain ⟨X, hXe⟩ : ∃ X, X = le8 bs (e - 1) := ⟨_, rfl⟩
                              rw [← hXe] at hX hX1 ⊢
                              have HX1 := Lib.hid hX1
                              clear hX1 hXe
                              obtain ⟨hX0, hX2⟩ := hX
                              have hS9 := hS8.drew ⟨nq8, rfl⟩
                              clear hS8
                              subst hQ2
                              go_wp2_with fail
                              refine (hash_some (X % 4294967296) a _ (by omega) ha0 ha1).mono ?_
                              rintro e' w' ⟨p1, rfl, p10, p11, rfl⟩
                              obtain ⟨i1, hi1e, hi1l⟩ := mask_idx p1 p10 p11
                              obtain ⟨y1, _, hc1⟩ := hS9.tbl.at i1 hi1l
                              have hf1 := hS9.tbl.free i1
                              have hS10 := hS9.put2 (s' := e) (by omega) (by omega) (Nat.le_refl _) i1 (e - 1) ((e : Int) - 1) (by omega) (by omega) (by omega)
                              go_wp2_with fail
                              clear hc1 hf1 hS9
                              refine (hash_some (X / 256 % 4294967296) a _ (by omega) ha0 ha1).mono ?_
                              rintro e' w' ⟨p2, rfl, p20, p21, rfl⟩
                              generalize (w6.drewN nq8).setCell ⟨w.heap.size, i1, none⟩ (.int .u16 ((e : Int) - 1)) = w9 at hS10 ⊢
                              obtain ⟨i2, hi2e, hi2l⟩ := mask_idx p2 p20 p21
                              obtain ⟨x2, hx2, hc2⟩ := hS10.tbl.at i2 hi2l
                              have hf2 := hS10.tbl.free i2
                              have hS11 := hS10.put2 (s' := e + 1) (by omega) (by omega) (Nat.le_refl _) i2 e (e : Int) rfl (by omega) (by omega)
                              go_wp2_with fail
                              refine (load32_at (x2 : Int) b off m lc x2 bs _ rfl Hl.out hS11.src (by omega) hmc hlc).mono ?_
                              rintro e' w' ⟨rfl, nq9, rfl⟩
                              have hS12 := hS11.drew ⟨nq9, rfl⟩
                              clear hc2 hf2 hS11 hS10
                              by_cases heq2 : X / 256 % 4294967296 = le4 bs x2
                              · have hb1 : (X / 256 % 4294967296 == le4 bs x2) = true := by simpa using heq2
                                have hb2 : (X / 256 % 4294967296 != le4 bs x2) = false := by simpa using heq2
                                have hm5' : Hid (∀ i, i < 4 → bs[x2 + i]? = bs[e + i]?) := le4_same bs x2 e (by rw [← heq2, HX1.out]) (by rw [Hl.out]; omega) (by rw [Hl.out]; omega)
                                clear heq2
                                go_wp2_with fail
                                go_roundw
                                case rel => exact ⟨dd, e, x2, rfl, rfl, rfl, hx2, by omega, by omega, by omega, hm5', hS12⟩
                                case measure => simp [intOf]; omega
                              · have hb1 : (X / 256 % 4294967296 == le4 bs x2) = false := by simpa using heq2
                                have hb2 : (X / 256 % 4294967296 != le4 bs x2) = true := by simpa using heq2
                                clear heq2
                                go_wp2_with fail
                                refine (hash_some (X / 65536 % 4294967296) a _ (by omega) ha0 ha1).mono ?_
                                rintro e' w' ⟨p3, rfl, p30, p31, rfl⟩
                                go_wp2_with fail
                                go_roundw
                                case rel => exact ⟨dd, e, e + 1, p3, rfl, rfl, by go_num, rfl, p30, p31, by omega, by omega, hro, hS12⟩
                                case measure => simp [intOf]; omega
                · have hbq : (le4 bs q == le4 bs x) = false := by simpa using heq
                  clear heq
                  go_wp2_with fail
                  refine (load32_at ((q : Int) + (nb : Int)) b off m lc (q + nb) bs _ (by omega) Hl.out hS3.src (by omega) hmc hlc).mono ?_
                  rintro e w' ⟨rfl, nq2, rfl⟩
                  go_wp2_with fail
                  refine (hash_some _ _ _ r2.1 ha0 ha1).mono ?_
                  rintro e w' ⟨h3, rfl, h30, h31, rfl⟩
                  go_wp2_with fail
                  refine (load32_at (q : Int) b off m lc q bs _ rfl Hl.out (hS3.drew ⟨nq2, rfl⟩).src (by omega) hmc hlc).mono ?_
                  rintro e w' ⟨rfl, nq3, rfl⟩
                  go_wp2_with fail
                  refine (load32_at (x : Int) b off m lc x bs _ rfl Hl.out (hS3.drew ⟨nq2 + nq3, rfl⟩).src (by omega) hmc hlc).mono ?_
                  rintro e w' ⟨rfl, nq4, rfl⟩
                  go_wp2_with fail
                  go_roundw
                  case rel =>
                    exact ⟨q + nb, k + nb, h3, rfl, by go_num, by go_num, h30, h31, by omega, by omega, by omega, by omega, (hS3.drew ⟨_, rfl⟩).mono (by omega)⟩
                  case measure => simp [intOf]; omega
  · intro a' w' hJ
    obtain ⟨d, ne, ⟨s, hS⟩, hd, hne, hJ⟩ := hJ
    obtain ⟨u2, hJ⟩ := hJ
    obtain ⟨u3, hJ⟩ := hJ
    obtain ⟨u5, hJ⟩ := hJ
    obtain ⟨u6, hJ⟩ := hJ
    obtain ⟨u7, hJ⟩ := hJ
    obtain ⟨u8, hJ⟩ := hJ
    obtain ⟨u10, hJ⟩ := hJ
    obtain ⟨u11, hJ⟩ := hJ
    obtain ⟨u12, hJ⟩ := hJ
    obtain ⟨u13, hJ⟩ := hJ
    obtain ⟨u14, hJ⟩ := hJ
    obtain ⟨u15, hJ⟩ := hJ
    obtain ⟨u16, hJ⟩ := hJ
    obtain ⟨u17, hJ⟩ := hJ
    obtain ⟨u18, hJ⟩ := hJ
    obtain ⟨u19, hJ⟩ := hJ
    obtain ⟨u20, hJ⟩ := hJ
    obtain ⟨u21, hJ⟩ := hJ
    obtain ⟨u22, hJ⟩ := hJ
    obtain ⟨u23, hJ⟩ := hJ
    obtain ⟨u24, hJ⟩ := hJ
    obtain ⟨u25, hJ⟩ := hJ
    obtain ⟨u26, hJ⟩ := hJ
    obtain ⟨u27, hJ⟩ := hJ
    obtain ⟨u28, hJ⟩ := hJ
    obtain ⟨u29, hJ⟩ := hJ
    obtain ⟨u30, hJ⟩ := hJ
    obtain ⟨u31, hJ⟩ := hJ
    obtain ⟨u32, hJ⟩ := hJ
    obtain ⟨u33, hJ⟩ := hJ
    obtain ⟨u34, hJ⟩ := hJ
    obtain ⟨u35, hJ⟩ := hJ
    obtain ⟨u36, hJ⟩ := hJ
    obtain ⟨u37, hJ⟩ := hJ
    obtain ⟨u38, hJ⟩ := hJ
    obtain ⟨u39, hJ⟩ := hJ
    obtain ⟨u40, hJ⟩ := hJ
    obtain ⟨u41, hJ⟩ := hJ
    obtain ⟨u42, hJ⟩ := hJ
    obtain ⟨u43, hJ⟩ := hJ
    obtain ⟨u44, hJ⟩ := hJ
    obtain ⟨u45, hJ⟩ := hJ
    obtain ⟨u46, hJ⟩ := hJ
    obtain ⟨u47, hJ⟩ := hJ
    obtain ⟨u48, hJ⟩ := hJ
    obtain ⟨u49, hJ⟩ := hJ
    obtain ⟨u50, hJ⟩ := hJ
    obtain ⟨u51, hJ⟩ := hJ
    obtain ⟨u52, hJ⟩ := hJ
    obtain ⟨u53, hJ⟩ := hJ
    obtain ⟨u54, hJ⟩ := hJ
    obtain ⟨u55, hJ⟩ := hJ
    obtain ⟨u56, hJ⟩ := hJ
    obtain ⟨u57, hJ⟩ := hJ
    obtain ⟨u58, hJ⟩ := hJ
    obtain ⟨u59, hJ⟩ := hJ
    obtain ⟨u60, hJ⟩ := hJ
    obtain ⟨u61, hJ⟩ := hJ
    obtain ⟨u62, hJ⟩ := hJ
    obtain ⟨u63, hJ⟩ := hJ
    obtain ⟨u64, hJ⟩ := hJ
    obtain ⟨u65, hJ⟩ := hJ
    obtain ⟨u66, hJ⟩ := hJ
    obtain ⟨u67, hJ⟩ := hJ
    obtain ⟨u68, hJ⟩ := hJ
    obtain ⟨u69, hJ⟩ := hJ
    obtain ⟨u70, hJ⟩ := hJ
    obtain ⟨u71, hJ⟩ := hJ
    obtain ⟨u72, hJ⟩ := hJ
    obtain ⟨u73, hJ⟩ := hJ
    obtain ⟨u74, hJ⟩ := hJ
    obtain ⟨u75, hJ⟩ := hJ
    obtain ⟨u76, hJ⟩ := hJ
    obtain ⟨u77, hJ⟩ := hJ
    obtain ⟨u78, hJ⟩ := hJ
    obtain ⟨u79, hJ⟩ := hJ
    obtain ⟨u80, hJ⟩ := hJ
    obtain ⟨u81, hJ⟩ := hJ
    obtain ⟨u82, hJ⟩ := hJ
    obtain ⟨u83, hJ⟩ := hJ
    obtain ⟨u84, hJ⟩ := hJ
    obtain ⟨u85, hJ⟩ := hJ
    obtain ⟨u86, hJ⟩ := hJ
    obtain ⟨u87, hJ⟩ := hJ
    obtain ⟨u88, hJ⟩ := hJ
    obtain ⟨u89, hJ⟩ := hJ
    obtain ⟨u90, hJ⟩ := hJ
    obtain ⟨u91, hJ⟩ := hJ
    obtain ⟨u92, hJ⟩ := hJ
    obtain ⟨u93, hJ⟩ := hJ
    obtain ⟨u94, hJ⟩ := hJ
    obtain ⟨u95, hJ⟩ := hJ
    obtain ⟨u96, hJ⟩ := hJ
    obtain ⟨u97, hJ⟩ := hJ
    obtain ⟨u98, hJ⟩ := hJ
    obtain ⟨u99, hJ⟩ := hJ
    obtain ⟨u100, hJ⟩ := hJ
    obtain ⟨u101, hJ⟩ := hJ
    obtain ⟨u102, hJ⟩ := hJ
    obtain ⟨u103, hJ⟩ := hJ
    obtain ⟨u104, hJ⟩ := hJ
    obtain ⟨u105, hJ⟩ := hJ
    obtain ⟨u106, hJ⟩ := hJ
    obtain ⟨u107, hJ⟩ := hJ
    obtain ⟨u108, hJ⟩ := hJ
    obtain ⟨u109, hJ⟩ := hJ
    obtain ⟨u110, hJ⟩ := hJ
    obtain ⟨u111, hJ⟩ := hJ
    obtain ⟨u112, hJ⟩ := hJ
    obtain ⟨u113, hJ⟩ := hJ
    obtain ⟨u114, hJ⟩ := hJ
    obtain ⟨u115, hJ⟩ := hJ
    obtain ⟨u116, hJ⟩ := hJ
    obtain ⟨u117, hJ⟩ := hJ
    obtain ⟨u118, hJ⟩ := hJ
    obtain ⟨u119, hJ⟩ := hJ
    obtain ⟨u120, hJ⟩ := hJ
    obtain ⟨u121, hJ⟩ := hJ
    obtain ⟨u122, hJ⟩ := hJ
    obtain ⟨u123, hJ⟩ := hJ
    obtain ⟨u124, hJ⟩ := hJ
    obtain ⟨u125, hJ⟩ := hJ
    obtain ⟨u126, hJ⟩ := hJ
    obtain ⟨u127, hJ⟩ := hJ
    obtain ⟨u128, hJ⟩ := hJ
    obtain ⟨u129, hJ⟩ := hJ
    obtain ⟨u130, hJ⟩ := hJ
    obtain ⟨u131, hJ⟩ := hJ
    obtain ⟨u132, hJ⟩ := hJ
    obtain ⟨u133, hJ⟩ := hJ
    obtain ⟨u134, hJ⟩ := hJ
    obtain ⟨u135, hJ⟩ := hJ
    obtain ⟨u136, hJ⟩ := hJ
    obtain ⟨u137, hJ⟩ := hJ
    obtain ⟨u138, hJ⟩ := hJ
    obtain ⟨u139, hJ⟩ := hJ
    obtain ⟨u140, hJ⟩ := hJ
    obtain ⟨u141, hJ⟩ := hJ
    obtain ⟨u142, hJ⟩ := hJ
    obtain ⟨u143, hJ⟩ := hJ
    obtain ⟨u144, hJ⟩ := hJ
    obtain ⟨u145, hJ⟩ := hJ
    obtain ⟨u146, hJ⟩ := hJ
    obtain ⟨u147, hJ⟩ := hJ
    obtain ⟨u148, hJ⟩ := hJ
    obtain ⟨u149, hJ⟩ := hJ
    obtain ⟨u150, hJ⟩ := hJ
    obtain ⟨u151, hJ⟩ := hJ
    obtain ⟨u152, hJ⟩ := hJ
    obtain ⟨u153, hJ⟩ := hJ
    obtain ⟨u154, hJ⟩ := hJ
    obtain ⟨u155, hJ⟩ := hJ
    obtain ⟨u156, hJ⟩ := hJ
    obtain ⟨u157, hJ⟩ := hJ
    obtain ⟨u158, hJ⟩ := hJ
    obtain ⟨u159, hJ⟩ := hJ
    obtain ⟨u160, hJ⟩ := hJ
    obtain ⟨u161, hJ⟩ := hJ
    obtain ⟨u162, hJ⟩ := hJ
    obtain ⟨u163, hJ⟩ := hJ
    obtain ⟨u164, hJ⟩ := hJ
    obtain ⟨u165, hJ⟩ := hJ
    obtain ⟨u166, hJ⟩ := hJ
    obtain ⟨u167, hJ⟩ := hJ
    obtain ⟨u168, hJ⟩ := hJ
    obtain ⟨u169, hJ⟩ := hJ
    obtain ⟨u170, hJ⟩ := hJ
    obtain ⟨u171, hJ⟩ := hJ
    obtain ⟨u172, hJ⟩ := hJ
    obtain ⟨u173, hJ⟩ := hJ
    obtain ⟨u174, hJ⟩ := hJ
    obtain ⟨u175, hJ⟩ := hJ
    obtain ⟨u176, hJ⟩ := hJ
    obtain ⟨u177, hJ⟩ := hJ
    obtain ⟨u178, hJ⟩ := hJ
    obtain ⟨u179, hJ⟩ := hJ
    obtain ⟨u180, hJ⟩ := hJ
    obtain ⟨u181, hJ⟩ := hJ
    obtain ⟨u182, hJ⟩ := hJ
    obtain ⟨u183, hJ⟩ := hJ
    subst hJ
    obtain ⟨E, hEl, hEv, hEB⟩ := hS.out
    have HEl := Lib.hid hEl
    clear hEl
    by_cases hlast : ne < m
    · have hll : litL (m - ne) ≤ 3 := by unfold litL; repeat' split
                                         all_goals omega
      obtain ⟨p, hp⟩ : ∃ p : Nat, p = m - ne + litL (m - ne) := ⟨_, rfl⟩
      have hBl : (litH (m - ne) ++ (bs.drop ne).take (m - ne)).length = p := by rw [List.length_append, litH_length, hp]; simp [Hl.out]; omega
      have hcall : ∀ w4 : World, Blk w4 g (splice L o (bc E)) → Bs w4 b off bs → Calls Tryd.prog 42 #[.slice (some ⟨g, o + d, none⟩) (n - d) (c - d), .slice (some ⟨b, off + ne, none⟩) (m - ne) (lc - ne)] w4
          fun e w' => e = .returned (.int .i64 (p : Int)) ∧ Wrote w4 w' g (splice (splice L o (bc E)) (o + d) (bc (litH (m - ne) ++ (bs.drop ne).take (m - ne)))) := fun w4 e4 s4 => by
        rw [hp]
        exact emitLiteral_any g (o + d) (n - d) (c - d) b (off + ne) (lc - ne) (m - ne) (splice L o (bc E)) ((bs.drop ne).take (m - ne)) w4 (by simp [Hl.out]) e4 (by rw [length_splice _ _ _ (by rw [bc_length, HEl.out]; omega)]; omega) (by omega) (by omega) (by omega) (by omega) (by omega) ((s4.drop ne).take (m - ne)) hbg
      have hwr : IntKind.i64.wrap ((d : Int) + (p : Int)) = ((d + p : Nat) : Int) := by rw [IntKind.wrap_i64]; omega
      have hev2 := ev_more_lit hEv (q := m) (by omega) (by rw [Hl.out]; omega) (by rw [Hl.out]; omega)
      have hpb : d + p ≤ m + m / 65 + 3 := by omega
      have Hcall := Lib.hid hcall
      have HBl := Lib.hid hBl
      clear hcall hp hBl hz S0
      have hs1 := slice_from g o n c d (by omega) (by omega)
      have hs2 := slice_from b off m lc ne (by omega) (by omega)
      go_wp2_with fail
      go_region_held3 (fun w2 => Bs w2 b off bs) (first | exact hS.src | exact (hS.drew ⟨1, rfl⟩).src.grown hW5.2 hbg) (first | (go_at_call 42; refine (Hcall.out _ (by exact hEB) (by exact hS.src)).mono ?_; rintro e w5 ⟨rfl, hW5⟩))
      have hS5 := (hS.drew ⟨1, rfl⟩).more2 (ne' := m) E _ HEl.out (by omega) hbg HBl.out (by omega) hev2 hW5
      clear hs1 hs2 hwr hW5 Hcall hS hEB hev2 HBl HEl
      go_wp2_with fail
      simp only [Exit.jump]
      go_ret
      obtain ⟨E', h1, h2, h3⟩ := hS5.out
      exact ⟨E', ret_ext (by rw [h1]; simp), by rwa [List.take_of_length_le (by rw [Hl.out]; exact Nat.le_refl _)] at h2, by rw [h1, Hl.out]; exact hpb, h3, hS5.gb⟩
    · go_wp2_with fail
      simp only [Exit.jump]
      go_ret
      have hnm : ne = m := by omega
      exact ⟨E, ret_ext (by rw [HEl.out]), by rwa [List.take_of_length_le (by rw [Hl.out]; omega)] at hEv, by rw [HEl.out, Hl.out]; omega, hEB, hS.gb⟩

end Go.Proofs.YtfnejblenapddaaDoor
