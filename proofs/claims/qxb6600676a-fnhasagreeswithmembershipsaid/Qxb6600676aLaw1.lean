import Derived.Test.Qxb6600676aLaw2
import Derived.Deep.DeepCutAuto
namespace Go.Proofs.Qxb6600676a
open Go.RowKit

theorem rowS_of_owns {w : World} {base len : Nat} {v : Value} {ss : List Int} (hl : ss.length = len) (h : w.ownsRow base 5 1 v len (ss.map (Value.int .u8))) :
    ∃ a cap, v = .slice a len cap ∧ RowV w a len (fun j => .int .u8 (ss.getD j 0)) := by
  obtain ⟨a, cap, hv, _, hr⟩ := RowV.of_owns h
  exact ⟨a, cap, hv, hr.congr fun j hj => by simp [List.getD, show j < ss.length by omega]⟩

set_option maxHeartbeats 2000000 in
set_option maxRecDepth 100000 in
theorem law1_main (a : Option Addr) (len cap : Nat) (bs : List Bool) (start : Int) (sa : Option Addr) (slen scap : Nat) (ss : List Int) (w : World)
    (hl : bs.length = len) (hn : a = none → len = 0) (hr : RowV w a len (fun j => .bool (bs.getD j false)))
    (hsl : ss.length = slen) (hsn : sa = none → slen = 0) (hsr : RowV w sa slen (fun j => .int .u8 (ss.getD j 0))) (hss : ∀ j, 0 ≤ ss.getD j 0 ∧ ss.getD j 0 ≤ 255)
    (h16 : len ≤ 65536) (h16s : slen ≤ 65536) (hs1 : -65536 ≤ start) (hs2 : start ≤ 65536) :
    Calls Try.prog 3 #[.slice a len cap, .int .i64 start, .slice sa slen scap] w fun e w' => e = .returned (.bool true) ∧ Below w.heap.size w w' := by
  have C1 := hide (cloneBools_any a len cap bs w hl (by omega) hn hr)
  have HS := hide hsr
  have HSS := hide hss
  have HSN := hide hsn
  clear hr hn hsr hss hsn
  go_enter Try.func3, Try.ntmps3
  go_wp2_with (go_at_call 5; go_in)
  refine (unhide C1).mono ?_
  rintro e w1 ⟨v, rfl, hown, hb1⟩
  obtain ⟨a1, cap1, hv, hr1⟩ := rowB_of_owns hl hown
  rw [hv]
  clear hv hown C1
  have hz1 := hb1.size
  have C2 := hide (cloneSteps_any sa slen scap ss w1 hsl (by omega) (unhide HSN) ((unhide HS).below hb1))
  have HR1 := hide hr1
  clear hr1 HS HSN
  go_wp2_with fail
  refine (unhide C2).mono ?_
  rintro e w2 ⟨v, rfl, hown, hb2⟩
  obtain ⟨sa1, scap1, hv, hsr1⟩ := rowS_of_owns hsl hown
  rw [hv]
  clear hv hown C2
  have hz2 := hb2.size
  have hr2 := (unhide HR1).below hb2
  have C3 := hide (parts_any a1 len cap1 bs w2 hl h16 hr2)
  go_wp2_with fail
  refine (unhide C3).mono ?_
  rintro e w3 ⟨v, g, rfl, hown, hwords, hb3⟩
  obtain ⟨pa, pcap, hv, hp⟩ := rowP_of_owns hown
  rw [hv]
  have hz3 := hb3.size
  have hg : g < w3.heap.size := (hwords.lt g rfl).2
  have HW : Hid (∀ t, t / 64 < (len + 63) / 64 → w3.cell? ⟨g, t / 64, none⟩ = some (.int .u64 ((wordsTo bs ((len + 63) / 64) len).getD (t / 64) 0 : Nat))) := fun t ht => by
    rw [hwords.cellAt (t / 64) (by omega)]
    simp [wordsV, List.getD, wordsTo_length, ht]
  have HP := hide hp
  have HM := hide (hr2.below hb3)
  have HT := hide (hsr1.below hb3)
  have hbw : Below w.heap.size w w3 := hb1.trans ((hb2.mono hz1).trans (hb3.mono (by omega)))
  have HB := hide hbw
  clear hv hp hr2 hsr1 hown hwords hb1 hb2 hb3 hbw C3 HR1
  go_wp2
  go_loopg [10, 11, 12, 13, 14] (slen + 1) (fun q d p0 p below k wr => ∃ (j P : Nat) (e : Int), j ≤ slen + 1 ∧ slen + 1 - j ≤ q ∧ k = .int .i64 j ∧ d = .int .i64 e ∧ -65536 ≤ e ∧ e ≤ 65536 + 255 * j ∧ P ≤ len ∧ P ≤ e.toNat ∧
      p = .int .i64 P ∧ below = .int .i64 (cnt bs P : Nat) ∧ p0 = .int .i64 (cnt bs P : Nat) ∧ Below w3.heap.size w3 wr)
  case atStart => exact ⟨0, 0, start, by omega, by omega, rfl, rfl, hs1, by omega, by omega, by omega, rfl, rfl, rfl, Below.refl _ _⟩
  case round =>
    obtain ⟨j, P, e, hj, hq, rfl, rfl, he1, he2, hP1, hP2, rfl, rfl, rfl, hbel⟩ := hrel
    have hcP := cnt_le bs P
    by_cases hjs : j ≤ slen
    · go_upto_if 58 with (fail)
      go_cut [10] (fun d wc => ∃ e' : Int, d = .int .i64 e' ∧ e ≤ e' ∧ e' ≤ 65536 + 255 * (j + 1) ∧ wr = wc)
      case first =>
        by_cases hj0 : j = 0
        · subst hj0
          go_wp2
          go_meet
          case rel => exact ⟨e, rfl, by omega, by omega, rfl⟩
        · obtain ⟨i, rfl⟩ : ∃ i, j = i + 1 := ⟨j - 1, by omega⟩
          obtain ⟨b, off, hx, hb, hc⟩ := ((unhide HT).below hbel) (by omega)
          have hcx : wr.cell? ⟨b, off + i, none⟩ = some (.int .u8 (ss.getD i 0)) := hc i (by omega)
          have hsb := unhide HSS i
          generalize ss.getD i 0 = si at hcx hsb
          obtain ⟨hsb1, hsb2⟩ := hsb
          clear hc hq
          obtain rfl := hx
          go_wp2
          go_meet
          case rel => exact ⟨e + si, by go_num, by omega, by omega, rfl⟩
      case rest =>
        obtain ⟨e', rfl, he3, he4, rfl⟩ := hcut
        have C4 := hide (zzHasList pa pcap bs len e' (cnt bs P) wr h16 (cnt_mono _ _ _ (by omega)) ((unhide HP).below hbel))
        have HMr := hide ((unhide HM).below hbel)
        clear HT HSS
        go_wp2
        go_loop [12, 13] (fun p below => ∃ K : Nat, K ≤ len ∧ K ≤ e'.toNat ∧ p = .int .i64 K ∧ below = .int .i64 (cnt bs K : Nat)) (fun p _ => len - (intOf p).toNat)
        case atStart => exact ⟨P, hP1, by omega, rfl, rfl⟩
        case round =>
          obtain ⟨K, hK1, hK2, rfl, rfl⟩ := hrel
          have hcK := cnt_le bs K
          by_cases hin : K < len ∧ (K : Int) < e'
          · obtain ⟨hin1, hin2⟩ := hin
            obtain ⟨b, off, hx, hb, hc⟩ := unhide HMr (by omega)
            have hcx : wr.cell? ⟨b, off + K, none⟩ = some (.bool (bs.getD K false)) := hc K hin1
            clear hc HMr
            obtain rfl := hx
            cases hbk : bs.getD K false with
            | true =>
              rw [hbk] at hcx
              have HBK := hide hbk
              clear hbk C4
              go_wp2
              go_round
              case rel => exact ⟨K + 1, by omega, by omega, by go_num, by rw [cnt_hit bs K (unhide HBK)]; go_num⟩
              case measure => simp [intOf]; omega
            | false =>
              rw [hbk] at hcx
              have HBK := hide hbk
              clear hbk C4
              go_wp2
              go_round
              case rel => exact ⟨K + 1, by omega, by omega, by go_num, by rw [cnt_miss bs K (unhide HBK)]⟩
              case measure => simp [intOf]; omega
          · have hKp : cnt bs K = place bs len e' := by unfold place; rw [show min len e'.toNat = K by omega]
            rw [← hKp] at C4
            have HKp := hide hKp
            have hbs := hbel.size
            clear hKp
            by_cases hd0 : 0 ≤ e'
            · obtain ⟨t, rfl⟩ := Int.eq_ofNat_of_zero_le hd0
              by_cases hdn : t < len
              · have hm : member bs len (t : Int) = bs.getD t false := by unfold member; simp [hdn]
                obtain ⟨b, off, hx, hb, hc⟩ := unhide HMr (by omega)
                have hcx : wr.cell? ⟨b, off + t, none⟩ = some (.bool (bs.getD t false)) := hc t hdn
                rw [← hm] at hcx
                have C5 : ∀ w4, Below wr.heap.size wr w4 → Hid (Calls Try.prog 9 #[.slice pa (cnt bs len) pcap, .slice (some ⟨g, 0, none⟩) ((len + 63) / 64) ((len + 63) / 64), .int .i64 (t : Int), .int .i64 (cnt bs K : Nat)] w4 fun e w' =>
                    e = .returned (.tuple #[.bool (member bs len (t : Int)), .int .i64 (cnt bs K : Nat)]) ∧ Below w4.heap.size w4 w') := fun w4 hb4 =>
                  zzHasBits (.slice pa (cnt bs len) pcap) g ((len + 63) / 64) bs len t (cnt bs K) w4 (by omega) (by omega) (by have := hb4.size; omega) ⟨_, _, _, rfl⟩
                    (((hbel.trans (hb4.mono hbs)).cell (p := ⟨g, t / 64, none⟩) hg).trans (unhide HW t (by omega)))
                have C5' := hide C5
                clear hc HMr hm C5
                obtain rfl := hx
                generalize member bs len (t : Int) = mb at hcx C4 C5'
                have h1 : K < len := by omega
                have h2 : ¬ ((K : Int) < (t : Int)) := by omega
                clear HM HP HW hin
                cases mb
                all_goals
                  go_wp2_with fail
                  refine (unhide C4).mono ?_
                  rintro e0 w4 ⟨rfl, hb4⟩
                  have hz4 := hb4.size
                  go_wp2_with fail
                  refine (unhide (unhide C5' w4 hb4)).mono ?_
                  rintro e0 w5 ⟨rfl, hb5⟩
                  go_wp2
                  go_roundg (slen + 1 - (j + 1))
                  case measure => omega
                  case rel => exact ⟨j + 1, K, (t : Int), by omega, Nat.le_refl _, by go_num, rfl, by omega, by omega, hK1, hK2, rfl, rfl, rfl, (hbel.trans (hb4.mono hbs)).trans (hb5.mono (Nat.le_trans hbs hz4))⟩
              · have hm : member bs len (t : Int) = false := by unfold member; simp [show ¬ t < len from hdn]
                have h1 : ¬ K < len := by omega
                by_cases hw : t / 64 < (len + 63) / 64
                · have C5 : ∀ w4, Below wr.heap.size wr w4 → Hid (Calls Try.prog 9 #[.slice pa (cnt bs len) pcap, .slice (some ⟨g, 0, none⟩) ((len + 63) / 64) ((len + 63) / 64), .int .i64 (t : Int), .int .i64 (cnt bs K : Nat)] w4 fun e w' => 
                      e = .returned (.tuple #[.bool (member bs len (t : Int)), .int .i64 (cnt bs K : Nat)]) ∧ Below w4.heap.size w4 w') := fun w4 hb4 => 
                    zzHasBits (.slice pa (cnt bs len) pcap) g ((len + 63) / 64) bs len t (cnt bs K) w4 (by omega) (by omega) (by have := hb4.size; omega) ⟨_, _, _, rfl⟩ 
                      (((hbel.trans (hb4.mono hbs)).cell (p := ⟨g, t / 64, none⟩) hg).trans (unhide HW t (by omega)))
                  rw [hm] at C4 C5
                  have C5' := hide C5
                  clear C5 hm HM HP HW HMr hin
                  go_wp2_with fail
                  refine (unhide C4).mono ?_
                  rintro e0 w4 ⟨rfl, hb4⟩
                  have hz4 := hb4.size
                  go_wp2_with fail
                  refine (unhide (unhide C5' w4 hb4)).mono ?_
                  rintro e0 w5 ⟨rfl, hb5⟩
                  go_wp2
                  go_roundg (slen + 1 - (j + 1))
                  case measure => omega
                  case rel => exact ⟨j + 1, K, (t : Int), by omega, Nat.le_refl _, by go_num, rfl, by omega, by omega, hK1, hK2, rfl, rfl, rfl, (hbel.trans (hb4.mono hbs)).trans (hb5.mono (Nat.le_trans hbs hz4))⟩
                · rw [hm] at C4
                  clear hm HM HP HW HMr hin
                  go_wp2_with fail
                  refine (unhide C4).mono ?_
                  rintro e0 w4 ⟨rfl, hb4⟩
                  have hz4 := hb4.size
                  go_wp2
                  go_roundg (slen + 1 - (j + 1))
                  case measure => omega
                  case rel => exact ⟨j + 1, K, (t : Int), by omega, Nat.le_refl _, by go_num, rfl, by omega, by omega, hK1, hK2, rfl, rfl, rfl, hbel.trans (hb4.mono hbs)⟩
            · have hm : member bs len e' = false := by unfold member; simp [hd0]
              rw [hm] at C4
              clear hm HM HP HW HMr
              by_cases h1 : K < len
              · have h2 : ¬ ((K : Int) < e') := by omega
                clear hin
                go_wp2_with fail
                refine (unhide C4).mono ?_
                rintro e0 w4 ⟨rfl, hb4⟩
                have hz4 := hb4.size
                go_wp2
                go_roundg (slen + 1 - (j + 1))
                case measure => omega
                case rel => exact ⟨j + 1, K, e', by omega, Nat.le_refl _, by go_num, rfl, by omega, by omega, hK1, hK2, rfl, rfl, rfl, hbel.trans (hb4.mono hbs)⟩
              · clear hin
                go_wp2_with fail
                refine (unhide C4).mono ?_
                rintro e0 w4 ⟨rfl, hb4⟩
                have hz4 := hb4.size
                go_wp2
                go_roundg (slen + 1 - (j + 1))
                case measure => omega
                case rel => exact ⟨j + 1, K, e', by omega, Nat.le_refl _, by go_num, rfl, by omega, by omega, hK1, hK2, rfl, rfl, rfl, hbel.trans (hb4.mono hbs)⟩
    · go_wp2
      go_ret
      exact ⟨rfl, (unhide HB).trans (hbel.mono (unhide HB).size)⟩
end Go.Proofs.Qxb6600676a
