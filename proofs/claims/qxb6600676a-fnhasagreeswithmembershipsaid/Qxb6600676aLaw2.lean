import Derived.Test.Qxb6600676aZZHas
namespace Go.Proofs.Qxb6600676a
open Go.RowKit

set_option maxHeartbeats 400000 in
theorem count_any (a : Option Addr) (len cap : Nat) (bs : List Bool) (d : Int) (w : World) (hl : bs.length = len) (hs : len ≤ 65536) (hr : RowV w a len (fun j => .bool (bs.getD j false))) :
    Calls Try.prog 11 #[.slice a len cap, .int .i64 d] w fun e w' => e = .returned (.int .i64 (place bs len d : Nat)) ∧ w' = w := by
  have HR := hide hr
  clear hr
  go_enter Try.func11, Try.ntmps11
  go_wp2
  go_loop [5, 6] (fun c i => ∃ k : Nat, k ≤ len ∧ k ≤ d.toNat ∧ i = .int .i64 k ∧ c = .int .i64 (cnt bs k : Nat)) (fun _ i => len - (intOf i).toNat)
  case atStart => exact ⟨0, Nat.zero_le _, Nat.zero_le _, rfl, rfl⟩
  case round =>
    obtain ⟨k, hk, hkd, rfl, rfl⟩ := hrel
    have hcle := cnt_le bs k
    by_cases hlt : k < len
    · by_cases hd : (k : Int) < d
      · obtain ⟨b, off, hx, hb, hc⟩ := unhide HR (by omega)
        obtain rfl := hx
        have hcx : w.cell? ⟨b, off + k, none⟩ = some (.bool (bs.getD k false)) := hc k hlt
        clear hc HR
        cases hbk : bs.getD k false with
        | true =>
          rw [hbk] at hcx
          have HB := hide hbk
          clear hbk
          go_wp2
          go_round
          case rel => exact ⟨k + 1, by omega, by omega, by go_num, by rw [cnt_hit bs k (unhide HB)]; go_num⟩
          case measure => simp [intOf]; omega
        | false =>
          rw [hbk] at hcx
          have HB := hide hbk
          clear hbk
          go_wp2
          go_round
          case rel => exact ⟨k + 1, by omega, by omega, by go_num, by rw [cnt_miss bs k (unhide HB)]⟩
          case measure => simp [intOf]; omega
      · have hp : place bs len d = cnt bs k := by unfold place; rw [show min len d.toNat = k by omega]
        have HP := hide hp
        clear hp
        go_wp2
        go_ret
        exact ⟨by rw [unhide HP]; rfl, rfl⟩
    · have hp : place bs len d = cnt bs k := by unfold place; rw [show min len d.toNat = k by omega]
      have HP := hide hp
      clear hp
      go_wp2
      go_ret
      exact ⟨by rw [unhide HP]; rfl, rfl⟩

theorem RowV.congr {w : World} {a : Option Addr} {len : Nat} {V V' : Nat → Value} (h : RowV w a len V) (hv : ∀ j, j < len → V j = V' j) : RowV w a len V' := by
  intro h0
  obtain ⟨b, off, ha, hlt, hc⟩ := h h0
  exact ⟨b, off, ha, hlt, fun j hj => by rw [hc j hj, hv j hj]⟩

theorem rowB_of_owns {w : World} {base len : Nat} {v : Value} {bs : List Bool} (hl : bs.length = len) (h : w.ownsRow base 4 1 v len (bs.map Value.bool)) :
    ∃ a cap, v = .slice a len cap ∧ RowV w a len (fun j => .bool (bs.getD j false)) := by
  obtain ⟨a, cap, hv, _, hr⟩ := RowV.of_owns h
  exact ⟨a, cap, hv, hr.congr fun j hj => by simp [List.getD, show j < bs.length by omega]⟩

theorem rowP_of_owns {w : World} {base n : Nat} {v : Value} {bs : List Bool} (h : w.ownsRow base 3 1 v (cnt bs n) (posV bs n)) :
    ∃ a cap, v = .slice a (cnt bs n) cap ∧ RowV w a (cnt bs n) (fun j => .int .i64 ((posTo bs n).getD j 0 : Nat)) := by
  obtain ⟨a, cap, hv, _, hr⟩ := RowV.of_owns h
  exact ⟨a, cap, hv, hr.congr fun j hj => by simp [posV, List.getD, show j < (posTo bs n).length from hj]⟩

set_option maxHeartbeats 800000 in
theorem law2_walk (a : Option Addr) (len cap : Nat) (bs : List Bool) (d p : Int) (w : World) (hl : bs.length = len) (hcap : len ≤ 9223372036854775807) (hn : a = none → len = 0) (hr : RowV w a len (fun j => .bool (bs.getD j false))) :
    Calls Try.prog 4 #[.slice a len cap, .int .i64 d, .int .i64 p] w fun e w' => e = .returned (.bool true) ∧ Below w.heap.size w w' := by
  by_cases h20 : len ≤ 1048576
  · by_cases h16 : len ≤ 65536
    · have C1 := hide (count_any a len cap bs d w hl h16 hr)
      have C2 := hide (cloneBools_any a len cap bs w hl h20 hn hr)
      have hpl := place_le bs len d
      have hcl := cnt_le bs len
      by_cases hp0 : p < 0
      · clear hr hn
        go_enter Try.func4, Try.ntmps4
        go_wp2_with (first | (go_at_call 11; refine (unhide C1).mono ?_; rintro e w' ⟨rfl, rfl⟩) | (go_at_call 10; go_in))
        go_ret
        exact ⟨rfl, Below.refl _ _⟩
      · obtain ⟨at0, rfl⟩ := Int.eq_ofNat_of_zero_le (by omega : 0 ≤ p)
        by_cases hpb : at0 ≤ place bs len d
        · clear hr hn
          go_enter Try.func4, Try.ntmps4
          go_wp2_with (first | (go_at_call 11; refine (unhide C1).mono ?_; rintro e w' ⟨rfl, rfl⟩) | (go_at_call 10; go_in))
          refine (unhide C2).mono ?_
          rintro e w1 ⟨v, rfl, hown, hb1⟩
          obtain ⟨a1, cap1, hv, hr1⟩ := rowB_of_owns hl hown
          rw [hv]
          clear hv hown C1 C2
          have hz1 := hb1.size
          have C3 := hide (parts_any a1 len cap1 bs w1 hl h16 hr1)
          have HR1 := hide hr1
          clear hr1
          go_wp2_with fail
          refine (unhide C3).mono ?_
          rintro e w2 ⟨v, g, rfl, hown, hwords, hb2⟩
          obtain ⟨a2, cap2, hv, hr2⟩ := rowP_of_owns hown
          rw [hv]
          clear hv hown hwords C3
          have hz2 := hb2.size
          have HR2 := hide ((unhide HR1).below hb2)
          have C4 := hide (zzHasList a2 cap2 bs len d at0 w2 h16 hpb hr2)
          clear HR1 hr2
          by_cases hd0 : 0 ≤ d
          · obtain ⟨t, rfl⟩ := Int.eq_ofNat_of_zero_le hd0
            by_cases hdn : t < len
            · have hm : member bs len (t : Int) = bs.getD t false := by unfold member; simp [hdn]
              obtain ⟨b, off, hx, hb, hc⟩ := unhide HR2 (by omega)
              obtain rfl := hx
              have hcx : w2.cell? ⟨b, off + t, none⟩ = some (.bool (bs.getD t false)) := hc t hdn
              rw [← hm] at hcx
              clear hc HR2 hm
              generalize member bs len (t : Int) = mb at hcx C4
              generalize place bs len (t : Int) = pl at hpb C4
              clear hpl
              cases mb
              all_goals
                go_wp2_with fail
                refine (unhide C4).mono ?_
                rintro e w3 ⟨rfl, hb3⟩
                go_wp2
                go_ret
                exact ⟨rfl, hb1.trans ((hb2.mono hz1).trans (hb3.mono (by omega)))⟩
            · have hm : member bs len (t : Int) = false := by unfold member; simp [show ¬ t < len from hdn]
              rw [hm] at C4
              generalize place bs len (t : Int) = pl at hpb C4
              clear hm hpl
              go_wp2_with fail
              refine (unhide C4).mono ?_
              rintro e w3 ⟨rfl, hb3⟩
              go_wp2
              go_ret
              exact ⟨rfl, hb1.trans ((hb2.mono hz1).trans (hb3.mono (by omega)))⟩
          · have hm : member bs len d = false := by unfold member; simp [hd0]
            rw [hm] at C4
            generalize place bs len d = pl at hpb C4
            clear hm hpl
            go_wp2_with fail
            refine (unhide C4).mono ?_
            rintro e w3 ⟨rfl, hb3⟩
            go_wp2
            go_ret
            exact ⟨rfl, hb1.trans ((hb2.mono hz1).trans (hb3.mono (by omega)))⟩
        · clear hr hn
          go_enter Try.func4, Try.ntmps4
          go_wp2_with (first | (go_at_call 11; refine (unhide C1).mono ?_; rintro e w' ⟨rfl, rfl⟩) | (go_at_call 10; go_in))
          go_ret
          exact ⟨rfl, Below.refl _ _⟩
    · clear hr hn
      go_enter Try.func4, Try.ntmps4
      go_wp2
      go_ret
      exact ⟨rfl, Below.refl _ _⟩
  · clear hr hn
    go_enter Try.func4, Try.ntmps4
    go_wp2
    go_ret
    exact ⟨rfl, Below.refl _ _⟩
end Go.Proofs.Qxb6600676a
