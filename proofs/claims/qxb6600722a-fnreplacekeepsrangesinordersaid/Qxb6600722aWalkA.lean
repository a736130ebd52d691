import Derived.Test.Qxb6600722aLawA
namespace Go.Proofs.Qxb6600722a
open Go.RowKit
set_option linter.unusedVariables false
set_option maxRecDepth 100000

set_option maxHeartbeats 4000000 in
theorem lawA (a : Option Addr) (n cap : Nat) (A : Nat → Option Addr) (L C : Nat → Nat) (ts : Nat → List Int) (lo hi : Int) (ra : Option Addr) (nr rc : Nat) (rts : List Int) (w : World)
    (hT : Ts w a n A L C ts) (hn : n ≤ 9223372036854775807) (hL : ∀ i, i < n → L i ≤ 9223372036854775807) (hnone : a = none → n = 0)
    (hnr : nr ≤ 9223372036854775807) (hrnone : ra = none → nr = 0) (hrl : rts.length = nr) (hR : RowV w ra nr (fun j => .int .u64 (rts.getD j 0))) (hrw : ∀ j, 0 ≤ rts.getD j 0 ∧ rts.getD j 0 ≤ 18446744073709551615) :
    Calls Try.prog 3 #[.slice a n cap, .int .i64 lo, .int .i64 hi, .slice ra nr rc] w (LawPost w) := by
  have C6 := hide (bytes6 a n cap A L C w lo hi ra nr rc hT.row hn hL hnr)
  have C7 := hide (small7 a n cap A L C w ra nr rc hT.row hn hL hnr)
  have HE0 := hide (lawpost_refl w)
  have HT := hide hT
  have HRR := hide hR
  have HRW := hide hrw
  have HN1 := hide hnone
  have HN2 := hide hrnone
  have HRL := hide hrl
  clear hT hR hrw hnone hrnone hrl hL
  go_enter Try.func3, Try.ntmps3
  go_wp2_with fail
  refine (unhide C6).mono ?_
  rintro e w' ⟨b, rfl, hw, -⟩
  obtain rfl : w = w' := hw.symm
  clear C6 hw
  cases b
  · go_wp2
    go_ret
    exact unhide HE0
  go_wp2_with fail
  refine (unhide C7).mono ?_
  rintro e w' ⟨b, rfl, hw, hb⟩
  obtain rfl : w = w' := hw.symm
  clear C7 hw
  cases b
  · go_wp2
    go_ret
    exact unhide HE0
  obtain ⟨s1, s2, s3⟩ := hb rfl
  clear hb
  by_cases g1 : lo < 0
  · go_wp2
    go_ret
    exact unhide HE0
  by_cases g2 : hi < lo
  · go_wp2
    go_ret
    exact unhide HE0
  by_cases g3 : (n : Int) < hi
  · go_wp2
    go_ret
    exact unhide HE0
  obtain ⟨l, rfl⟩ : ∃ l : Nat, lo = l := ⟨lo.toNat, by omega⟩
  obtain ⟨h, rfl⟩ : ∃ h : Nat, hi = h := ⟨hi.toNat, by omega⟩
  have hlh : l ≤ h := by omega
  have hhn : h ≤ n := by omega
  have hLs : ∀ i, i < n → L i ≤ 1048576 := fun i hi => by have := le_sumTo L hi; omega
  have C8 := hide (triples8 a n cap A L C w ra nr rc (unhide HT).row (by omega) hLs (by omega))
  have HLS := hide hLs
  have HS3 := hide s3
  clear hLs s3
  go_wp2_with fail
  refine (unhide C8).mono ?_
  rintro e w' ⟨b, rfl, hw, -⟩
  obtain rfl : w = w' := hw.symm
  clear C8 hw
  cases b
  · go_wp2
    go_ret
    exact unhide HE0
  have C9 := hide (blocks_any a n cap A L C ts w (by omega) (unhide HLS) (unhide HN1) (unhide HT))
  go_wp2_with fail
  refine (unhide C9).mono ?_
  rintro e w1 ⟨a1, c1, A1, C1, rfl, hnn, hB, hb1⟩
  have hz1 := hb1.size
  have C10 := hide (ranges_any ra nr rc rts w1 (unhide HRL) (by omega) (unhide HN2) ((unhide HRR).below hb1) (unhide HRW))
  have HNN : Hid (a1 = none → n = 0) := fun h => unhide HN1 (hnn.1 h)
  have HB := hide hB
  have HB1 := hide hb1
  clear C9 hnn hB hb1 HE0 HT HRR HRW HN1 HN2 HRL
  go_wp2_with fail
  refine (unhide C10).mono ?_
  rintro e w2 ⟨a2, c2, rfl, hA, hb2⟩
  have hsum : nr / 3 + sumTo (fun i => L i / 3) n ≤ 131072 := by have h1 := sumTo_third L n; have h2 := unhide HS3; omega
  have hB2 : Bs (fun _ => False) w2 a1 n A1 (fun i => L i / 3) C1 (fun i => rangesOf (ts i) (L i / 3)) := ((unhide HB).below hb2).change (fun _ _ _ h => h)
  have hA2 : Rs (fun _ => False) w2 a2 (nr / 3) c2 (rangesOf rts (nr / 3)) := hA.change (fun _ _ _ h => h)
  have hbw : Below w.heap.size w w2 := (unhide HB1).trans (hb2.mono hz1)
  clear hA HB HB1 C10 hb2 HS3 HLS hz1
  generalize (fun i => rangesOf (ts i) (L i / 3)) = bl at hB2
  generalize (fun i => L i / 3) = M at hB2 hsum
  generalize rangesOf rts (nr / 3) = rs at hA2
  generalize nr / 3 = m at hA2 hsum ⊢
  have hz2 := hbw.size
  have HBW := hide hbw
  have HB2 := hide hB2
  have HA2 := hide hA2
  have HRN : Hid (rs.length = m) := hA2.len
  have hlen : ∀ k, k ≤ n → (catTo bl k).length = sumTo M k := catTo_len (fun i hi => (hB2.each i hi).len)
  have HLEN := hide hlen
  have HSUM := hide hsum
  clear hbw hB2 hA2 hlen hsum
  go_wp2
  go_loopw [11, 12] (fun v i wr => ∃ k : Nat, k ≤ l ∧ i = .int .i64 k ∧ wr.ownsRow w2.heap.size 47 18 v (catTo bl k).length (catTo bl k).flatten ∧ Below w2.heap.size w2 wr) (fun _ i _ => l - (intOf i).toNat)
  case atStart => exact ⟨0, Nat.zero_le _, rfl, World.ownsRow_nil _ _ _ _, Below.refl _ _⟩
  case round =>
    obtain ⟨k, hk, rfl, hown, hbel⟩ := hrel
    have hsz := hbel.size
    by_cases hlt : k < l
    · obtain ⟨b, off, hx, hb, hc⟩ := (unhide HB2).row (by omega)
      have c0 : wr.cell? ⟨b, off + k, none⟩ = some (.slice (A1 k) (M k) (C1 k)) := (hbel.cell (by exact hb)).trans (hc k (by omega))
      have hr := ((unhide HB2).each k (by omega)).below hbel
      have hsm : (catTo bl k).length + M k ≤ 1048576 := by
        rw [unhide HLEN k (by omega)]
        have := sumTo_mono M (show k + 1 ≤ n by omega)
        simp only [sumTo] at this
        have := unhide HSUM
        omega
      have hl1 : (catTo bl k).length + M k = (catTo bl (k + 1)).length := by rw [catTo, List.length_append, hr.len]
      have hkn : (k : Int) < (n : Int) := by omega
      have HL1 := hide hl1
      clear hc HB2 HA2 HBW hl1
      obtain rfl := hx
      go_wp2_with (at_builtin; refine wpList_append_rs _ rfl _ _ rfl w2.heap.size _ _ _ rfl hown (fun _ => False) _ _ _ (bl k) rfl hr (by omega) (by omega) ?_)
      intro v' w3 hown' hgrow
      have hb3 := hbel.grown hgrow (by omega) (fun q hq => (hown.lt q hq).1)
      rw [← List.flatten_append, unhide HL1] at hown'
      clear hown hbel hr hgrow c0
      go_wp2
      go_roundw
      case rel => exact ⟨k + 1, by omega, by go_num, hown', hb3⟩
      case measure => simp [intOf]; omega
    · obtain rfl : k = l := by omega
      have hr := (unhide HA2).below hbel
      have hb0 : (catTo bl k).length + m ≤ 1048576 := by
        rw [unhide HLEN k (by omega)]
        have := sumTo_mono M (show k ≤ n by omega)
        have := unhide HSUM
        omega
      have hl1 : (catTo bl k).length + m = (catTo bl k ++ rs).length := by rw [List.length_append, unhide HRN]
      have HL1 := hide hl1
      have hB0 := hide hb0
      clear hl1
      go_wp2_with (at_builtin; refine wpList_append_rs _ rfl _ _ rfl w2.heap.size _ _ _ rfl hown (fun _ => False) _ _ _ rs rfl hr (by omega) (by omega) ?_)
      intro v1 w3 hown1 hgrow
      have hb3 := hbel.grown hgrow (by omega) (fun q hq => (hown.lt q hq).1)
      rw [← List.flatten_append, unhide HL1] at hown1
      have HO1 : Hid (w3.ownsRow w2.heap.size 47 18 v1 (catTo bl k ++ rs ++ catR bl h 0).length (catTo bl k ++ rs ++ catR bl h 0).flatten) := by
        simp only [catR, List.append_nil]
        exact hown1
      have HB3 := hide hb3
      clear hown hbel hr hgrow hsz hown1 hb3 hb0
      go_wp2
      go_loopw [11, 13] (fun v i wr => ∃ c : Nat, h + c ≤ n ∧ i = .int .i64 ((h + c : Nat) : Int) ∧ wr.ownsRow w2.heap.size 47 18 v (catTo bl k ++ rs ++ catR bl h c).length (catTo bl k ++ rs ++ catR bl h c).flatten ∧ Below w2.heap.size w2 wr) (fun _ i _ => n - (intOf i).toNat)
      case atStart => exact ⟨0, by omega, rfl, unhide HO1, unhide HB3⟩
      case round =>
        obtain ⟨c, hcn, rfl, hown, hbel⟩ := hrel
        clear HO1 HB3
        have hsz := hbel.size
        by_cases hlt2 : h + c < n
        · obtain ⟨b, off, hx, hb, hc⟩ := (unhide HB2).row (by omega)
          have c0 : wr.cell? ⟨b, off + (h + c), none⟩ = some (.slice (A1 (h + c)) (M (h + c)) (C1 (h + c))) := (hbel.cell (by exact hb)).trans (hc (h + c) (by omega))
          have hr := ((unhide HB2).each (h + c) (by omega)).below hbel
          have hl1 : (catTo bl k ++ rs ++ catR bl h c).length + M (h + c) = (catTo bl k ++ rs ++ catR bl h (c + 1)).length := by rw [catR]; simp only [List.length_append]; rw [hr.len]; omega
          have hsm : (catTo bl k ++ rs ++ catR bl h c).length + M (h + c) ≤ 2097152 := by
            rw [hl1]
            have h1 := congrArg List.length (catR_cat bl h (c + 1))
            have h2 := unhide HLEN (h + (c + 1)) (by omega)
            have h3 := sumTo_mono M (show h + (c + 1) ≤ n by omega)
            have h4 := unhide HSUM
            have h5 := unhide hB0
            have h6 := unhide HRN
            simp only [List.length_append] at h1 ⊢
            omega
          have hfe : (catTo bl k ++ rs ++ catR bl h c).flatten ++ (bl (h + c)).flatten = (catTo bl k ++ rs ++ catR bl h (c + 1)).flatten := by rw [catR, ← List.flatten_append, List.append_assoc (catTo bl k ++ rs)]
          have hkn : ((h : Int) + (c : Int)) < (n : Int) := by omega
          have HL1 := hide hl1
          have HFE := hide hfe
          clear hc HB2 HA2 HBW hl1 hfe
          obtain rfl := hx
          generalize hX : catTo bl k ++ rs ++ catR bl h c = X at hown hsm HFE HL1
          generalize hY : catTo bl k ++ rs ++ catR bl h (c + 1) = Y at HFE HL1
          clear hX
          go_wp2_with (at_builtin; refine wpList_append_rs _ rfl _ _ rfl w2.heap.size _ _ _ rfl hown (fun _ => False) _ _ _ (bl (h + c)) rfl hr (by omega) (by omega) ?_)
          intro v' w4 hown' hgrow
          have hb4 := hbel.grown hgrow (by omega) (fun q hq => (hown.lt q hq).1)
          rw [unhide HFE, unhide HL1] at hown'
          clear hown hbel hr hgrow c0
          go_wp2
          go_roundw
          case rel => exact ⟨c + 1, by omega, by go_num, by rw [hY]; exact hown', hb4⟩
          case measure => simp [intOf]; omega
        · obtain rfl : c = n - h := by omega
          have hW : catTo bl k ++ rs ++ catR bl h (n - h) = (replaced (blist bl n) k h rs).flatten := by
            rw [replaced_flat _ _ _ _ (by rw [blist_len]; omega) (by rw [blist_len]; omega), ← catTo_blist bl n k (by omega), catR_blist bl n h hhn]
          have hrng : ∀ r ∈ catTo bl k ++ rs ++ catR bl h (n - h), IsRng r := fun r hr => by
            rcases List.mem_append.1 hr with h1 | h1
            · rcases List.mem_append.1 h1 with h2 | h2
              · exact catTo_rng (fun i hi => ((unhide HB2).each i hi).rng) k (by omega) r h2
              · exact (unhide HA2).rng r h2
            · exact catR_rng (fun i hi => ((unhide HB2).each i hi).rng) (n - h) (by omega) r h1
          obtain ⟨a3, c3, hv, hr3⟩ := Rs.of_owns hown hrng rfl
          have htot : ((blist bl n).take k).flatten.length + rs.length + ((blist bl n).drop h).flatten.length ≤ 131072 := by
            rw [← catTo_blist bl n k (by omega), ← catR_blist bl n h hhn]
            have h1 := congrArg List.length (catR_cat bl h (n - h))
            have h2 := unhide HLEN (h + (n - h)) (by omega)
            have h3 := unhide HLEN k (by omega)
            have h4 := unhide HLEN h (by omega)
            have h5 := sumTo_mono M hlh
            have h6 := unhide HSUM
            have h7 := unhide HRN
            rw [show h + (n - h) = n by omega] at h1 h2
            rw [List.length_append] at h1
            omega
          have hrl := replaced_len (blist bl n) k h rs (by rw [blist_len]; omega) (by rw [blist_len]; omega)
          have hrl2 : (replaced (blist bl n) k h rs).length ≤ 1048576 := by
            rw [blist_len] at hrl
            omega
          have hrf : (replaced (blist bl n) k h rs).flatten.length ≤ 131072 := by
            rw [replaced_flat _ _ _ _ (by rw [blist_len]; omega) (by rw [blist_len]; omega), List.length_append, List.length_append]
            exact htot
          rw [hW] at hr3 hv
          have C11 := hide (know_all (fun _ => False) a1 n c1 A1 M C1 bl wr (by omega) (unhide HNN) ((unhide HB2).below hbel))
          have C12 : Hid (∀ K w8, wr.heap.size ≤ K → Below wr.heap.size wr w8 → KIn wr.heap.size K w8 (blist bl n) → Calls Try.prog 12 #[.pointer (some ⟨K, 0, none⟩), .int .i64 k, .int .i64 h, .slice a2 m c2] w8 (ReplPost (Span wr.heap.size K) K w8 (replaced (blist bl n) k h rs))) :=
            fun K w8 hK hb8 hk8 => zz_any wr.heap.size K k h a2 m c2 (blist bl n) rs w8 hk8 (((unhide HA2).below hbel).fresh (Nat.le_refl _) hb8) hlh (by rw [blist_len]; exact hhn) (by rw [blist_len]; omega) htot
          generalize replaced (blist bl n) k h rs = bl' at C12 hrl2 hrf hr3 hv
          have HBW3 : Hid (Below w.heap.size w wr) := (unhide HBW).trans (hbel.mono hz2)
          have HR3 := hide hr3
          have HRF := hide hrf
          have HRL2 := hide hrl2
          rw [hv]
          clear hown hbel hW hrng hv hr3 htot hrl hrl2 hrf HB2 HA2 HBW HLEN HSUM HRN hB0 HL1 hz2 hsz
          generalize hq : bl'.flatten.length = q at HR3 HRF
          go_wp2_with fail
          refine (unhide C11).mono ?_
          rintro e w4 ⟨kv, rfl, hb4, hkin⟩
          have hz4 := hb4.size
          have HB4 := hide hb4
          have HKI := hide hkin
          clear C11 hb4 hkin
          go_wp2_with fail
          have hbz : Below (w4.heap.size + 1) (w4.alloc (.cells #[.pointer kv] 32)) (w4.alloc (.cells #[.pointer kv] 32)) := Below.refl _ _
          refine (unhide C12 w4.heap.size _ hz4 ?_ (unhide HKI _ hbz)).mono ?_
          · exact (unhide HB4).alloc hz4 _
          rintro e w5 ⟨rfl, hk5, ho⟩
          obtain ⟨kv', hK, hkv⟩ := kval_of_out ho
          have C15 := hide (bRanges_any kv' bl' w5 (unhide HRL2) hkv)
          have hb5 : Below wr.heap.size wr w5 := ((unhide HB4).alloc hz4 _).trans (hk5.below (by simp; omega) (fun k hk e => by have := e.1; omega))
          have hr5 : Rs (Span wr.heap.size w4.heap.size) w5 a3 q c3 bl'.flatten := ((unhide HR3).fresh (Nat.le_refl _) ((unhide HB4).alloc hz4 _)).kept hk5
          have HB5 := hide hb5
          have HR5 := hide hr5
          clear HB4 HKI C12 hk5 ho hkv hb5 hr5 HR3 hbz
          go_wp2_with fail
          refine (unhide C15).mono ?_
          rintro e w6 ⟨a6, c6, A6, C6, rfl, hB6, hb6⟩
          have hsl : sumTo (fun i => (bl'.getD i []).length) bl'.length ≤ 1048576 := by rw [sumTo_len, hq]; have := unhide HRF; omega
          have C14 := hide (flat_any (fun _ => False) a6 bl'.length c6 A6 (fun i => (bl'.getD i []).length) C6 (fun i => bl'.getD i []) w6 (unhide HRL2) hsl hB6)
          rw [catTo_all] at C14
          have HB6 := hide hb6
          clear hB6 hsl C15 hb6
          go_wp2_with fail
          refine (unhide C14).mono ?_
          rintro e w7 ⟨a7, c7, rfl, hr7, hb7⟩
          rw [hq] at hr7 ⊢
          have hb57 : Below w5.heap.size w5 w7 := (unhide HB6).trans (hb7.mono (unhide HB6).size)
          have C13 := hide (same_any _ _ a7 a3 q c7 c3 bl'.flatten w7 (by have := unhide HRF; omega) hr7 ((unhide HR5).below hb57))
          have HE : Hid (Below w.heap.size w w7) := ((unhide HBW3).trans ((unhide HB5).mono (unhide HBW3).size)).trans (hb57.mono (Nat.le_trans (unhide HBW3).size (unhide HB5).size))
          clear hr7 hb7 hb57 HB6 HR5 C14
          go_wp2_with fail
          refine (unhide C13).mono ?_
          rintro e w8 ⟨rfl, qq, rfl⟩
          go_wp2
          go_ret
          exact ⟨rfl, (unhide HE).trans ⟨rfl, rfl, rfl, Nat.le_refl _, fun _ _ => rfl⟩⟩
end Go.Proofs.Qxb6600722a
