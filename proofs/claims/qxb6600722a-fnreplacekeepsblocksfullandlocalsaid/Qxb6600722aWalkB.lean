import Derived.Test.Qxb6600722aTwin
import Derived.Deep.DeepCutAuto
import Derived.Deep.CutBlock
namespace Go.Proofs.Qxb6600722a
open Go.RowKit
set_option linter.unusedVariables false
set_option maxRecDepth 100000

def SameP (w : World) (e : Ending) (w' : World) : Prop := e = .returned (.bool true) ∧ ∃ q, w' = w.drewN q

theorem loc_facts {R bl' : List (List Rng)} {l h n : Nat} {w : World} {a13 a2 : Option Addr} {A13 A2 : Nat → Option Addr} {C13 C2 : Nat → Nat} {T : Nat → Prop} (hloc : Local bl' l h R) (hll : bl'.length = n) (hhn : l ≤ n)
    (hG : Bs (fun _ => False) w a13 R.length A13 (fun i => (R.getD i []).length) C13 (fun i => R.getD i [])) (hF : Bs T w a2 bl'.length A2 (fun i => (bl'.getD i []).length) C2 (fun i => bl'.getD i [])) :
    ∃ G F : Nat → Nat, RowV w a13 R.length (fun i => .slice (A13 i) (G i) (C13 i)) ∧ RowV w a2 n (fun i => .slice (A2 i) (F i) (C2 i)) ∧ (∀ i, i < R.length → 1 ≤ G i ∧ G i ≤ 128) ∧ (∀ i, i + 1 < R.length → 128 < G i + G (i + 1)) ∧ l - 1 + (n - h - 1) ≤ R.length ∧
      (∀ i q, i < l - 1 → Calls Try.prog 13 #[.slice (A13 i) (G i) (C13 i), .slice (A2 i) (F i) (C2 i)] (w.drewN q) (SameP (w.drewN q))) ∧
      ∀ j q, j < n - h - 1 → Calls Try.prog 13 #[.slice (A13 (R.length - 1 - j)) (G (R.length - 1 - j)) (C13 (R.length - 1 - j)), .slice (A2 (n - 1 - j)) (F (n - 1 - j)) (C2 (n - 1 - j))] (w.drewN q) (SameP (w.drewN q)) := by
  subst hll
  refine ⟨fun i => (R.getD i []).length, fun i => (bl'.getD i []).length, hG.row, hF.row, hloc.laid.each, hloc.laid.side, hloc.len, fun i q hi => ?_, fun j q hj => ?_⟩
  · have h1 := hloc.len
    have hg := (hG.each i (by omega)).below (below_of_drewN w q)
    have hf := (hF.each i (by omega)).below (below_of_drewN w q)
    have hb := (hloc.laid.each i (by omega)).2
    have he := hloc.pre i hi
    simp only at hg hf ⊢
    rw [← he] at hf ⊢
    exact same_any _ _ _ _ _ _ _ _ _ (by omega) hg hf
  · have h1 := hloc.len
    have hg := (hG.each (R.length - 1 - j) (by omega)).below (below_of_drewN w q)
    have hf := (hF.each (bl'.length - 1 - j) (by omega)).below (below_of_drewN w q)
    have hb := (hloc.laid.each (R.length - 1 - j) (by omega)).2
    have he := hloc.suf j hj
    simp only at hg hf ⊢
    rw [← he] at hf ⊢
    exact same_any _ _ _ _ _ _ _ _ _ (by omega) hg hf

set_option maxHeartbeats 4000000 in
theorem lawB (a : Option Addr) (n cap : Nat) (A : Nat → Option Addr) (L C : Nat → Nat) (ts : Nat → List Int) (lo hi : Int) (ra : Option Addr) (nr rc : Nat) (rts : List Int) (w : World)
    (hT : Ts w a n A L C ts) (hn : n ≤ 9223372036854775807) (hL : ∀ i, i < n → L i ≤ 9223372036854775807) (hnone : a = none → n = 0)
    (hnr : nr ≤ 9223372036854775807) (hrnone : ra = none → nr = 0) (hrl : rts.length = nr) (hR : RowV w ra nr (fun j => .int .u64 (rts.getD j 0))) (hrw : ∀ j, 0 ≤ rts.getD j 0 ∧ rts.getD j 0 ≤ 18446744073709551615) :
    Calls Try.prog 4 #[.slice a n cap, .int .i64 lo, .int .i64 hi, .slice ra nr rc] w (LawPost w) := by
  have C16 := hide (bytes16 a n cap A L C w lo hi ra nr rc hT.row hn hL hnr)
  have C7 := hide (small7 a n cap A L C w ra nr rc hT.row hn hL hnr)
  have HE0 := hide (lawpost_refl w)
  have HT := hide hT
  have HRR := hide hR
  have HRW := hide hrw
  have HN1 := hide hnone
  have HN2 := hide hrnone
  have HRL := hide hrl
  clear hT hR hrw hnone hrnone hrl hL
  go_enter Try.func4, Try.ntmps4
  go_wp2_with fail
  refine (unhide C16).mono ?_
  rintro e w' ⟨b, rfl, hw, -⟩
  obtain rfl : w = w' := hw.symm
  clear C16 hw
  cases b
  · go_wp2
    go_ret
    exact unhide HE0
  go_wp2_with fail
  refine (unhide C7).mono ?_
  rintro e w' ⟨b, rfl, hw, hb⟩
  obtain rfl : w = w' := hw.symm
  clear C7 hw
  cases b
  · go_wp2
    go_ret
    exact unhide HE0
  obtain ⟨s1, s2, s3⟩ := hb rfl
  clear hb
  by_cases g1 : lo < 0
  · go_wp2
    go_ret
    exact unhide HE0
  by_cases g2 : hi < lo
  · go_wp2
    go_ret
    exact unhide HE0
  by_cases g3 : (n : Int) < hi
  · go_wp2
    go_ret
    exact unhide HE0
  obtain ⟨l, rfl⟩ : ∃ l : Nat, lo = l := ⟨lo.toNat, by omega⟩
  obtain ⟨h, rfl⟩ : ∃ h : Nat, hi = h := ⟨hi.toNat, by omega⟩
  have hlh : l ≤ h := by omega
  have hhn : h ≤ n := by omega
  have hLs : ∀ i, i < n → L i ≤ 1048576 := fun i hi => by have := le_sumTo L hi; omega
  have C8 := hide (triples8 a n cap A L C w ra nr rc (unhide HT).row (by omega) hLs (by omega))
  have C17 := hide (laid17 a n cap A L C w (unhide HT).row (by omega) hLs)
  have HLS := hide hLs
  have HS3 := hide s3
  clear hLs s3
  go_wp2_with fail
  refine (unhide C8).mono ?_
  rintro e w' ⟨b, rfl, hw, -⟩
  obtain rfl : w = w' := hw.symm
  clear C8 hw
  cases b
  · go_wp2
    go_ret
    exact unhide HE0
  go_wp2_with fail
  refine (unhide C17).mono ?_
  rintro e w' ⟨b, rfl, hw, hb⟩
  obtain rfl : w = w' := hw.symm
  clear C17 hw
  cases b
  · go_wp2
    go_ret
    exact unhide HE0
  have HLA := hide (hb rfl)
  clear hb
  -- old
  have C9 := hide (blocks_any a n cap A L C ts w (by omega) (unhide HLS) (unhide HN1) (unhide HT))
  go_wp2_with fail
  refine (unhide C9).mono ?_
  rintro e w1 ⟨a1, c1, A1, C1, rfl, hnn, hB, hb1⟩
  have hz1 := hb1.size
  have hT1 : Ts w1 a n A L C ts := ⟨(unhide HT).row.below hb1, (unhide HT).len, (unhide HT).none, fun i hi => ((unhide HT).each i hi).below hb1, (unhide HT).wf⟩
  have C9b := hide (blocks_any a n cap A L C ts w1 (by omega) (unhide HLS) (unhide HN1) hT1)
  have HNN : Hid (a1 = none → n = 0) := fun h => unhide HN1 (hnn.1 h)
  have HB := hide hB
  have HB1 := hide hb1
  have HRR1 := hide ((unhide HRR).below hb1)
  clear C9 hnn hB hb1 hT1 HE0 HT HN1 HRR
  -- before
  go_wp2_with fail
  refine (unhide C9b).mono ?_
  rintro e w2 ⟨a2, c2, A2, C2, rfl, hnn, hB', hb2⟩
  have hz2 := hb2.size
  have hr2 := (unhide HRR1).below hb2
  have C10 := hide (ranges_any ra nr rc rts w2 (unhide HRL) (by omega) (unhide HN2) hr2 (unhide HRW))
  have HR2 := hide hr2
  have HB' := hide hB'
  have HB2 := hide hb2
  clear C9b hnn hB' hb2 HRR1 hr2
  -- add
  go_wp2_with fail
  refine (unhide C10).mono ?_
  rintro e w3 ⟨a3, c3, rfl, hA, hb3⟩
  have hz3 := hb3.size
  have C10b := hide (ranges_any ra nr rc rts w3 (unhide HRL) (by omega) (unhide HN2) ((unhide HR2).below hb3) (unhide HRW))
  have HA := hide hA
  have HB3 := hide hb3
  clear C10 hA hb3 HR2 HRW HN2 HRL
  -- addBefore
  go_wp2_with fail
  refine (unhide C10b).mono ?_
  rintro e w4 ⟨a4, c4, rfl, hA', hb4⟩
  have hz4 := hb4.size
  have hsum : nr / 3 + sumTo (fun i => L i / 3) n ≤ 131072 := by have h1 := sumTo_third L n; have h2 := unhide HS3; omega
  have hb24 : Below w2.heap.size w2 w4 := (unhide HB3).trans (hb4.mono hz3)
  have hb14 : Below w1.heap.size w1 w4 := (unhide HB2).trans (hb24.mono hz2)
  have hbw : Below w.heap.size w w4 := (unhide HB1).trans (hb14.mono hz1)
  have hBo : Bs (fun _ => False) w4 a1 n A1 (fun i => L i / 3) C1 (fun i => rangesOf (ts i) (L i / 3)) := ((unhide HB).below hb14).change (fun _ _ _ h => h)
  have hBb : Bs (fun _ => False) w4 a2 n A2 (fun i => L i / 3) C2 (fun i => rangesOf (ts i) (L i / 3)) := ((unhide HB').below hb24).change (fun _ _ _ h => h)
  have hAa : Rs (fun _ => False) w4 a3 (nr / 3) c3 (rangesOf rts (nr / 3)) := ((unhide HA).below hb4).change (fun _ _ _ h => h)
  have hAb : Rs (fun _ => False) w4 a4 (nr / 3) c4 (rangesOf rts (nr / 3)) := hA'.change (fun _ _ _ h => h)
  have hla := laid_blist (unhide HLA) (fun i hi => (hBo.each i hi).len)
  clear HB HB' HA hA' HB1 HB2 HB3 hb4 C10b HS3 HLS hb24 hb14 HLA hz1 hz2 hz3 hz4
  generalize (fun i => rangesOf (ts i) (L i / 3)) = bl at hBo hBb hla
  generalize (fun i => L i / 3) = M at hBo hBb hsum
  generalize rangesOf rts (nr / 3) = rs at hAa hAb
  generalize nr / 3 = m at hAa hAb hsum ⊢
  have hlen : ∀ k, k ≤ n → (catTo bl k).length = sumTo M k := catTo_len (fun i hi => (hBo.each i hi).len)
  have htot : ((blist bl n).take l).flatten.length + rs.length + ((blist bl n).drop h).flatten.length ≤ 131072 := by
    rw [← catTo_blist bl n l (by omega), ← catR_blist bl n h hhn]
    have h1 := congrArg List.length (catR_cat bl h (n - h))
    have h2 := hlen (h + (n - h)) (by omega)
    have h3 := hlen l (by omega)
    have h4 := hlen h (by omega)
    have h5 := sumTo_mono M hlh
    have h7 := hAa.len
    rw [show h + (n - h) = n by omega] at h1 h2
    rw [List.length_append] at h1
    omega
  have hloc := replaced_local hla l h rs hlh (by rw [blist_len]; exact hhn)
  have hrl := replaced_len (blist bl n) l h rs (by rw [blist_len]; omega) (by rw [blist_len]; omega)
  have hrl2 : (replaced (blist bl n) l h rs).length ≤ 1048576 := by
    rw [blist_len] at hrl
    omega
  have C11 := hide (know_all (fun _ => False) a1 n c1 A1 M C1 bl w4 (by omega) (unhide HNN) hBo)
  have C11b : Hid (∀ K w6, K + 1 = w6.heap.size → w4.heap.size ≤ K → Below w4.heap.size w4 w6 → Calls Try.prog 11 #[.slice a1 n c1] w6 (TwinPost (Span w4.heap.size K) w6 (blist bl n))) :=
    fun K w6 hK h4 hb => know_twin (Span w4.heap.size K) a1 n c1 A1 M C1 bl w6 (by omega) (unhide HNN) (hBo.fresh (Nat.le_refl _) hb) (fun k hk => by have := hk.2; omega)
  have C12 : Hid (∀ K w8, w4.heap.size ≤ K → Below w4.heap.size w4 w8 → KIn w4.heap.size K w8 (blist bl n) → Calls Try.prog 12 #[.pointer (some ⟨K, 0, none⟩), .int .i64 l, .int .i64 h, .slice a3 m c3] w8 (ReplPost (Span w4.heap.size K) K w8 (replaced (blist bl n) l h rs))) :=
    fun K w8 hK hb8 hk8 => zz_any w4.heap.size K l h a3 m c3 (blist bl n) rs w8 hk8 (hAa.fresh (Nat.le_refl _) hb8) hlh (by rw [blist_len]; exact hhn) (by rw [blist_len]; omega) htot
  have HBb := hide hBb.listed
  have HAa := hide hAa
  have HAb := hide hAb
  have HBW := hide hbw
  have HLL : Hid ((blist bl n).length = n) := blist_len bl n
  have hMn : ∀ i, i < (blist bl n).length → ((blist bl n).getD i []).length ≤ 1048576 := fun i hi => by have := (hla.each i hi).2; omega
  have HMN := hide hMn
  have hm : m ≤ 1048576 := by omega
  generalize replaced (blist bl n) l h rs = R at C12 hrl2 hloc
  generalize blist bl n = bl' at C11 C11b C12 HBb HLL hloc HMN
  have HLO := hide hloc
  have HRL2 := hide hrl2
  clear hbw hBo hBb hAa hAb hlen htot hloc hrl hrl2 hla hsum HNN hMn
  -- k
  go_wp2_with fail
  refine (unhide C11).mono ?_
  rintro e w5 ⟨kv, rfl, hb5, hkin⟩
  have hz5 := hb5.size
  have HB5 := hide hb5
  have HKI := hide hkin
  clear C11 hb5 hkin
  -- twin
  go_wp2_with fail
  have hb6 : Below w4.heap.size w4 (w5.alloc (.cells #[.pointer kv] 32)) := (unhide HB5).alloc hz5 _
  refine (unhide C11b w5.heap.size _ ?_ hz5 hb6).mono ?_
  · simp
  rintro e w7 ⟨tv, rfl, hb7, hread⟩
  have hz7 := hb7.size
  rw [World.size_alloc] at hz7 hb7
  have HB7 := hide hb7
  have HB6 := hide hb6
  have HRE := hide hread
  clear C11b hb7 hb6 hread HB5
  -- replace
  have hb8 : Below (w5.heap.size + 1) (w5.alloc (.cells #[.pointer kv] 32)) (w7.alloc (.cells #[.pointer tv] 32)) := (unhide HB7).alloc hz7 _
  have hb48 : Below w4.heap.size w4 (w7.alloc (.cells #[.pointer tv] 32)) := (unhide HB6).trans (hb8.mono (by omega))
  have HB8 := hide hb8
  have HB48 := hide hb48
  clear hb8 hb48
  go_wp2_with fail
  refine (unhide C12 w5.heap.size _ hz5 (unhide HB48) (unhide HKI _ (unhide HB8))).mono ?_
  rintro e w9 ⟨rfl, hk9, ho⟩
  obtain ⟨kv', hK, hkv⟩ := kval_of_out ho
  have hK2 : w9.cell? ⟨w7.heap.size, 0, none⟩ = some (.pointer tv) := by
    refine hk9.cell (p := ⟨w7.heap.size, 0, none⟩) ?_ (fun e => by have := e.2; simp at this; omega)
    rw [World.cell?_alloc_at _ _ _ _ rfl]; rfl
  have hre9 : KRead (Span w4.heap.size w5.heap.size) w9 tv bl' := ((unhide HRE).kept (Kept.of_below ((Below.refl _ _).alloc (Nat.le_refl _) _))).kept hk9
  have C15 := hide (bRanges_any tv bl' w9 (by rw [unhide HLL]; omega) hre9.val)
  have HBb9 := hide (((unhide HBb).fresh (c := w4.heap.size) (K := w5.heap.size) (Nat.le_refl _) (unhide HB48)).kept hk9)
  have HAa9 := hide (((unhide HAa).fresh (c := w4.heap.size) (K := w5.heap.size) (Nat.le_refl _) (unhide HB48)).kept hk9)
  have HAb9 := hide (((unhide HAb).fresh (c := w4.heap.size) (K := w5.heap.size) (Nat.le_refl _) (unhide HB48)).kept hk9)
  have hb49 : Below w4.heap.size w4 w9 := (unhide HB48).trans (hk9.below (unhide HB48).size (fun k hk e => by have := e.1; omega))
  have HBW9 : Hid (Below w.heap.size w w9) := (unhide HBW).trans (hb49.mono (unhide HBW).size)
  have HKV := hide hkv
  have HK := hide hK
  have hK5 : w5.heap.size < w9.heap.size := World.block_lt_of_cell? w9 _ hK
  clear hk9 ho hkv hK hre9 hb49 HRE HB7 HB6 HB8 HB48 HKI C12 HBb HAa HAb HBW
  -- the twin reads as before
  go_wp2_with fail
  refine (unhide C15).mono ?_
  rintro e w10 ⟨a10, c10, A10, C10, rfl, hB10, hb10⟩
  have C18 := hide (sameBlocks_any _ _ a10 a2 bl'.length c10 c2 A10 A2 (fun i => (bl'.getD i []).length) C10 C2 (fun i => bl'.getD i []) w10 (by rw [unhide HLL]; omega) (unhide HMN) hB10 ((unhide HBb9).below hb10))
  have HB10 := hide hb10
  rw [unhide HLL] at C18 ⊢
  clear C15 hB10 hb10 hK2
  go_wp2_with fail
  refine (unhide C18).mono ?_
  rintro e w11 ⟨rfl, q11, hw11⟩
  have hb11 : Below w9.heap.size w9 w11 := (unhide HB10).trans (by rw [hw11]; exact (below_of_drewN w10 q11).mono (unhide HB10).size)
  have C13 := hide (same_any _ _ a3 a4 m c3 c4 rs w11 hm ((unhide HAa9).below hb11) ((unhide HAb9).below hb11))
  have HB11 := hide hb11
  clear C18 hw11 hb11 HB10 HAa9 HAb9
  -- the ranges handed in read as before
  go_wp2_with fail
  refine (unhide C13).mono ?_
  rintro e w12 ⟨rfl, q12, hw12⟩
  have hb12 : Below w9.heap.size w9 w12 := (unhide HB11).trans (by rw [hw12]; exact (below_of_drewN w11 q12).mono (unhide HB11).size)
  have hK12 : w12.cell? ⟨w5.heap.size, 0, none⟩ = some (.pointer kv') := (hb12.cell (by exact hK5)).trans (unhide HK)
  have C15 := hide (bRanges_any kv' R w12 (unhide HRL2) ((unhide HKV).below hb12))
  have HB12 := hide hb12
  clear C13 hw12 hb12 HB11 HK HKV
  -- got
  go_wp2_with fail
  refine (unhide C15).mono ?_
  rintro e w13 ⟨a13, c13, A13, C13, rfl, hB13, hb13⟩
  have hb913 : Below w9.heap.size w9 w13 := (unhide HB12).trans (hb13.mono (unhide HB12).size)
  have HE : Hid (Below w.heap.size w w13) := (unhide HBW9).trans (hb913.mono (unhide HBW9).size)
  obtain ⟨G, F, f1, f2, f3, f4, f5, f6, f7⟩ := loc_facts (unhide HLO) (unhide HLL) (by omega) hB13 ((unhide HBb9).below hb913)
  have hrl : R.length ≤ 1048576 := unhide HRL2
  generalize R.length = rl at f1 f3 f4 f5 f7 hrl ⊢
  have F1 := hide f1
  have F2 := hide f2
  have F3 := hide f3
  have F4 := hide f4
  have F5 := hide f5
  have F6 := hide f6
  have F7 := hide f7
  clear C15 hB13 hb13 hb913 HBW9 HB12 hK12 HBb9 HLO HLL HMN HRL2 f1 f2 f3 f4 f5 f6 f7 hK5 hz7 hz5
  go_upto_block 0 with (fail)
  go_cut [16, 17] (fun _ _ wc => wc = w13)
  case first =>
    clear F2 F5 F6 F7 HE
    go_wp2
    go_loop [16, 17] (fun i _ => ∃ k : Nat, k ≤ rl ∧ i = .int .i64 k) (fun i _ => rl - (intOf i).toNat)
    case atStart => exact ⟨0, Nat.zero_le _, rfl⟩
    case round =>
      obtain ⟨k, hk, rfl⟩ := hrel
      by_cases hlt : k < rl
      · obtain ⟨b, off, hx, hb, hc⟩ := unhide F1 (by omega)
        obtain rfl := hx
        have hlt' : (k : Int) < (rl : Int) := by omega
        have p0 : w13.cell? ⟨b, off + k, none⟩ = some (.slice (A13 k) (G k) (C13 k)) := hc k hlt
        have g0 := unhide F3 k hlt
        rcases Nat.eq_zero_or_pos k with h0 | h0
        · subst h0
          have p0 : w13.cell? ⟨b, off, none⟩ = some (.slice (A13 0) (G 0) (C13 0)) := by simpa using p0
          clear hc F1 F3 F4
          generalize G 0 = y at p0 g0
          go_wp2
          go_round
          case rel => exact ⟨1, by omega, rfl⟩
          case measure => simp [intOf]; omega
        · obtain ⟨j, rfl⟩ : ∃ j, k = j + 1 := ⟨k - 1, by omega⟩
          have p1 : w13.cell? ⟨b, off + j, none⟩ = some (.slice (A13 j) (G j) (C13 j)) := hc j (by omega)
          have g1 := unhide F4 j hlt
          have g3 := unhide F3 j (by omega)
          clear hc F1 F3 F4
          have g2 : ¬ ((G j : Int) + (G (j + 1) : Int) ≤ 128) := by omega
          generalize G j = z at p1 g1 g2 g3
          generalize G (j + 1) = y at p0 g0 g1 g2
          go_wp2
          go_round
          case rel => exact ⟨j + 1 + 1, by omega, by go_num⟩
          case measure => simp [intOf]; omega
      · clear F1 F3 F4
        go_wp2
        go_meet
        case rel => rfl
  case rest =>
    obtain rfl : w13 = wc := hcut.symm
    clear F3 F4
    have e1 : 0 < l → ((l - 1 : Nat) : Int) = (l : Int) - 1 := fun h0 => by omega
    have e2 : 0 ≤ (n : Int) - (h : Int) - 1 → ((n - h - 1 : Nat) : Int) = (n : Int) - (h : Int) - 1 := fun h0 => by omega
    have e3 : (n : Int) - (h : Int) - 1 < 0 → n - h - 1 = 0 := fun h0 => by omega
    have E1 := hide e1
    have E2 := hide e2
    have E3 := hide e3
    clear e1 e2 e3
    go_upto_if 112 with (fail)
    go_cut [18] (fun p wc => p = .int .i64 ((l - 1 : Nat) : Int) ∧ wc = w13)
    case first =>
      clear F1 F2 F5 F6 F7 E2 E3 HE
      rcases Nat.eq_zero_or_pos l with h0 | h0
      · have hd : (l : Int) - 1 < 0 := by omega
        have H0 := hide h0
        clear h0
        go_wp2
        go_meet
        case rel => exact ⟨by rw [unhide H0]; rfl, rfl⟩
      · have hd : ¬ ((l : Int) - 1 < 0) := by omega
        go_wp2
        go_meet
        case rel => exact ⟨by rw [unhide E1 h0], rfl⟩
    case rest =>
      obtain ⟨rfl, hwc⟩ := hcut
      obtain rfl : w13 = wc := hwc.symm
      clear hwc
      go_upto_if 119 with (fail)
      go_cut [19] (fun p wc => p = .int .i64 ((n - h - 1 : Nat) : Int) ∧ wc = w13)
      case first =>
        clear F1 F2 F5 F6 F7 E1 HE
        by_cases hd : (n : Int) - (h : Int) - 1 < 0
        · go_wp2
          go_meet
          case rel => exact ⟨by rw [unhide E3 hd]; rfl, rfl⟩
        · go_wp2
          go_meet
          case rel => exact ⟨by rw [unhide E2 (by omega)], rfl⟩
      case rest =>
        obtain ⟨rfl, hwc⟩ := hcut
        obtain rfl : w13 = wc := hwc.symm
        have f5 := unhide F5
        have fp : l - 1 ≤ n := by omega
        have fs : n - h - 1 ≤ n := by omega
        clear E1 E2 E3 F5 hwc
        generalize l - 1 = pre at F6 f5 fp ⊢
        generalize n - h - 1 = suf at F7 f5 fs ⊢
        have f5' : ¬ ((rl : Int) < (pre : Int) + (suf : Int)) := by omega
        have HF5 := hide f5
        clear f5
        go_upto_block 2 with (fail)
        go_cut [20] (fun _ wc => ∃ q, wc = w13.drewN q)
        case first =>
          clear HE F7
          go_wp2
          go_loopw [20] (fun i wr => ∃ k q : Nat, k ≤ pre ∧ i = .int .i64 k ∧ wr = w13.drewN q) (fun i _ => pre - (intOf i).toNat)
          case atStart => exact ⟨0, 0, Nat.zero_le _, rfl, rfl⟩
          case round =>
            obtain ⟨k, q, hk, rfl, hwr⟩ := hrel
            by_cases hlt : k < pre
            · have hf5 := unhide HF5
              obtain ⟨b1, o1, hx1, hb1, hc1⟩ := unhide F1 (by omega)
              obtain ⟨b2, o2, hx2, hb2, hc2⟩ := unhide F2 (by omega)
              have hbel : Below w13.heap.size w13 wr := by rw [hwr]; exact below_of_drewN w13 q
              have p1 : wr.cell? ⟨b1, o1 + k, none⟩ = some (.slice (A13 k) (G k) (C13 k)) := (hbel.cell (by exact hb1)).trans (hc1 k (by omega))
              have p2 : wr.cell? ⟨b2, o2 + k, none⟩ = some (.slice (A2 k) (F k) (C2 k)) := (hbel.cell (by exact hb2)).trans (hc2 k (by omega))
              have HC : Hid (∀ m, Calls Try.prog 13 #[.slice (A13 k) (G k) (C13 k), .slice (A2 k) (F k) (C2 k)] (wr.drewN m) fun e w' => e = .returned (.bool true) ∧ ∃ q, w' = (wr.drewN m).drewN q) := fun m => by
                have := unhide F6 k (q + m) hlt
                rw [← World.drewN_drewN, ← hwr] at this
                exact this
              have HWR := hide hwr
              have hk1 : (k : Int) < (rl : Int) := by omega
              have hk2 : (k : Int) < (n : Int) := by omega
              clear hc1 hc2 F1 F2 F6 hb1 hb2 hbel hwr hf5 HF5
              obtain rfl := hx1
              obtain rfl := hx2
              generalize G k = y1 at p1 HC
              generalize F k = y2 at p2 HC
              have hlt' : (k : Int) < (pre : Int) := by omega
              go_wp2
              go_quiet ((go_at_call 13; exact Calls.quiet_of (unhide HC _)))
              go_wp2
              go_roundw
              case rel => exact ⟨k + 1, _, by omega, by go_num, by rw [unhide HWR, World.drewN_drewN]⟩
              case measure => simp [intOf]; omega
            · have HWR := hide hwr
              clear F1 F2 F6 hwr
              go_wp2
              go_meet
              case rel => exact ⟨q, unhide HWR⟩
        case rest =>
          obtain ⟨q0, hw0⟩ := hcut
          have HW0 := hide hw0
          clear F6 hw0
          go_wp2
          go_loopw [21] (fun i wr => ∃ k q : Nat, k ≤ suf ∧ i = .int .i64 k ∧ wr = w13.drewN q) (fun i _ => suf - (intOf i).toNat)
          case atStart => exact ⟨0, q0, Nat.zero_le _, rfl, unhide HW0⟩
          case round =>
            obtain ⟨j, q, hj, rfl, hwr⟩ := hrel
            by_cases hlt2 : j < suf
            · have hf5 := unhide HF5
              obtain ⟨b1, o1, hx1, hb1, hc1⟩ := unhide F1 (by omega)
              obtain ⟨b2, o2, hx2, hb2, hc2⟩ := unhide F2 (by omega)
              have hbel : Below w13.heap.size w13 wr := by rw [hwr]; exact below_of_drewN w13 q
              have hn1 : rl - 1 - j < rl := by omega
              have hn2 : n - 1 - j < n := by omega
              have i1 : (rl : Int) - 1 - (j : Int) = ((rl - 1 - j : Nat) : Int) := by omega
              have i2 : (n : Int) - 1 - (j : Int) = ((n - 1 - j : Nat) : Int) := by omega
              have hsf := unhide F7 j
              generalize rl - 1 - j = x1 at hn1 i1 hsf
              generalize n - 1 - j = x2 at hn2 i2 hsf
              have p1 : wr.cell? ⟨b1, o1 + x1, none⟩ = some (.slice (A13 x1) (G x1) (C13 x1)) := (hbel.cell (by exact hb1)).trans (hc1 x1 hn1)
              have p2 : wr.cell? ⟨b2, o2 + x2, none⟩ = some (.slice (A2 x2) (F x2) (C2 x2)) := (hbel.cell (by exact hb2)).trans (hc2 x2 hn2)
              have HC : Hid (∀ m, Calls Try.prog 13 #[.slice (A13 x1) (G x1) (C13 x1), .slice (A2 x2) (F x2) (C2 x2)] (wr.drewN m) fun e w' => e = .returned (.bool true) ∧ ∃ q, w' = (wr.drewN m).drewN q) := fun m => by
                have := hsf (q + m) hlt2
                rw [← World.drewN_drewN, ← hwr] at this
                exact this
              have HWR2 := hide hwr
              have hk1 : (x1 : Int) < (rl : Int) := by omega
              have hk2 : (x2 : Int) < (n : Int) := by omega
              clear hc1 hc2 F1 F2 F7 hb1 hb2 hbel hwr hf5 HF5 hsf HE HW0
              obtain rfl := hx1
              obtain rfl := hx2
              generalize A13 x1 = v1 at p1 HC
              generalize C13 x1 = d1 at p1 HC
              generalize A2 x2 = v2 at p2 HC
              generalize C2 x2 = d2 at p2 HC
              generalize G x1 = y1 at p1 HC
              generalize F x2 = y2 at p2 HC
              have hlt' : (j : Int) < (suf : Int) := by omega
              go_wp2
              go_quiet ((go_at_call 13; exact Calls.quiet_of (unhide HC _)))
              go_wp2
              go_roundw
              case rel => exact ⟨j + 1, _, by omega, by go_num, by rw [unhide HWR2, World.drewN_drewN]⟩
              case measure => simp [intOf]; omega
            · have HEF : Hid (LawPost w (.returned (.bool true)) wr) := ⟨rfl, by rw [hwr]; exact (unhide HE).trans ((below_of_drewN w13 q).mono (unhide HE).size)⟩
              clear hwr
              go_wp2
              go_ret
              exact unhide HEF
end Go.Proofs.Qxb6600722a
