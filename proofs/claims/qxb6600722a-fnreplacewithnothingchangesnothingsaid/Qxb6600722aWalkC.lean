import Derived.Test.Qxb6600722aTwin
namespace Go.Proofs.Qxb6600722a
open Go.RowKit
set_option linter.unusedVariables false
set_option maxRecDepth 100000

theorem Rs.nothing (S : Nat → Prop) (w : World) : Rs S w none 0 0 [] := ⟨rfl, Nat.le_refl _, (fun r hr => by simp at hr), fun h => absurd h (by omega)⟩

set_option maxHeartbeats 4000000 in
theorem lawC (a : Option Addr) (n cap : Nat) (A : Nat → Option Addr) (L C : Nat → Nat) (ts : Nat → List Int) (lo : Int) (w : World)
    (hT : Ts w a n A L C ts) (hn : n ≤ 9223372036854775807) (hL : ∀ i, i < n → L i ≤ 9223372036854775807) (hnone : a = none → n = 0) :
    Calls Try.prog 5 #[.slice a n cap, .int .i64 lo] w (LawPost w) := by
  have C19 := hide (bytes19 a n cap A L C w lo hT.row hn hL)
  have C7 := hide (small7 a n cap A L C w none 0 0 hT.row hn hL (by omega))
  have HE0 := hide (lawpost_refl w)
  have HT := hide hT
  have HN1 := hide hnone
  clear hT hnone hL
  go_enter Try.func5, Try.ntmps5
  go_wp2_with fail
  refine (unhide C19).mono ?_
  rintro e w' ⟨b, rfl, hw, -⟩
  obtain rfl : w = w' := hw.symm
  clear C19 hw
  cases b
  · go_wp2
    go_ret
    exact unhide HE0
  go_wp2_with fail
  refine (unhide C7).mono ?_
  rintro e w' ⟨b, rfl, hw, hb⟩
  obtain rfl : w = w' := hw.symm
  clear C7 hw
  cases b
  · go_wp2
    go_ret
    exact unhide HE0
  obtain ⟨s1, s2, s3⟩ := hb rfl
  clear hb
  by_cases g1 : lo < 0
  · go_wp2
    go_ret
    exact unhide HE0
  by_cases g3 : (n : Int) < lo
  · go_wp2
    go_ret
    exact unhide HE0
  obtain ⟨l, rfl⟩ : ∃ l : Nat, lo = l := ⟨lo.toNat, by omega⟩
  have hln : l ≤ n := by omega
  have hLs : ∀ i, i < n → L i ≤ 1048576 := fun i hi => by have := le_sumTo L hi; omega
  have C8 := hide (triples8 a n cap A L C w none 0 0 (unhide HT).row (by omega) hLs (by omega))
  have C17 := hide (laid17 a n cap A L C w (unhide HT).row (by omega) hLs)
  have HLS := hide hLs
  have HS3 := hide s3
  clear hLs s3
  go_wp2_with fail
  refine (unhide C8).mono ?_
  rintro e w' ⟨b, rfl, hw, -⟩
  obtain rfl : w = w' := hw.symm
  clear C8 hw
  cases b
  · go_wp2
    go_ret
    exact unhide HE0
  go_wp2_with fail
  refine (unhide C17).mono ?_
  rintro e w' ⟨b, rfl, hw, hb⟩
  obtain rfl : w = w' := hw.symm
  clear C17 hw
  cases b
  · go_wp2
    go_ret
    exact unhide HE0
  have HLA := hide (hb rfl)
  clear hb
  have C9 := hide (blocks_any a n cap A L C ts w (by omega) (unhide HLS) (unhide HN1) (unhide HT))
  go_wp2_with fail
  refine (unhide C9).mono ?_
  rintro e w1 ⟨a1, c1, A1, C1, rfl, hnn, hB, hb1⟩
  have hz1 := hb1.size
  have hT1 : Ts w1 a n A L C ts := ⟨(unhide HT).row.below hb1, (unhide HT).len, (unhide HT).none, fun i hi => ((unhide HT).each i hi).below hb1, (unhide HT).wf⟩
  have C9b := hide (blocks_any a n cap A L C ts w1 (by omega) (unhide HLS) (unhide HN1) hT1)
  have HNN : Hid (a1 = none → n = 0) := fun h => unhide HN1 (hnn.1 h)
  have HB := hide hB
  have HB1 := hide hb1
  clear C9 hnn hB hb1 hT1 HE0 HT HN1
  go_wp2_with fail
  refine (unhide C9b).mono ?_
  rintro e w2 ⟨a2, c2, A2, C2, rfl, hnn, hB', hb2⟩
  have hsum : sumTo (fun i => L i / 3) n ≤ 131072 := by have h1 := sumTo_third L n; have h2 := unhide HS3; omega
  have hB2 : Bs (fun _ => False) w2 a1 n A1 (fun i => L i / 3) C1 (fun i => rangesOf (ts i) (L i / 3)) := ((unhide HB).below hb2).change (fun _ _ _ h => h)
  have hB3 : Bs (fun _ => False) w2 a2 n A2 (fun i => L i / 3) C2 (fun i => rangesOf (ts i) (L i / 3)) := hB'.change (fun _ _ _ h => h)
  have hla := laid_blist (unhide HLA) (fun i hi => (hB2.each i hi).len)
  have hbw : Below w.heap.size w w2 := (unhide HB1).trans (hb2.mono hz1)
  clear HB HB1 C9b hb2 HS3 HLS hz1 hB' HLA hnn
  generalize (fun i => rangesOf (ts i) (L i / 3)) = bl at hB2 hB3 hla
  generalize (fun i => L i / 3) = M at hB2 hB3 hsum
  have hlen : ∀ k, k ≤ n → (catTo bl k).length = sumTo M k := catTo_len (fun i hi => (hB2.each i hi).len)
  have htot : ((blist bl n).take l).flatten.length + ([] : List Rng).length + ((blist bl n).drop l).flatten.length ≤ 131072 := by
    have h1 : ((blist bl n).take l).flatten ++ ((blist bl n).drop l).flatten = (blist bl n).flatten := by rw [← List.flatten_append, List.take_append_drop]
    have h2 := congrArg List.length h1
    have h3 := hlen n (Nat.le_refl _)
    rw [catTo_blist bl n n (Nat.le_refl _), show (blist bl n).take n = blist bl n from List.take_of_length_le (by rw [blist_len]; exact Nat.le_refl _)] at h3
    rw [List.length_append] at h2
    simp only [List.length_nil]
    omega
  have hrep := replaced_nothing hla l (by rw [blist_len]; exact hln)
  have HBW := hide hbw
  have HB3 := hide hB3.listed
  have hMn : ∀ i, i < (blist bl n).length → ((blist bl n).getD i []).length ≤ 1048576 := fun i hi => by have := (hla.each i hi).2; omega
  have HMN := hide hMn
  have C11 := hide (know_all (fun _ => False) a1 n c1 A1 M C1 bl w2 (by omega) (unhide HNN) hB2)
  have C12 : Hid (∀ K w8, w2.heap.size ≤ K → Below w2.heap.size w2 w8 → KIn w2.heap.size K w8 (blist bl n) → Calls Try.prog 12 #[.pointer (some ⟨K, 0, none⟩), .int .i64 l, .int .i64 l, .slice none 0 0] w8 (ReplPost (Span w2.heap.size K) K w8 (blist bl n))) :=
    fun K w8 hK hb8 hk8 => by
      have := zz_any w2.heap.size K l l none 0 0 (blist bl n) [] w8 hk8 (Rs.nothing _ _) (Nat.le_refl _) (by rw [blist_len]; exact hln) (by rw [blist_len]; omega) htot
      rwa [hrep] at this
  have HLL : Hid ((blist bl n).length = n) := blist_len bl n
  generalize blist bl n = bl' at C11 C12 HB3 HMN HLL
  clear hbw hB2 hB3 hlen hsum htot hrep hMn hla HNN
  go_wp2_with fail
  refine (unhide C11).mono ?_
  rintro e w4 ⟨kv, rfl, hb4, hkin⟩
  have hz4 := hb4.size
  have HB4 := hide hb4
  have HKI := hide hkin
  clear C11 hb4 hkin
  go_wp2_with fail
  have hbz : Below (w4.heap.size + 1) (w4.alloc (.cells #[.pointer kv] 32)) (w4.alloc (.cells #[.pointer kv] 32)) := Below.refl _ _
  refine (unhide C12 w4.heap.size _ hz4 ?_ (unhide HKI _ hbz)).mono ?_
  · exact (unhide HB4).alloc hz4 _
  rintro e w5 ⟨rfl, hk5, ho⟩
  obtain ⟨kv', hK, hkv⟩ := kval_of_out ho
  have C15 := hide (bRanges_any kv' bl' w5 (by rw [unhide HLL]; omega) hkv)
  have hb5 : Below w2.heap.size w2 w5 := ((unhide HB4).alloc hz4 _).trans (hk5.below (by simp; omega) (fun k hk e => by have := e.1; omega))
  have HR5 := hide (((unhide HB3).fresh (c := w2.heap.size) (K := w4.heap.size) (Nat.le_refl _) ((unhide HB4).alloc hz4 (.cells #[.pointer kv] 32))).kept hk5)
  have HB5 := hide hb5
  clear HB4 HKI C12 hk5 ho hkv hb5 hbz HB3
  go_wp2_with fail
  refine (unhide C15).mono ?_
  rintro e w6 ⟨a6, c6, A6, C6, rfl, hB6, hb6⟩
  have C18 := hide (sameBlocks_any _ _ a6 a2 bl'.length c6 c2 A6 A2 (fun i => (bl'.getD i []).length) C6 C2 (fun i => bl'.getD i []) w6 (by rw [unhide HLL]; omega) (unhide HMN) hB6 ((unhide HR5).below hb6))
  have HE : Hid (Below w.heap.size w w6) := ((unhide HBW).trans ((unhide HB5).mono (unhide HBW).size)).trans (hb6.mono (Nat.le_trans (unhide HBW).size (unhide HB5).size))
  rw [unhide HLL] at C18 ⊢
  clear hB6 C15 hb6 HR5 HB5 HBW HMN
  go_wp2_with fail
  refine (unhide C18).mono ?_
  rintro e w8 ⟨rfl, qq, rfl⟩
  go_wp2
  go_ret
  exact ⟨rfl, (unhide HE).trans ⟨rfl, rfl, rfl, Nat.le_refl _, fun _ _ => rfl⟩⟩
end Go.Proofs.Qxb6600722a
