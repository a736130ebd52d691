import Derived.Test.Qxb6600722aConcat
import Derived.Test.Qxb6600722aPlain
namespace Go.Proofs.Qxb6600722a
open Go.RowKit

def sliceLen : Value → Nat | .slice _ n _ => n | _ => 0

/-- k pointers to new rangeBlocks. -/
structure PRel (S : Nat → Prop) (w wr : World) (rs : List Rng) (k : Nat) (ps : List Value) : Prop where
  len : ps.length = k
  each : ∀ i, i < k → ∃ g a l, ps[i]? = some (.pointer (some ⟨g, 0, none⟩)) ∧ w.heap.size ≤ g ∧ wr.heap[g]? = some (.cells #[.slice a l l] 51 (0, 0)) ∧ Rs S w a l l (chunk rs i)

theorem Rs.take {S : Nat → Prop} {w : World} {a : Option Addr} {n cap m : Nat} {rs : List Rng} (h : Rs S w a n cap rs) (hm : m ≤ n) : Rs S w a m m (rs.take m) := by
  refine ⟨by rw [List.length_take, h.len]; omega, Nat.le_refl _, fun r hr => h.rng r (List.mem_of_mem_take hr), fun h0 => ?_⟩
  obtain ⟨b, off, ha, hb, hs, hc⟩ := h.lies (by omega)
  refine ⟨b, off, ha, hb, hs, ?_⟩
  rw [← List.take_append_drop m rs, List.flatten_append] at hc
  exact rangeAt_left hc

theorem Rs.drop {S : Nat → Prop} {w : World} {b off n cap m : Nat} {rs : List Rng} (h : Rs S w (some ⟨b, off, none⟩) n cap rs) (hm : m ≤ n) :
    Rs S w (if cap = m then some ⟨b, off, none⟩ else some ⟨b, off + m * 18, none⟩) (n - m) (cap - m) (rs.drop m) := by
  have hcap := h.cap
  refine ⟨by rw [List.length_drop, h.len], by omega, fun r hr => h.rng r (List.mem_of_mem_drop hr), fun h0 => ?_⟩
  obtain ⟨b', off', ha, hb, hs, hc⟩ := h.lies (by omega)
  simp only [Option.some.injEq, Addr.mk.injEq, and_true] at ha
  obtain ⟨rfl, rfl⟩ := ha
  rw [if_neg (by omega)]
  refine ⟨b, off + m * 18, rfl, hb, hs, ?_⟩
  have hl : (rs.take m).flatten.length = m * 18 := by
    rw [flat_len (fun r hr => h.rng r (List.mem_of_mem_take hr)), List.length_take, h.len, Nat.min_eq_left hm]
  rw [← List.take_append_drop m rs, List.flatten_append] at hc
  have := rangeAt_right hc
  rwa [hl] at this

theorem prel_step {S : Nat → Prop} {w wr w1 : World} {rs : List Rng} {k l : Nat} {ps : List Value} {v : Value} {a : Option Addr} {o : Obj} (hp : PRel S w wr rs k ps) (hown : wr.ownsRow w.heap.size 49 1 v k ps) (hsz : w.heap.size ≤ wr.heap.size)
    (hr : Rs S w a l l (chunk rs k)) (hgrow : ((wr.alloc (.cells #[.slice a l l] 51)).alloc o).grownBy w1 v.ownBlock) : PRel S w w1 rs (k + 1) (ps ++ [.pointer (some ⟨wr.heap.size, 0, none⟩)]) := by
  refine ⟨by simp [hp.len], fun i hi => ?_⟩
  by_cases hik : i < k
  · obtain ⟨g, a', l', h1, h2, h3, h4⟩ := hp.each i hik
    have hg : g < wr.heap.size := (Array.getElem?_eq_some_iff.1 h3).1
    refine ⟨g, a', l', by rw [List.getElem?_append_left (by rw [hp.len]; exact hik)]; exact h1, h2, ?_, h4⟩
    rw [hgrow.block g (by simp; omega) (fun e => ?_), Below.heap_alloc _ _ _ (by simp; omega), Below.heap_alloc _ _ _ hg]
    · exact h3
    · rcases hown.2 with ⟨rfl, _⟩ | ⟨g', cap, cur, rfl, _, hg', _⟩
      · simp [Value.ownBlock] at e
      · simp [Value.ownBlock] at e
        subst e
        rw [h3] at hg'
        simp at hg'
  · obtain rfl : i = k := by omega
    refine ⟨wr.heap.size, a, l, by rw [List.getElem?_append_right (by rw [hp.len]; omega), hp.len]; simp, hsz, ?_, hr⟩
    rw [hgrow.block _ (by simp; omega) (fun e => by have := (hown.lt _ e.symm).2; omega), Below.heap_alloc _ _ _ (by simp)]
    exact heap_alloc_new wr _

def BlocksOfPost (S : Nat → Prop) (w : World) (rs : List Rng) (e : Ending) (w' : World) : Prop :=
  ∃ v ps, e = .returned v ∧ w'.ownsRow w.heap.size 49 1 v ((rs.length + 127) / 128) ps ∧ PRel S w w' rs ((rs.length + 127) / 128) ps ∧ Below w.heap.size w w'

set_option maxHeartbeats 1000000 in
theorem blocksOf_any (S : Nat → Prop) (a : Option Addr) (n cap : Nat) (rs : List Rng) (w : World) (hs : n ≤ 1048576) (h : Rs S w a n cap rs) :
    Calls Try.prog 24 #[.slice a n cap] w (BlocksOfPost S w rs) := by
  obtain ⟨i0, hi, hz0, hz1, hz2⟩ := info_parts Try.info49
  have H := hide h
  have HLen := hide h.len
  clear h
  go_enter Try.func24, Try.ntmps24
  go_wp2
  go_loopw [0, 3] (fun r v wr => ∃ (k : Nat) (a' : Option Addr) (n' cap' : Nat) (ps : List Value), r = .slice a' n' cap' ∧ n' = n - 128 * k ∧ k ≤ (n + 127) / 128 ∧ Rs S w a' n' cap' (rs.drop (128 * k)) ∧ PRel S w wr rs k ps ∧
      wr.ownsRow w.heap.size 49 1 v k ps ∧ Below w.heap.size w wr) (fun r _ _ => sliceLen r)
  case atStart => exact ⟨0, a, n, cap, [], rfl, rfl, Nat.zero_le _, unhide H, ⟨rfl, fun i hi => absurd hi (by omega)⟩, World.ownsRow_nil _ _ _ _, Below.refl _ _⟩
  case round =>
    obtain ⟨k, a', n', cap', ps, rfl, hn', hk, hr, hp, hown, hbel⟩ := hrel
    clear H
    have hsz := hbel.size
    by_cases h0 : 0 < n'
    · obtain ⟨b, off, hx, hb, hsb, hc⟩ := hr.lies h0
      have hcap := hr.cap
      obtain rfl := hx
      clear hc hb hsb
      have HN := hide hn'
      clear hn'
      by_cases h1 : n' ≤ 128
      · have h2 : (n' : Int) ≤ 128 := by omega
        have hck : Rs S w (some ⟨b, off, none⟩) n' n' (chunk rs k) := by
          have := hr.take (Nat.le_refl n')
          rw [List.take_of_length_le (by rw [hr.len]; exact Nat.le_refl _)] at this
          unfold chunk
          rwa [List.take_of_length_le (by rw [hr.len]; exact h1)]
        have hdr := hr.drop (Nat.le_refl n')
        have e1 : (rs.drop (128 * k)).drop n' = rs.drop (128 * (k + 1)) := by
          have := unhide HLen
          have := unhide HN
          rw [List.drop_drop, List.drop_of_length_le (by omega), List.drop_of_length_le (by omega)]
        rw [e1, Nat.sub_self] at hdr
        have e2 : 0 = n - 128 * (k + 1) := by have := unhide HN; omega
        have e3 : k + 1 ≤ (n + 127) / 128 := by have := unhide HN; omega
        have HD := hide hdr
        have HE := hide e2
        clear e1 e2 hdr
        go_wp2_with (at_builtin; refine wpList_append_own _ rfl _ _ 48 rfl w.heap.size 49 i0 (.pointer none) 1 8 Try.underlying48 hi hz0 hz1 hz2 rfl (by decide) _ _ _ rfl ((hown.alloc _).alloc _) ⟨wr.heap.size + 1, 0, none⟩ 1 1 [.pointer (some ⟨wr.heap.size, 0, none⟩)] rfl rfl ?c1 ?c2 ?c3 ?c4 ?c5 ?_)
        case c1 => have := cell_one_new (wr.alloc (.cells #[.slice (some ⟨b, off, none⟩) n' n'] 51)) (.pointer (some ⟨wr.heap.size, 0, none⟩)) 49; simpa using this
        case c2 => intro u hu; simp at hu; subst hu; rfl
        case c3 => unfold maxLen; omega
        case c4 => omega
        case c5 => simp; omega
        intro v' w1 hown' hgrow _
        have hp' := prel_step hp hown hsz hck hgrow
        have hb' := ((hbel.alloc hsz _).alloc (by simp; omega) _).grown hgrow (by simp; omega) (fun q hq => (hown.lt q hq).1)
        clear hp hown hbel hck hgrow hr hi hz0 hz1 hz2
        go_wp2
        go_roundw
        case rel => exact ⟨k + 1, _, _, _, _, rfl, unhide HE, e3, unhide HD, hp', hown', hb'⟩
        case measure => simp [sliceLen]; omega
      · have h2 : 128 < (n' : Int) := by omega
        have hck : Rs S w (some ⟨b, off, none⟩) 128 128 (chunk rs k) := hr.take (by omega)
        have hdr := hr.drop (show 128 ≤ n' by omega)
        have e1 : (rs.drop (128 * k)).drop 128 = rs.drop (128 * (k + 1)) := by rw [List.drop_drop]; congr 1
        rw [e1, if_neg (by omega)] at hdr
        have e2 : n' - 128 = n - 128 * (k + 1) := by have := unhide HN; omega
        have e3 : k + 1 ≤ (n + 127) / 128 := by have := unhide HN; omega
        have HD := hide hdr
        have HE := hide e2
        clear e1 e2 hdr
        go_wp2_with (at_builtin; refine wpList_append_own _ rfl _ _ 48 rfl w.heap.size 49 i0 (.pointer none) 1 8 Try.underlying48 hi hz0 hz1 hz2 rfl (by decide) _ _ _ rfl ((hown.alloc _).alloc _) ⟨wr.heap.size + 1, 0, none⟩ 1 1 [.pointer (some ⟨wr.heap.size, 0, none⟩)] rfl rfl ?d1 ?d2 ?d3 ?d4 ?d5 ?_)
        case d1 => have := cell_one_new (wr.alloc (.cells #[.slice (some ⟨b, off, none⟩) 128 128] 51)) (.pointer (some ⟨wr.heap.size, 0, none⟩)) 49; simpa using this
        case d2 => intro u hu; simp at hu; subst hu; rfl
        case d3 => unfold maxLen; omega
        case d4 => omega
        case d5 => simp; omega
        intro v' w1 hown' hgrow _
        have hp' := prel_step hp hown hsz hck hgrow
        have hb' := ((hbel.alloc hsz _).alloc (by simp; omega) _).grown hgrow (by simp; omega) (fun q hq => (hown.lt q hq).1)
        clear hp hown hbel hck hgrow hr hi hz0 hz1 hz2
        go_wp2
        go_roundw
        case rel => exact ⟨k + 1, _, _, _, _, rfl, unhide HE, e3, unhide HD, hp', hown', hb'⟩
        case measure => simp [sliceLen]; omega
    · have hkn : k = (rs.length + 127) / 128 := by rw [unhide HLen]; omega
      subst hkn
      have HE : Hid (BlocksOfPost S w rs (.returned u3) wr) := ⟨_, ps, rfl, hown, hp, hbel⟩
      clear hown hp hbel hr hn' hi hz0 hz1 hz2
      go_wp2
      go_ret
      exact unhide HE
end Go.Proofs.Qxb6600722a
