import Derived.Test.Qxb6600722aMem
import Derived.Test.Qxb6600722aGuid
import Derived.Deep.RegionHeld2
import Derived.Deep.DeepCutAuto
namespace Go.Proofs.Qxb6600722a
open Go.RowKit

/-- The first n ranges of the triples ts. -/
def rangesOf (ts : List Int) (n : Nat) : List Rng := (List.range n).map fun i => rngV (ts.getD (3 * i) 0) (ts.getD (3 * i + 1) 0) (ts.getD (3 * i + 2) 0)

theorem rangesOf_succ (ts : List Int) (k : Nat) : rangesOf ts (k + 1) = rangesOf ts k ++ [rngV (ts.getD (3 * k) 0) (ts.getD (3 * k + 1) 0) (ts.getD (3 * k + 2) 0)] := by
  simp [rangesOf, List.range_succ]

theorem rangesOf_len (ts : List Int) (k : Nat) : (rangesOf ts k).length = k := by simp [rangesOf]

theorem rangesOf_rng (ts : List Int) (k : Nat) (h : ∀ j, 0 ≤ ts.getD j 0 ∧ ts.getD j 0 ≤ 18446744073709551615) : ∀ r ∈ rangesOf ts k, IsRng r := by
  intro r hr
  obtain ⟨i, _, rfl⟩ := List.mem_map.1 hr
  exact isRng _ _ _ (h _) (h _) (h _)

theorem keep10 {w W w' : World} {x0 x1 x2 : Addr} {v0 v1 v2 : Value} {cs : List Value} {n : Nat}
    (h : W.cell? x0 = some v0 ∧ W.cell? x1 = some v1 ∧ W.cell? x2 = some v2 ∧ Hid (W.rangeAt w.heap.size 0 cs) ∧ Hid (W.there w.heap.size 0 n) ∧ Hid (Below w.heap.size w W) ∧ w.heap.size < W.heap.size)
    (hb : Below W.heap.size W w') :
    w'.cell? x0 = some v0 ∧ w'.cell? x1 = some v1 ∧ w'.cell? x2 = some v2 ∧ Hid (w'.rangeAt w.heap.size 0 cs) ∧ Hid (w'.there w.heap.size 0 n) ∧ Hid (Below w.heap.size w w') ∧ w.heap.size < w'.heap.size := by
  obtain ⟨h0, h1, h2, h3, h4, h5, h6⟩ := h
  have k : Kept (fun _ => False) W w' := Kept.of_below hb
  exact ⟨k.cell h0 id, k.cell h1 id, k.cell h2 id, k.range h3 id, fun j hj => ⟨by rw [hb.cell (p := ⟨w.heap.size, 0 + j, none⟩) h6]; exact (h4 j hj).1, by rw [hb.frozen (p := ⟨w.heap.size, 0 + j, none⟩) h6]; exact (h4 j hj).2⟩,
    h5.out.trans (hb.mono (Nat.le_of_lt h6)), Nat.lt_of_lt_of_le h6 hb.size⟩

theorem one_rng (g f t : Int) : ∀ v ∈ rngV g f t, v.oneCell' = true := by
  intro v hv
  simp [rngV, guidV] at hv
  rcases hv with h | h | h | h | h | h | h | h | h | h | h <;> subst h <;> rfl

theorem keep10s {w W : World} {b o0 o1 o2 : Nat} {v0 v1 v2 : Value} {cs Z : List Value} {n p : Nat} (hb : b < w.heap.size) (hp : 0 + cs.length ≤ p)
    (h : W.cell? ⟨b, o0, none⟩ = some v0 ∧ W.cell? ⟨b, o1, none⟩ = some v1 ∧ W.cell? ⟨b, o2, none⟩ = some v2 ∧ Hid (W.rangeAt w.heap.size 0 cs) ∧ Hid (W.there w.heap.size 0 n) ∧ Hid (Below w.heap.size w W) ∧ w.heap.size < W.heap.size) :
    (W.setCells w.heap.size p Z).cell? ⟨b, o0, none⟩ = some v0 ∧ (W.setCells w.heap.size p Z).cell? ⟨b, o1, none⟩ = some v1 ∧ (W.setCells w.heap.size p Z).cell? ⟨b, o2, none⟩ = some v2 ∧ Hid ((W.setCells w.heap.size p Z).rangeAt w.heap.size 0 cs) ∧
      Hid ((W.setCells w.heap.size p Z).there w.heap.size 0 n) ∧ Hid (Below w.heap.size w (W.setCells w.heap.size p Z)) ∧ w.heap.size < (W.setCells w.heap.size p Z).heap.size := by
  obtain ⟨h0, h1, h2, h3, h4, h5, h6⟩ := h
  have hx : ∀ o, (W.setCells w.heap.size p Z).cell? ⟨b, o, none⟩ = W.cell? ⟨b, o, none⟩ := fun o => World.cell?_setCells_out _ _ _ _ _ (fun e => absurd e (by show b ≠ w.heap.size; omega))
  have hbl := Below.setCells (Nat.le_refl w.heap.size) Z p h5.out
  refine ⟨(hx _).trans h0, (hx _).trans h1, (hx _).trans h2, World.rangeAt_setCells_apart h3 _ _ _ (Or.inr (Or.inl hp)), World.there_setCells h4 _ _ _, hbl, Nat.lt_of_lt_of_le h6 ?_⟩
  exact (Below.setCells (Nat.zero_le w.heap.size) Z p (Below.refl 0 W)).size

theorem rel10 {w wr W : World} {G n p : Nat} {cs Z : List Value} (hra : wr.rangeAt G 0 cs) (hth : wr.there G 0 n) (hbel : Below G w wr) (hsz : G < wr.heap.size) (hb : Below wr.drew.heap.size wr.drew W)
    (hp : cs.length = p) (hn : p + Z.length ≤ n) :
    (W.setCells G p Z).rangeAt G 0 (cs ++ Z) ∧ (W.setCells G p Z).there G 0 n ∧ Below G w (W.setCells G p Z) ∧ G < (W.setCells G p Z).heap.size := by
  have k : Kept (fun _ => False) wr W := (Kept.refl _ wr).drew.trans (Kept.of_below hb)
  have hth' : W.there G 0 n := fun j hj => ⟨by obtain ⟨u, hu⟩ := Option.isSome_iff_exists.1 (hth j hj).1; rw [k.cell hu id]; rfl, by rw [k.frozen (p := ⟨G, 0 + j, none⟩) hsz id]; exact (hth j hj).2⟩
  have hra' : W.rangeAt G 0 cs := k.range hra id
  have hb1 : Below G w W := hbel.trans (k.below (Nat.le_of_lt hsz) (fun _ _ => id))
  have hbl := Below.setCells (Nat.le_refl G) Z p hb1
  refine ⟨rangeAt_append (World.rangeAt_setCells_apart hra' _ _ _ (Or.inr (Or.inl (by omega)))) ?_, World.there_setCells hth' _ _ _, hbl, ?_⟩
  · rw [hp, Nat.zero_add]
    exact World.rangeAt_setCells_same W G p Z (fun j hj => by have := hth' (p + j) (by omega); simpa [Nat.add_assoc] using this)
  · have h1 := k.size
    have h2 := (Below.setCells (Nat.zero_le G) Z p (Below.refl 0 W)).size
    omega

/-- What the walk is told of a struct that is built of a GUID and two numbers. -/
theorem build_facts (g f t : Int) : ∃ (X Y : Array Value) (Z : List Value), X.size = 16 ∧
    Array.foldl (fun cs (x : Value × Nat) => cs.setIfInBounds x.snd x.fst) #[.int .u8 0, .int .u8 0, .int .u8 0, .int .u8 0, .int .u8 0, .int .u8 0, .int .u8 0, .int .u8 0, .int .u8 0, .int .u8 0, .int .u8 0, .int .u8 0, .int .u8 0, .int .u8 0, .int .u8 0, .int .u8 0, .int .u64 0, .int .u64 0] X.zipIdx 0 16 = Y ∧ Y.size = 18 ∧
    (Y.setIfInBounds 16 (.int .u64 f)).setIfInBounds 17 (.int .u64 t) = Z.toArray ∧ Z.length = 18 ∧ (guidV g).toArray = X ∧ rngV g f t = Z := by
  refine ⟨(guidV g).toArray, _, rngV g f t, rfl, rfl, ?_, ?_, rfl, rfl, rfl⟩
  · simp [guidV]
  · simp [guidV, rngV]

theorem run_store18 {w : World} {g n k : Nat} {Z : List Value} (hth : w.there g 0 n) (hk : k * 18 + Z.length ≤ n) (h1 : ∀ v ∈ Z, v.oneCell' = true) :
    Sem.run Try.prog (storeCells ⟨g, k * 18, none⟩ Z) w = .ok () (w.setCells g (k * 18) Z) := by
  have := run_storeCells_cells (P := Try.prog) g (k * 18) Z 0 w (fun j hj => by have := (hth (k * 18 + j) (by omega)).1; simpa using this) (fun j hj => by have := (hth (k * 18 + j) (by omega)).2; simpa using this) h1
  simpa using this

set_option maxHeartbeats 1000000 in
theorem ranges_any (a : Option Addr) (len cap : Nat) (ts : List Int) (w : World) (hl : ts.length = len) (hs : len ≤ 1048576) (hn : a = none → len = 0) (hr : RowV w a len (fun j => .int .u64 (ts.getD j 0)))
    (hw : ∀ j, 0 ≤ ts.getD j 0 ∧ ts.getD j 0 ≤ 18446744073709551615) :
    Calls Try.prog 10 #[.slice a len cap] w fun e w' =>
      ∃ a' cap', e = .returned (.slice a' (len / 3) cap') ∧ Rs (fun k => k < w.heap.size) w' a' (len / 3) cap' (rangesOf ts (len / 3)) ∧ Below w.heap.size w w' := by
  have hnil := fun (w : World) (a : Option Addr) (n c : Nat) => Lib.run_eql_slice_nil (P := Try.prog) w 23 45 a n c 0 0 Try.underlying23
  cases a with
  | none =>
    obtain rfl := hn rfl
    go_enter Try.func10, Try.ntmps10
    go_wp2
    go_ret
    exact ⟨_, _, rfl, ⟨rfl, Nat.le_refl _, (fun r hr => by simp [rangesOf] at hr), (fun h0 => absurd h0 (by omega))⟩, Below.refl _ _⟩
  | some x =>
    obtain ⟨i0, hi, hz0, hz1, hz2⟩ := info_parts Try.info47
    have HR := hide hr
    have HW := hide hw
    clear hr hn hw
    go_enter Try.func10, Try.ntmps10
    go_wp2_with (at_make; refine wpList_make_full _ rfl _ _ 28 rfl w.heap.size 47 i0 _ 18 Try.underlying28 hi hz0 hz1 _ _ _ _ (len / 3) rfl rfl (by omega) (by omega) ?_ ?_ ?_ ?_)
    case refine_1 => rw [hz2]; omega
    case refine_2 => unfold maxLen; omega
    case refine_3 => exact Nat.le_refl _
    intro w1 hown hgrow
    have hbel := (Below.refl w.heap.size w).grown hgrow (Nat.le_refl _) (by simp)
    have hth : w1.there w.heap.size 0 (len / 3 * 18) := fun j hj => by
      rw [Nat.zero_add]
      refine ⟨?_, hown.frozenAt j⟩
      rw [hown.cellAt j hj]
      have := hown.1
      rw [List.getElem?_eq_getElem (by omega)]
      rfl
    have hlt : w.heap.size < w1.heap.size := (hown.lt _ rfl).2
    have HB := hide hbel
    have HT := hide hth
    clear hgrow hi hz0 hz1 hz2 i0 hown hbel hth
    go_wp2
    go_loopw [4] (fun i wr => ∃ k : Nat, k ≤ len / 3 ∧ i = .int .i64 k ∧ wr.rangeAt w.heap.size 0 (rangesOf ts k).flatten ∧ wr.there w.heap.size 0 (len / 3 * 18) ∧ Below w.heap.size w wr ∧ w.heap.size < wr.heap.size)
      (fun i _ => len / 3 - (intOf i).toNat)
    case atStart => exact ⟨0, Nat.zero_le _, rfl, rangeAt_nil _ _ _, unhide HT, unhide HB, hlt⟩
    case round =>
      obtain ⟨k, hk, rfl, hra, hth, hbel, hsz⟩ := hrel
      clear HT HB
      by_cases hlt : k < len / 3
      · obtain ⟨b, off, hx, hb, hc⟩ := unhide HR (by omega)
        obtain rfl := Option.some.inj hx
        have c0 : wr.cell? ⟨b, off + 3 * k, none⟩ = some (.int .u64 (ts.getD (3 * k) 0)) := (hbel.cell (by exact hb)).trans (hc (3 * k) (by omega))
        have c1 : wr.cell? ⟨b, off + (3 * k + 1), none⟩ = some (.int .u64 (ts.getD (3 * k + 1) 0)) := (hbel.cell (by exact hb)).trans (hc (3 * k + 1) (by omega))
        have c2 : wr.cell? ⟨b, off + (3 * k + 2), none⟩ = some (.int .u64 (ts.getD (3 * k + 2) 0)) := (hbel.cell (by exact hb)).trans (hc (3 * k + 2) (by omega))
        have HRA := hide hra
        have HTH := hide hth
        have g0 := unhide HW (3 * k)
        clear hra hth hc HR hx
        generalize e0 : ts.getD (3 * k) 0 = q0 at c0 g0
        generalize e1 : ts.getD (3 * k + 1) 0 = q1 at c1
        generalize e2 : ts.getD (3 * k + 2) 0 = q2 at c2
        have E0 := hide e0
        have E1 := hide e1
        have E2 := hide e2
        clear e0 e1 e2
        obtain ⟨g01, g02⟩ := g0
        have n0 : (0 : Int) ≤ 3 * (k : Int) := by omega
        have n1 : (0 : Int) ≤ 3 * (k : Int) + 1 := by omega
        have n2 : (0 : Int) ≤ 3 * (k : Int) + 2 := by omega
        have b0 : 3 * (k : Int) < (len : Int) := by omega
        have b1 : 3 * (k : Int) + 1 < (len : Int) := by omega
        have b2 : 3 * (k : Int) + 2 < (len : Int) := by omega
        have t0 : (3 * (k : Int)).toNat = 3 * k := by omega
        have t1 : (3 * (k : Int) + 1).toNat = 3 * k + 1 := by omega
        have t2 : (3 * (k : Int) + 2).toNat = 3 * k + 2 := by omega
        have v0 : IntKind.i64.wrap (3 * (k : Int)) = 3 * (k : Int) := by rw [IntKind.wrap_i64]; omega
        have v1 : IntKind.i64.wrap (3 * (k : Int) + 1) = 3 * (k : Int) + 1 := by rw [IntKind.wrap_i64]; omega
        have v2 : IntKind.i64.wrap (3 * (k : Int) + 2) = 3 * (k : Int) + 2 := by rw [IntKind.wrap_i64]; omega
        obtain ⟨X, Y, Z, hX, hfold, hY, hset, hZ, hXg, hZr⟩ := build_facts q0 q1 q2
        have hZ1 : ∀ v ∈ Z, v.oneCell' = true := by rw [← hZr]; exact one_rng q0 q1 q2
        have hstore : ∀ w' : World, Hid (w'.there w.heap.size 0 (len / 3 * 18)) → Sem.run Try.prog (storeCells ⟨w.heap.size, k * 18, none⟩ Z) w' = .ok () (w'.setCells w.heap.size (k * 18) Z) := fun w' hth =>
          run_store18 (unhide hth) (by omega) hZ1
        have C20 : Hid (∀ w', Calls Try.prog 20 #[.int .u64 q0] w' fun e w'' => e = .returned (.agg X) ∧ Below w'.heap.size w' w'') := by
          have h := fun w' => guid_any q0 w' g01 g02
          rw [hXg] at h
          exact h
        have HZR := hide hZr
        have HI := hide (rangesOf_rng ts k (unhide HW))
        clear hXg hZr hZ1 HW
        go_wp2
        go_region_held2 (fun w' => w'.cell? ⟨b, off + 3 * k, none⟩ = some (.int .u64 q0) ∧ w'.cell? ⟨b, off + (3 * k + 1), none⟩ = some (.int .u64 q1) ∧ w'.cell? ⟨b, off + (3 * k + 2), none⟩ = some (.int .u64 q2) ∧
            Hid (w'.rangeAt w.heap.size 0 (rangesOf ts k).flatten) ∧ Hid (w'.there w.heap.size 0 (len / 3 * 18)) ∧ Hid (Below w.heap.size w w') ∧ w.heap.size < w'.heap.size)
          (first | exact ⟨by simpa using c0, by simpa using c1, by simpa using c2, HRA, HTH, Below.drew hbel, by simpa using hsz⟩ | exact keep10 ‹_› ‹_› | exact keep10s hb (by rw [flat_len (unhide HI), rangesOf_len]; omega) ‹_›)
          ((go_at_call 20; refine (unhide C20 _).mono ?_; rintro e w' ⟨rfl, hb'⟩))
        have R := rel10 (unhide HRA) (unhide HTH) hbel hsz hb' (by rw [flat_len (unhide HI), rangesOf_len]) (show k * 18 + Z.length ≤ len / 3 * 18 by omega)
        have e : (rangesOf ts k).flatten ++ Z = (rangesOf ts (k + 1)).flatten := by
          rw [rangesOf_succ, List.flatten_append, unhide E0, unhide E1, unhide E2, unhide HZR]
          simp
        rw [e] at R
        have HF := hide R
        clear R e hfold hset hstore C20 c0 c1 c2 HRA HTH hbel hb'
        go_wp2
        go_roundw
        case rel => exact ⟨k + 1, by omega, by go_num, (unhide HF).1, (unhide HF).2.1, (unhide HF).2.2.1, (unhide HF).2.2.2⟩
        case measure => simp [intOf]; omega
      · obtain rfl : k = len / 3 := by omega
        go_wp2
        go_ret
        exact ⟨_, _, rfl, ⟨rangesOf_len _ _, Nat.le_refl _, rangesOf_rng _ _ (unhide HW), fun _ => ⟨_, _, rfl, hsz, by omega, hra⟩⟩, hbel⟩
end Go.Proofs.Qxb6600722a
