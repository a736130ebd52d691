import Derived.Test.Qxb6600722aGuards
namespace Go.Proofs.Qxb6600722a
open Go.RowKit
set_option linter.unusedVariables false

theorem replaced_nil (rs : List Rng) : replaced ([] : List (List Rng)) 0 0 rs = chunks rs := by simp [replaced, absorbL, absorbR]

/-- A Knowledge as ZZKnowledgeOf makes it and a variable at block K holds it; its own memory lies from c to K. -/
def KIn (c K : Nat) (w : World) (bl : List (List Rng)) : Prop :=
  (bl = [] ∧ c ≤ K ∧ w.cell? ⟨K, 0, none⟩ = some (.pointer none) ∧ w.frozen? ⟨K, 0, none⟩ = false) ∨
  ∃ B R n ps, c ≤ R ∧ c ≤ B ∧ B < K ∧ R < K ∧ B ≠ R ∧ w.cell? ⟨K, 0, none⟩ = some (.pointer (some ⟨B, 0, none⟩)) ∧ w.heap[B]? = some (.cells #[.slice (some ⟨R, 0, none⟩) n n] 48 (0, 0)) ∧
    w.heap[R]? = some (.cells ps.toArray 49 (0, 0)) ∧ ps.length = n ∧ PB (KS K B R) w ps bl

def Span (c K : Nat) : Nat → Prop := fun k => c ≤ k ∧ k ≤ K

set_option maxHeartbeats 1000000 in
theorem zz_wrap (K : Nat) (lo hi : Int) (a : Option Addr) (nr cr : Nat) (w : World) (S : Nat → Prop) (bl : List (List Rng))
    (h : Calls Try.prog 21 #[.pointer (some ⟨K, 0, none⟩), .int .i64 lo, .int .i64 hi, .slice a nr cr] w (ReplPost S K w bl)) :
    Calls Try.prog 12 #[.pointer (some ⟨K, 0, none⟩), .int .i64 lo, .int .i64 hi, .slice a nr cr] w (ReplPost S K w bl) := by
  have H := hide h
  clear h
  go_enter Try.func12, Try.ntmps12
  go_wp2_with fail
  refine (unhide H).mono ?_
  rintro e w1 ⟨rfl, h1, h2⟩
  have HE : Hid (ReplPost S K w bl (.returned (.tuple #[])) w1) := ⟨rfl, h1, h2⟩
  clear H h1 h2
  go_wp2
  go_end0
  exact unhide HE

theorem zz_any (c K lo hi : Nat) (a : Option Addr) (nr cr : Nat) (bl : List (List Rng)) (rs : List Rng) (w : World) (hk : KIn c K w bl) (hrs : Rs (Span c K) w a nr cr rs)
    (hlo : lo ≤ hi) (hhi : hi ≤ bl.length) (hn2 : bl.length ≤ 65536) (ht : (bl.take lo).flatten.length + rs.length + (bl.drop hi).flatten.length ≤ 131072) :
    Calls Try.prog 12 #[.pointer (some ⟨K, 0, none⟩), .int .i64 lo, .int .i64 hi, .slice a nr cr] w (ReplPost (Span c K) K w (replaced bl lo hi rs)) := by
  rcases hk with ⟨rfl, hcK, hK, hKf⟩ | ⟨B, R, n, ps, h1, h2, h3, h4, h5, h6, h7, h8, h9, h10⟩
  · have e1 : lo = 0 := by simp at hhi; omega
    have e2 : hi = 0 := by simp at hhi; omega
    subst e1; subst e2
    rw [replaced_nil]
    refine zz_wrap K 0 0 a nr cr w _ _ ((repl_nil K a nr cr rs w hK hKf (hrs.change (fun b _ hs e => hs (by rw [e]; exact ⟨hcK, Nat.le_refl _⟩))) (by simp at ht; omega)).mono ?_)
    rintro e w' ⟨he, hk, ho⟩
    exact ⟨he, hk.mono (fun k _ e => by rw [e]; exact ⟨hcK, Nat.le_refl _⟩), ho⟩
  · have hbn : bl.length = n := by rw [← h10.len]; exact h9
    refine zz_wrap K lo hi a nr cr w _ _ ((repl_any K B R n lo hi a nr cr ps bl rs w h6 h7 h8 h9 (by omega) (by omega) h5 h10 (hrs.change (fun b _ hs e => hs ?_)) hlo (by omega) (by omega) ht).mono ?_)
    · rcases e with rfl | rfl | rfl
      · exact ⟨by omega, Nat.le_refl _⟩
      · exact ⟨h2, by omega⟩
      · exact ⟨h1, by omega⟩
    · rintro e w' ⟨he, hk, ho⟩
      refine ⟨he, hk.mono (fun k _ e => ?_), ho⟩
      rcases e with rfl | rfl | rfl
      · exact ⟨by omega, Nat.le_refl _⟩
      · exact ⟨h2, by omega⟩
      · exact ⟨h1, by omega⟩

/-- The list of the blocks. -/
def blist (bl : Nat → List Rng) (n : Nat) : List (List Rng) := (List.range n).map bl
theorem blist_len (bl : Nat → List Rng) (n : Nat) : (blist bl n).length = n := by simp [blist]
theorem blist_get (bl : Nat → List Rng) (n i : Nat) (h : i < n) : (blist bl n).getD i [] = bl i := by simp [blist, List.getD, h]

/-- A Knowledge that has just been made and laid into a variable. -/
theorem kin_made {c n : Nat} {w5 w6 w8 : World} {S : Nat → Prop} {A : Nat → Option Addr} {L C : Nat → Nat} {bl : Nat → List Rng} (hc : c = w5.heap.size) (h : KRel c n w5 w6 A L C n) (hbs : ∀ i, i < n → Rs S w5 (A i) (L i) (C i) (bl i))
    (hb : Below (w6.heap.size + 1) (w6.alloc (.cells #[.pointer (some ⟨c + 2, 0, none⟩)] 32)) w8) : KIn c w6.heap.size w8 (blist bl n) := by
  have hsz := h.size
  have hbl : ∀ k, k < w6.heap.size → w8.heap[k]? = w6.heap[k]? := fun k hk => (hb.block k (by omega)).trans (Below.heap_alloc _ _ _ hk)
  have hcell : ∀ k o, k < w6.heap.size → w8.cell? ⟨k, o, none⟩ = w6.cell? ⟨k, o, none⟩ := fun k o hk => World.cell?_of_block (hbl k hk)
  right
  refine ⟨c + 2, c + 1, n, ptrs c n, by omega, by omega, by omega, by omega, by omega, ?_, ?_, ?_, ptrs_len _ _, ⟨by rw [ptrs_len, blist_len], fun i hi => ?_⟩⟩
  · rw [World.cell?_of_block (w := w6.alloc (.cells #[.pointer (some ⟨c + 2, 0, none⟩)] 32)) (hb.block w6.heap.size (by omega)), World.cell?_alloc_at _ _ _ _ rfl]
    rfl
  · rw [hbl _ (by omega)]; exact h.b0
  · rw [hbl _ (by omega)]
    have := h.row
    simpa using this
  · rw [blist_len] at hi
    refine ⟨c + 3 + i, A i, L i, C i, ptrs_get c n i hi, by rw [hcell _ _ (by omega)]; exact h.each i hi, ?_, ?_⟩
    · rintro (e | e | e) <;> omega
    · rw [blist_get _ _ _ hi]
      have h1 : Rs (fun k => c ≤ k) w5 (A i) (L i) (C i) (bl i) := (hbs i hi).change (fun b hb _ e => by omega)
      have k1 : Kept (fun k => c ≤ k) w5 w8 := by
        have hbel : Below c w5 w8 := (h.bel.alloc (by omega) _).trans (hb.mono (by omega))
        exact ⟨hbel.os, hbel.tape, hbel.output, hbel.size, fun k _ hk => hbel.block k (by omega)⟩
      exact (h1.kept k1).change (fun b _ hs e => hs (by rcases e with rfl | rfl | rfl <;> omega))

theorem kin_nil {K : Nat} {w w8 : World} (hK : K = w.heap.size) (hb : Below (K + 1) (w.alloc (.cells #[.pointer none] 32)) w8) : KIn K K w8 [] := by
  subst hK
  refine Or.inl ⟨rfl, Nat.le_refl _, ?_, ?_⟩
  · rw [World.cell?_of_block (w := w.alloc (.cells #[.pointer none] 32)) (hb.block w.heap.size (by omega)), World.cell?_alloc_at _ _ _ _ rfl]; rfl
  · rw [World.frozen?_of_block (w := w.alloc (.cells #[.pointer none] 32)) (hb.block w.heap.size (by omega))]; exact World.frozen?_alloc_at _ _ _ _ rfl

theorem kval_of_out {w : World} {K : Nat} {bl : List (List Rng)} (h : KOut w K bl) : ∃ kv, w.cell? ⟨K, 0, none⟩ = some (.pointer kv) ∧ KVal w kv bl := by
  rcases h with ⟨h1, h2⟩ | ⟨B, a, n, cap, ps, h1, h2, h3, h4, h5⟩
  · exact ⟨none, h1, Or.inl ⟨rfl, h2⟩⟩
  · exact ⟨_, h1, Or.inr ⟨B, a, n, cap, ps, rfl, h2, h3, h4, h5⟩⟩

theorem KVal.below {w w' : World} {kv : Option Addr} {bl : List (List Rng)} (h : KVal w kv bl) (hb : Below w.heap.size w w') : KVal w' kv bl := by
  rcases h with h | ⟨B, a, n, cap, ps, h1, h2, h3, h4, h5⟩
  · exact Or.inl h
  · refine Or.inr ⟨B, a, n, cap, ps, h1, (hb.cell (p := ⟨B, 0, none⟩) (World.block_lt_of_cell? w _ h2)).trans h2, fun h0 => ?_, h4, h5.kept (Kept.of_below hb)⟩
    obtain ⟨b, e1, e2, e3⟩ := h3 h0
    exact ⟨b, e1, Nat.lt_of_lt_of_le e2 hb.size, (Kept.of_below (S := fun _ => False) hb).range e3 id⟩

theorem catTo_list (l : List (List Rng)) : ∀ k, k ≤ l.length → catTo (fun i => l.getD i []) k = (l.take k).flatten := by
  intro k
  induction k with
  | zero => intro _; simp [catTo]
  | succ k ih =>
    intro hk
    rw [take_succ_flat l k (by omega), ← ih (by omega)]
    rfl

theorem catTo_all (l : List (List Rng)) : catTo (fun i => l.getD i []) l.length = l.flatten := by rw [catTo_list l _ (Nat.le_refl _), List.take_length]

theorem sumTo_len (l : List (List Rng)) : sumTo (fun i => (l.getD i []).length) l.length = l.flatten.length := by
  rw [← catTo_all l, catTo_len (fun i hi => rfl) l.length (Nat.le_refl _)]

end Go.Proofs.Qxb6600722a
