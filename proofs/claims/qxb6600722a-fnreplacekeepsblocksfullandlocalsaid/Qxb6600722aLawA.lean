import Derived.Test.Qxb6600722aZZ
namespace Go.Proofs.Qxb6600722a
open Go.RowKit
set_option linter.unusedVariables false

theorem know_nil' (c : Nat) (w : World) : Calls Try.prog 11 #[.slice none 0 c] w fun e w' => e = .returned (.agg #[.pointer none]) ∧ Below w.heap.size w w' := by
  have hnil := fun (w : World) (a : Option Addr) (n c : Nat) => Lib.run_eql_slice_nil (P := Try.prog) w 26 28 a n c 0 0 Try.underlying26
  go_enter Try.func11, Try.ntmps11
  go_wp2
  refine bodyPost_ret (v := .agg #[.pointer none]) ?_ rfl ⟨rfl, (Below.refl _ _).alloc (Nat.le_refl _) _⟩
  simp [results, Try.results11, go_sem]

/-- What ZZKnowledgeOf hands back, ahead of the variable that will hold it. -/
def KnowPost (w : World) (bl : List (List Rng)) (e : Ending) (w' : World) : Prop :=
  ∃ kv, e = .returned (.agg #[.pointer kv]) ∧ Below w.heap.size w w' ∧ ∀ w8, Below (w'.heap.size + 1) (w'.alloc (.cells #[.pointer kv] 32)) w8 → KIn w.heap.size w'.heap.size w8 bl

theorem know_all (S : Nat → Prop) (a : Option Addr) (n cap : Nat) (A : Nat → Option Addr) (L C : Nat → Nat) (bl : Nat → List Rng) (w : World) (hs : n ≤ 1048576) (hn : a = none → n = 0) (h : Bs S w a n A L C bl) :
    Calls Try.prog 11 #[.slice a n cap] w (KnowPost w (blist bl n)) := by
  cases a with
  | none =>
    obtain rfl := hn rfl
    refine (know_nil' cap w).mono ?_
    rintro e w' ⟨rfl, hb⟩
    refine ⟨none, rfl, hb, fun w8 h8 => ?_⟩
    rcases kin_nil rfl h8 with ⟨h1, h2, h3, h4⟩ | ⟨B, R, n, ps, h1, h2, h3, h4, h5, h6, h7, h8, h9, h10⟩
    · exact Or.inl ⟨rfl, hb.size, h3, h4⟩
    · omega
  | some x =>
    refine (know_any S x n cap A L C bl w hs h).mono ?_
    rintro e w' ⟨rfl, hk⟩
    exact ⟨_, rfl, hk.bel, fun w8 h8 => kin_made rfl hk (fun i hi => h.each i hi) h8⟩

theorem le_sumTo (L : Nat → Nat) {n i : Nat} (h : i < n) : L i ≤ sumTo L n := by
  have := sumTo_mono L (show i + 1 ≤ n from h)
  simp only [sumTo] at this
  omega

theorem sumTo_third (L : Nat → Nat) : ∀ n, sumTo (fun i => L i / 3) n ≤ sumTo L n
  | 0 => Nat.le_refl _
  | n + 1 => by have := sumTo_third L n; simp only [sumTo]; omega

/-- The blocks from h on, c of them. -/
def catR (bl : Nat → List Rng) (h : Nat) : Nat → List Rng
  | 0 => []
  | c + 1 => catR bl h c ++ bl (h + c)

theorem catR_cat (bl : Nat → List Rng) (h : Nat) : ∀ c, catTo bl h ++ catR bl h c = catTo bl (h + c)
  | 0 => by simp [catR]
  | c + 1 => by
    rw [catR, ← List.append_assoc, catR_cat bl h c]
    rfl

theorem catTo_blist (bl : Nat → List Rng) (n k : Nat) (hk : k ≤ n) : catTo bl k = ((blist bl n).take k).flatten := by
  rw [← catTo_list _ k (by rw [blist_len]; exact hk)]
  induction k with
  | zero => rfl
  | succ k ih => rw [catTo, catTo, ih (by omega), blist_get _ _ _ (by omega)]

theorem catR_blist (bl : Nat → List Rng) (n h : Nat) (hh : h ≤ n) : catR bl h (n - h) = ((blist bl n).drop h).flatten := by
  have h1 := catR_cat bl h (n - h)
  rw [show h + (n - h) = n by omega, catTo_blist bl n n (Nat.le_refl _), catTo_blist bl n h hh] at h1
  rw [show (blist bl n).take n = blist bl n from List.take_of_length_le (by rw [blist_len]; exact Nat.le_refl _)] at h1
  have h2 : ((blist bl n).take h).flatten ++ ((blist bl n).drop h).flatten = (blist bl n).flatten := by rw [← List.flatten_append, List.take_append_drop]
  exact List.append_cancel_left (h1.trans h2.symm)

theorem replaced_len {α : Type} (bl : List (List α)) (lo hi : Nat) (rs : List α) (hlo : lo ≤ bl.length) (hhi : hi ≤ bl.length) :
    (replaced bl lo hi rs).length ≤ bl.length + bl.length + ((bl.take lo).flatten.length + rs.length + (bl.drop hi).flatten.length + 127) / 128 := by
  have h1 := congrArg List.length (absorbL_flat bl lo rs hlo)
  have h2 := congrArg List.length (absorbR_flat bl (bl.length - hi) hi (absorbL bl lo rs).2 (by omega))
  have h3 := absorbL_le bl lo rs
  simp only [List.length_append] at h1 h2
  unfold replaced
  simp only [List.length_append, chunks_len, List.length_take, List.length_drop]
  have : ((absorbR bl (bl.length - hi) hi (absorbL bl lo rs).2).2.length + 127) / 128 ≤ ((bl.take lo).flatten.length + rs.length + (bl.drop hi).flatten.length + 127) / 128 := Nat.div_le_div_right (by omega)
  omega

theorem Bs.kept {S : Nat → Prop} {w w' : World} {a : Option Addr} {n : Nat} {A : Nat → Option Addr} {L C : Nat → Nat} {bl : Nat → List Rng} (h : Bs S w a n A L C bl) (k : Kept S w w') : Bs S w' a n A L C bl :=
  ⟨fun h0 => by
    obtain ⟨b, off, ha, hb, hc⟩ := h.row h0
    exact ⟨b, off, ha, Nat.lt_of_lt_of_le hb k.size, fun j hj => k.cell (p := ⟨b, off + j, Option.none⟩) (hc j hj) (h.out h0 ⟨b, off, Option.none⟩ ha)⟩, h.out, fun i hi => (h.each i hi).kept k⟩

theorem Bs.change {S T : Nat → Prop} {w : World} {a : Option Addr} {n : Nat} {A : Nat → Option Addr} {L C : Nat → Nat} {bl : Nat → List Rng} (h : Bs S w a n A L C bl) (hst : ∀ b, b < w.heap.size → ¬ S b → ¬ T b) : Bs T w a n A L C bl :=
  ⟨h.row, fun h0 x hx => by
    obtain ⟨b, off, ha, hb, hc⟩ := h.row h0
    obtain rfl := Option.some.inj (hx.symm.trans ha)
    exact hst _ hb (h.out h0 _ hx), fun i hi => (h.each i hi).change hst⟩

/-- A slice of ranges of old stands whatever a call did to its own new memory. -/
theorem Rs.fresh {S : Nat → Prop} {w w' : World} {a : Option Addr} {n cap c K : Nat} {rs : List Rng} (h : Rs S w a n cap rs) (hc : w.heap.size ≤ c) (hb : Below w.heap.size w w') : Rs (Span c K) w' a n cap rs := by
  have h1 : Rs (fun k => w.heap.size ≤ k) w a n cap rs := h.change (fun b hb _ e => by omega)
  exact (h1.below hb).change (fun b _ hs e => hs (by have := e.1; omega))

theorem Bs.fresh {S : Nat → Prop} {w w' : World} {a : Option Addr} {n c K : Nat} {A : Nat → Option Addr} {L C : Nat → Nat} {bl : Nat → List Rng} (h : Bs S w a n A L C bl) (hc : w.heap.size ≤ c) (hb : Below w.heap.size w w') : Bs (Span c K) w' a n A L C bl := by
  have h1 : Bs (fun k => w.heap.size ≤ k) w a n A L C bl := h.change (fun b hb _ e => by omega)
  exact (h1.below hb).change (fun b _ hs e => hs (by have := e.1; omega))

theorem catR_rng {bl : Nat → List Rng} {n h : Nat} (hr : ∀ i, i < n → ∀ r ∈ bl i, IsRng r) : ∀ c, h + c ≤ n → ∀ r ∈ catR bl h c, IsRng r
  | 0, _, r, hm => by simp [catR] at hm
  | c + 1, hc, r, hm => by
    rcases List.mem_append.1 hm with h1 | h1
    · exact catR_rng hr c (by omega) r h1
    · exact hr _ (by omega) r h1

def LawPost (w : World) (e : Ending) (w' : World) : Prop := e = .returned (.bool true) ∧ Below w.heap.size w w'

theorem lawpost_refl (w : World) : LawPost w (.returned (.bool true)) w := ⟨rfl, Below.refl _ _⟩

end Go.Proofs.Qxb6600722a
