/- A rule for a statement whose order is open, in blocks: each block comes behind all operations of the blocks before it. Conditions: none. -/
import Derived.Test.YtojplcchoffapaaRegion
namespace Go.Proofs.Ytojplcchoffapaa

/-- the first b operations are done and no other: from here the statement comes to its end -/
def From (P : Program) (ops : Array Oper) (Q : Exit → Act → World → Prop) (b : Nat) (a : Act) (w : World) : Prop :=
  ∀ (fuel : Nat) (L : Array Bool), L.size = ops.size → (∀ j, L.getD j false = decide (j < b)) → left ops.size L ≤ fuel → wpAny P .any ops Q fuel L a w

section
variable {P : Program} {ops : Array Oper} {Q : Exit → Act → World → Prop} {a : Act} {w : World}
theorem from_start {id : Nat} (hm : P.follows .mixedOrders = true) (h : From P ops Q 0 a w.drew) : (Code.region id ops true).wp P Q a w := by
  refine wp_region_any hm (h _ _ (by simp) (fun j => ?_) ?_)
  · simp only [Array.getD_eq_getD_getElem?, Array.getElem?_replicate]
    split <;> simp
  · unfold left
    exact Nat.le_trans (List.length_filter_le _ _) (by simp)
theorem from_end (b : Nat) (hb : b = ops.size) (h : Q .normal a w) : From P ops Q b a w := by
  subst hb
  intro fuel L hL hall _
  have hr : Region.ready .any ops L = [] := by
    cases h : Region.ready .any ops L with
    | nil => rfl
    | cons x xs =>
      obtain ⟨h1, h2, _⟩ := mem_ready hL (i := x) (by rw [h]; simp)
      rw [hall x, decide_eq_true h1] at h2
      cases h2
  cases fuel with
  | zero => exact ⟨hr, h⟩
  | succ fuel => exact ⟨fun _ => h, fun i hi => by rw [hr] at hi; cases hi⟩

/-- every operation from e on waits for those from b to e -/
def barrier (D : List (List Nat)) (b e : Nat) : Bool := (List.range D.length).all fun k => decide (k < e) || (List.range e).all fun j => decide (j < b) || (D.getD k []).contains j

theorem from_block (D : List (List Nat)) (ho : ordered (waits ops) = true) (hD : justified (waits ops) D = true) (b e : Nat) (hl : D.length = ops.size) (hbe : b ≤ e) (hen : e ≤ ops.size) (hbar : barrier D b e = true)
    (I : (Nat → Bool) → Act → World → Prop) (h0 : I (fun _ => false) a w)
    (hs : ∀ L a w i, b ≤ i → i < e → I L a w → L i = false → (∀ j, b ≤ j ∧ j ∈ D.getD i [] → L j = true) → wpOp P ops Q i (I (fun j => j == i || L j)) a w)
    (he : ∀ L a w, I L a w → (∀ i, b ≤ i ∧ i < e → L i = true) → From P ops Q e a w) : From P ops Q b a w := by
  have hlen : (waits ops).length = ops.size := by simp [waits]
  have hforce : ∀ k, e ≤ k → k < ops.size → ∀ j, b ≤ j → j < e → j ∈ D.getD k [] := by
    intro k hk hkn j hbj hj
    unfold barrier at hbar
    rw [List.all_eq_true] at hbar
    have h1 := hbar k (by rw [List.mem_range, hl]; exact hkn)
    rw [Bool.or_eq_true, List.all_eq_true] at h1
    rcases h1 with h1 | h1
    · have : k < e := of_decide_eq_true h1
      omega
    · have := h1 j (by rw [List.mem_range]; exact hj)
      rw [Bool.or_eq_true] at this
      rcases this with h2 | h2
      · have : j < b := of_decide_eq_true h2
        omega
      · simpa using h2
  have core : ∀ (fuel : Nat) (L : Array Bool) (a : Act) (w : World), L.size = ops.size → left ops.size L ≤ fuel → (∀ j, j < b → L.getD j false = true) → (∀ j, e ≤ j → L.getD j false = false) →
      (∀ i, L.getD i false = true → ∀ j ∈ (waits ops).getD i [], L.getD j false = true) → I (fun j => decide (b ≤ j) && L.getD j false) a w → wpAny P .any ops Q fuel L a w := by
    intro fuel
    induction fuel with
    | zero =>
      intro L a w hL hlf hb hu hc hI
      refine he _ a w hI (fun i hi => ?_) 0 L hL (fun j => ?_) hlf
      · cases hf : L.getD i false with
        | true => simp [hi.1]
        | false => have := left_set hL (by omega) hf; omega
      · by_cases hj : j < e
        · rw [decide_eq_true hj]
          cases hf : L.getD j false with
          | true => rfl
          | false => have := left_set hL (by omega) hf; omega
        · rw [decide_eq_false hj]
          exact hu j (by omega)
    | succ fuel ih =>
      intro L a w hL hlf hb hu hc hI
      by_cases hall : ∀ i, b ≤ i ∧ i < e → L.getD i false = true
      · refine he _ a w hI (fun i hi => by simp [hall i hi, hi.1]) _ L hL (fun j => ?_) hlf
        by_cases hj : j < e
        · rw [decide_eq_true hj]
          by_cases hjb : j < b
          · exact hb j hjb
          · exact hall j ⟨by omega, hj⟩
        · rw [decide_eq_false hj]
          exact hu j (by omega)
      · simp only [Classical.not_forall] at hall
        obtain ⟨j0, ⟨hj1, hj2⟩, hj3⟩ := hall
        have hj3 : L.getD j0 false = false := by simpa using hj3
        refine ⟨fun hr => absurd hr (ready_of hL ho (by omega) hj3), fun i hi => ?_⟩
        obtain ⟨h1, h2, h3⟩ := mem_ready hL hi
        have hDi := justified_spec ho hD (L := fun j => L.getD j false) hc i (by omega) h3
        have hib : b ≤ i := by
          rcases Nat.lt_or_ge i b with h | h
          · rw [hb i h] at h2; cases h2
          · exact h
        have hie : i < e := by
          rcases Nat.lt_or_ge i e with h | h
          · exact h
          · have := hDi j0 (hforce i h h1 j0 hj1 hj2)
            rw [hj3] at this
            cases this
        have e1 : (fun j => (L.setIfInBounds i true).getD j false) = fun j => j == i || L.getD j false := funext fun j => getD_set (by omega) j
        have e1' : ∀ j, (L.setIfInBounds i true).getD j false = (j == i || L.getD j false) := fun j => getD_set (by omega) j
        refine wpOp_mono (fun a' w' h => ?_) (hs _ a w i hib hie hI (by show (decide (b ≤ i) && L.getD i false) = false; rw [h2]; simp) (fun j hj => by show (decide (b ≤ j) && L.getD j false) = true; rw [hDi j hj.2]; simp [hj.1]))
        refine ih _ a' w' (by simpa using hL) (by have := left_set hL h1 h2; omega) (fun j hj => ?_) (fun j hj => ?_) (fun k hk j hj => ?_) ?_
        · rw [e1' j, hb j hj]; simp
        · have h4 : (j == i) = false := by simp; omega
          rw [e1' j, hu j hj, h4]; rfl
        · rw [e1' k] at hk
          rw [e1' j]
          by_cases hki : k = i
          · subst hki
            rw [h3 j hj]; simp
          · have h4 : (k == i) = false := by simpa using hki
            rw [h4] at hk
            rw [hc k hk j hj]; simp
        · have e2 : (fun j => decide (b ≤ j) && (L.setIfInBounds i true).getD j false) = fun j => j == i || (decide (b ≤ j) && L.getD j false) := by
            funext j
            rw [e1' j]
            by_cases hji : j = i
            · subst hji; simp [hib]
            · have h4 : (j == i) = false := by simpa using hji
              rw [h4]; simp
          rw [e2]
          exact h
  intro fuel L hL hall hlf
  refine core fuel L a w hL hlf (fun j hj => by rw [hall j, decide_eq_true hj]) (fun j hj => by rw [hall j, decide_eq_false (by omega)]) (fun i hi j hj => ?_) ?_
  · rw [hall i] at hi
    have hib : i < b := of_decide_eq_true hi
    unfold ordered at ho
    rw [List.all_eq_true] at ho
    have h3 := ho i (by rw [List.mem_range]; omega)
    rw [List.all_eq_true] at h3
    have hji : j < i := by simpa using h3 j hj
    rw [hall j, decide_eq_true (by omega)]
  · have e2 : (fun j => decide (b ≤ j) && L.getD j false) = fun _ => false := by
      funext j
      rw [hall j]
      by_cases h : b ≤ j
      · rw [decide_eq_false (by omega : ¬ j < b)]; simp
      · rw [decide_eq_false h]; rfl
    rw [e2]
    exact h0

/-- a block of one operation -/
theorem from_one (D : List (List Nat)) (ho : ordered (waits ops) = true) (hD : justified (waits ops) D = true) (b : Nat) (hl : D.length = ops.size) (hen : b + 1 ≤ ops.size) (hbar : barrier D b (b + 1) = true)
    (h : wpOp P ops Q b (From P ops Q (b + 1)) a w) : From P ops Q b a w := by
  refine from_block D ho hD b (b + 1) hl (by omega) hen hbar (fun L a' w' => (L b = false ∧ a' = a ∧ w' = w) ∨ (L b = true ∧ From P ops Q (b + 1) a' w')) (.inl ⟨rfl, rfl, rfl⟩) ?_ ?_
  · intro L a' w' i hi1 hi2 hI hL _
    obtain rfl : i = b := by omega
    rcases hI with ⟨_, rfl, rfl⟩ | ⟨h1, _⟩
    · refine wpOp_mono (fun a' w' h => ?_) h
      exact .inr ⟨by simp, h⟩
    · rw [hL] at h1; cases h1
  · intro L a' w' hI hall
    rcases hI with ⟨h1, _⟩ | ⟨_, h⟩
    · rw [hall b ⟨Nat.le_refl _, by omega⟩] at h1; cases h1
    · exact h
/-- what is to be known of the table D once -/
def Table (ops : Array Oper) (D : List (List Nat)) : Prop := ordered (waits ops) = true ∧ justified (waits ops) D = true ∧ D.length = ops.size
def bar (D : List (List Nat)) (b e : Nat) : Bool := decide (e ≤ D.length) && barrier D b e
theorem from_table {id : Nat} (D : List (List Nat)) (hm : P.follows .mixedOrders = true) (ho : ordered (waits ops) = true) (hD : justified (waits ops) D = true) (hl : D.length = ops.size) (h : Table ops D → From P ops Q 0 a w.drew) : (Code.region id ops true).wp P Q a w :=
  from_start hm (h ⟨ho, hD, hl⟩)
theorem from_one' {D : List (List Nat)} (hT : Table ops D) (b : Nat) (hbar : bar D b (b + 1) = true) (h : wpOp P ops Q b (From P ops Q (b + 1)) a w) : From P ops Q b a w := by
  obtain ⟨h1, h2⟩ := Bool.and_eq_true_iff.1 hbar
  exact from_one D hT.1 hT.2.1 b hT.2.2 (by have := of_decide_eq_true h1; rw [hT.2.2] at this; exact this) h2 h
theorem from_block' {D : List (List Nat)} (hT : Table ops D) (b e : Nat) (hbe : b ≤ e) (hbar : bar D b e = true) (I : (Nat → Bool) → Act → World → Prop) (h0 : I (fun _ => false) a w)
    (hs : ∀ L a w i, b ≤ i → i < e → I L a w → L i = false → (∀ j, b ≤ j ∧ j ∈ D.getD i [] → L j = true) → wpOp P ops Q i (I (fun j => j == i || L j)) a w)
    (he : ∀ L a w, I L a w → (∀ i, b ≤ i ∧ i < e → L i = true) → From P ops Q e a w) : From P ops Q b a w := by
  obtain ⟨h1, h2⟩ := Bool.and_eq_true_iff.1 hbar
  exact from_block D hT.1 hT.2.1 b e hT.2.2 hbe (by have := of_decide_eq_true h1; rw [hT.2.2] at this; exact this) h2 I h0 hs he
theorem from_end' {D : List (List Nat)} (hT : Table ops D) (b : Nat) (hb : (b == D.length) = true) (h : Q .normal a w) : From P ops Q b a w :=
  from_end b (by rw [← hT.2.2]; simpa using hb) h
theorem from_gen {b : Nat} (W : World → Prop) (h : W w) (k : ∀ u, W u → From P ops Q b a u) : From P ops Q b a w := k w h
/-- the last operations, in the text's order -/
theorem from_tail {D : List (List Nat)} (hT : Table ops D) (m : Nat) (hf : (decide (m ≤ D.length) && forced D m) = true) (h : wpOps P ops Q (List.range' m (D.length - m)) a w) : From P ops Q m a w := by
  obtain ⟨h1, h2⟩ := Bool.and_eq_true_iff.1 hf
  have hm := of_decide_eq_true h1
  have hl := hT.2.2
  have key : ∀ (d k : Nat) (a : Act) (w : World), m ≤ k → k + d = D.length → wpOps P ops Q (List.range' k d) a w → From P ops Q k a w := by
    intro d
    induction d with
    | zero =>
      intro k a w _ hk h
      refine from_end k (by omega) ?_
      simpa [wpOps] using h
    | succ d ih =>
      intro k a w hmk hk h
      rw [List.range'_succ, wpOps_cons] at h
      refine from_one D hT.1 hT.2.1 k hl (by omega) ?_ (wpOp_mono (fun a' w' h' => ih (k + 1) a' w' (by omega) (by omega) h') h)
      unfold barrier
      rw [List.all_eq_true]
      intro j hj
      rw [List.mem_range] at hj
      rw [Bool.or_eq_true]
      by_cases hjk : j < k + 1
      · exact .inl (decide_eq_true hjk)
      · refine .inr ?_
        rw [List.all_eq_true]
        intro i hi
        rw [List.mem_range] at hi
        unfold forced at h2
        rw [List.all_eq_true] at h2
        have h3 := h2 j (by rw [List.mem_range]; exact hj)
        rw [Bool.or_eq_true] at h3
        rcases h3 with h3 | h3
        · have := of_decide_eq_true h3; omega
        · rw [List.all_eq_true] at h3
          rw [h3 i (by rw [List.mem_range]; omega)]
          simp
  exact key _ m a w (Nat.le_refl _) (by omega) h
end
end Go.Proofs.Ytojplcchoffapaa
