/- A rule for a statement whose order Go leaves open: an invariant that every operation keeps, whatever has been carried out before it. Conditions: none. -/
import Derived.RegionTactic
namespace Go.Proofs.Ytojplcchoffapaa

/-- the operations that each operation waits for -/
def waits (ops : Array Oper) : List (List Nat) := ops.toList.map fun o => (o.after.toList.filter (Region.binds .any)).map (·.on)
/-- an operation waits for earlier ones alone -/
def ordered (D : List (List Nat)) : Bool := (List.range D.length).all fun i => (D.getD i []).all fun j => decide (j < i)

theorem mem_ready {ops : Array Oper} {L : Array Bool} {i : Nat} (hL : L.size = ops.size) (h : i ∈ Region.ready .any ops L) :
    i < ops.size ∧ L.getD i false = false ∧ ∀ j ∈ (waits ops).getD i [], L.getD j false = true := by
  unfold Region.ready at h
  rw [List.mem_filter, List.mem_range] at h
  obtain ⟨hi, h⟩ := h
  rw [Bool.and_eq_true] at h
  obtain ⟨h1, h2⟩ := h
  refine ⟨hi, ?_, fun j hj => ?_⟩
  · have hlt : i < L.size := by omega
    simp only [Array.getD, hlt, dite_true] at h1 ⊢
    simpa using h1
  · have e : ops[i]? = some ops[i] := Array.getElem?_eq_getElem hi
    rw [e] at h2
    simp only [Option.map_some, Option.getD_some, Array.all_eq_true_iff_forall_mem] at h2
    have e2 : (waits ops).getD i [] = (ops[i].after.toList.filter (Region.binds .any)).map (·.on) := by
      simp [waits, List.getD, e]
    rw [e2, List.mem_map] at hj
    obtain ⟨x, hx, rfl⟩ := hj
    rw [List.mem_filter] at hx
    have := h2 x (by simpa using hx.1)
    simpa [hx.2] using this

theorem ready_of {ops : Array Oper} {L : Array Bool} (hL : L.size = ops.size) (ho : ordered (waits ops) = true) {i : Nat} (hi : i < ops.size) (hf : L.getD i false = false) :
    Region.ready .any ops L ≠ [] := by
  induction i using Nat.strongRecOn with
  | _ i ih =>
    by_cases hall : ∀ j ∈ (waits ops).getD i [], L.getD j false = true
    · intro hnil
      have hmem : i ∈ Region.ready .any ops L := by
        unfold Region.ready
        rw [List.mem_filter, List.mem_range]
        refine ⟨hi, ?_⟩
        have hlt : i < L.size := by omega
        have e : ops[i]? = some ops[i] := Array.getElem?_eq_getElem hi
        have e2 : (waits ops).getD i [] = (ops[i].after.toList.filter (Region.binds .any)).map (·.on) := by
          simp [waits, List.getD, e]
        rw [Bool.and_eq_true]
        constructor
        · simp only [Array.getD, hlt, dite_true] at hf ⊢
          simpa using hf
        · rw [e]
          simp only [Option.map_some, Option.getD_some, Array.all_eq_true_iff_forall_mem]
          intro x hx
          by_cases hb : Region.binds .any x = true
          · have := hall x.on (by rw [e2, List.mem_map]; exact ⟨x, by rw [List.mem_filter]; exact ⟨by simpa using hx, hb⟩, rfl⟩)
            simp [this]
          · simp [hb]
      rw [hnil] at hmem
      cases hmem
    · simp only [Classical.not_forall] at hall
      obtain ⟨j, hj, hjf⟩ := hall
      have hji : j < i := by
        unfold ordered at ho
        rw [List.all_eq_true] at ho
        have h1 := ho i (by rw [List.mem_range]; simpa [waits] using hi)
        rw [List.all_eq_true] at h1
        simpa using h1 j hj
      exact ih j hji (by omega) (by simpa using hjf)

/-- how many are still to come -/
def left (n : Nat) (L : Array Bool) : Nat := ((List.range n).filter fun i => !L.getD i false).length

theorem filter_le {p q : Nat → Bool} (h : ∀ x, q x = true → p x = true) (l : List Nat) : (l.filter q).length ≤ (l.filter p).length := by
  induction l with
  | nil => exact Nat.le_refl _
  | cons x l ih =>
    rw [List.filter_cons, List.filter_cons]
    cases hq : q x with
    | true => rw [h x hq]; simp only [if_true, List.length_cons]; omega
    | false =>
      cases p x with
      | true => simp only [if_true, List.length_cons]; exact Nat.le_succ_of_le ih
      | false => exact ih
theorem filter_lt {p q : Nat → Bool} (h : ∀ x, q x = true → p x = true) {i : Nat} (hp : p i = true) (hq : q i = false) (l : List Nat) (hm : i ∈ l) : (l.filter q).length < (l.filter p).length := by
  induction l with
  | nil => cases hm
  | cons x l ih =>
    rw [List.filter_cons, List.filter_cons]
    by_cases hx : x = i
    · subst hx
      rw [hp, hq]
      have := filter_le h l
      simp only [if_true, List.length_cons]
      exact Nat.lt_succ_of_le this
    · have hm : i ∈ l := by
        cases List.mem_cons.1 hm with
        | inl h => exact absurd h.symm hx
        | inr h => exact h
      have := ih hm
      cases hqx : q x with
      | true => rw [h x hqx]; simp only [if_true, List.length_cons]; omega
      | false =>
        cases p x with
        | true => simp only [if_true, List.length_cons]; exact Nat.lt_succ_of_lt this
        | false => exact this

theorem getD_set {L : Array Bool} {i : Nat} (hi : i < L.size) (j : Nat) : (L.setIfInBounds i true).getD j false = (j == i || L.getD j false) := by
  simp only [Array.getD_eq_getD_getElem?]
  by_cases hj : j = i
  · subst hj
    simp [Array.getElem?_setIfInBounds_self_of_lt (xs := L) (i := j) hi]
  · rw [Array.getElem?_setIfInBounds_ne (Ne.symm hj)]
    simp [hj]

theorem left_set {n : Nat} {L : Array Bool} {i : Nat} (hL : L.size = n) (hi : i < n) (hf : L.getD i false = false) : left n (L.setIfInBounds i true) < left n L := by
  unfold left
  refine filter_lt (i := i) (fun x hx => ?_) (by rw [hf]; rfl) (by rw [getD_set (by omega)]; simp) _ (by rw [List.mem_range]; exact hi)
  rw [getD_set (by omega)] at hx
  cases h : L.getD x false with
  | true => rw [h] at hx; simp at hx
  | false => rfl

theorem wpAny_inv {P : Program} {ops : Array Oper} {Q : Exit → Act → World → Prop} (ho : ordered (waits ops) = true) (I : (Nat → Bool) → Act → World → Prop)
    (hs : ∀ L a w i, i < ops.size → I L a w → L i = false → (∀ j ∈ (waits ops).getD i [], L j = true) → wpOp P ops Q i (I (fun j => j == i || L j)) a w)
    (he : ∀ L a w, I L a w → (∀ i, i < ops.size → L i = true) → Q .normal a w) :
    ∀ (fuel : Nat) (L : Array Bool) (a : Act) (w : World), L.size = ops.size → left ops.size L ≤ fuel → I (fun j => L.getD j false) a w → wpAny P .any ops Q fuel L a w := by
  have hdone : ∀ L : Array Bool, L.size = ops.size → Region.ready .any ops L = [] → ∀ i, i < ops.size → L.getD i false = true := by
    intro L hL hr i hi
    cases hf : L.getD i false with
    | true => rfl
    | false => exact absurd hr (ready_of hL ho hi hf)
  intro fuel
  induction fuel with
  | zero =>
    intro L a w hL hl hI
    have hall : ∀ i, i < ops.size → L.getD i false = true := by
      intro i hi
      cases hf : L.getD i false with
      | true => rfl
      | false =>
        have := left_set hL hi hf
        omega
    have hr : Region.ready .any ops L = [] := by
      cases h : Region.ready .any ops L with
      | nil => rfl
      | cons x xs =>
        obtain ⟨h1, h2, _⟩ := mem_ready hL (i := x) (by rw [h]; simp)
        rw [hall x h1] at h2
        cases h2
    exact ⟨hr, he _ _ _ hI hall⟩
  | succ fuel ih =>
    intro L a w hL hl hI
    refine ⟨fun hr => he _ _ _ hI (hdone L hL hr), fun i hi => ?_⟩
    obtain ⟨h1, h2, h3⟩ := mem_ready hL hi
    refine wpOp_mono (fun a' w' h => ?_) (hs _ a w i h1 hI h2 h3)
    refine ih _ a' w' (by simpa using hL) (by have := left_set hL h1 h2; omega) ?_
    have e : (fun j => (L.setIfInBounds i true).getD j false) = fun j => j == i || L.getD j false := funext fun j => getD_set (by omega) j
    rw [e]
    exact h

/-- THE RULE -/
theorem wp_region_inv {P : Program} {ops : Array Oper} {Q : Exit → Act → World → Prop} {id : Nat} {a : Act} {w : World} (hm : P.follows .mixedOrders = true) (ho : ordered (waits ops) = true) (I : (Nat → Bool) → Act → World → Prop)
    (h0 : I (fun _ => false) a w.drew)
    (hs : ∀ L a w i, i < ops.size → I L a w → L i = false → (∀ j ∈ (waits ops).getD i [], L j = true) → wpOp P ops Q i (I (fun j => j == i || L j)) a w)
    (he : ∀ L a w, I L a w → (∀ i, i < ops.size → L i = true) → Q .normal a w) : (Code.region id ops true).wp P Q a w := by
  refine wp_region_any hm (wpAny_inv ho I hs he _ _ _ _ (by simp) ?_ ?_)
  · unfold left
    exact Nat.le_trans (List.length_filter_le _ _) (by simp)
  · have e : (fun j => (Array.replicate ops.size false).getD j false) = fun _ => false := by
      funext j
      simp only [Array.getD_eq_getD_getElem?, Array.getElem?_replicate]
      split <;> rfl
    rw [e]
    exact h0

/-- each number of D[i] stands among what operation i waits for, or among those of one of these -/
def justified (W D : List (List Nat)) : Bool := (List.range W.length).all fun i => (D.getD i []).all fun j => (W.getD i []).contains j || (W.getD i []).any fun k => (D.getD k []).contains j

theorem justified_spec {W D : List (List Nat)} (ho : ordered W = true) (hj : justified W D = true) {L : Nat → Bool} (hc : ∀ i, L i = true → ∀ j ∈ W.getD i [], L j = true) :
    ∀ i, i < W.length → (∀ j ∈ W.getD i [], L j = true) → ∀ j ∈ D.getD i [], L j = true := by
  intro i
  induction i using Nat.strongRecOn with
  | _ i ih =>
    intro hi hW j hj'
    unfold justified at hj
    rw [List.all_eq_true] at hj
    have h1 := hj i (by rw [List.mem_range]; exact hi)
    rw [List.all_eq_true] at h1
    have h2 := h1 j hj'
    rw [Bool.or_eq_true] at h2
    rcases h2 with h2 | h2
    · exact hW j (by simpa using h2)
    · rw [List.any_eq_true] at h2
      obtain ⟨k, hk, hkj⟩ := h2
      unfold ordered at ho
      rw [List.all_eq_true] at ho
      have h3 := ho i (by rw [List.mem_range]; exact hi)
      rw [List.all_eq_true] at h3
      have hki : k < i := by simpa using h3 k hk
      exact ih k hki (by omega) (hc k (hW k hk)) j (by simpa using hkj)

/-- THE RULE, over a closed table D of what each operation waits for -/
theorem wp_region_deps {P : Program} {ops : Array Oper} {Q : Exit → Act → World → Prop} {id : Nat} {a : Act} {w : World} (D : List (List Nat)) (ho : ordered (waits ops) = true) (hD : justified (waits ops) D = true) (hm : P.follows .mixedOrders = true)
    (I : (Nat → Bool) → Act → World → Prop) (h0 : I (fun _ => false) a w.drew)
    (hs : ∀ L a w i, i < ops.size → I L a w → L i = false → (∀ j ∈ D.getD i [], L j = true) → wpOp P ops Q i (I (fun j => j == i || L j)) a w)
    (he : ∀ L a w, I L a w → (∀ i, i < ops.size → L i = true) → Q .normal a w) : (Code.region id ops true).wp P Q a w := by
  have hlen : (waits ops).length = ops.size := by simp [waits]
  refine wp_region_inv hm ho (fun L a w => (∀ i, L i = true → ∀ j ∈ (waits ops).getD i [], L j = true) ∧ I L a w) ⟨fun i h => (Bool.noConfusion h), h0⟩ ?_ (fun L a w h hall => he L a w h.2 hall)
  intro L a w i hi hI hL hd
  refine wpOp_mono (fun a' w' h' => ⟨fun k hk j hj => ?_, h'⟩) (hs L a w i hi hI.2 hL (justified_spec ho hD hI.1 i (by omega) hd))
  show (j == i || L j) = true
  by_cases hki : k = i
  · subst hki
    rw [hd j hj]
    simp
  · have hk : L k = true := by
      have h2 : (k == i) = false := by simpa using hki
      have h3 : (k == i || L k) = true := hk
      rw [h2] at h3
      exact h3
    rw [hI.1 k hk j hj]
    simp

/-- every operation from m on waits for all that stand before it -/
def forced (D : List (List Nat)) (m : Nat) : Bool := (List.range D.length).all fun k => decide (k < m) || (List.range k).all fun j => (D.getD k []).contains j

/-- THE RULE, WHERE THE LAST OPERATIONS (the stores, from m on) COME IN THE TEXT's OWN ORDER BEHIND ALL OTHERS -/
theorem wp_region_tail {P : Program} {ops : Array Oper} {Q : Exit → Act → World → Prop} {id : Nat} {a : Act} {w : World} (D : List (List Nat)) (ho : ordered (waits ops) = true) (hD : justified (waits ops) D = true) (m : Nat) (hl : D.length = ops.size) (hf : forced D m = true) (hmn : m ≤ ops.size) (hm : P.follows .mixedOrders = true)
    (I : (Nat → Bool) → Act → World → Prop) (h0 : I (fun _ => false) a w.drew)
    (hs : ∀ L a w i, i < m → I L a w → L i = false → (∀ j ∈ D.getD i [], L j = true) → wpOp P ops Q i (I (fun j => j == i || L j)) a w)
    (he : ∀ L a w, I L a w → (∀ i, i < m → L i = true) → wpOps P ops Q (List.range' m (ops.size - m)) a w) : (Code.region id ops true).wp P Q a w := by
  have hforce : ∀ k, m ≤ k → k < ops.size → ∀ j, j < k → j ∈ D.getD k [] := by
    intro k hk hkn j hj
    unfold forced at hf
    rw [List.all_eq_true] at hf
    have h1 := hf k (by rw [List.mem_range, hl]; exact hkn)
    rw [Bool.or_eq_true, List.all_eq_true] at h1
    rcases h1 with h1 | h1
    · have : k < m := of_decide_eq_true h1
      omega
    · have := h1 j (by rw [List.mem_range]; exact hj)
      simpa using this
  refine wp_region_deps D ho hD hm (fun L a w => ((∀ j, m ≤ j → L j = false) ∧ I L a w) ∨ ∃ k, m ≤ k ∧ k ≤ ops.size ∧ (∀ j, j < k → L j = true) ∧ (∀ j, k ≤ j → L j = false) ∧ wpOps P ops Q (List.range' k (ops.size - k)) a w) (.inl ⟨fun _ _ => rfl, h0⟩) ?_ ?_
  · intro L a w i hi hI hL hd
    have tail : ∀ k, m ≤ k → (∀ j, k ≤ j → L j = false) → m ≤ i → k ≤ i → wpOps P ops Q (List.range' k (ops.size - k)) a w →
        wpOp P ops Q i (fun a w => ((∀ j, m ≤ j → (j == i || L j) = false) ∧ I (fun j => j == i || L j) a w) ∨ ∃ k, m ≤ k ∧ k ≤ ops.size ∧ (∀ j, j < k → (j == i || L j) = true) ∧ (∀ j, k ≤ j → (j == i || L j) = false) ∧ wpOps P ops Q (List.range' k (ops.size - k)) a w) a w := by
      intro k hk hun hmi hki h
      have hik : i = k := by
        rcases Nat.lt_or_ge k i with hlt | hge
        · have := hd k (hforce i hmi hi k hlt)
          rw [hun k (Nat.le_refl _)] at this
          cases this
        · omega
      subst hik
      have e : ops.size - i = (ops.size - (i + 1)) + 1 := by omega
      rw [e, List.range'_succ, wpOps_cons] at h
      refine wpOp_mono (fun a' w' h' => .inr ⟨i + 1, by omega, by omega, fun j hj => ?_, fun j hj => ?_, h'⟩) h
      · by_cases hji : j = i
        · simp [hji]
        · have := hd j (hforce i hmi hi j (by omega))
          simp [this]
      · have h1 := hun j (by omega)
        have h2 : (j == i) = false := by simp; omega
        rw [h1, h2]
        rfl
    rcases hI with ⟨hun, hI⟩ | ⟨k, hk, hkn, hall, hun, h⟩
    · rcases Nat.lt_or_ge i m with him | him
      · refine wpOp_mono (fun a' w' h' => .inl ⟨fun j hj => ?_, h'⟩) (hs L a w i him hI hL hd)
        have h1 := hun j hj
        have h2 : (j == i) = false := by simp; omega
        show (j == i || L j) = false
        rw [h1, h2]
        rfl
      · have hall : ∀ j, j < m → L j = true := fun j hj => hd j (hforce i him hi j (by omega))
        exact tail m (Nat.le_refl _) hun him him (he L a w hI hall)
    · have hki : k ≤ i := by
        rcases Nat.lt_or_ge i k with hlt | hge
        · rw [hall i hlt] at hL
          cases hL
        · exact hge
      exact tail k hk hun (by omega) hki h
  · intro L a w hI hall
    rcases hI with ⟨hun, hI⟩ | ⟨k, hk, hkn, hall', hun, h⟩
    · have hmn' : m = ops.size := by
        rcases Nat.lt_or_ge m ops.size with hlt | hge
        · have h1 := hun m (Nat.le_refl _)
          rw [hall m hlt] at h1
          cases h1
        · omega
      have := he L a w hI (fun i hi => hall i (by omega))
      rw [hmn', Nat.sub_self] at this
      exact this
    · have hkn' : k = ops.size := by
        rcases Nat.lt_or_ge k ops.size with hlt | hge
        · have h1 := hun k (Nat.le_refl _)
          rw [hall k hlt] at h1
          cases h1
        · omega
      rw [hkn', Nat.sub_self] at h
      exact h
end Go.Proofs.Ytojplcchoffapaa
