/- The rule for a statement whose order Go leaves open, in its general form: the last operations come in one order, given as a list. Conditions: none. -/
import Derived.Test.YtenhhkeajhkfoaaRegion
namespace Go.Proofs.Ytenhhkeajhkfoaa

/-- an operation waits for ones of lower rank alone -/
def ranked (W : List (List Nat)) (rk : List Nat) : Bool := (List.range W.length).all fun i => (W.getD i []).all fun j => decide (j < W.length) && decide (rk.getD j 0 < rk.getD i 0)

theorem ranked_spec {W : List (List Nat)} {rk : List Nat} (h : ranked W rk = true) {i j : Nat} (hi : i < W.length) (hj : j ∈ W.getD i []) : j < W.length ∧ rk.getD j 0 < rk.getD i 0 := by
  unfold ranked at h
  rw [List.all_eq_true] at h
  have h1 := h i (by rw [List.mem_range]; exact hi)
  rw [List.all_eq_true] at h1
  simpa using h1 j hj

theorem ready_ranked {ops : Array Oper} {L : Array Bool} {rk : List Nat} (hL : L.size = ops.size) (ho : ranked (waits ops) rk = true) : ∀ (r i : Nat), rk.getD i 0 = r → i < ops.size → L.getD i false = false → Region.ready .any ops L ≠ [] := by
  have hlen : (waits ops).length = ops.size := by simp [waits]
  intro r
  induction r using Nat.strongRecOn with
  | _ r ih =>
    intro i hr hi hf
    by_cases hall : ∀ j ∈ (waits ops).getD i [], L.getD j false = true
    · intro hnil
      have hmem : i ∈ Region.ready .any ops L := by
        unfold Region.ready
        rw [List.mem_filter, List.mem_range]
        refine ⟨hi, ?_⟩
        have hlt : i < L.size := by omega
        have e : ops[i]? = some ops[i] := Array.getElem?_eq_getElem hi
        have e2 : (waits ops).getD i [] = (ops[i].after.toList.filter (Region.binds .any)).map (·.on) := by
          simp [waits, List.getD, e]
        rw [Bool.and_eq_true]
        constructor
        · simp only [Array.getD, hlt, dite_true] at hf ⊢
          simpa using hf
        · rw [e]
          simp only [Option.map_some, Option.getD_some, Array.all_eq_true_iff_forall_mem]
          intro x hx
          by_cases hb : Region.binds .any x = true
          · have := hall x.on (by rw [e2, List.mem_map]; exact ⟨x, by rw [List.mem_filter]; exact ⟨by simpa using hx, hb⟩, rfl⟩)
            simp [this]
          · simp [hb]
      rw [hnil] at hmem
      cases hmem
    · simp only [Classical.not_forall] at hall
      obtain ⟨j, hj, hjf⟩ := hall
      obtain ⟨h1, h2⟩ := ranked_spec ho (by omega) hj
      exact ih (rk.getD j 0) (by omega) j rfl (by omega) (by simpa using hjf)

theorem wpAny_ranked {P : Program} {ops : Array Oper} {Q : Exit → Act → World → Prop} {rk : List Nat} (ho : ranked (waits ops) rk = true) (I : (Nat → Bool) → Act → World → Prop)
    (hs : ∀ L a w i, i < ops.size → I L a w → L i = false → (∀ j ∈ (waits ops).getD i [], L j = true) → wpOp P ops Q i (I (fun j => j == i || L j)) a w)
    (he : ∀ L a w, I L a w → (∀ i, i < ops.size → L i = true) → Q .normal a w) :
    ∀ (fuel : Nat) (L : Array Bool) (a : Act) (w : World), L.size = ops.size → left ops.size L ≤ fuel → I (fun j => L.getD j false) a w → wpAny P .any ops Q fuel L a w := by
  have hdone : ∀ L : Array Bool, L.size = ops.size → Region.ready .any ops L = [] → ∀ i, i < ops.size → L.getD i false = true := by
    intro L hL hr i hi
    cases hf : L.getD i false with
    | true => rfl
    | false => exact absurd hr (ready_ranked hL ho _ i rfl hi hf)
  intro fuel
  induction fuel with
  | zero =>
    intro L a w hL hl hI
    have hall : ∀ i, i < ops.size → L.getD i false = true := by
      intro i hi
      cases hf : L.getD i false with
      | true => rfl
      | false =>
        have := left_set hL hi hf
        omega
    have hr : Region.ready .any ops L = [] := by
      cases h : Region.ready .any ops L with
      | nil => rfl
      | cons x xs =>
        obtain ⟨h1, h2, _⟩ := mem_ready hL (i := x) (by rw [h]; simp)
        rw [hall x h1] at h2
        cases h2
    exact ⟨hr, he _ _ _ hI hall⟩
  | succ fuel ih =>
    intro L a w hL hl hI
    refine ⟨fun hr => he _ _ _ hI (hdone L hL hr), fun i hi => ?_⟩
    obtain ⟨h1, h2, h3⟩ := mem_ready hL hi
    refine wpOp_mono (fun a' w' h => ?_) (hs _ a w i h1 hI h2 h3)
    refine ih _ a' w' (by simpa using hL) (by have := left_set hL h1 h2; omega) ?_
    have e : (fun j => (L.setIfInBounds i true).getD j false) = fun j => j == i || L.getD j false := funext fun j => getD_set (by omega) j
    rw [e]
    exact h

theorem justified_ranked {W D : List (List Nat)} {rk : List Nat} (ho : ranked W rk = true) (hj : justified W D = true) {L : Nat → Bool} (hc : ∀ i, L i = true → ∀ j ∈ W.getD i [], L j = true) :
    ∀ r i, rk.getD i 0 = r → i < W.length → (∀ j ∈ W.getD i [], L j = true) → ∀ j ∈ D.getD i [], L j = true := by
  intro r
  induction r using Nat.strongRecOn with
  | _ r ih =>
    intro i hr hi hW j hj'
    unfold justified at hj
    rw [List.all_eq_true] at hj
    have h1 := hj i (by rw [List.mem_range]; exact hi)
    rw [List.all_eq_true] at h1
    have h2 := h1 j hj'
    rw [Bool.or_eq_true] at h2
    rcases h2 with h2 | h2
    · exact hW j (by simpa using h2)
    · rw [List.any_eq_true] at h2
      obtain ⟨k, hk, hkj⟩ := h2
      obtain ⟨hk1, hk2⟩ := ranked_spec ho hi hk
      exact ih (rk.getD k 0) (by omega) k rfl hk1 (hc k (hW k hk)) j (by simpa using hkj)

/-- over a closed table D of what each operation waits for -/
theorem wp_region_ranked {P : Program} {ops : Array Oper} {Q : Exit → Act → World → Prop} {id : Nat} {a : Act} {w : World} (D : List (List Nat)) (rk : List Nat) (ho : ranked (waits ops) rk = true) (hD : justified (waits ops) D = true) (hm : P.follows .mixedOrders = true)
    (I : (Nat → Bool) → Act → World → Prop) (h0 : I (fun _ => false) a w.drew)
    (hs : ∀ L a w i, i < ops.size → I L a w → L i = false → (∀ j ∈ D.getD i [], L j = true) → wpOp P ops Q i (I (fun j => j == i || L j)) a w)
    (he : ∀ L a w, I L a w → (∀ i, i < ops.size → L i = true) → Q .normal a w) : (Code.region id ops true).wp P Q a w := by
  have hlen : (waits ops).length = ops.size := by simp [waits]
  refine wp_region_any hm (wpAny_ranked ho (fun L a w => (∀ i, L i = true → ∀ j ∈ (waits ops).getD i [], L j = true) ∧ I L a w) ?_ (fun L a w h hall => he L a w h.2 hall) _ _ _ _ (by simp) ?_ ?_)
  · intro L a w i hi hI hL hd
    refine wpOp_mono (fun a' w' h' => ⟨fun k hk j hj => ?_, h'⟩) (hs L a w i hi hI.2 hL (justified_ranked ho hD hI.1 _ i rfl (by omega) hd))
    show (j == i || L j) = true
    by_cases hki : k = i
    · subst hki
      rw [hd j hj]
      simp
    · have hk : L k = true := by
        have h2 : (k == i) = false := by simpa using hki
        have h3 : (k == i || L k) = true := hk
        rw [h2] at h3
        exact h3
      rw [hI.1 k hk j hj]
      simp
  · unfold left
    exact Nat.le_trans (List.length_filter_le _ _) (by simp)
  · have e : (fun j => (Array.replicate ops.size false).getD j false) = fun _ => false := by
      funext j
      simp only [Array.getD_eq_getD_getElem?, Array.getElem?_replicate]
      split <;> rfl
    rw [e]
    exact ⟨fun i h => (Bool.noConfusion h), h0⟩

/-- the operations of T come last, in T's order: each waits for all that are not in T and for those before it in T -/
def lastly (D : List (List Nat)) (n : Nat) (T : List Nat) : Bool :=
  (List.range T.length).all fun p => decide (T.getD p 0 < n) && ((List.range n).all fun j => T.contains j || (D.getD (T.getD p 0) []).contains j) && ((List.range p).all fun q => (D.getD (T.getD p 0) []).contains (T.getD q 0))

theorem wp_region_list {P : Program} {ops : Array Oper} {Q : Exit → Act → World → Prop} {id : Nat} {a : Act} {w : World} (D : List (List Nat)) (rk : List Nat) (T : List Nat) (ho : ranked (waits ops) rk = true) (hD : justified (waits ops) D = true)
    (hT : lastly D ops.size T = true) (hnd : T.Nodup) (hm : P.follows .mixedOrders = true)
    (I : (Nat → Bool) → Act → World → Prop) (h0 : I (fun _ => false) a w.drew)
    (hs : ∀ L a w i, i < ops.size → i ∉ T → I L a w → L i = false → (∀ j ∈ D.getD i [], L j = true) → wpOp P ops Q i (I (fun j => j == i || L j)) a w)
    (he : ∀ L a w, I L a w → (∀ i, i < ops.size → i ∉ T → L i = true) → wpOps P ops Q T a w) : (Code.region id ops true).wp P Q a w := by
  have hlast : ∀ p, p < T.length → T.getD p 0 < ops.size ∧ (∀ j, j < ops.size → j ∉ T → j ∈ D.getD (T.getD p 0) []) ∧ ∀ q, q < p → T.getD q 0 ∈ D.getD (T.getD p 0) [] := by
    intro p hp
    unfold lastly at hT
    rw [List.all_eq_true] at hT
    have h1 := hT p (by rw [List.mem_range]; exact hp)
    rw [Bool.and_eq_true, Bool.and_eq_true, List.all_eq_true, List.all_eq_true] at h1
    obtain ⟨⟨h1, h2⟩, h3⟩ := h1
    refine ⟨of_decide_eq_true h1, fun j hj hn => ?_, fun q hq => ?_⟩
    · have := h2 j (by rw [List.mem_range]; exact hj)
      rw [Bool.or_eq_true] at this
      rcases this with h | h
      · exact absurd (by simpa using h) hn
      · simpa using h
    · simpa using h3 q (by rw [List.mem_range]; exact hq)
  have hget : ∀ p (hp : p < T.length), T.getD p 0 = T[p] := fun p hp => by simp [hp]
  refine wp_region_ranked D rk ho hD hm (fun L a w => ((∀ j ∈ T, L j = false) ∧ I L a w) ∨ ∃ k, k ≤ T.length ∧ (∀ i, i < ops.size → i ∉ T → L i = true) ∧ (∀ p, p < k → L (T.getD p 0) = true) ∧ (∀ p, k ≤ p → p < T.length → L (T.getD p 0) = false) ∧ wpOps P ops Q (T.drop k) a w)
    (.inl ⟨fun _ _ => rfl, h0⟩) ?_ ?_
  · intro L a w i hi hI hL hd
    have tail : ∀ k, k ≤ T.length → (∀ i, i < ops.size → i ∉ T → L i = true) → (∀ p, p < k → L (T.getD p 0) = true) → (∀ p, k ≤ p → p < T.length → L (T.getD p 0) = false) → i ∈ T → wpOps P ops Q (T.drop k) a w →
        wpOp P ops Q i (fun a w => ((∀ j ∈ T, (j == i || L j) = false) ∧ I (fun j => j == i || L j) a w) ∨ ∃ k, k ≤ T.length ∧ (∀ x, x < ops.size → x ∉ T → (x == i || L x) = true) ∧ (∀ p, p < k → (T.getD p 0 == i || L (T.getD p 0)) = true) ∧ (∀ p, k ≤ p → p < T.length → (T.getD p 0 == i || L (T.getD p 0)) = false) ∧ wpOps P ops Q (T.drop k) a w) a w := by
      intro k hk hnon hdone hun him h
      obtain ⟨p, hp, hpi⟩ := List.mem_iff_getElem.1 him
      have hgp : T.getD p 0 = i := (hget p hp).trans hpi
      have hkp : k ≤ p := by
        rcases Nat.lt_or_ge p k with hlt | hge
        · have := hdone p hlt
          rw [hgp, hL] at this
          cases this
        · exact hge
      have hpk : p = k := by
        rcases Nat.lt_or_ge k p with hlt | hge
        · have h1 := (hlast p hp).2.2 k hlt
          rw [hgp] at h1
          have h2 := hd _ h1
          rw [hun k (Nat.le_refl _) (by omega)] at h2
          cases h2
        · omega
      subst hpk
      rw [List.drop_eq_getElem_cons hp, hpi, wpOps_cons] at h
      refine wpOp_mono (fun a' w' h' => .inr ⟨p + 1, by omega, fun x hx hn => ?_, fun q hq => ?_, fun q hq1 hq2 => ?_, h'⟩) h
      · rw [hnon x hx hn]
        simp
      · by_cases hqp : q = p
        · subst hqp
          rw [hgp]
          simp
        · rw [hdone q (by omega)]
          simp
      · rw [hun q (by omega) hq2]
        have hne : T.getD q 0 ≠ i := by
          intro e
          rw [hget q hq2, ← hpi] at e
          exact List.pairwise_iff_getElem.1 hnd p q hp hq2 (by omega) e.symm
        simp only [Bool.or_false, beq_eq_false_iff_ne, ne_eq]
        exact hne
    rcases hI with ⟨hun, hI⟩ | ⟨k, hk, hnon, hdone, hun, h⟩
    · by_cases him : i ∈ T
      · obtain ⟨p, hp, hpi⟩ := List.mem_iff_getElem.1 him
        have hgp : T.getD p 0 = i := (hget p hp).trans hpi
        have hnon : ∀ x, x < ops.size → x ∉ T → L x = true := fun x hx hn => hd x (by rw [← hgp]; exact (hlast p hp).2.1 x hx hn)
        exact tail 0 (Nat.zero_le _) hnon (fun p hp => by omega) (fun p _ hp => hun _ (by rw [hget p hp]; exact List.getElem_mem hp)) him (he L a w hI hnon)
      · refine wpOp_mono (fun a' w' h' => .inl ⟨fun j hj => ?_, h'⟩) (hs L a w i hi him hI hL hd)
        have h1 := hun j hj
        have h2 : (j == i) = false := by
          simp only [beq_eq_false_iff_ne, ne_eq]
          rintro rfl
          exact him hj
        show (j == i || L j) = false
        rw [h1, h2]
        rfl
    · have him : i ∈ T := by
        by_cases hn : i ∈ T
        · exact hn
        · have := hnon i hi hn
          rw [hL] at this
          cases this
      exact tail k hk hnon hdone hun him h
  · intro L a w hI hall
    rcases hI with ⟨hun, hI⟩ | ⟨k, hk, hnon, hdone, hun, h⟩
    · have hT0 : T = [] := by
        cases T with
        | nil => rfl
        | cons t T =>
          have h1 := hun t (by simp)
          have h2 := (hlast 0 (by simp)).1
          have h3 := hall t (by simpa using h2)
          rw [h1] at h3
          cases h3
      have := he L a w hI (fun i hi _ => hall i hi)
      rw [hT0] at this
      exact this
    · have hkl : k = T.length := by
        rcases Nat.lt_or_ge k T.length with hlt | hge
        · have h1 := hun k (Nat.le_refl _) hlt
          rw [hall _ (hlast k hlt).1] at h1
          cases h1
        · omega
      rw [hkl, List.drop_length] at h
      exact h
end Go.Proofs.Ytenhhkeajhkfoaa
