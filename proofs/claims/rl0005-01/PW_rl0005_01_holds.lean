import PyProof.Rows.All
import Wide.All
import OpenK.AllK
import Wide.FinOn
import PySem.Challenge.RW_rl0005_01
set_option Elab.async false
section
open PySem PySem.W PyProof.Rows
namespace Mine
set_option maxRecDepth 100000 in
set_option maxHeartbeats 8000000 in
open_top hd for PySem.Challenge.rw_rl0005_01
end Mine
end
section
namespace Mine
/-- the row in rising order -/
def srt (ns : List Int) : List Int := ns.mergeSort (fun a b => decide (a ≤ b))
/-- its lower middle -/
def medLow (ns : List Int) : Int := (srt ns).getD ((ns.length - 1) / 2) 0
theorem srt_perm (ns : List Int) : (srt ns).Perm ns := List.mergeSort_perm ns _
theorem srt_rises (ns : List Int) : (srt ns).Pairwise (· ≤ ·) := by
  have h := List.pairwise_mergeSort (le := fun a b : Int => decide (a ≤ b)) (fun a b c => by simp only [decide_eq_true_eq]; omega) (fun a b => by simp only [Bool.or_eq_true, decide_eq_true_eq]; omega) ns
  exact h.imp (fun h => by simpa using h)
theorem srt_length (ns : List Int) : (srt ns).length = ns.length := (srt_perm ns).length_eq
theorem srt_unique {a b : List Int} (p : a.Perm b) (o : a.Pairwise (· ≤ ·)) : a = srt b :=
  List.Perm.eq_of_pairwise (fun _ _ _ _ h1 h2 => Int.le_antisymm h1 h2) o (srt_rises b) (p.trans (srt_perm b).symm)
theorem med_odd {a b : List Int} (p : a.Perm b) (o : a.Pairwise (· ≤ ·)) (h : ((a.length : Int)).fmod 2 = 1) : a.getD (((a.length : Int)).fdiv 2).toNat 0 = medLow b := by
  have hl := p.length_eq
  have e := srt_unique p o
  unfold medLow
  rw [← e, ← hl]
  congr 1
  rw [Int.fmod_eq_emod_of_nonneg _ (by decide)] at h
  rw [Int.fdiv_eq_ediv_of_nonneg _ (by decide)]
  omega
theorem med_even {a b : List Int} (p : a.Perm b) (o : a.Pairwise (· ≤ ·)) (h : ¬ ((a.length : Int)).fmod 2 = 1) (h0 : 0 < b.length) : a.getD (((a.length : Int)).fdiv 2 - 1).toNat 0 = medLow b := by
  have hl := p.length_eq
  have e := srt_unique p o
  unfold medLow
  rw [← e, ← hl]
  congr 1
  rw [Int.fmod_eq_emod_of_nonneg _ (by decide)] at h
  rw [Int.fdiv_eq_ediv_of_nonneg _ (by decide)]
  omega
end Mine
end
section
namespace Mine
/-- where the fives begin -/
def fiveKs (k : Nat) : List Int := (List.range ((k - 1) / 5 + 1)).map fun (i : Nat) => (i : Int) * 5
def midsOf (xs : List Int) : List Int := (fiveKs xs.length).map fun k => medLow ((xs.drop k.toNat).take 5)
def belowOf (xs : List Int) (mid : Int) : List Int := xs.filter (fun x => decide (x < mid))
def restOf (xs : List Int) (mid : Int) : List Int := xs.filter (fun x => !decide (x < mid))
def alikeOf (xs : List Int) (mid : Int) : List Int := (restOf xs mid).filter (fun x => decide (x = mid))
def aboveOf (xs : List Int) (mid : Int) : List Int := (restOf xs mid).filter (fun x => !decide (x = mid))
theorem len_split (p : Int → Bool) (l : List Int) : (l.filter p).length + (l.filter fun x => !p x).length = l.length := by
  induction l with
  | nil => rfl
  | cons a r ih =>
    simp only [List.filter_cons]
    cases h : p a <;> simp <;> omega
theorem perm_split (p : Int → Bool) (l : List Int) : (l.filter p ++ l.filter fun x => !p x).Perm l := List.filter_append_perm p l
theorem len_rest (xs : List Int) (mid : Int) : (alikeOf xs mid).length + (aboveOf xs mid).length = (restOf xs mid).length := len_split _ _
theorem parts_len (xs : List Int) (mid : Int) : (belowOf xs mid).length + ((alikeOf xs mid).length + (aboveOf xs mid).length) = xs.length := by
  rw [len_rest]
  exact len_split _ _
theorem rest_ge (xs : List Int) (mid : Int) : restOf xs mid = xs.filter (fun x => decide (x ≥ mid)) := by
  unfold restOf
  congr 1
  funext x
  by_cases h : x < mid
  · rw [decide_eq_true h, decide_eq_false (by omega)]; rfl
  · rw [decide_eq_false h, decide_eq_true (by omega)]; rfl
theorem mem_below {xs : List Int} {mid x : Int} (h : x ∈ belowOf xs mid) : x < mid := by
  have := (List.mem_filter.mp h).2
  simpa using this
theorem mem_rest {xs : List Int} {mid x : Int} (h : x ∈ restOf xs mid) : mid ≤ x := by
  have := (List.mem_filter.mp h).2
  simpa using this
theorem mem_alike {xs : List Int} {mid x : Int} (h : x ∈ alikeOf xs mid) : x = mid := by
  have := (List.mem_filter.mp h).2
  simpa using this
theorem mem_above {xs : List Int} {mid x : Int} (h : x ∈ aboveOf xs mid) : mid < x := by
  have h1 := (List.mem_filter.mp h).2
  have h2 := mem_rest (List.mem_filter.mp h).1
  have h3 : x ≠ mid := by simpa using h1
  omega
theorem srt_alike (xs : List Int) (mid : Int) : srt (alikeOf xs mid) = alikeOf xs mid := by
  refine (srt_unique (List.Perm.refl _) ?_).symm
  rw [List.pairwise_iff_getElem]
  intro i j hi hj _
  have h1 := mem_alike (List.getElem_mem hi)
  have h2 := mem_alike (List.getElem_mem hj)
  omega
/-- the three parts in their order -/
theorem srt_parts (xs : List Int) (mid : Int) : srt xs = srt (belowOf xs mid) ++ (srt (alikeOf xs mid) ++ srt (aboveOf xs mid)) := by
  refine (srt_unique ?_ ?_).symm
  · refine List.Perm.trans ((srt_perm _).append ((srt_perm _).append (srt_perm _))) ?_
    refine List.Perm.trans (List.Perm.append_left _ (perm_split _ _)) ?_
    exact perm_split _ _
  · refine List.pairwise_append.mpr ⟨srt_rises _, List.pairwise_append.mpr ⟨srt_rises _, srt_rises _, ?_⟩, ?_⟩
    · intro a ha b hb
      have h1 := mem_alike ((srt_perm _).mem_iff.mp ha)
      have h2 := mem_above ((srt_perm _).mem_iff.mp hb)
      omega
    · intro a ha b hb
      have h1 := mem_below ((srt_perm _).mem_iff.mp ha)
      rcases List.mem_append.mp hb with hb | hb
      · have h2 := mem_alike ((srt_perm _).mem_iff.mp hb)
        omega
      · have h2 := mem_above ((srt_perm _).mem_iff.mp hb)
        omega
theorem med_mem {c : List Int} (h : 0 < c.length) : medLow c ∈ c := by
  have hl := srt_length c
  have hi : (c.length - 1) / 2 < (srt c).length := by omega
  have e : medLow c = (srt c)[(c.length - 1) / 2] := by
    unfold medLow
    simp [hi]
  rw [e]
  exact (srt_perm c).mem_iff.mp (List.getElem_mem hi)
theorem mids_length (xs : List Int) : (midsOf xs).length = (xs.length - 1) / 5 + 1 := by simp [midsOf, fiveKs]
theorem mid_mem {xs : List Int} (h : 0 < xs.length) : medLow (midsOf xs) ∈ xs := by
  have h1 : medLow (midsOf xs) ∈ midsOf xs := med_mem (by rw [mids_length]; omega)
  simp only [midsOf, fiveKs, List.map_map, List.mem_map, List.mem_range] at h1
  obtain ⟨i, hi, e⟩ := h1
  have h2 : medLow (List.take 5 (List.drop ((i : Int) * 5).toNat xs)) ∈ List.take 5 (List.drop ((i : Int) * 5).toNat xs) := med_mem (by rw [List.length_take, List.length_drop]; omega)
  have h3 := List.mem_of_mem_drop (List.mem_of_mem_take h2)
  have e' : medLow (List.take 5 (List.drop ((i : Int) * 5).toNat xs)) = medLow (midsOf xs) := by
    rw [show ((fun k : Int => medLow (List.take 5 (List.drop k.toNat xs))) ∘ fun i : Nat => (i : Int) * 5) i = medLow (List.take 5 (List.drop ((i : Int) * 5).toNat xs)) from rfl] at e
    rw [e]
    simp only [midsOf, fiveKs, List.map_map]
  rw [← e']
  exact h3
theorem alike_ne {xs : List Int} (h : 0 < xs.length) : alikeOf xs (medLow (midsOf xs)) ≠ [] := by
  have hm := mid_mem h
  have : medLow (midsOf xs) ∈ alikeOf xs (medLow (midsOf xs)) := List.mem_filter.mpr ⟨List.mem_filter.mpr ⟨hm, by simp⟩, by simp⟩
  exact List.ne_nil_of_mem this
/-- in a rising list: what lies at a place and behind it is no smaller -/
theorem cnt_ge_srt {s : List Int} (o : s.Pairwise (· ≤ ·)) {i : Nat} (hi : i < s.length) {t : Int} (ht : t ≤ s[i]) : s.length - i ≤ s.countP (fun x => decide (t ≤ x)) := by
  have h1 : (s.drop i).countP (fun x => decide (t ≤ x)) = (s.drop i).length := by
    rw [List.countP_eq_length]
    intro x hx
    obtain ⟨j, hj, rfl⟩ := List.getElem_of_mem hx
    rw [List.getElem_drop]
    rw [List.length_drop] at hj
    have : s[i] ≤ s[i + j] := by
      rcases Nat.eq_zero_or_pos j with rfl | hp
      · simp
      · exact List.pairwise_iff_getElem.mp o i (i + j) hi (by omega) (by omega)
    simp only [decide_eq_true_eq]
    omega
  have h2 := List.countP_append (p := fun x => decide (t ≤ x)) (l₁ := s.take i) (l₂ := s.drop i)
  rw [List.take_append_drop, h1, List.length_drop] at h2
  omega
theorem cnt_le_srt {s : List Int} (o : s.Pairwise (· ≤ ·)) {i : Nat} (hi : i < s.length) {t : Int} (ht : s[i] ≤ t) : i + 1 ≤ s.countP (fun x => decide (x ≤ t)) := by
  have h1 : (s.take (i + 1)).countP (fun x => decide (x ≤ t)) = (s.take (i + 1)).length := by
    rw [List.countP_eq_length]
    intro x hx
    obtain ⟨j, hj, rfl⟩ := List.getElem_of_mem hx
    rw [List.getElem_take]
    rw [List.length_take] at hj
    have : s[j] ≤ s[i] := by
      rcases Nat.lt_or_ge j i with hp | hp
      · exact List.pairwise_iff_getElem.mp o j i (by omega) hi hp
      · have : j = i := by omega
        subst this
        omega
    simp only [decide_eq_true_eq]
    omega
  have h2 := List.countP_append (p := fun x => decide (x ≤ t)) (l₁ := s.take (i + 1)) (l₂ := s.drop (i + 1))
  rw [List.take_append_drop, h1, List.length_take] at h2
  omega
theorem med_at {c : List Int} (h : (c.length - 1) / 2 < (srt c).length) : medLow c = (srt c)[(c.length - 1) / 2] := by
  unfold medLow
  simp [h]
theorem cnt_ge {c : List Int} (h : 0 < c.length) {t : Int} (ht : t ≤ medLow c) : c.length / 2 + 1 ≤ c.countP (fun x => decide (t ≤ x)) := by
  have hl := srt_length c
  have hi : (c.length - 1) / 2 < (srt c).length := by omega
  rw [med_at hi] at ht
  have := cnt_ge_srt (srt_rises c) hi ht
  rw [(srt_perm c).countP_eq] at this
  omega
theorem cnt_le {c : List Int} (h : 0 < c.length) {t : Int} (ht : medLow c ≤ t) : (c.length + 1) / 2 ≤ c.countP (fun x => decide (x ≤ t)) := by
  have hl := srt_length c
  have hi : (c.length - 1) / 2 < (srt c).length := by omega
  rw [med_at hi] at ht
  have := cnt_le_srt (srt_rises c) hi ht
  rw [(srt_perm c).countP_eq] at this
  omega
/-- the fives, one after the other -/
def chunks : Nat → List Int → List (List Int)
  | 0, _ => []
  | g + 1, xs => xs.take 5 :: chunks g (xs.drop 5)
theorem chunks_range (g : Nat) : ∀ xs : List Int, (List.range g).map (fun i => (xs.drop (i * 5)).take 5) = chunks g xs := by
  induction g with
  | zero => intro xs; rfl
  | succ g ih =>
    intro xs
    rw [List.range_succ_eq_map, List.map_cons, List.map_map, chunks, ← ih (xs.drop 5)]
    congr 1
    apply List.map_congr_left
    intro i _
    simp only [Function.comp, List.drop_drop]
    rw [show (i.succ) * 5 = 5 + i * 5 by omega]
theorem mids_chunks (xs : List Int) : midsOf xs = (chunks ((xs.length - 1) / 5 + 1) xs).map medLow := by
  rw [← chunks_range]
  simp only [midsOf, fiveKs, List.map_map]
  apply List.map_congr_left
  intro i _
  simp only [Function.comp]
  congr 3
theorem many_ge (t : Int) (g : Nat) : ∀ xs : List Int, 5 * g < xs.length → xs.length ≤ 5 * (g + 1) →
    3 * ((chunks (g + 1) xs).map medLow).countP (fun x => decide (t ≤ x)) + ((xs.length - 5 * g) / 2 + 1) ≤ xs.countP (fun x => decide (t ≤ x)) + 3 := by
  induction g with
  | zero =>
    intro xs h1 h2
    simp only [chunks, List.map_cons, List.map_nil, List.countP_cons, List.countP_nil]
    have e : xs.take 5 = xs := List.take_of_length_le (by omega)
    rw [e]
    by_cases h : t ≤ medLow xs
    · have := cnt_ge (c := xs) (by omega) h
      simp only [decide_eq_true h, if_true]
      simp only [Nat.mul_zero, Nat.sub_zero]
      omega
    · simp only [decide_eq_false h, Bool.false_eq_true, if_false]
      omega
  | succ g ih =>
    intro xs h1 h2
    have hi := ih (xs.drop 5) (by rw [List.length_drop]; omega) (by rw [List.length_drop]; omega)
    rw [List.length_drop] at hi
    have hs := List.countP_append (p := fun x => decide (t ≤ x)) (l₁ := xs.take 5) (l₂ := xs.drop 5)
    rw [List.take_append_drop] at hs
    have hc : chunks (g + 1 + 1) xs = xs.take 5 :: chunks (g + 1) (xs.drop 5) := rfl
    rw [hc, List.map_cons, List.countP_cons]
    have e5 : (xs.take 5).length = 5 := by rw [List.length_take]; omega
    by_cases h : t ≤ medLow (xs.take 5)
    · have := cnt_ge (c := xs.take 5) (by omega) h
      rw [e5] at this
      simp only [decide_eq_true h, if_true]
      have e6 : xs.length - 5 * (g + 1) = xs.length - 5 - 5 * g := by omega
      rw [e6]
      omega
    · simp only [decide_eq_false h, Bool.false_eq_true, if_false]
      have e6 : xs.length - 5 * (g + 1) = xs.length - 5 - 5 * g := by omega
      rw [e6]
      omega
theorem many_le (t : Int) (g : Nat) : ∀ xs : List Int, 5 * g < xs.length → xs.length ≤ 5 * (g + 1) →
    3 * ((chunks (g + 1) xs).map medLow).countP (fun x => decide (x ≤ t)) + (xs.length - 5 * g + 1) / 2 ≤ xs.countP (fun x => decide (x ≤ t)) + 3 := by
  induction g with
  | zero =>
    intro xs h1 h2
    simp only [chunks, List.map_cons, List.map_nil, List.countP_cons, List.countP_nil]
    have e : xs.take 5 = xs := List.take_of_length_le (by omega)
    rw [e]
    by_cases h : medLow xs ≤ t
    · have := cnt_le (c := xs) (by omega) h
      simp only [decide_eq_true h, if_true]
      simp only [Nat.mul_zero, Nat.sub_zero]
      omega
    · simp only [decide_eq_false h, Bool.false_eq_true, if_false]
      omega
  | succ g ih =>
    intro xs h1 h2
    have hi := ih (xs.drop 5) (by rw [List.length_drop]; omega) (by rw [List.length_drop]; omega)
    rw [List.length_drop] at hi
    have hs := List.countP_append (p := fun x => decide (x ≤ t)) (l₁ := xs.take 5) (l₂ := xs.drop 5)
    rw [List.take_append_drop] at hs
    have hc : chunks (g + 1 + 1) xs = xs.take 5 :: chunks (g + 1) (xs.drop 5) := rfl
    rw [hc, List.map_cons, List.countP_cons]
    have e5 : (xs.take 5).length = 5 := by rw [List.length_take]; omega
    by_cases h : medLow (xs.take 5) ≤ t
    · have := cnt_le (c := xs.take 5) (by omega) h
      rw [e5] at this
      simp only [decide_eq_true h, if_true]
      have e6 : xs.length - 5 * (g + 1) = xs.length - 5 - 5 * g := by omega
      rw [e6]
      omega
    · simp only [decide_eq_false h, Bool.false_eq_true, if_false]
      have e6 : xs.length - 5 * (g + 1) = xs.length - 5 - 5 * g := by omega
      rw [e6]
      omega
theorem cnt_below_nat {xs : List Int} (h : 0 < xs.length) : 3 * ((midsOf xs).length / 2) + ((xs.length - 1) % 5 + 1) / 2 + 1 + (belowOf xs (medLow (midsOf xs))).length ≤ xs.length := by
  have hm := many_ge (medLow (midsOf xs)) ((xs.length - 1) / 5) xs (by omega) (by omega)
  rw [← mids_chunks] at hm
  have hk := cnt_ge (c := midsOf xs) (t := medLow (midsOf xs)) (by rw [mids_length]; omega) (Int.le_refl _)
  have hs := len_split (fun x => decide (x < medLow (midsOf xs))) xs
  have hr := rest_ge xs (medLow (midsOf xs))
  unfold restOf at hr
  rw [hr] at hs
  have hc : xs.countP (fun x => decide (medLow (midsOf xs) ≤ x)) = (xs.filter (fun x => decide (x ≥ medLow (midsOf xs)))).length := List.countP_eq_length_filter
  unfold belowOf
  omega
theorem cnt_above_nat {xs : List Int} (h : 0 < xs.length) : 3 * (((midsOf xs).length + 1) / 2) + ((xs.length - 1) % 5 + 1 + 1) / 2 + (aboveOf xs (medLow (midsOf xs))).length ≤ xs.length + 3 := by
  have hm := many_le (medLow (midsOf xs)) ((xs.length - 1) / 5) xs (by omega) (by omega)
  rw [← mids_chunks] at hm
  have hk := cnt_le (c := midsOf xs) (t := medLow (midsOf xs)) (by rw [mids_length]; omega) (Int.le_refl _)
  have hs := len_split (fun x => decide (x ≤ medLow (midsOf xs))) xs
  have ha : aboveOf xs (medLow (midsOf xs)) = xs.filter (fun x => !decide (x ≤ medLow (midsOf xs))) := by
    unfold aboveOf restOf
    rw [List.filter_filter]
    congr 1
    funext x
    by_cases h1 : x < medLow (midsOf xs)
    · simp [h1, Int.le_of_lt h1]
    · by_cases h2 : x = medLow (midsOf xs)
      · simp [h2]
      · have h3 : ¬ x ≤ medLow (midsOf xs) := by omega
        simp [h1, h2, h3]
  have hc : xs.countP (fun x => decide (x ≤ medLow (midsOf xs))) = (xs.filter (fun x => decide (x ≤ medLow (midsOf xs)))).length := List.countP_eq_length_filter
  rw [ha]
  omega
/-- neither part is long: the law's two counts -/
theorem cnt_below {xs : List Int} (h : 0 < xs.length) : ¬ ((xs.length : Int) - ((belowOf xs (medLow (midsOf xs))).length : Int) < 3 * ((midsOf xs).length : Int).fdiv 2 + (((xs.length : Int) - 1).fmod 5 + 1).fdiv 2 + 1) := by
  have := cnt_below_nat h
  rw [Int.fmod_eq_emod_of_nonneg _ (by decide), Int.fdiv_eq_ediv_of_nonneg _ (by decide), Int.fdiv_eq_ediv_of_nonneg _ (by decide)]
  omega
theorem cnt_above {xs : List Int} (h : 0 < xs.length) : ¬ ((xs.length : Int) - ((aboveOf xs (medLow (midsOf xs))).length : Int) < 3 * (((midsOf xs).length : Int) + 1).fdiv 2 - 3 + (((xs.length : Int) - 1).fmod 5 + 1 + 1).fdiv 2) := by
  have := cnt_above_nat h
  rw [Int.fmod_eq_emod_of_nonneg _ (by decide), Int.fdiv_eq_ediv_of_nonneg _ (by decide), Int.fdiv_eq_ediv_of_nonneg _ (by decide)]
  omega
end Mine
end
section
open PySem PySem.W PyProof.Rows
namespace Mine
set_option maxRecDepth 100000 in
set_option maxHeartbeats 8000000 in
theorem med_call0 {w : World} {p : Program} {loose : List Str} {mean : ExcName → Option Value} {mg mb : Str → Option Value}
    {dp un : Nat} {gd : Option (List Code)} {cn : Str} {cs : Scope} {a : Addr} {ccd : Value} {cl : List (Str × Addr)} {outer : List Env} {A₀ : Around} {base h₀ : Heap} {L : Addr} {m : Str → Option Value} {s : Shared} {Q E : Value → Shared → Prop} {news : List (Addr × Obj)}
    {l : Addr} {vs : List Value} {ns : List Int} {n : Nat}
    (B : Below A₀ base outer h₀) (F : Fr h₀ L s.heap m) (X : (hd.heap_39 w.params).In h₀) (N : News h₀ L s.heap ((l, W.listOf vs.toArray n) :: news)) (T : Top p loose mean mg mb h₀) (hk : cs.kind = .function)
    (hi : IntsAre vs ns) (hne : 0 < ns.length) (hlt : ns.length < 64) (hd1 : dp + 1 < recursionLimit) (hu : un + 8 < cLine)
    (hret : ∀ (t : Tok) (h' : Heap) (tk' : Nat), Fr h₀ L h' m → News h₀ L h' ((l, W.listOf vs.toArray n) :: news) → Q (.int (medLow ns) t) { s with heap := h', toks := tk' }) :
    wpAny (model PySem.Challenge.rw_rl0005_01.row.prog w) (ktrTop dp un gd cn cs L a ccd cl outer) (call (.ref 41) [.ref l]) Q E s := by
  w_top off
  revert X; k_fill; intro X
  have hvl := hi.length
  refine wpAny_call ?_
  k_dflt cell_enter
  w_strict (k_steps)
  · exfalso; omega
  · exact cb_retI (Q := Q) hret (med_odd (by assumption) (by assumption) (by assumption)) (by assumption) (cb_drop (by assumption) (fun p hp => List.mem_cons_of_mem _ hp))
  · exact cb_retI (Q := Q) hret (med_even (by assumption) (by assumption) (by assumption) hne) (by assumption) (cb_drop (by assumption) (fun p hp => List.mem_cons_of_mem _ hp))
end Mine
end
section
open PySem PySem.W PyProof.Rows
namespace Mine
abbrev lamPar (q : Pos) : Arguments := { posonlyargs := [], args := [{ arg := Str.ofString "number", annotation := none, pos := q }], vararg := none, kwonlyargs := [], kw_defaults := [], kwarg := none, defaults := [] }
abbrev lamSc : Scope := { kind := .function, names := [(Str.ofString "number", .local), (Str.ofString "middle", .free)], isGenerator := false, isCoroutine := false, more := [] }
abbrev lamBody (op : CmpOp) (p1 p2 p3 : Pos) : PySem.Expr := .Compare (.Name (Str.ofString "number") p1) [op] [.Name (Str.ofString "middle") p2] p3
theorem nb_number : (Str.ofString "number" == ("__debug__" : Str)) = false := by decide +kernel
theorem nb_middle : (Str.ofString "middle" == ("__debug__" : Str)) = false := by decide +kernel
theorem nc_middle : (Str.ofString "middle" == ("__classdict__" : Str)) = false := by decide +kernel
local macro_rules | `(tactic| walk_at "eval Name") => `(tactic| ((with_reducible show wpAny _ _ (eval (PySem.Expr.Name (Str.ofString "middle") _) (envX _ lamSc _ _ _ _)) _ _ _); (rename News _ _ _ _ => kN); (k_dflt (refine' nameX_F kN ?k1 ?k2 ?k3 ?_ ?k5 ?k6 nb_middle nc_middle; (case k1 => exact rfl); (case k2 => k_mem); (case k3 => assumption); (case k5 => exact rfl); (case k6 => exact rfl)))))
local macro_rules | `(tactic| walk_at "eval Name") => `(tactic| ((with_reducible show wpAny _ _ (eval (PySem.Expr.Name (Str.ofString "number") _) (envX _ lamSc _ _ _ _)) _ _ _); (rename Fr _ _ _ _ => kF); (k_dflt (refine' nameX_L kF ?k2 ?_ ?k5 ?k6 nb_number; (case k2 => exact rfl); (case k5 => exact rfl); (case k6 => exact rfl)))))
set_option maxRecDepth 100000 in
set_option maxHeartbeats 8000000 in
theorem lam_lt {w : World} {p : Program} {loose : List Str} {mean : ExcName → Option Value} {mg mb : Str → Option Value}
    {dp un : Nat} {gd : Option (List Code)} {cn : Str} {cs : Scope} {a : Addr} {ccd : Value} {cl : List (Str × Addr)} {outer : List Env} {A₀ : Around} {base h₀ : Heap} {L : Addr} {m : Str → Option Value} {s : Shared} {Q E : Value → Shared → Prop} {news : List (Addr × Obj)}
    {f c' cm : Addr} {name qual : Str} {q p1 p2 p3 : Pos} {pm ctv : Value} {oc o2 : Obj} {cvs : Array Value} {ct t t2 : Tok} {x mid : Int}
    (B : Below A₀ base outer h₀) (F : Fr h₀ L s.heap m) (X : (hd.heap_39 w.params).In h₀)
    (N : News h₀ L s.heap ((f, kla_obj name qual (lamPar q) (lamBody .Lt p1 p2 p3) lamSc [(Str.ofString "middle", cm)] pm c' ctv) :: (c', oc) :: (cm, o2) :: news)) (T : Top p loose mean mg mb h₀) (hk : cs.kind = .function)
    (hoc : oc.data = .fields cvs) (hcv : cvs[1]? = some (.str qual ct)) (ho2 : o2.data = .cell (some (.int mid t2)))
    (hd1 : dp + 1 < recursionLimit)
    (hret : ∀ (h' : Heap) (tk' : Nat), Fr h₀ L h' m → News h₀ L h' ((f, kla_obj name qual (lamPar q) (lamBody .Lt p1 p2 p3) lamSc [(Str.ofString "middle", cm)] pm c' ctv) :: (c', oc) :: (cm, o2) :: news) → Q (.bool (decide (x < mid))) { s with heap := h', toks := tk' }) :
    wpAny (model PySem.Challenge.rw_rl0005_01.row.prog w) (ktrTop dp un gd cn cs L a ccd cl outer) (call (.ref f) [.int x t]) Q E s := by
  w_top off
  revert X; k_fill; intro X
  refine wpAny_call ?_
  k_dflt (refine' kla_code ?k1 ?k2 ?k3 ?k4 ?k5 ?kA ?kF ?kK ?k6 ?k7 ?k8 ?k9 ?kB ?_ ?c2 ?c3 ?c4 ?c5; (case kA => exact rfl); (case kF => exact rfl); (case kK => assumption); (case k1 => k_asm); (case k2 => k_asm); (case k3 => k_asm); (case k4 => k_asm); (case k5 => k_asm); (case k6 => k_mem); (case k7 => exact codeRec_news (by k_asm) (by k_mem) (by assumption) (by assumption)); (case k8 => ktr_room); (case k9 => exact rfl); (case c5 => decide); (case kB => exact locs rfl); (case c2 => exact rfl); (case c3 => exact rfl); (case c4 => exact rfl); k_whole; intro g' L' h' FG' F' N' B' X' T'; (try dsimp only); (try k_lift B'); (try k_fold))
  w_strict (k_steps)
  exact hret _ _ (by assumption) (by assumption)
set_option maxRecDepth 100000 in
set_option maxHeartbeats 8000000 in
theorem lam_eq {w : World} {p : Program} {loose : List Str} {mean : ExcName → Option Value} {mg mb : Str → Option Value}
    {dp un : Nat} {gd : Option (List Code)} {cn : Str} {cs : Scope} {a : Addr} {ccd : Value} {cl : List (Str × Addr)} {outer : List Env} {A₀ : Around} {base h₀ : Heap} {L : Addr} {m : Str → Option Value} {s : Shared} {Q E : Value → Shared → Prop} {news : List (Addr × Obj)}
    {f c' cm : Addr} {name qual : Str} {q p1 p2 p3 : Pos} {pm ctv : Value} {oc o2 : Obj} {cvs : Array Value} {ct t t2 : Tok} {x mid : Int}
    (B : Below A₀ base outer h₀) (F : Fr h₀ L s.heap m) (X : (hd.heap_39 w.params).In h₀)
    (N : News h₀ L s.heap ((f, kla_obj name qual (lamPar q) (lamBody .Eq p1 p2 p3) lamSc [(Str.ofString "middle", cm)] pm c' ctv) :: (c', oc) :: (cm, o2) :: news)) (T : Top p loose mean mg mb h₀) (hk : cs.kind = .function)
    (hoc : oc.data = .fields cvs) (hcv : cvs[1]? = some (.str qual ct)) (ho2 : o2.data = .cell (some (.int mid t2)))
    (hd1 : dp + 1 < recursionLimit)
    (hret : ∀ (h' : Heap) (tk' : Nat), Fr h₀ L h' m → News h₀ L h' ((f, kla_obj name qual (lamPar q) (lamBody .Eq p1 p2 p3) lamSc [(Str.ofString "middle", cm)] pm c' ctv) :: (c', oc) :: (cm, o2) :: news) → Q (.bool (decide (x = mid))) { s with heap := h', toks := tk' }) :
    wpAny (model PySem.Challenge.rw_rl0005_01.row.prog w) (ktrTop dp un gd cn cs L a ccd cl outer) (call (.ref f) [.int x t]) Q E s := by
  w_top off
  revert X; k_fill; intro X
  refine wpAny_call ?_
  k_dflt (refine' kla_code ?k1 ?k2 ?k3 ?k4 ?k5 ?kA ?kF ?kK ?k6 ?k7 ?k8 ?k9 ?kB ?_ ?c2 ?c3 ?c4 ?c5; (case kA => exact rfl); (case kF => exact rfl); (case kK => assumption); (case k1 => k_asm); (case k2 => k_asm); (case k3 => k_asm); (case k4 => k_asm); (case k5 => k_asm); (case k6 => k_mem); (case k7 => exact codeRec_news (by k_asm) (by k_mem) (by assumption) (by assumption)); (case k8 => ktr_room); (case k9 => exact rfl); (case c5 => decide); (case kB => exact locs rfl); (case c2 => exact rfl); (case c3 => exact rfl); (case c4 => exact rfl); k_whole; intro g' L' h' FG' F' N' B' X' T'; (try dsimp only); (try k_lift B'); (try k_fold))
  w_strict (k_steps)
  exact hret _ _ (by assumption) (by assumption)
end Mine
end
section
open PySem PySem.W PyProof.Rows
namespace Mine
/-- what calling the object at f with an int gives, whatever the caller -/
def PredOK (w : World) (p : Program) (loose : List Str) (mean : ExcName → Option Value) (mg mb : Str → Option Value) (f : Addr) (need : List (Addr × Obj)) (P : Int → Bool) : Prop :=
  ∀ (dp un : Nat) (gd : Option (List Code)) (cn : Str) (cs : Scope) (a : Addr) (ccd : Value) (cl : List (Str × Addr)) (outer : List Env) (A₀ : Around) (base h₀ : Heap) (L : Addr) (m : Str → Option Value) (s : Shared) (Q E : Value → Shared → Prop) (news : List (Addr × Obj)) (x : Int) (t : Tok),
    Below A₀ base outer h₀ → Fr h₀ L s.heap m → (hd.heap_39 w.params).In h₀ → News h₀ L s.heap news → Top p loose mean mg mb h₀ → cs.kind = .function → (∀ q ∈ need, q ∈ news) → dp + 1 < recursionLimit →
    (∀ (h' : Heap) (tk' : Nat), Fr h₀ L h' m → News h₀ L h' news → Q (.bool (P x)) { s with heap := h', toks := tk' }) →
    wpAny (model PySem.Challenge.rw_rl0005_01.row.prog w) (ktrTop dp un gd cn cs L a ccd cl outer) (call (.ref f) [.int x t]) Q E s
def Stop (p : Prop) : Prop := p
theorem stop {p : Prop} (h : Stop p) : p := h
theorem pred_use {w : World} {p : Program} {loose : List Str} {mean : ExcName → Option Value} {mg mb : Str → Option Value} {f : Addr} {need : List (Addr × Obj)} {P : Int → Bool}
    {dp un : Nat} {gd : Option (List Code)} {cn : Str} {cs : Scope} {a : Addr} {ccd : Value} {cl : List (Str × Addr)} {outer : List Env} {A₀ : Around} {base h₀ : Heap} {L : Addr} {m : Str → Option Value} {s : Shared} {Q E : Value → Shared → Prop} {news : List (Addr × Obj)} {x : Int} {t : Tok}
    (hP : PredOK w p loose mean mg mb f need P) (B : Below A₀ base outer h₀) (F : Fr h₀ L s.heap m) (X : (hd.heap_39 w.params).In h₀) (N : News h₀ L s.heap news) (T : Top p loose mean mg mb h₀) (hk : cs.kind = .function) (hn : ∀ q ∈ need, q ∈ news) (hd1 : dp + 1 < recursionLimit)
    (hret : ∀ (h' : Heap) (tk' : Nat), Fr h₀ L h' m → News h₀ L h' news → Q (.bool (P x)) { s with heap := h', toks := tk' }) :
    wpAny (model PySem.Challenge.rw_rl0005_01.row.prog w) (ktrTop dp un gd cn cs L a ccd cl outer) (call (.ref f) [.int x t]) Q E s := hP _ _ _ _ _ _ _ _ _ _ _ _ _ _ _ _ _ _ _ _ B F X N T hk hn hd1 hret
/-- the two lists that _split_list fills -/
structure SpS where
  yv : List Value
  yn : List Int
  yc : Nat
  nv : List Value
  nn : List Int
  nc : Nat
abbrev spLed (ya na : Addr) (tl : List (Addr × Obj)) (c : SpS) : List (Addr × Obj) := (na, W.listOf c.nv.toArray c.nc) :: (ya, W.listOf c.yv.toArray c.yc) :: tl
abbrev spFacts (c : SpS) : Prop := IntsAre c.yv c.yn ∧ IntsAre c.nv c.nn
abbrev spP (P : Int → Bool) (pre : List Int) (c : SpS) : Prop := c.yn = pre.filter P ∧ c.nn = pre.filter fun x => !P x
abbrev spPs (_ : SpS) : List (Str × Value) := []
section
variable {prog : Program} {w : World} {A : Around} {E : Value → Shared → Prop} {s : Shared} {env : Env} {h₀ : Heap} {x : Str} {body : List Stmt} {Q : Flow → Shared → Prop}
theorem split_loop (P : Int → Bool) {l f ya na : Addr} {fo : Obj} {vs : List Value} {ns : List Int} {nn : Nat} {m₀ : Str → Option Value} {news : List (Addr × Obj)}
    (hh : A.handled = none) (hi : IntsAre vs ns) (F : Fr h₀ env.locals s.heap m₀) (N : News h₀ env.locals s.heap ((na, W.listOf #[] 0) :: (ya, W.listOf #[] 0) :: (l, W.listOf vs.toArray nn) :: (f, fo) :: news))
    (turn : ∀ (c : SpS) (pre : List Int) n t h tk own, pre.length < ns.length → OwnOff own (na :: ya :: l :: f :: news.map (·.1)) → IntsAre c.yv c.yn → IntsAre c.nv c.nn → spP P pre c →
      Fr h₀ env.locals h (fun y => if y = x then some (.int n t) else m₀ y) → News h₀ env.locals h ((na, W.listOf c.nv.toArray c.nc) :: (ya, W.listOf c.yv.toArray c.yc) :: (l, W.listOf vs.toArray nn) :: (f, fo) :: (news ++ own)) →
      wpAny (model prog w) A (execs body env) (InvPostN h₀ env.locals (KstS (spLed ya na ((l, W.listOf vs.toArray nn) :: (f, fo) :: news)) spPs spFacts x [] m₀ (spP P) (pre ++ [n])) own (na :: ya :: l :: f :: news.map (·.1)) { s with heap := h, toks := tk } Q) E { s with heap := h, toks := tk })
    (done : ∀ (c : SpS) (u : Str → Option Value) h tk, IntsAre c.yv (ns.filter P) → IntsAre c.nv (ns.filter fun x => !P x) → Fr h₀ env.locals h (fun y => if y = x then u y else m₀ y) → News h₀ env.locals h ((na, W.listOf c.nv.toArray c.nc) :: (ya, W.listOf c.yv.toArray c.yc) :: (l, W.listOf vs.toArray nn) :: (f, fo) :: news) → Q .next { s with heap := h, toks := tk }) :
    wpAny (model prog w) A (pyIter (.ref l)) (fun it s₂ => LoopAtV prog w A h₀ env x body Q E it s₂) E s := by
  have em : ∀ (u : Str → Option Value), kstB (fun z => if ([] : List Str).contains z then u z else m₀ z) [] = m₀ := fun u => by
    funext z
    simp [kstB]
  refine kst_listL (spLed ya na ((l, W.listOf vs.toArray nn) :: (f, fo) :: news)) spPs spFacts [] (spP P) ⟨[], [], 0, [], [], 0⟩ hh (fun c => .tail _ (.tail _ (.head _))) hi F N ⟨.nil, .nil⟩ (fun _ h => nomatch h) ⟨rfl, rfl⟩ ?_ ?_
  · intro c pre post n t u h tk own e _ hoff hf hp F₁ N₁
    rw [em] at F₁
    refine turn c pre n t h tk own ?_ hoff hf.1 hf.2 hp F₁ ?_
    · rw [e, List.length_append, List.length_cons]; omega
    · simpa only [spLed, List.cons_append] using N₁
  · intro c u h tk hf hp F₁ N₁
    rw [em] at F₁
    exact done c u h tk (hp.1 ▸ hf.1) (hp.2 ▸ hf.2) F₁ N₁
end
theorem spP_yes {P : Int → Bool} {pre : List Int} {n : Int} {c : SpS} {yv : List Value} {yc : Nat} (h : spP P pre c) (hp : P n = true) : spP P (pre ++ [n]) ⟨yv, c.yn ++ [n], yc, c.nv, c.nn, c.nc⟩ := by
  obtain ⟨h1, h2⟩ := h
  refine ⟨?_, ?_⟩
  · show c.yn ++ [n] = _
    rw [h1]; simp [List.filter_append, hp]
  · show c.nn = _
    rw [h2]; simp [List.filter_append, hp]
theorem spP_no {P : Int → Bool} {pre : List Int} {n : Int} {c : SpS} {nv : List Value} {nc : Nat} (h : spP P pre c) (hp : P n = false) : spP P (pre ++ [n]) ⟨c.yv, c.yn, c.yc, nv, c.nn ++ [n], nc⟩ := by
  obtain ⟨h1, h2⟩ := h
  refine ⟨?_, ?_⟩
  · show c.yn = _
    rw [h1]; simp [List.filter_append, hp]
  · show c.nn ++ [n] = _
    rw [h2]; simp [List.filter_append, hp]
theorem sp_endY {h₀ h' : Heap} {L ya na : Addr} {x : Str} {v : Value} {m₀ : Str → Option Value} {P : Int → Bool} {pre : List Int} {n : Int} {t : Tok} {c : SpS} {lo fo : Addr × Obj} {news own : List (Addr × Obj)} {s₁ : Shared} {tk : Nat}
    (F : Fr h₀ L h' (fun y => if y = x then some v else m₀ y)) (N : News h₀ L h' ((na, W.listOf c.nv.toArray c.nc) :: (ya, W.listOf (c.yv.toArray.push (.int n t)) (c.yc + 1)) :: lo :: fo :: (news ++ own)))
    (hy : IntsAre c.yv c.yn) (hn : IntsAre c.nv c.nn) (hp : spP P pre c) (hP : P n = true) :
    InvEndN h₀ L (KstS (spLed ya na (lo :: fo :: news)) spPs spFacts x [] m₀ (spP P) (pre ++ [n])) own (na :: ya :: lo.1 :: fo.1 :: news.map (·.1)) s₁ { s₁ with heap := h', toks := tk } := by
  rw [List.push_toArray] at N
  refine kst_end ⟨c.yv ++ [.int n t], c.yn ++ [n], c.yc + 1, c.nv, c.nn, c.nc⟩ F N ?_ (fun p hp => .tail _ (.tail _ (.tail _ (.tail _ (List.mem_append_right _ hp))))) rfl ⟨IntsAre.append hy (.cons n t .nil), hn⟩ (fun _ h => nomatch h) (fun z hz _ _ => if_neg hz) (spP_yes hp hP)
  intro p hp
  exact List.mem_append_left own hp
theorem sp_endN {h₀ h' : Heap} {L ya na : Addr} {x : Str} {v : Value} {m₀ : Str → Option Value} {P : Int → Bool} {pre : List Int} {n : Int} {t : Tok} {c : SpS} {lo fo : Addr × Obj} {news own : List (Addr × Obj)} {s₁ : Shared} {tk : Nat}
    (F : Fr h₀ L h' (fun y => if y = x then some v else m₀ y)) (N : News h₀ L h' ((na, W.listOf (c.nv.toArray.push (.int n t)) (c.nc + 1)) :: (ya, W.listOf c.yv.toArray c.yc) :: lo :: fo :: (news ++ own)))
    (hy : IntsAre c.yv c.yn) (hn : IntsAre c.nv c.nn) (hp : spP P pre c) (hP : P n = false) :
    InvEndN h₀ L (KstS (spLed ya na (lo :: fo :: news)) spPs spFacts x [] m₀ (spP P) (pre ++ [n])) own (na :: ya :: lo.1 :: fo.1 :: news.map (·.1)) s₁ { s₁ with heap := h', toks := tk } := by
  rw [List.push_toArray] at N
  refine kst_end ⟨c.yv, c.yn, c.yc, c.nv ++ [.int n t], c.nn ++ [n], c.nc + 1⟩ F N ?_ (fun p hp => .tail _ (.tail _ (.tail _ (.tail _ (List.mem_append_right _ hp))))) rfl ⟨hy, IntsAre.append hn (.cons n t .nil)⟩ (fun _ h => nomatch h) (fun z hz _ _ => if_neg hz) (spP_no hp hP)
  intro p hp
  exact List.mem_append_left own hp
theorem allLt_mem {d : Addr} : ∀ {l : List (Addr × Obj)}, AllLt d l → ∀ p ∈ l, p.1 < d
  | [], _, _, h => nomatch h
  | _ :: _, x, p, h => by
    rcases List.mem_cons.mp h with rfl | h
    · exact x.1
    · exact allLt_mem x.2 p h
theorem off_of {d : Addr} {news own : List (Addr × Obj)} {adr : List Addr} (h1 : AllLt d news) (h2 : OwnOff own adr) (h3 : d ∈ adr) : ∀ q ∈ news ++ own, q.1 ≠ d := fun q hq => by
  rcases List.mem_append.mp hq with h | h
  · exact Nat.ne_of_lt (allLt_mem h1 q h)
  · exact h2 q h d h3
theorem need_in {need news own : List (Addr × Obj)} {x y z fo : Addr × Obj} (h : ∀ q ∈ need, q ∈ fo :: news) : ∀ q ∈ need, q ∈ x :: y :: z :: fo :: (news ++ own) := fun q hq =>
  List.mem_cons_of_mem _ (List.mem_cons_of_mem _ (List.mem_cons_of_mem _ (by
    rcases List.mem_cons.mp (h q hq) with h | h
    · exact h ▸ List.mem_cons_self ..
    · exact List.mem_cons_of_mem _ (List.mem_append_left _ h))))
local macro_rules | `(tactic| walk_at "pyIter ref") => `(tactic| (refine stop ?_))
local macro_rules | `(tactic| walk_at "InvEndN") => `(tactic| (refine stop ?_))
local macro_rules | `(tactic| k_all) => `(tactic| with_reducible assumption)
local macro_rules | `(tactic| walk_at "callWith ref") => `(tactic| (k_here; k_dflt (refine' callWith_F ?k1 ?_; (case k1 => exact FnAt.of (by k_asm) (by k_mem)); k_whole)))
local macro_rules | `(tactic| walk_at "call ref") => `(tactic| (k_here; (try dsimp only [List.nil_append]); (with_reducible show wpAny _ _ (call (Value.ref _) [Value.int _ _]) _ _ _); k_dflt (refine' pred_use ?k0 ?k1 ?k2 ?k3 ?k4 ?k5 ?k6 ?k7 ?k8 ?_; (case k0 => assumption); (case k1 => k_asm); (case k2 => k_asm); (case k3 => k_asm); (case k4 => k_asm); (case k5 => k_asm); (case k6 => exact rfl); (case k7 => exact need_in (by assumption)); (case k8 => ktr_room)); intro h' tk' F' N'))
set_option maxRecDepth 100000 in
set_option maxHeartbeats 8000000 in
theorem split_call0 {w : World} {p : Program} {loose : List Str} {mean : ExcName → Option Value} {mg mb : Str → Option Value}
    {dp un : Nat} {gd : Option (List Code)} {cn : Str} {cs : Scope} {a : Addr} {ccd : Value} {cl : List (Str × Addr)} {outer : List Env} {A₀ : Around} {base h₀ : Heap} {L : Addr} {m : Str → Option Value} {s : Shared} {Q E : Value → Shared → Prop} {news : List (Addr × Obj)}
    {l f : Addr} {vs : List Value} {ns : List Int} {n : Nat} {need : List (Addr × Obj)} {P : Int → Bool} {foc : Value} {fod : Option Addr} {fd : FuncData} {fsl : Array (Option Value)}
    (B : Below A₀ base outer h₀) (F : Fr h₀ L s.heap m) (X : (hd.heap_39 w.params).In h₀) (N : News h₀ L s.heap ((l, W.listOf vs.toArray n) :: (f, ⟨foc, fod, .func fd, fsl⟩) :: news)) (T : Top p loose mean mg mb h₀) (hk : cs.kind = .function)
    (hi : IntsAre vs ns) (hlt : ns.length < 64) (hd1 : dp + 2 < recursionLimit) (hP : PredOK w p loose mean mg mb f need P) (hneed : ∀ q ∈ need, q ∈ (f, ⟨foc, fod, .func fd, fsl⟩) :: news)
    (hret : ∀ (ta ya na : Addr) (yv nv : List Value) (yc nc : Nat) (h' : Heap) (tk' : Nat), Fr h₀ L h' m →
      News h₀ L h' ((ta, { cls := .type "tuple", data := .seq #[.ref ya, .ref na] }) :: (na, W.listOf nv.toArray nc) :: (ya, W.listOf yv.toArray yc) :: (l, W.listOf vs.toArray n) :: (f, ⟨foc, fod, .func fd, fsl⟩) :: news) →
      IntsAre yv (ns.filter P) → IntsAre nv (ns.filter fun x => !P x) → (∀ q ∈ (l, W.listOf vs.toArray n) :: (f, ⟨foc, fod, .func fd, fsl⟩) :: news, q.1 < ya) → ya < na → na < ta → Q (.ref ta) { s with heap := h', toks := tk' }) :
    wpAny (model PySem.Challenge.rw_rl0005_01.row.prog w) (ktrTop dp un gd cn cs L a ccd cl outer) (call (.ref 21) [.ref l, .ref f]) Q E s := by
  w_top off
  revert X; k_fill; intro X
  have hvl := hi.length
  refine wpAny_call ?_
  k_dflt cell_enter
  w_strict (k_steps)
  unfold Stop
  rename (_ ∧ _ ∧ _ ∧ AllLt _ _) => lN
  obtain ⟨lN1, lN2, lN3, lN4⟩ := lN
  rename (_ ∧ _ ∧ AllLt _ _) => lY
  obtain ⟨lY2, lY3, lY4⟩ := lY
  rename Fr _ _ _ _ => F9
  rename News _ _ _ _ => N9
  k_dflt (refine split_loop P rfl (by assumption) F9 N9 ?_ ?_)
  · clear F9 N9
    intro c pre n' t' h9 tk9 own hpl hoff hy hn hp F9 N9
    have oY := off_of lY4 hoff (.tail _ (.head _))
    have oN := off_of lN4 hoff (.head _)
    have hy9 := hy.length
    have hn9 := hn.length
    have hyl : c.yn.length ≤ pre.length := by rw [hp.1]; exact List.length_filter_le ..
    have hnl : c.nn.length ≤ pre.length := by rw [hp.2]; exact List.length_filter_le ..
    w_strict (k_steps)
    · exact sp_endY (by assumption) (by assumption) hy hn hp (by assumption)
    · exact sp_endN (by assumption) (by assumption) hy hn hp (by first | assumption | (simpa using (by assumption : ¬ P _ = true)))
  · clear F9 N9
    intro c u h9 tk9 hy hn F9 N9
    w_strict (k_steps)
    rename (_ ∧ _ ∧ _ ∧ _ ∧ AllLt _ _) => lT
    refine hret _ _ _ _ _ _ _ _ _ (by assumption) (by assumption) hy hn ?_ lN1 lT.1
    intro q hq
    rcases List.mem_cons.mp hq with rfl | hq
    · exact lY2
    · rcases List.mem_cons.mp hq with rfl | hq
      · exact lY3
      · exact allLt_mem lY4 q hq
end Mine
end
section
open PySem PySem.W PyProof.Rows PySem.Spec PySem.Calls
namespace Mine
section
variable {prog : Program} {w : World} {A : Around} {E : Value → Shared → Prop} {s : Shared} {h₀ : Heap} {L : Addr} {m : Str → Option Value} {env : Env}
/-- a range by fives is what the comprehension runs over -/
def SrcFive (prog : Program) (w : World) (A : Around) (h₀ : Heap) (L : Addr) (m : Str → Option Value) (env : Env) (elt : PySem.Expr) (x : Str) (scope : Scope) (cl : List (Str × Addr)) (Fin : Shared → List Value → List (Addr × Obj) → Prop) (xv : Value) (s₁ : Shared) : Prop :=
  ∃ r a b t u v n news, xv = .ref r ∧ A.handled = none ∧ Fr h₀ L s₁.heap m ∧ News h₀ L s₁.heap news ∧ IsRange s₁.heap r a b 5 t u v ∧ Builtin.Range.small a b 5 = true ∧ Builtin.Range.rangeSize a b 5 = ((n : Nat) : Int) ∧ n ≤ sizeLine ∧
    ∀ s₂ : Shared, (∃ h, s₂ = { s₁ with heap := h }) → LCg.CompRest prog w A h₀ L m env elt x scope cl s₂ (fun _ => True) (fun i v => ∃ t, v = .int (a + (i : Int) * 5) t) (Fin s₂) n 0 [] news
theorem SrcFive.intro {elt : PySem.Expr} {x : Str} {scope : Scope} {cl : List (Str × Addr)} {Fin : Shared → List Value → List (Addr × Obj) → Prop} {r : Addr} {a b : Int} {t u v : Tok} {n : Nat} {news : List (Addr × Obj)} {s₁ : Shared}
    (hh : A.handled = none) (F : Fr h₀ L s₁.heap m) (N : News h₀ L s₁.heap news) (hr : IsRange s₁.heap r a b 5 t u v) (hsm : Builtin.Range.small a b 5 = true) (hn : Builtin.Range.rangeSize a b 5 = ((n : Nat) : Int)) (hsz : n ≤ sizeLine)
    (h : ∀ g, LCg.CompRest prog w A h₀ L m env elt x scope cl { s₁ with heap := g } (fun _ => True) (fun i v => ∃ t, v = .int (a + (i : Int) * 5) t) (Fin { s₁ with heap := g }) n 0 [] news) :
    SrcFive prog w A h₀ L m env elt x scope cl Fin (.ref r) s₁ := ⟨r, a, b, t, u, v, n, news, rfl, hh, F, N, hr, hsm, hn, hsz, fun _ ⟨g, e⟩ => e ▸ h g⟩
theorem five_walks {I : Addr} (hh : A.handled = none) (a : Int) (n : Nat) : Walks prog w A I [I] [I] n (fun i v => ∃ t, v = .int (a + (i : Int) * 5) t) (fun i h => IsRangeIter h I (a + (i : Nat) * 5) ((n : Int) - (i : Nat)) 5) := by
  have W : Walks prog w A I [I] [I] n (fun i v => i < n ∧ ∃ t, v = .int (a + i * 5) t) (fun i h => IsRangeIter h I (a + (i : Nat) * 5) ((n : Int) - (i : Nat)) 5) := (Walks.range hh I a 5 n).bound
  exact { sub := W.sub, frame := W.frame, done := W.done, self := W.self, item := fun i s Q E hi st hQ => W.item i s Q E hi st fun v h' tk hP => hQ v h' tk hP.2 }
theorem five_st {I : Addr} {a : Int} {n : Nat} : ∀ i (h h' : Heap) (o : Obj) (nw : List (Addr × Obj)), IsRangeIter h I (a + (i : Nat) * 5) ((n : Int) - (i : Nat)) 5 → h.get? I = some o → h'.get? I = some o → (∀ b o, h₀.get? b = some o → h'.get? b = some o) → News h₀ L h' nw → True → IsRangeIter h' I (a + (i : Nat) * 5) ((n : Int) - (i : Nat)) 5 :=
  fun i h h' o nw st e e' _ _ _ => by
    have st' : h.get? I = some _ := st
    show h'.get? I = some _
    rw [e', ← e]; exact st'
theorem assign_five {elt iter : PySem.Expr} {x y : Str} {px py : Pos} {scope : Scope} {cl : List (Str × Addr)} {pos spos : Pos} {Q : Flow → Shared → Prop} (F₀ : Fr h₀ L s.heap m) (hLe : env.locals = L)
    (hsw : swapsWith (.ListComp elt [⟨.Name x px, iter, [], 0⟩] scope pos) (some (.Name y py)) spos.line env = pure true)
    (hclos : closureFor scope env = pure cl) (hcell : ∀ z ∈ scope.names, z.2 ≠ .cell) (hkind : scope.kind = .function)
    (hnames : ∀ z ∈ scope.names, z.2 = .local → scope.names.lookup z.1 = some .local) (hx : scope.names.lookup x = some .local)
    (hy : env.kindOf y = some .local) (hp : (env.scope.kind == .class || (env.scope.kind == .module && env.locals != env.globals)) = false)
    (h : wpAny (model prog w) A (eval iter env) (SrcFive prog w A h₀ L m env elt x scope cl (fun s₂ => LCg.FinA h₀ L m s₂ y Q)) E s)
    (hs : ∀ x, foldedSetIterable iter env x = pure x := by intro _; rfl) :
    wpAny (model prog w) A (exec (.Assign [.Name y py] (.ListComp elt [⟨.Name x px, iter, [], 0⟩] scope pos) spos) env) Q E s := by
  subst hLe
  rw [exec_Assign_Name_used _ _ _ _ hsw]
  refine wpAny_bind (wpAny_standAt (wpAny_bind ?_))
  show wpAny _ A (do let _ ← comprehension (.ListComp elt [⟨.Name x px, iter, [], 0⟩] scope pos) scope env _ (newList []) false (eval iter env) (some (assign (.Name y py) env))) _ _ s
  refine wpAny_bind (wpAny_mono (wpAny_comprehension_free (use := some (assign (.Name y py) env)) (Q := fun _ s' => Q .next s') rfl hs hclos hkind hnames
    (wpAny_mono h (fun xv s₁ h₁ => ?_) fun _ _ e => e)) (fun _ s' hq => wpAny_pure (wpAny_pure hq)) fun _ _ e => e)
  obtain ⟨r, a, b, t, u, v, n, news, rfl, hh, F, N, hr, hsm, hn, hsz, R⟩ := h₁
  refine wpAny_pyIter_range hr hsm ?_
  refine LCg.block_U (five_walks hh a n) hsz (fun i h st => ⟨_, st⟩) five_st hcell hkind hx (by show IsRangeIter _ _ _ _ _; rw [hn]; simpa using Heap.get?_push_size _ rfl) (fun b hb => ?_)
    (F.keeps fun _ _ e => Heap.get?_push_of_some _ e) (N.grown fun _ _ e => Heap.get?_push_of_some _ e) (Nat.ne_of_lt F.ns.lt) (next_is_new F) (fun p hp => Nat.ne_of_lt (Heap.lt_size (N p hp).1)) trivial (R _ ⟨_, rfl⟩) ?_
  · rw [List.mem_singleton.mp hb]
    show s₁.heap.objs.size < (s₁.heap.push _).objs.size
    rw [Heap.size_push]; exact Nat.lt_succ_self _
  · intro D C h' tk m' ys news' F' N' o1 hn hC₀ hD₀ hCL hDL hCD offC fin
    show wpAny _ A (assign (.Name y py) env (.ref D)) _ _ _
    refine wpAny_assign_Name (wpAny_storeName_local hy F'.ns (fun h₂ hn₂ hs₂ => ?_) hp)
    have hL₀ : h₀.get? env.locals = none := Heap.get?_none_of_le F'.above
    have F₂ : Fr h₀ env.locals h₂ (fun z => if z = y then some (.ref D) else m z) := ⟨hn₂, fun b o e => hs₂.extBut b o (fun q => by rw [q, hL₀] at e; cases e) (F'.keep b o e), F'.above⟩
    refine ⟨m', hn.sameBut hs₂ hCL, fun h'' hs'' => fin D h'' _ (F₂.change hs'' hCL hC₀) (fun p hp => ?_) o1⟩
    have z : h₂.get? p.1 = some p.2 := hs₂.extBut _ _ (N' p hp).2.1 (N' p hp).1
    refine ⟨hs''.extBut _ _ ?_ z, (N' p hp).2⟩
    rcases List.mem_cons.mp hp with rfl | hp
    · exact Ne.symm hCD
    · exact offC p hp
end
theorem five_size {k : Nat} (h : 0 < k) : Builtin.Range.rangeSize 0 (k : Int) 5 = (((k - 1) / 5 + 1 : Nat) : Int) := by
  unfold Builtin.Range.rangeSize
  rw [if_pos (by decide), if_pos (by omega)]
  omega
theorem five_small21 : ∀ k : Fin 21, Builtin.Range.small 0 ((k.1 : Nat) : Int) 5 = true := by decide +kernel
theorem five_small {k : Nat} (h2 : k ≤ 20) : Builtin.Range.small 0 (k : Int) 5 = true := five_small21 ⟨k, by omega⟩
theorem five_take {xs : List Int} {k : Int} (h0 : 0 ≤ k) : List.take (min (k + 5).toNat xs.length - k.toNat) (List.drop k.toNat xs) = List.take 5 (List.drop k.toNat xs) := by
  by_cases h : (k + 5).toNat ≤ xs.length
  · rw [Nat.min_eq_left h, show (k + 5).toNat - k.toNat = 5 by omega]
  · rw [Nat.min_eq_right (by omega), List.take_of_length_le (by rw [List.length_drop]; omega), List.take_of_length_le (by rw [List.length_drop]; omega)]
theorem fiveKs_length (k : Nat) : (fiveKs k).length = (k - 1) / 5 + 1 := by simp [fiveKs]
theorem mem_fiveKs {k : Nat} {x : Int} (h : x ∈ fiveKs k) (hk : 0 < k) : 0 ≤ x ∧ x < (k : Int) := by
  simp only [fiveKs, List.mem_map, List.mem_range] at h
  obtain ⟨i, hi, rfl⟩ := h
  omega
theorem fiveKs_at (k i : Nat) (v : Value) (hi : i < (k - 1) / 5 + 1) (h : ∃ t, v = .int (0 + (i : Int) * 5) t) : ∃ x t, (fiveKs k)[i]? = some x ∧ v = .int x t := by
  obtain ⟨t, e⟩ := h
  refine ⟨(i : Int) * 5, t, ?_, by rw [e, Int.zero_add]⟩
  simp [fiveKs, hi]
end Mine
end
section
open PySem PySem.W PyProof.Rows PySem.Spec PySem.Calls
namespace Mine
/-- a stretch of the pile: its address, its list's count, its values, their ints -/
structure Qi where
  a : Addr
  n : Nat
  v : List Value
  i : List Int
abbrev Qi.ent (q : Qi) : Addr × Obj := (q.a, W.listOf q.v.toArray q.n)
/-- the state between two turns -/
structure St where
  pa : Addr
  pn : Nat
  la : Addr
  ln : Nat
  lv : List Value
  li : List Int
  o1 : Obj
  o2 : Obj
  tab : Array Value
  ext : List (Addr × Obj)
  qs : List Qi
def St.rest (D : Addr) (oD : Obj) (c : St) : List (Addr × Obj) := (c.la, W.listOf c.lv.toArray c.ln) :: (D, oD) :: (c.ext ++ c.qs.map Qi.ent)
def St.led (D cm cp tb : Addr) (oD : Obj) (c : St) : List (Addr × Obj) :=
  (c.pa, W.listOf (c.qs.map fun q => Value.ref q.a).toArray c.pn) :: (cm, c.o2) :: (cp, c.o1) :: (tb, tabObj c.tab) :: c.rest D oD
/-- a code object of one of the two lambdas -/
def CodeOk (oc : Obj) : Prop := ∃ (vs : Array Value) (t : Tok), oc.data = .fields vs ∧ vs[1]? = some (.str (Str.ofString "law.<locals>.<lambda>") t)
/-- the code table: still empty, or both lambdas' codes lie in it -/
def TabOk (tab : Array Value) (own : List (Addr × Obj)) : Prop :=
  tab = #[] ∨ ∃ ca oa cb ob, tab = #[rawInt 34, rawInt 37, .ref ca, rawInt 36, rawInt 45, .ref cb] ∧ (ca, oa) ∈ own ∧ (cb, ob) ∈ own ∧ CodeOk oa ∧ CodeOk ob
theorem TabOk.mono {tab : Array Value} {own own' : List (Addr × Obj)} (h : TabOk tab own) (hs : ∀ p ∈ own, p ∈ own') : TabOk tab own' := by
  rcases h with h | ⟨ca, oa, cb, ob, h1, h2, h3, h4⟩
  · exact .inl h
  · exact .inr ⟨ca, oa, cb, ob, h1, hs _ h2, hs _ h3, h4⟩
def St.facts (D cm cp tb : Addr) (oD : Obj) (c : St) : Prop :=
  (∀ q ∈ c.qs, IntsAre q.v q.i) ∧ IntsAre c.lv c.li ∧ (∃ v, c.o1.data = .cell v) ∧ (∃ v, c.o2.data = .cell v) ∧ TabOk c.tab c.ext ∧
  OwnOff (c.rest D oD) [c.pa, cm, cp, tb] ∧ @Ne Nat c.pa cm ∧ @Ne Nat c.pa cp ∧ @Ne Nat c.pa tb ∧ @Ne Nat cm cp ∧ @Ne Nat cm tb ∧ @Ne Nat cp tb
def St.ps (c : St) : List (Str × Value) := [(Str.ofString "pile", .ref c.pa), (Str.ofString "laid", .ref c.la)]
/-- what is still to be laid down, in its order -/
def ahead : List Qi → List Int
  | [] => []
  | q :: r => ahead r ++ srt q.i
def cost (xs : List Int) : Nat := 3 * xs.length * xs.length + 1
def St.mu (c : St) : Nat := (c.qs.map fun q => cost q.i).sum
def St.P (row : List Int) (c : St) : Prop := c.li ++ ahead c.qs = srt row ∧ c.mu ≤ 2000 ∧ c.qs.length ≤ c.mu
/-- a turn's end: a state again, and nearer to the end -/
def TurnEnd (h₀ : Heap) (L : Addr) (s : Shared) (D cm cp tb : Addr) (oD : Obj) (row : List Int) (n : Nat) (s₂ : Shared) : Prop :=
  ∃ (c : St) (h' : Heap) (tk : Nat) (m' : Str → Option Value), s₂ = { s with heap := h', toks := tk } ∧ Fr h₀ L h' m' ∧ News h₀ L h' (c.led D cm cp tb oD) ∧ c.facts D cm cp tb oD ∧
    m' (Str.ofString "pile") = some (.ref c.pa) ∧ m' (Str.ofString "laid") = some (.ref c.la) ∧ m' (Str.ofString "row") = some (.ref D) ∧ c.P row ∧ c.mu < n
def TurnPost (h₀ : Heap) (L : Addr) (s : Shared) (D cm cp tb : Addr) (oD : Obj) (row : List Int) (Q : Flow → Shared → Prop) (n : Nat) (f : Flow) (s₂ : Shared) : Prop :=
  match f with
  | .ret v => Q (.ret v) s₂
  | .brk => Q .next s₂
  | _ => TurnEnd h₀ L s D cm cp tb oD row n s₂
section
variable {prog : Program} {w : World} {A : Around} {E : Value → Shared → Prop} {Q : Flow → Shared → Prop} {s : Shared} {env : Env} {h₀ : Heap} {L : Addr}
theorem big_while {test : PySem.Expr} {body : List Stmt} {pos : Pos} {m₀ : Str → Option Value} {la pa D cm cp tb : Addr} {ys : List Value} {row : List Int} {o1 o2 : Obj} {x1 x2 x3 : Addr × Obj}
    (F : Fr h₀ L s.heap m₀) (N : News h₀ L s.heap [(la, W.listOf #[] 0), (pa, W.listOf #[.ref D] 0), (D, LCg.lst ys), x1, x2, x3, (cm, o2), (cp, o1), (tb, tabObj #[])])
    (hI : IntsAre ys row) (hlen : row.length ≤ 20) (h1 : ∃ v, o1.data = .cell v) (h2 : ∃ v, o2.data = .cell v)
    (hoff : OwnOff [(la, W.listOf #[] 0), (D, LCg.lst ys)] [pa, cm, cp, tb]) (n1 : @Ne Nat pa cm) (n2 : @Ne Nat pa cp) (n3 : @Ne Nat pa tb) (n4 : @Ne Nat cm cp) (n5 : @Ne Nat cm tb) (n6 : @Ne Nat cp tb)
    (hp1 : m₀ (Str.ofString "pile") = some (.ref pa)) (hp2 : m₀ (Str.ofString "laid") = some (.ref la)) (hp3 : m₀ (Str.ofString "row") = some (.ref D))
    (turn : ∀ (c : St) (u : Str → Option Value) h tk, row.length ≤ 20 → c.facts D cm cp tb (LCg.lst ys) → c.P row →
      Fr h₀ L h (fun y => if y = Str.ofString "pile" then some (.ref c.pa) else if y = Str.ofString "laid" then some (.ref c.la) else if y = Str.ofString "row" then some (.ref D) else u y) → News h₀ L h (c.led D cm cp tb (LCg.lst ys)) →
      wpAny (model prog w) A (isTrue test env (eval test env)) (fun b s₂ =>
        if b = true then wpAny (model prog w) A (execs body env) (TurnPost h₀ L s D cm cp tb (LCg.lst ys) row Q c.mu) E s₂ else Q .next s₂) E { s with heap := h, toks := tk })
    (hE : PassesOwn (model prog w) A env E) :
    wpAny (model prog w) A (exec (.While test body [] pos) env) Q E s := by
  have hmem : ∀ p ∈ [(pa, W.listOf #[Value.ref D] 0), (cm, o2), (cp, o1), (tb, tabObj #[]), (la, W.listOf #[] 0), (D, LCg.lst ys), (D, LCg.lst ys)], p ∈ [(la, W.listOf #[] 0), (pa, W.listOf #[.ref D] 0), (D, LCg.lst ys), x1, x2, x3, (cm, o2), (cp, o1), (tb, tabObj #[])] := by
    intro p hp
    simp only [List.mem_cons, List.not_mem_nil, or_false] at hp ⊢
    rcases hp with h | h | h | h | h | h | h <;> simp [h]
  refine While_inv2 (n₀ := (⟨pa, 0, la, 0, [], [], o1, o2, #[], [], [⟨D, ys.length, ys, row⟩]⟩ : St).mu) (news := (⟨pa, 0, la, 0, [], [], o1, o2, #[], [], [⟨D, ys.length, ys, row⟩]⟩ : St).led D cm cp tb (LCg.lst ys))
    (fun n m nx => ∃ c : St, nx = c.led D cm cp tb (LCg.lst ys) ∧ c.mu = n ∧ c.facts D cm cp tb (LCg.lst ys) ∧ m (Str.ofString "pile") = some (.ref c.pa) ∧ m (Str.ofString "laid") = some (.ref c.la) ∧ m (Str.ofString "row") = some (.ref D) ∧ c.P row)
    F (fun p hp => N p (hmem p hp)) ⟨_, rfl, rfl, ?_, hp1, hp2, hp3, ?_⟩ ?_ hE
  · refine ⟨?_, .nil, h1, h2, .inl rfl, ?_, n1, n2, n3, n4, n5, n6⟩
    · intro q hq
      rw [List.mem_singleton.mp hq]
      exact hI
    · intro p hp b hb
      simp only [St.rest, List.map_cons, List.map_nil, List.nil_append, List.mem_cons, List.not_mem_nil, or_false] at hp
      rcases hp with rfl | rfl | rfl
      · exact hoff (la, W.listOf #[] 0) (.head _) b hb
      · exact hoff (D, LCg.lst ys) (.tail _ (.head _)) b hb
      · exact hoff (D, LCg.lst ys) (.tail _ (.head _)) b hb
  · refine ⟨by simp [ahead], ?_, ?_⟩
    · simp only [St.mu, List.map_cons, List.map_nil, List.sum_cons, List.sum_nil, cost]
      have : row.length * row.length ≤ 20 * 20 := Nat.mul_le_mul hlen hlen
      have e : 3 * row.length * row.length = 3 * (row.length * row.length) := Nat.mul_assoc ..
      omega
    · simp only [St.mu, List.map_cons, List.map_nil, List.sum_cons, List.sum_nil, cost, List.length_cons, List.length_nil]
      omega
  · rintro n m nx h tk F₁ N₁ ⟨c, rfl, rfl, hf, q1, q2, q3, hp⟩
    have em : m = fun y => if y = Str.ofString "pile" then some (.ref c.pa) else if y = Str.ofString "laid" then some (.ref c.la) else if y = Str.ofString "row" then some (.ref D) else m y := by
      funext y
      by_cases e1 : y = Str.ofString "pile"
      · rw [if_pos e1, e1, q1]
      · rw [if_neg e1]
        by_cases e2 : y = Str.ofString "laid"
        · rw [if_pos e2, e2, q2]
        · rw [if_neg e2]
          by_cases e3 : y = Str.ofString "row"
          · rw [if_pos e3, e3, q3]
          · rw [if_neg e3]
    rw [em] at F₁
    refine wpAny_mono (turn c m h tk hlen hf hp F₁ N₁) (fun b s₂ p => ?_) fun _ _ x => x
    cases b with
    | false => simpa using p
    | true =>
      simp only [if_true] at p ⊢
      refine wpAny_mono p (fun f s₃ q => ?_) fun _ _ x => x
      cases f with
      | ret v => exact q
      | brk => exact q
      | next =>
        obtain ⟨c', h', tk', m', e', F', N', a1, a2, a3, a4, a5, a6⟩ := q
        exact ⟨h', tk', m', _, c'.mu, e', F', N', a6, c', rfl, rfl, a1, a2, a3, a4, a5⟩
      | cont =>
        obtain ⟨c', h', tk', m', e', F', N', a1, a2, a3, a4, a5, a6⟩ := q
        exact ⟨h', tk', m', _, c'.mu, e', F', N', a6, c', rfl, rfl, a1, a2, a3, a4, a5⟩
end
end Mine
end
section
open PySem PySem.W PyProof.Rows PySem.Spec PySem.Calls
namespace Mine
/-- the table behind the first lambda -/
def TabMid (tab : Array Value) (c1 : Addr) (own : List (Addr × Obj)) : Prop :=
  tab = #[rawInt 34, rawInt 37, .ref c1] ∨ ∃ cb ob, tab = #[rawInt 34, rawInt 37, .ref c1, rawInt 36, rawInt 45, .ref cb] ∧ (cb, ob) ∈ own ∧ CodeOk ob
theorem TabMid.mono {tab : Array Value} {c1 : Addr} {own own' : List (Addr × Obj)} (h : TabMid tab c1 own) (hs : ∀ p ∈ own, p ∈ own') : TabMid tab c1 own' := by
  rcases h with h | ⟨cb, ob, h1, h2, h3⟩
  · exact .inl h
  · exact .inr ⟨cb, ob, h1, hs _ h2, h3⟩
section
variable {M : Model} {A : Around} {E : Value → Shared → Prop} {s : Shared} {h₀ : Heap} {L a c P : Addr} {m mg mb : Str → Option Value} {cn : Str} {cs : Scope} {ccd : Value} {cl : List (Str × Addr)} {news own : List (Addr × Obj)}
  {p : Program} {loose : List Str} {mean : ExcName → Option Value} {params : Arguments} {body : PySem.Expr} {scope : Scope} {tab : Array Value} {e1 e2 : Nat} {clos : List (Str × Addr)} {Q : Value → Shared → Prop}
theorem lam_first (F : Fr h₀ L s.heap m) (N : News h₀ L s.heap ((P, tabObj tab) :: news)) (off : ∀ p ∈ news, p.1 ≠ P) (T : Top p loose mean mg mb h₀) (C : CodeHd h₀ c P) (hcd : ccd = .ref c)
    (hdef : defaultsOf params (envX cn cs L a ccd cl) = ([], [])) (hcl : closureFor scope (envX cn cs L a ccd cl) = pure clos) (hq : (envX cn cs L a ccd cl).qual ++ "<lambda>" = Str.ofString "law.<locals>.<lambda>") (ok : TabOk tab own) (hs : ∀ p ∈ own, p ∈ news)
    (h : ∀ f c1 oc1 tab1 ctv h' tk, Fr h₀ L h' m → News h₀ L h' ((f, kla_obj (Str.ofString "<lambda>") (Str.ofString "law.<locals>.<lambda>") params body scope clos ((mg "__name__").getD .none) c1 ctv) :: (c1, oc1) :: (P, tabObj tab1) :: news) →
      CodeOk oc1 → TabMid tab1 c1 own → (∀ q ∈ (P, tabObj tab) :: news, q.1 < f) → ((∀ q ∈ (P, tabObj tab) :: news, q.1 < c1) ∨ (c1, oc1) ∈ own) → Q (.ref f) { s with heap := h', toks := tk }) :
    wpAny M A (eval (.Lambda params body scope ⟨34, 37, e1, e2⟩) (envX cn cs L a ccd cl)) Q E s := by
  refine kla_eval hdef ?_
  rw [hq]
  rcases ok with rfl | ⟨ca, oa, cb, ob, rfl, ha, hb, ka, kb⟩
  · refine kla_nest F N T C hcd (.head off) trivial rfl hcl ?_
    intro f c' oc vs t ctv h' tk F' N' d1 d2 l1 l2
    exact h f c' oc _ ctv h' tk F' N' ⟨vs, t, d1, d2⟩ (.inl rfl) (fun q hq => Nat.lt_trans (l1 q hq) l2) (.inl l1)
  · refine kla_hit (c' := ca) F N T C hcd (.head _) trivial rfl hcl ?_
    intro f ctv h' tk F' N' l1
    refine h f ca oa _ ctv h' tk F' (fun q hq => ?_) ka (.inr ⟨cb, ob, rfl, hb, kb⟩) l1 (.inr ha)
    rcases List.mem_cons.mp hq with rfl | hq
    · exact N' _ (.head _)
    · rcases List.mem_cons.mp hq with rfl | hq
      · exact N' _ (.tail _ (.tail _ (hs _ ha)))
      · exact N' _ (.tail _ hq)
theorem lam_second {c1 : Addr} (F : Fr h₀ L s.heap m) (N : News h₀ L s.heap ((P, tabObj tab) :: news)) (off : ∀ p ∈ news, p.1 ≠ P) (T : Top p loose mean mg mb h₀) (C : CodeHd h₀ c P) (hcd : ccd = .ref c)
    (hdef : defaultsOf params (envX cn cs L a ccd cl) = ([], [])) (hcl : closureFor scope (envX cn cs L a ccd cl) = pure clos) (hq : (envX cn cs L a ccd cl).qual ++ "<lambda>" = Str.ofString "law.<locals>.<lambda>") (ok : TabMid tab c1 own) (hs : ∀ p ∈ own, p ∈ news)
    (h : ∀ f c2 oc2 ctv h' tk, Fr h₀ L h' m → News h₀ L h' ((f, kla_obj (Str.ofString "<lambda>") (Str.ofString "law.<locals>.<lambda>") params body scope clos ((mg "__name__").getD .none) c2 ctv) :: (c2, oc2) :: (P, tabObj #[rawInt 34, rawInt 37, .ref c1, rawInt 36, rawInt 45, .ref c2]) :: news) →
      CodeOk oc2 → (∀ q ∈ (P, tabObj tab) :: news, q.1 < f) → ((∀ q ∈ (P, tabObj tab) :: news, q.1 < c2) ∨ (c2, oc2) ∈ own) → Q (.ref f) { s with heap := h', toks := tk }) :
    wpAny M A (eval (.Lambda params body scope ⟨36, 45, e1, e2⟩) (envX cn cs L a ccd cl)) Q E s := by
  refine kla_eval hdef ?_
  rw [hq]
  rcases ok with rfl | ⟨cb, ob, rfl, hb, kb⟩
  · refine kla_nest F N T C hcd (.head off) trivial rfl hcl ?_
    intro f c' oc vs t ctv h' tk F' N' d1 d2 l1 l2
    exact h f c' oc ctv h' tk F' N' ⟨vs, t, d1, d2⟩ (fun q hq => Nat.lt_trans (l1 q hq) l2) (.inl l1)
  · refine kla_hit (c' := cb) F N T C hcd (.head _) trivial rfl hcl ?_
    intro f ctv h' tk F' N' l1
    refine h f cb ob ctv h' tk F' (fun q hq => ?_) kb l1 (.inr hb)
    rcases List.mem_cons.mp hq with rfl | hq
    · exact N' _ (.head _)
    · rcases List.mem_cons.mp hq with rfl | hq
      · exact N' _ (.tail _ (.tail _ (hs _ hb)))
      · exact N' _ (.tail _ hq)
end
theorem c_off {own r : List (Addr × Obj)} {c pa cm cp tb : Addr} {oc ot op o2 o1 : Obj} (lc : (∀ q ∈ r, q.1 < c) ∨ (c, oc) ∈ own) (g4 : OwnOff own [pa, cm, cp, tb]) (ha : (pa, op) ∈ r) (hb : (cm, o2) ∈ r) (hc : (cp, o1) ∈ r) (hd : (tb, ot) ∈ r) :
    @Ne Nat c pa ∧ @Ne Nat c cm ∧ @Ne Nat c cp ∧ @Ne Nat c tb := by
  rcases lc with h | h
  · exact ⟨Nat.ne_of_gt (h _ ha), Nat.ne_of_gt (h _ hb), Nat.ne_of_gt (h _ hc), Nat.ne_of_gt (h _ hd)⟩
  · exact ⟨g4 _ h _ (.head _), g4 _ h _ (.tail _ (.head _)), g4 _ h _ (.tail _ (.tail _ (.head _))), g4 _ h _ (.tail _ (.tail _ (.tail _ (.head _))))⟩
end Mine
end
section
open PySem PySem.W PyProof.Rows
namespace Mine
theorem three_in {x y z : Addr × Obj} {news : List (Addr × Obj)} (h : ∀ q ∈ [x, y, z], q ∈ news) : ∀ q ∈ x :: y :: z :: news, q ∈ news := by
  intro q hq
  simp only [List.mem_cons] at hq
  rcases hq with rfl | rfl | rfl | hq
  · exact h _ (.head _)
  · exact h _ (.tail _ (.head _))
  · exact h _ (.tail _ (.tail _ (.head _)))
  · exact hq
theorem predLt {w : World} {p : Program} {loose : List Str} {mean : ExcName → Option Value} {mg mb : Str → Option Value} {f c1 cm : Addr} {name : Str} {q p1 p2 p3 : Pos} {pm ctv : Value} {oc o2 : Obj} {t2 : Tok} {mid : Int} (hoc : CodeOk oc) (ho2 : o2.data = .cell (some (.int mid t2))) :
    PredOK w p loose mean mg mb f [(f, kla_obj name (Str.ofString "law.<locals>.<lambda>") (lamPar q) (lamBody .Lt p1 p2 p3) lamSc [(Str.ofString "middle", cm)] pm c1 ctv), (c1, oc), (cm, o2)] (fun x => decide (x < mid)) := by
  obtain ⟨cvs, ct, k1, k2⟩ := hoc
  intro dp un gd cn cs a ccd cl outer A₀ base h₀ L m s Q E news x t B F X N T hk hn hd1 hret
  exact lam_lt B F X (fun q hq => N q (three_in hn q hq)) T hk k1 k2 ho2 hd1 fun h' tk' F' N' => hret h' tk' F' fun q hq => N' q (.tail _ (.tail _ (.tail _ hq)))
theorem predEq {w : World} {p : Program} {loose : List Str} {mean : ExcName → Option Value} {mg mb : Str → Option Value} {f c1 cm : Addr} {name : Str} {q p1 p2 p3 : Pos} {pm ctv : Value} {oc o2 : Obj} {t2 : Tok} {mid : Int} (hoc : CodeOk oc) (ho2 : o2.data = .cell (some (.int mid t2))) :
    PredOK w p loose mean mg mb f [(f, kla_obj name (Str.ofString "law.<locals>.<lambda>") (lamPar q) (lamBody .Eq p1 p2 p3) lamSc [(Str.ofString "middle", cm)] pm c1 ctv), (c1, oc), (cm, o2)] (fun x => decide (x = mid)) := by
  obtain ⟨cvs, ct, k1, k2⟩ := hoc
  intro dp un gd cn cs a ccd cl outer A₀ base h₀ L m s Q E news x t B F X N T hk hn hd1 hret
  exact lam_eq B F X (fun q hq => N q (three_in hn q hq)) T hk k1 k2 ho2 hd1 fun h' tk' F' N' => hret h' tk' F' fun q hq => N' q (.tail _ (.tail _ (.tail _ hq)))
theorem qual_law : (Str.ofString "law" ++ ".<locals>." ++ "<lambda>" : Str) = Str.ofString "law.<locals>.<lambda>" := by decide +kernel
section
variable {h₀ h : Heap} {L : Addr} {a b c d e f g i j k : Addr × Obj} {r : List (Addr × Obj)}
theorem sub_news {l l' : List (Addr × Obj)} (N : News h₀ L h l) (hs : ∀ p ∈ l', p ∈ l) : News h₀ L h l' := fun p hp => N p (hs p hp)
/-- the fifth entry to the front -/
theorem fifth (N : News h₀ L h (a :: b :: c :: d :: e :: r)) : News h₀ L h (e :: a :: b :: c :: d :: r) := sub_news N fun p hp => by
  simp only [List.mem_cons] at hp ⊢
  rcases hp with h | h | h | h | h | h <;> simp [h]
/-- the tenth entry to the front -/
theorem tenth (N : News h₀ L h (a :: b :: c :: d :: e :: f :: g :: i :: j :: k :: r)) : News h₀ L h (k :: a :: b :: c :: d :: e :: f :: g :: i :: j :: r) := sub_news N fun p hp => by
  simp only [List.mem_cons] at hp ⊢
  rcases hp with h | h | h | h | h | h | h | h | h | h | h <;> simp [h]
/-- the first lambda goes, the table to the front -/
theorem front7 (N : News h₀ L h (a :: b :: c :: d :: e :: f :: g :: r)) : News h₀ L h (g :: a :: b :: c :: d :: f :: r) := sub_news N fun p hp => by
  simp only [List.mem_cons] at hp ⊢
  rcases hp with h | h | h | h | h | h | h <;> simp [h]
/-- f c t | ta na r: the list na to the front -/
theorem front5 (N : News h₀ L h (a :: b :: c :: d :: e :: r)) : News h₀ L h (e :: a :: b :: c :: d :: r) := fifth N
theorem need10 {f c x1 x2 x3 x4 x5 x6 x7 m : Addr × Obj} {r : List (Addr × Obj)} : ∀ q ∈ [f, c, m], q ∈ f :: c :: x1 :: x2 :: x3 :: x4 :: x5 :: x6 :: x7 :: m :: r := by
  intro q hq
  simp only [List.mem_cons, List.not_mem_nil, or_false] at hq ⊢
  rcases hq with h | h | h <;> simp [h]
theorem off_all {tb : Addr} {x1 x2 x3 x4 x5 x6 x7 x8 x9 y1 y2 : Addr × Obj} {own : List (Addr × Obj)} (h1 : x1.1 ≠ tb) (h2 : x2.1 ≠ tb) (h3 : x3.1 ≠ tb) (h4 : x4.1 ≠ tb) (h5 : x5.1 ≠ tb) (h6 : x6.1 ≠ tb) (h7 : x7.1 ≠ tb) (h8 : x8.1 ≠ tb) (h9 : x9.1 ≠ tb) (h10 : y1.1 ≠ tb) (h11 : y2.1 ≠ tb) (ho : ∀ p ∈ own, p.1 ≠ tb) :
    ∀ p ∈ x1 :: x2 :: x3 :: x4 :: x5 :: x6 :: x7 :: x8 :: x9 :: y1 :: y2 :: own, p.1 ≠ tb := by
  intro p hp
  simp only [List.mem_cons] at hp
  rcases hp with rfl | rfl | rfl | rfl | rfl | rfl | rfl | rfl | rfl | rfl | rfl | hp
  all_goals first | assumption | exact ho p hp
theorem up11 {x1 x2 x3 x4 x5 x6 x7 x8 x9 y1 y2 : Addr × Obj} {own : List (Addr × Obj)} : ∀ p ∈ own, p ∈ x1 :: x2 :: x3 :: x4 :: x5 :: x6 :: x7 :: x8 :: x9 :: y1 :: y2 :: own := fun _ hp => .tail _ (.tail _ (.tail _ (.tail _ (.tail _ (.tail _ (.tail _ (.tail _ (.tail _ (.tail _ (.tail _ hp))))))))))
end
end Mine
end
section
open PySem PySem.W PyProof.Rows PySem.Spec PySem.Calls
namespace Mine
theorem ahead_snoc (qi : List Qi) (q : Qi) : ahead (qi ++ [q]) = srt q.i ++ ahead qi := by
  induction qi with
  | nil => simp [ahead]
  | cons x r ih => simp only [List.cons_append, ahead, ih, List.append_assoc]
theorem srt_nil : srt [] = [] := by
  have := srt_length []
  exact List.eq_nil_of_length_eq_zero this
theorem len_q {li row : List Int} {qi : List Qi} {q : Qi} (p1 : li ++ ahead (qi ++ [q]) = srt row) (h : row.length ≤ 20) : q.i.length ≤ 20 := by
  have e := congrArg List.length p1
  rw [ahead_snoc, srt_length, List.length_append, List.length_append, srt_length] at e
  omega
theorem offSub {own own' : List (Addr × Obj)} {adr : List Addr} (h : OwnOff own adr) (hs : ∀ p ∈ own', p ∈ own) : OwnOff own' adr := fun p hp => h p (hs p hp)
theorem turn_empty {h₀ h' : Heap} {L : Addr} {s : Shared} {D cm cp tb : Addr} {oD : Obj} {row : List Int} {pa pn la ln : Nat} {lv : List Value} {li : List Int} {o1 o1' o2 : Obj} {tab : Array Value} {ext : List (Addr × Obj)} {qi : List Qi} {qa qn : Nat} {qv : List Value} {qx : List Int}
    {pv : List Value} {own : List (Addr × Obj)} {m' : Str → Option Value} {tk : Nat} {x0 : Addr × Obj} {oq : Obj} {v1 v2 : Option Value}
    (F : Fr h₀ L h' m') (N : News h₀ L h' (x0 :: (pa, W.listOf pv.toArray (pn + 1)) :: (cm, o2) :: (cp, o1') :: (tb, tabObj tab) :: (la, W.listOf lv.toArray ln) :: (D, oD) :: (qa, oq) :: own))
    (hpv : (qi.map fun q => Value.ref q.a) = pv) (hown : ext ++ qi.map Qi.ent = own) (fqi : ∀ q ∈ qi, IntsAre q.v q.i) (f2 : IntsAre lv li) (f3 : o1'.data = .cell v1) (f4 : o2.data = .cell v2) (f5 : TabOk tab ext)
    (f6 : OwnOff ((la, W.listOf lv.toArray ln) :: (D, oD) :: (qa, oq) :: own) [pa, cm, cp, tb]) (f7 : @Ne Nat pa cm) (f8 : @Ne Nat pa cp) (f9 : @Ne Nat pa tb) (f10 : @Ne Nat cm cp) (f11 : @Ne Nat cm tb) (f12 : @Ne Nat cp tb)
    (m1 : m' (Str.ofString "pile") = some (.ref pa)) (m2 : m' (Str.ofString "laid") = some (.ref la)) (m3 : m' (Str.ofString "row") = some (.ref D))
    (p1 : li ++ ahead (qi ++ [⟨qa, qn, qv, qx⟩]) = srt row) (p2 : (⟨pa, pn, la, ln, lv, li, o1, o2, tab, ext, qi ++ [⟨qa, qn, qv, qx⟩]⟩ : St).mu ≤ 2000) (p3 : (qi ++ [(⟨qa, qn, qv, qx⟩ : Qi)]).length ≤ (⟨pa, pn, la, ln, lv, li, o1, o2, tab, ext, qi ++ [⟨qa, qn, qv, qx⟩]⟩ : St).mu)
    (hx : qx = []) :
    TurnEnd h₀ L s D cm cp tb oD row (⟨pa, pn, la, ln, lv, li, o1, o2, tab, ext, qi ++ [⟨qa, qn, qv, qx⟩]⟩ : St).mu { s with heap := h', toks := tk } := by
  subst hx
  have hmu : (⟨pa, pn, la, ln, lv, li, o1, o2, tab, ext, qi ++ [⟨qa, qn, qv, []⟩]⟩ : St).mu = (⟨pa, pn + 1, la, ln, lv, li, o1', o2, tab, ext, qi⟩ : St).mu + 1 := by
    simp [St.mu, cost]
  rw [hmu] at p2 p3 ⊢
  refine ⟨⟨pa, pn + 1, la, ln, lv, li, o1', o2, tab, ext, qi⟩, h', tk, m', rfl, F, ?_, ⟨fqi, f2, ⟨_, f3⟩, ⟨_, f4⟩, f5, ?_, f7, f8, f9, f10, f11, f12⟩, m1, m2, m3, ⟨?_, by omega, ?_⟩, by omega⟩
  · intro p hp
    refine N p ?_
    subst hpv hown
    simp only [St.led, St.rest, List.mem_cons, List.mem_append] at hp ⊢
    rcases hp with h | h | h | h | h | h | h | h <;> simp [h]
  · subst hown
    refine offSub f6 fun p hp => ?_
    simp only [St.rest, List.mem_cons, List.mem_append] at hp ⊢
    rcases hp with h | h | h | h <;> simp [h]
  · show li ++ ahead qi = srt row
    rw [ahead_snoc, srt_nil, List.nil_append] at p1
    exact p1
  · rw [List.length_append] at p3
    simpa using p3
end Mine
end
section
open PySem PySem.W PyProof.Rows PySem.Spec PySem.Calls
namespace Mine
theorem mu_len (qs : List Qi) : qs.length ≤ (qs.map fun q => cost q.i).sum := by
  induction qs with
  | nil => simp
  | cons q r ih => simp only [List.length_cons, List.map_cons, List.sum_cons, cost]; simp only [cost] at ih; omega
theorem sq_three (a b c : Nat) : (a + (b + c)) * (a + (b + c)) = a * a + b * b + c * c + 2 * (a * b) + 2 * (a * c) + 2 * (b * c) := by
  have h1 : b * a = a * b := Nat.mul_comm ..
  have h2 : c * a = a * c := Nat.mul_comm ..
  have h3 : c * b = b * c := Nat.mul_comm ..
  simp only [Nat.mul_add, Nat.add_mul]
  omega
theorem cost_three {a b c n : Nat} (h : a + (b + c) = n) (hb : 0 < b) (hac : 0 < a ∨ 0 < c) : (3 * a * a + 1) + ((3 * b * b + 1) + (3 * c * c + 1)) < 3 * n * n + 1 := by
  subst h
  have e := sq_three a b c
  simp only [Nat.mul_assoc]
  rcases hac with h | h
  · have : 0 < a * b := Nat.mul_pos h hb
    omega
  · have : 0 < b * c := Nat.mul_pos hb h
    omega
section
variable {h₀ h h' : Heap} {L : Addr} {s : Shared} {D cm cp tb : Addr} {oD : Obj} {row : List Int} {pa pn la ln : Nat} {lv : List Value} {li : List Int} {o1 o2 o1' o2' : Obj} {tab : Array Value} {ext : List (Addr × Obj)} {qi : List Qi} {qa qn : Nat} {qv : List Value} {qx : List Int}
  {pv : List Value} {own : List (Addr × Obj)} {m' : Str → Option Value} {tk : Nat} {v1 v2 : Option Value} {c1 c2 : Addr} {oc1 oc2 : Obj} {mid : Int}
abbrev fullTab (c1 c2 : Addr) : Array Value := #[rawInt 34, rawInt 37, .ref c1, rawInt 36, rawInt 45, .ref c2]
theorem tidyA {a0 a1 a2 a3 a4 a5 a6 a7 a8 a9 b0 b1 b2 b3 b4 b5 b6 b7 b8 b9 : Addr × Obj} {r : List (Addr × Obj)} (N : News h₀ L h (a0 :: a1 :: a2 :: a3 :: a4 :: a5 :: a6 :: a7 :: a8 :: a9 :: b0 :: b1 :: b2 :: b3 :: b4 :: b5 :: b6 :: b7 :: b8 :: b9 :: r)) :
    News h₀ L h (a7 :: a9 :: b0 :: b4 :: b5 :: b6 :: b7 :: b8 :: b9 :: r) := sub_news N fun p hp => by
  simp only [List.mem_cons] at hp ⊢
  rcases hp with h | h | h | h | h | h | h | h | h | h <;> simp [h]
theorem tidyB {x y a1 a2 a3 a4 a5 a6 a7 a8 a9 b0 b1 b2 b3 b4 b5 b6 b7 b8 b9 : Addr × Obj} {r : List (Addr × Obj)} (N : News h₀ L h (x :: y :: a1 :: a2 :: a3 :: a4 :: a5 :: a6 :: a7 :: a8 :: a9 :: b0 :: b1 :: b2 :: b3 :: b4 :: b5 :: b6 :: b7 :: b8 :: b9 :: r)) :
    News h₀ L h (x :: a6 :: a7 :: b2 :: a9 :: b0 :: b4 :: b5 :: b6 :: b7 :: b8 :: b9 :: r) := sub_news N fun p hp => by
  simp only [List.mem_cons] at hp ⊢
  rcases hp with h | h | h | h | h | h | h | h | h | h | h | h | h <;> simp [h]
theorem tidyC {x a1 a2 a3 a4 a5 a6 a7 a8 a9 b0 b1 b2 b3 b4 b5 b6 b7 b8 b9 : Addr × Obj} {r : List (Addr × Obj)} (N : News h₀ L h (x :: a1 :: a2 :: a3 :: a4 :: a5 :: a6 :: a7 :: a8 :: a9 :: b0 :: b1 :: b2 :: b3 :: b4 :: b5 :: b6 :: b7 :: b8 :: b9 :: r)) :
    News h₀ L h (x :: a6 :: a7 :: b2 :: a9 :: b0 :: b4 :: b5 :: b6 :: b7 :: b8 :: b9 :: r) := sub_news N fun p hp => by
  simp only [List.mem_cons] at hp ⊢
  rcases hp with h | h | h | h | h | h | h | h | h | h | h | h | h <;> simp [h]
/-- all are alike: they are laid down -/
theorem turn_laid {la' : Nat} {us : List Value} {k0 : Nat} {x0 x8 : Addr × Obj}
    (F : Fr h₀ L h' m') (N : News h₀ L h' ((la', W.listOf us.toArray k0) :: x0 :: (c2, oc2) :: (tb, tabObj (fullTab c1 c2)) :: (c1, oc1) :: (pa, W.listOf pv.toArray (pn + 1)) :: (cm, o2') :: (cp, o1') :: x8 :: (D, oD) :: own))
    (lt : ∀ p ∈ x0 :: (c2, oc2) :: (tb, tabObj (fullTab c1 c2)) :: (c1, oc1) :: (pa, W.listOf pv.toArray (pn + 1)) :: (cm, o2') :: (cp, o1') :: x8 :: (D, oD) :: own, p.1 < la')
    (hpv : (qi.map fun q => Value.ref q.a) = pv) (hown : ext ++ qi.map Qi.ent = own) (fqi : ∀ q ∈ qi, IntsAre q.v q.i) (hus : IntsAre us (li ++ alikeOf qx mid)) (f3 : o1'.data = .cell v1) (f4 : o2'.data = .cell v2) (kc1 : CodeOk oc1) (kc2 : CodeOk oc2)
    (o1c : @Ne Nat c1 pa ∧ @Ne Nat c1 cm ∧ @Ne Nat c1 cp ∧ @Ne Nat c1 tb) (o2c : @Ne Nat c2 pa ∧ @Ne Nat c2 cm ∧ @Ne Nat c2 cp ∧ @Ne Nat c2 tb) (g2 : @Ne Nat D pa ∧ @Ne Nat D cm ∧ @Ne Nat D cp ∧ @Ne Nat D tb) (g4 : OwnOff own [pa, cm, cp, tb])
    (f7 : @Ne Nat pa cm) (f8 : @Ne Nat pa cp) (f9 : @Ne Nat pa tb) (f10 : @Ne Nat cm cp) (f11 : @Ne Nat cm tb) (f12 : @Ne Nat cp tb)
    (m1 : m' (Str.ofString "pile") = some (.ref pa)) (m2 : m' (Str.ofString "laid") = some (.ref la')) (m3 : m' (Str.ofString "row") = some (.ref D))
    (p1 : li ++ ahead (qi ++ [⟨qa, qn, qv, qx⟩]) = srt row) (p2 : (⟨pa, pn, la, ln, lv, li, o1, o2, tab, ext, qi ++ [⟨qa, qn, qv, qx⟩]⟩ : St).mu ≤ 2000)
    (hb : belowOf qx mid = []) (ha : aboveOf qx mid = []) :
    TurnEnd h₀ L s D cm cp tb oD row (⟨pa, pn, la, ln, lv, li, o1, o2, tab, ext, qi ++ [⟨qa, qn, qv, qx⟩]⟩ : St).mu { s with heap := h', toks := tk } := by
  have hmu : (⟨pa, pn, la, ln, lv, li, o1, o2, tab, ext, qi ++ [⟨qa, qn, qv, qx⟩]⟩ : St).mu = (qi.map fun q => cost q.i).sum + cost qx := by
    simp [St.mu]
  have hc : 0 < cost qx := Nat.succ_pos _
  rw [hmu] at p2 ⊢
  refine ⟨⟨pa, pn + 1, la', k0, us, li ++ alikeOf qx mid, o1', o2', fullTab c1 c2, (c1, oc1) :: (c2, oc2) :: ext, qi⟩, h', tk, m', rfl, F, ?_, ⟨fqi, hus, ⟨_, f3⟩, ⟨_, f4⟩, .inr ⟨c1, oc1, c2, oc2, rfl, .head _, .tail _ (.head _), kc1, kc2⟩, ?_, f7, f8, f9, f10, f11, f12⟩, m1, m2, m3, ⟨?_, ?_, mu_len qi⟩, ?_⟩
  · intro p hp
    refine N p ?_
    subst hpv hown
    simp only [St.led, St.rest, List.cons_append, List.mem_cons, List.mem_append] at hp ⊢
    rcases hp with h | h | h | h | h | h | h | h | h | h <;> simp [h]
  · subst hown
    intro p hp b hbm
    simp only [St.rest, List.cons_append, List.mem_cons, List.mem_append] at hp
    have four : ∀ {c : Addr}, (@Ne Nat c pa ∧ @Ne Nat c cm ∧ @Ne Nat c cp ∧ @Ne Nat c tb) → c ≠ b := fun h => by
      simp only [List.mem_cons, List.not_mem_nil, or_false] at hbm
      rcases hbm with rfl | rfl | rfl | rfl
      · exact h.1
      · exact h.2.1
      · exact h.2.2.1
      · exact h.2.2.2
    rcases hp with rfl | rfl | rfl | rfl | hp
    · exact four ⟨Nat.ne_of_gt (lt (pa, _) (.tail _ (.tail _ (.tail _ (.tail _ (.head _)))))), Nat.ne_of_gt (lt (cm, _) (.tail _ (.tail _ (.tail _ (.tail _ (.tail _ (.head _))))))), Nat.ne_of_gt (lt (cp, _) (.tail _ (.tail _ (.tail _ (.tail _ (.tail _ (.tail _ (.head _)))))))), Nat.ne_of_gt (lt (tb, _) (.tail _ (.tail _ (.head _))))⟩
    · exact four g2
    · exact four o1c
    · exact four o2c
    · exact g4 p (List.mem_append.mpr hp) b hbm
  · show li ++ alikeOf qx mid ++ ahead qi = srt row
    rw [ahead_snoc, srt_parts qx mid, hb, ha, srt_nil, srt_alike] at p1
    simpa using p1
  · show (qi.map fun q => cost q.i).sum ≤ 2000
    omega
  · show (qi.map fun q => cost q.i).sum < _
    omega
/-- the three parts go on the pile -/
theorem turn_pile {pa' : Nat} {us : List Value} {k0 : Nat} {x0 : Addr × Obj} {aba ala ya : Addr} {abv alv yv : List Value} {abc alc yc : Nat} {xp : Obj}
    (F : Fr h₀ L h' m') (N : News h₀ L h' ((pa', W.listOf us.toArray k0) :: x0 :: (aba, W.listOf abv.toArray abc) :: (ala, W.listOf alv.toArray alc) :: (ya, W.listOf yv.toArray yc) :: (c2, oc2) :: (tb, tabObj (fullTab c1 c2)) :: (c1, oc1) :: (pa, xp) :: (cm, o2') :: (cp, o1') :: (la, W.listOf lv.toArray ln) :: (D, oD) :: own))
    (lt : ∀ p ∈ x0 :: (aba, W.listOf abv.toArray abc) :: (ala, W.listOf alv.toArray alc) :: (ya, W.listOf yv.toArray yc) :: (c2, oc2) :: (tb, tabObj (fullTab c1 c2)) :: (c1, oc1) :: (pa, xp) :: (cm, o2') :: (cp, o1') :: (la, W.listOf lv.toArray ln) :: (D, oD) :: own, p.1 < pa')
    (hus : us = pv ++ [.ref aba, .ref ala, .ref ya]) (hpv : (qi.map fun q => Value.ref q.a) = pv) (hown : ext ++ qi.map Qi.ent = own) (fqi : ∀ q ∈ qi, IntsAre q.v q.i) (f2 : IntsAre lv li) (i1 : IntsAre abv (aboveOf qx mid)) (i2 : IntsAre alv (alikeOf qx mid)) (i3 : IntsAre yv (belowOf qx mid)) (f3 : o1'.data = .cell v1) (f4 : o2'.data = .cell v2) (kc1 : CodeOk oc1) (kc2 : CodeOk oc2)
    (o1c : @Ne Nat c1 pa ∧ @Ne Nat c1 cm ∧ @Ne Nat c1 cp ∧ @Ne Nat c1 tb) (o2c : @Ne Nat c2 pa ∧ @Ne Nat c2 cm ∧ @Ne Nat c2 cp ∧ @Ne Nat c2 tb) (g1 : @Ne Nat la pa ∧ @Ne Nat la cm ∧ @Ne Nat la cp ∧ @Ne Nat la tb) (g2 : @Ne Nat D pa ∧ @Ne Nat D cm ∧ @Ne Nat D cp ∧ @Ne Nat D tb) (g4 : OwnOff own [pa, cm, cp, tb])
    (a1 : cm < aba ∧ cp < aba ∧ tb < aba) (a2 : cm < ala ∧ cp < ala ∧ tb < ala) (a3 : cm < ya ∧ cp < ya ∧ tb < ya)
    (f10 : @Ne Nat cm cp) (f11 : @Ne Nat cm tb) (f12 : @Ne Nat cp tb)
    (m1 : m' (Str.ofString "pile") = some (.ref pa')) (m2 : m' (Str.ofString "laid") = some (.ref la)) (m3 : m' (Str.ofString "row") = some (.ref D))
    (p1 : li ++ ahead (qi ++ [⟨qa, qn, qv, qx⟩]) = srt row) (p2 : (⟨pa, pn, la, ln, lv, li, o1, o2, tab, ext, qi ++ [⟨qa, qn, qv, qx⟩]⟩ : St).mu ≤ 2000)
    (hal : alikeOf qx mid ≠ []) (hne : belowOf qx mid ≠ [] ∨ aboveOf qx mid ≠ []) :
    TurnEnd h₀ L s D cm cp tb oD row (⟨pa, pn, la, ln, lv, li, o1, o2, tab, ext, qi ++ [⟨qa, qn, qv, qx⟩]⟩ : St).mu { s with heap := h', toks := tk } := by
  have hmu : (⟨pa, pn, la, ln, lv, li, o1, o2, tab, ext, qi ++ [⟨qa, qn, qv, qx⟩]⟩ : St).mu = (qi.map fun q => cost q.i).sum + cost qx := by
    simp [St.mu]
  have hless : cost (aboveOf qx mid) + (cost (alikeOf qx mid) + cost (belowOf qx mid)) < cost qx := by
    unfold cost
    refine cost_three ?_ (List.length_pos_iff.mpr hal) ?_
    · have := parts_len qx mid
      omega
    · rcases hne with h | h
      · exact .inr (List.length_pos_iff.mpr h)
      · exact .inl (List.length_pos_iff.mpr h)
  rw [hmu] at p2 ⊢
  have hmu' : ((qi ++ [(⟨aba, abc, abv, aboveOf qx mid⟩ : Qi), ⟨ala, alc, alv, alikeOf qx mid⟩, ⟨ya, yc, yv, belowOf qx mid⟩]).map fun q => cost q.i).sum = (qi.map fun q => cost q.i).sum + (cost (aboveOf qx mid) + (cost (alikeOf qx mid) + cost (belowOf qx mid))) := by
    simp
  refine ⟨⟨pa', k0, la, ln, lv, li, o1', o2', fullTab c1 c2, (c1, oc1) :: (c2, oc2) :: ext, qi ++ [⟨aba, abc, abv, aboveOf qx mid⟩, ⟨ala, alc, alv, alikeOf qx mid⟩, ⟨ya, yc, yv, belowOf qx mid⟩]⟩, h', tk, m', rfl, F, ?_, ⟨?_, f2, ⟨_, f3⟩, ⟨_, f4⟩, .inr ⟨c1, oc1, c2, oc2, rfl, .head _, .tail _ (.head _), kc1, kc2⟩, ?_, Nat.ne_of_gt (lt (cm, _) (.tail _ (.tail _ (.tail _ (.tail _ (.tail _ (.tail _ (.tail _ (.tail _ (.head _)))))))))), Nat.ne_of_gt (lt (cp, _) (.tail _ (.tail _ (.tail _ (.tail _ (.tail _ (.tail _ (.tail _ (.tail _ (.tail _ (.head _))))))))))), Nat.ne_of_gt (lt (tb, _) (.tail _ (.tail _ (.tail _ (.tail _ (.tail _ (.head _))))))), f10, f11, f12⟩, m1, m2, m3, ⟨?_, ?_, mu_len _⟩, ?_⟩
  · intro p hp
    refine N p ?_
    subst hpv hown hus
    simp only [St.led, St.rest, List.cons_append, List.nil_append, List.map_append, List.map_cons, List.map_nil, List.mem_cons, List.mem_append, List.not_mem_nil, or_false] at hp ⊢
    rcases hp with h | h | h | h | h | h | h | h | h | h | h | h | h <;> simp [h]
  · intro q hq
    simp only [List.mem_append, List.mem_cons, List.not_mem_nil, or_false] at hq
    rcases hq with h | rfl | rfl | rfl
    · exact fqi q h
    · exact i1
    · exact i2
    · exact i3
  · subst hown
    intro p hp b hbm
    simp only [St.rest, List.cons_append, List.nil_append, List.map_append, List.map_cons, List.map_nil, List.mem_cons, List.mem_append, List.not_mem_nil, or_false] at hp
    have four : ∀ {c : Addr}, c < pa' → @Ne Nat c cm → @Ne Nat c cp → @Ne Nat c tb → c ≠ b := fun h1 h2 h3 h4 => by
      simp only [List.mem_cons, List.not_mem_nil, or_false] at hbm
      rcases hbm with rfl | rfl | rfl | rfl
      · exact Nat.ne_of_lt h1
      · exact h2
      · exact h3
      · exact h4
    have ownFour : ∀ p ∈ ext ++ qi.map Qi.ent, p.1 ≠ b := fun p hp => four (lt p (by simp only [List.mem_cons]; exact .inr (.inr (.inr (.inr (.inr (.inr (.inr (.inr (.inr (.inr (.inr (.inr hp))))))))))))) (g4 p hp _ (.tail _ (.head _))) (g4 p hp _ (.tail _ (.tail _ (.head _)))) (g4 p hp _ (.tail _ (.tail _ (.tail _ (.head _)))))
    rcases hp with rfl | rfl | rfl | rfl | hp | hp | rfl | rfl | rfl
    · exact four (lt (la, _) (.tail _ (.tail _ (.tail _ (.tail _ (.tail _ (.tail _ (.tail _ (.tail _ (.tail _ (.tail _ (.head _)))))))))))) g1.2.1 g1.2.2.1 g1.2.2.2
    · exact four (lt (D, _) (.tail _ (.tail _ (.tail _ (.tail _ (.tail _ (.tail _ (.tail _ (.tail _ (.tail _ (.tail _ (.tail _ (.head _))))))))))))) g2.2.1 g2.2.2.1 g2.2.2.2
    · exact four (lt (c1, _) (.tail _ (.tail _ (.tail _ (.tail _ (.tail _ (.tail _ (.head _)))))))) o1c.2.1 o1c.2.2.1 o1c.2.2.2
    · exact four (lt (c2, _) (.tail _ (.tail _ (.tail _ (.tail _ (.head _)))))) o2c.2.1 o2c.2.2.1 o2c.2.2.2
    · exact ownFour p (List.mem_append_left _ hp)
    · exact ownFour p (List.mem_append_right _ hp)
    · exact four (lt (aba, _) (.tail _ (.head _))) (Nat.ne_of_gt a1.1) (Nat.ne_of_gt a1.2.1) (Nat.ne_of_gt a1.2.2)
    · exact four (lt (ala, _) (.tail _ (.tail _ (.head _)))) (Nat.ne_of_gt a2.1) (Nat.ne_of_gt a2.2.1) (Nat.ne_of_gt a2.2.2)
    · exact four (lt (ya, _) (.tail _ (.tail _ (.tail _ (.head _))))) (Nat.ne_of_gt a3.1) (Nat.ne_of_gt a3.2.1) (Nat.ne_of_gt a3.2.2)
  · show li ++ ahead (qi ++ [(⟨aba, abc, abv, aboveOf qx mid⟩ : Qi), ⟨ala, alc, alv, alikeOf qx mid⟩, ⟨ya, yc, yv, belowOf qx mid⟩]) = srt row
    rw [ahead_snoc, srt_parts qx mid] at p1
    have e : qi ++ [(⟨aba, abc, abv, aboveOf qx mid⟩ : Qi), ⟨ala, alc, alv, alikeOf qx mid⟩, ⟨ya, yc, yv, belowOf qx mid⟩] = ((qi ++ [⟨aba, abc, abv, aboveOf qx mid⟩]) ++ [⟨ala, alc, alv, alikeOf qx mid⟩]) ++ [⟨ya, yc, yv, belowOf qx mid⟩] := by simp
    rw [e, ahead_snoc, ahead_snoc, ahead_snoc]
    simpa using p1
  · show ((qi ++ [(⟨aba, abc, abv, aboveOf qx mid⟩ : Qi), ⟨ala, alc, alv, alikeOf qx mid⟩, ⟨ya, yc, yv, belowOf qx mid⟩]).map fun q => cost q.i).sum ≤ 2000
    rw [hmu']
    omega
  · show ((qi ++ [(⟨aba, abc, abv, aboveOf qx mid⟩ : Qi), ⟨ala, alc, alv, alikeOf qx mid⟩, ⟨ya, yc, yv, belowOf qx mid⟩]).map fun q => cost q.i).sum < _
    rw [hmu']
    omega
end
end Mine
end
section
open PySem PySem.W PyProof.Rows PySem.Spec PySem.Calls
namespace Mine
section
variable {prog : Program} {w : World} {A : Around} {h₀ : Heap} {L : Addr} {m : Str → Option Value} {env : Env} {ct elt : PySem.Expr} {x : Str} {scope : Scope} {cl : List (Str × Addr)} {s : Shared} {S : List (Addr × Obj) → Prop} {Fin : List Value → List (Addr × Obj) → Prop} {news : List (Addr × Obj)}
/-- a comprehension that keeps the ints of which P is true -/
theorem filt_rest {vs : List Value} {ns : List Int} (P : Int → Bool) (hi : IntsAre vs ns) (hS : S news)
    (turn : ∀ k t I oI C oC D m₂ ys h tk (E' : Value → Shared → Prop) (R1 : Value → Shared → Prop) (R2 : Shared → Prop), LCg.NsObj oC m₂ → m₂ x = some (.int k t) → Fr h₀ L h m → News h₀ L h ((I, oI) :: (C, oC) :: (D, LCg.lst ys) :: news) →
      (P k = true → ∀ h' tk', Fr h₀ L h' m → News h₀ L h' ((I, oI) :: (C, oC) :: (D, LCg.lst ys) :: news) → R1 (.int k t) { s with heap := h', toks := tk' }) →
      (P k = false → ∀ h' tk', Fr h₀ L h' m → News h₀ L h' ((I, oI) :: (C, oC) :: (D, LCg.lst ys) :: news) → R2 { s with heap := h', toks := tk' }) →
      wpAny (model prog w) A (isTrue ct (compEnvC scope cl C env) (eval ct (compEnvC scope cl C env))) (fun ok s' => if ok = true then wpAny (model prog w) A (eval elt (compEnvC scope cl C env)) R1 E' s' else R2 s') E' { s with heap := h, toks := tk })
    (fin : ∀ ys, IntsAre ys (ns.filter P) → Fin ys news) : LCt.CompRestT prog w A h₀ L m env ct elt x scope cl s S (fun i v => vs.toArray[i]? = some v) Fin vs.toArray.size 0 [] news := by
  have hn : vs.toArray.size = ns.length := by rw [List.size_toArray]; exact hi.length
  rw [hn]
  have key : ∀ (j i : Nat) (ys : List Value), i + j = ns.length → IntsAre ys ((ns.take i).filter P) → LCt.CompRestT prog w A h₀ L m env ct elt x scope cl s S (fun i v => vs.toArray[i]? = some v) Fin j i ys news := by
    intro j
    induction j with
    | zero =>
      intro i ys hij hy
      rw [List.take_of_length_le (by omega)] at hy
      exact LCt.CompRestT.zero (fin ys hy)
    | succ j ih =>
      intro i ys hij hy
      refine LCt.CompRestT.succ ?_
      intro v I oI C oC D m₂ h tk E' hv hC hx F N off ne
      obtain ⟨k, t, hv', hk⟩ := IntsAre.at hi i v (by simpa using hv)
      rw [hv'] at hx
      have htk : ns.take (i + 1) = ns.take i ++ [k] := by simp [List.take_add_one, hk]
      refine turn k t I oI C oC D m₂ ys h tk E' _ _ hC hx F N ?_ ?_
      · intro hp h' tk' F' N'
        refine ⟨h', tk', news, rfl, F', N', off, hS, ih (i + 1) _ (by omega) ?_⟩
        rw [htk, List.filter_append]
        have e : List.filter P [k] = [k] := by simp [hp]
        rw [e]
        exact IntsAre.append hy (.cons k t .nil)
      · intro hp h' tk' F' N'
        refine ⟨h', tk', news, rfl, F', N', off, hS, ih (i + 1) _ (by omega) ?_⟩
        rw [htk, List.filter_append]
        have e : List.filter P [k] = [] := by simp [hp]
        rw [e, List.append_nil]
        exact hy
  exact key ns.length 0 [] (by omega) (by simp only [List.take_zero, List.filter_nil]; exact .nil)
end
end Mine
end
section
open PySem PySem.W PyProof.Rows PySem.Spec PySem.Calls
namespace Mine
abbrev twoOf (a b : Addr) : Obj := { cls := .type "tuple", data := .seq #[.ref a, .ref b] }
section
variable {prog : Program} {w : World} {A : Around} {E : Value → Shared → Prop} {s : Shared} {h₀ : Heap} {L : Addr} {Q : Value → Shared → Prop}
theorem reads_two {h : Heap} {t a b : Addr} {va vb : List Value} {na nb : Nat} {xs ys : List Int} (ht : h.get? t = some (twoOf a b)) (ha : h.get? a = some (W.listOf va.toArray na)) (hb : h.get? b = some (W.listOf vb.toArray nb)) (ia : IntsAre va xs) (ib : IntsAre vb ys) :
    Reads h (.ref t) (.tuple [.list (xs.map PyData.int), .list (ys.map PyData.int)]) ([a] ++ ([b] ++ [])) :=
  reads_tuple_at ht rfl rfl (.cons (reads_newData ⟨_, ha, rfl, na, rfl⟩ (ke_carried ia)) (.cons (reads_newData ⟨_, hb, rfl, nb, rfl⟩ (ke_carried ib)) .nil))
theorem shaped_two (xs ys : List Int) : SeqAt.shaped (.tuple [.list (xs.map PyData.int), .list (ys.map PyData.int)]) = true := by
  simp [SeqAt.shaped, PyData.canLay0, PyData.canLayAll0, PyData.depth, PyData.depthAll, ke_canLayAll0, ke_depthAll]
theorem eqv_two (xs ys : List Int) : PyData.eqv (.tuple [.list (xs.map PyData.int), .list (ys.map PyData.int)]) (.tuple [.list (xs.map PyData.int), .list (ys.map PyData.int)]) = true := by
  simp [PyData.eqv, PyData.eqvAll, ked_eqvAll]
/-- what _split_list told is what the two comprehensions say -/
theorem told_same {T DA DB na ta ya : Addr} {vA vB nv yv : List Value} {kA kB nc yc : Nat} {xs ys : List Int} {x3 x4 x6 x7 : Addr × Obj} {r : List (Addr × Obj)}
    (N : News h₀ L s.heap ((T, twoOf DA DB) :: (DB, W.listOf vB.toArray kB) :: (DA, W.listOf vA.toArray kA) :: x3 :: x4 :: (na, W.listOf nv.toArray nc) :: x6 :: x7 :: (ta, twoOf ya na) :: (ya, W.listOf yv.toArray yc) :: r))
    (iA : IntsAre vA xs) (iB : IntsAre vB ys) (iy : IntsAre yv xs) (iN : IntsAre nv ys) (hu : A.units + 64 < cLine) (h : Q (.bool false) s) :
    wpAny (model prog w) A (compareOp .NotEq (.ref ta) (.ref T)) Q E s := by
  have t1 := (N _ (.head _)).1
  have t2 := (N _ (.tail _ (.head _))).1
  have t3 := (N _ (.tail _ (.tail _ (.head _)))).1
  have t4 := (N _ (.tail _ (.tail _ (.tail _ (.tail _ (.tail _ (.head _))))))).1
  have t5 := (N _ (.tail _ (.tail _ (.tail _ (.tail _ (.tail _ (.tail _ (.tail _ (.tail _ (.head _)))))))))).1
  have t6 := (N _ (.tail _ (.tail _ (.tail _ (.tail _ (.tail _ (.tail _ (.tail _ (.tail _ (.tail _ (.head _))))))))))).1
  refine ne_dataH (reads_two t5 t6 t4 iy iN) (reads_two t1 t3 t2 iA iB) (shaped_two _ _) (shaped_two _ _) hu ?_
  rw [eqv_two]
  exact h
end
end Mine
end
section
open PySem PySem.W PyProof.Rows
namespace Mine
local macro_rules | `(tactic| walk_at $s:str) => `(tactic| k_extra $s)
local macro_rules | `(tactic| walk_at "TurnPost") => `(tactic| (dsimp only [TurnPost]))
theorem laid_eq {li n' row : List Int} (p1 : li ++ ahead [] = srt row) (pm : n'.Perm row) (pw : n'.Pairwise (· ≤ ·)) : n' = li := by
  rw [srt_unique pm pw, ← p1]; simp [ahead]
theorem off4 {own : List (Addr × Obj)} {x y z v a : Addr} {o : Obj} (h : OwnOff own [x, y, z, v]) (hm : (a, o) ∈ own) : @Ne Nat a x ∧ @Ne Nat a y ∧ @Ne Nat a z ∧ @Ne Nat a v :=
  ⟨h _ hm _ (.head _), h _ hm _ (.tail _ (.head _)), h _ hm _ (.tail _ (.tail _ (.head _))), h _ hm _ (.tail _ (.tail _ (.tail _ (.head _))))⟩
/-- the ledger of a turn, its stretch ahead -/
theorem ledC {D cm cp tb pa la : Addr} {pn ln : Nat} {oD o1 o2 : Obj} {lv : List Value} {li : List Int} {tab : Array Value} {ext : List (Addr × Obj)} {qi : List Qi} {q : Qi} {h₀ h : Heap} {L : Addr}
    (N : News h₀ L h (St.led D cm cp tb oD ⟨pa, pn, la, ln, lv, li, o1, o2, tab, ext, qi ++ [q]⟩)) :
    News h₀ L h ((pa, W.listOf ((qi.map fun q => Value.ref q.a) ++ [Value.ref q.a]).toArray pn) :: (cm, o2) :: (cp, o1) :: (tb, tabObj tab) :: (la, W.listOf lv.toArray ln) :: (D, oD) :: (q.a, W.listOf q.v.toArray q.n) :: (ext ++ qi.map Qi.ent)) := by
  intro p hp
  refine N p ?_
  simp only [St.led, St.rest, List.map_append, List.map_cons, List.map_nil, List.mem_cons, List.mem_append, List.not_mem_nil, or_false] at hp ⊢
  rcases hp with h | h | h | h | h | h | h | h | h <;> simp [h]
theorem restC {D pa cm cp tb la : Addr} {pn ln : Nat} {oD o1 o2 : Obj} {lv : List Value} {li : List Int} {tab : Array Value} {ext : List (Addr × Obj)} {qi : List Qi} {q : Qi}
    (h : OwnOff (St.rest D oD ⟨pa, pn, la, ln, lv, li, o1, o2, tab, ext, qi ++ [q]⟩) [pa, cm, cp, tb]) :
    OwnOff ((la, W.listOf lv.toArray ln) :: (D, oD) :: (q.a, W.listOf q.v.toArray q.n) :: (ext ++ qi.map Qi.ent)) [pa, cm, cp, tb] := offSub h fun p hp => by
  simp only [St.rest, List.map_append, List.map_cons, List.map_nil, List.mem_cons, List.mem_append, List.not_mem_nil, or_false] at hp ⊢
  rcases hp with h | h | h | h | h <;> simp [h]
theorem len_pile {prog : Program} {w : World} {A : Around} {E : Value → Shared → Prop} {s : Shared} {h₀ : Heap} {L pa : Addr} {pv : List Value} {y : Value} {n : Nat} {news : List (Addr × Obj)} {Q : Value → Shared → Prop}
    (N : News h₀ L s.heap ((pa, W.listOf (pv ++ [y]).toArray n) :: news)) (hz : pv.length + 1 ≤ 2000) (h : Q (.int ((pv.length : Int) + 1) (s.toks + 1)) { s with toks := s.toks + 1 + 1 }) : wpAny (model prog w) A (call (.builtin "len") [.ref pa]) Q E s := by
  have e : (((pv ++ [y]).toArray.size : Nat) : Int) = (pv.length : Int) + 1 := by simp
  refine len_list (items := (pv ++ [y]).toArray) ⟨_, (N _ (.head _)).1, rfl, n, rfl⟩ (by rw [e]; omega) ?_
  rw [e]
  exact h
theorem pile_pop {prog : Program} {w : World} {A : Around} {E : Value → Shared → Prop} {s : Shared} {h₀ : Heap} {L pa : Addr} {m : Str → Option Value} {pv : List Value} {y : Value} {n : Nat} {news : List (Addr × Obj)} {Q : Value → Shared → Prop}
    (F : Fr h₀ L s.heap m) (N : News h₀ L s.heap ((pa, W.listOf (pv ++ [y]).toArray n) :: news)) (off : ∀ p ∈ news, p.1 ≠ pa) (hz : pv.length + 1 ≤ 2000)
    (h : ∀ h', Fr h₀ L h' m → News h₀ L h' ((pa, W.listOf pv.toArray (n + 1)) :: news) → Q y { s with heap := h' }) : wpAny (model prog w) A (call (.builtin "list.pop") [.ref pa]) Q E s :=
  kl_pop F N (its := (pv ++ [y]).toArray) (p := pv) (y := y) (kpa_last y pv) (Upd.head off) (by rw [sizeLine_eq]; simp only [List.length_append, List.length_cons, List.length_nil]; omega) h
theorem off_pile {pa cm cp tb la D qa : Addr} {o2 o1 ot ol od oq : Obj} {own : List (Addr × Obj)} (f7 : @Ne Nat pa cm) (f8 : @Ne Nat pa cp) (f9 : @Ne Nat pa tb) (g1 : @Ne Nat la pa) (g2 : @Ne Nat D pa) (g3 : @Ne Nat qa pa) (g4 : OwnOff own [pa, cm, cp, tb]) :
    ∀ p ∈ (cm, o2) :: (cp, o1) :: (tb, ot) :: (la, ol) :: (D, od) :: (qa, oq) :: own, p.1 ≠ pa := by
  intro p hp
  simp only [List.mem_cons] at hp
  rcases hp with rfl | rfl | rfl | rfl | rfl | rfl | hp
  · exact Ne.symm f7
  · exact Ne.symm f8
  · exact Ne.symm f9
  · exact g1
  · exact g2
  · exact g3
  · exact g4 p hp pa (.head _)
theorem off_tab {pa cm cp tb la D qa Dm : Addr} {om op o2 o1 ol od oq : Obj} {own : List (Addr × Obj)} (fm : @Ne Nat tb Dm) (f9 : @Ne Nat pa tb) (f11 : @Ne Nat cm tb) (f12 : @Ne Nat cp tb) (g1 : @Ne Nat la tb) (g2 : @Ne Nat D tb) (g3 : @Ne Nat qa tb) (g4 : OwnOff own [pa, cm, cp, tb]) :
    ∀ p ∈ (Dm, om) :: (pa, op) :: (cm, o2) :: (cp, o1) :: (la, ol) :: (D, od) :: (qa, oq) :: own, p.1 ≠ tb := by
  intro p hp
  simp only [List.mem_cons] at hp
  rcases hp with rfl | rfl | rfl | rfl | rfl | rfl | rfl | hp
  · exact Ne.symm fm
  · exact f9
  · exact f11
  · exact f12
  · exact g1
  · exact g2
  · exact g3
  · exact g4 p hp tb (.tail _ (.tail _ (.tail _ (.head _))))
theorem up7 {x1 x2 x3 x4 x5 x6 x7 : Addr × Obj} {own : List (Addr × Obj)} : ∀ p ∈ own, p ∈ x1 :: x2 :: x3 :: x4 :: x5 :: x6 :: x7 :: own := fun _ hp => .tail _ (.tail _ (.tail _ (.tail _ (.tail _ (.tail _ (.tail _ hp))))))
theorem need3 {f c x1 x2 x3 m : Addr × Obj} {r : List (Addr × Obj)} : ∀ q ∈ [f, c, m], q ∈ f :: c :: x1 :: x2 :: x3 :: m :: r := by
  intro q hq
  simp only [List.mem_cons, List.not_mem_nil, or_false] at hq ⊢
  rcases hq with h | h | h <;> simp [h]
theorem drop5 {h₀ h : Heap} {L : Addr} {a b c d e : Addr × Obj} {r : List (Addr × Obj)} (N : News h₀ L h (a :: b :: c :: d :: e :: r)) : News h₀ L h (a :: b :: c :: d :: r) := sub_news N fun p hp => by
  simp only [List.mem_cons] at hp ⊢
  rcases hp with h | h | h | h | h <;> simp [h]
theorem ite_no {P : Prop} {dP : Decidable P} {T F : Prop} (h : ¬ P) (f : F) : if @decide P dP = true then T else F := by
  rw [if_neg (by simpa using h)]
  exact f
/-- a fact laid aside, out of omega's sight -/
structure Aside (p : Prop) : Prop where
  out : p
theorem tidy {h₀ h : Heap} {L : Addr} {a0 a1 a2 a3 a4 a5 a6 a7 a8 a9 b0 b1 b2 b3 b4 b5 b6 : Addr × Obj} {r : List (Addr × Obj)} (N : News h₀ L h (a0 :: a1 :: a2 :: a3 :: a4 :: a5 :: a6 :: a7 :: a8 :: a9 :: b0 :: b1 :: b2 :: b3 :: b4 :: b5 :: b6 :: r)) :
    News h₀ L h (a2 :: a3 :: a4 :: a5 :: a6 :: a7 :: a8 :: a9 :: b0 :: b2 :: b3 :: b4 :: b5 :: b6 :: r) := sub_news N fun p hp => by
  simp only [List.mem_cons] at hp ⊢
  rcases hp with h | h | h | h | h | h | h | h | h | h | h | h | h | h | h <;> simp [h]
theorem mem8 {a b c d e f g i : Addr × Obj} {r : List (Addr × Obj)} : i ∈ a :: b :: c :: d :: e :: f :: g :: i :: r := .tail _ (.tail _ (.tail _ (.tail _ (.tail _ (.tail _ (.tail _ (.head _)))))))
theorem mem9 {a b c d e f g i j : Addr × Obj} {r : List (Addr × Obj)} : j ∈ a :: b :: c :: d :: e :: f :: g :: i :: j :: r := .tail _ mem8
theorem ite_bne {a b : Int} {T F : Prop} (h : a = b) (f : F) : if (a != b) = true then T else F := by
  rw [if_neg (by simp [h])]
  exact f
theorem add_laid {prog : Program} {w : World} {A : Around} {E : Value → Shared → Prop} {s : Shared} {h₀ : Heap} {L la ala : Addr} {m : Str → Option Value} {lv alv : List Value} {ln alc : Nat} {li alk : List Int} {c2 tb c1 pa cm cp D : Addr × Obj} {r : List (Addr × Obj)} {Q : Value → Shared → Prop}
    (F : Fr h₀ L s.heap m) (N : News h₀ L s.heap ((ala, W.listOf alv.toArray alc) :: c2 :: tb :: c1 :: pa :: cm :: cp :: (la, W.listOf lv.toArray ln) :: D :: r)) (i1 : IntsAre lv li) (i2 : IntsAre alv alk) (hz : li.length + alk.length ≤ 1000)
    (h : ∀ D' us h', Fr h₀ L h' m → News h₀ L h' ((D', W.listOf (List.toArray us) 0) :: (ala, W.listOf alv.toArray alc) :: c2 :: tb :: c1 :: pa :: cm :: cp :: (la, W.listOf lv.toArray ln) :: D :: r) →
      (∀ p ∈ (ala, W.listOf alv.toArray alc) :: c2 :: tb :: c1 :: pa :: cm :: cp :: (la, W.listOf lv.toArray ln) :: D :: r, p.1 < D') → IntsAre us (li ++ alk) → Q (.ref D') { s with heap := h' }) :
    wpAny (model prog w) A (binaryOp .Add (.ref la) (.ref ala)) Q E s :=
  kmk_add_ints F N ⟨_, (N _ mem8).1, rfl, ln, rfl⟩ ⟨_, (N _ (.head _)).1, rfl, alc, rfl⟩ i1 i2 h (by rw [sizeLine_eq]; omega)
theorem add_pile {prog : Program} {w : World} {A : Around} {E : Value → Shared → Prop} {s : Shared} {h₀ : Heap} {L pa T : Addr} {m : Str → Option Value} {pv : List Value} {pn kt : Nat} {x y z : Value} {a1 a2 a3 a4 a5 a6 : Addr × Obj} {r : List (Addr × Obj)} {Q : Value → Shared → Prop}
    (F : Fr h₀ L s.heap m) (N : News h₀ L s.heap ((T, W.listOf #[x, y, z] kt) :: a1 :: a2 :: a3 :: a4 :: a5 :: a6 :: (pa, W.listOf pv.toArray pn) :: r)) (hz : pv.length + 1 ≤ 2000)
    (h : ∀ D' h', Fr h₀ L h' m → News h₀ L h' ((D', W.listOf (pv ++ [x, y, z]).toArray 0) :: (T, W.listOf #[x, y, z] kt) :: a1 :: a2 :: a3 :: a4 :: a5 :: a6 :: (pa, W.listOf pv.toArray pn) :: r) →
      (∀ p ∈ (T, W.listOf #[x, y, z] kt) :: a1 :: a2 :: a3 :: a4 :: a5 :: a6 :: (pa, W.listOf pv.toArray pn) :: r, p.1 < D') → Q (.ref D') { s with heap := h' }) :
    wpAny (model prog w) A (binaryOp .Add (.ref pa) (.ref T)) Q E s :=
  kmk_add_lit F N (its := pv.toArray) (its2 := #[x, y, z]) ⟨_, (N _ mem8).1, rfl, pn, rfl⟩ ⟨_, (N _ (.head _)).1, rfl, kt, rfl⟩ rfl h (by rw [sizeLine_eq]; simp only [List.length_cons, List.length_nil]; omega)
theorem cell_none {o : Obj} {a : Option Value} (h : o.data = .cell a) : ∃ v, o.data = .cell v := ⟨_, h⟩
set_option maxRecDepth 100000 in
set_option maxHeartbeats 8000000 in
theorem t : PySem.Challenge.rw_rl0005_01.Holds := hd (by
  k_with_none
  k_with "exec While Compare cons nil" => refine stop ?_
  w_strict (k_go0; (all_goals try k_fold); k_steps)
  k_with_none
  unfold Stop
  rename Fr _ _ _ _ => F9
  rename News _ _ _ _ => N9
  rename IntsAre _ _ => hI9
  k_dflt (refine big_while F9 N9 hI9 ?hlen (cell_none (by assumption)) (cell_none (by assumption)) ?hoff ?n1 ?n2 ?n3 ?n4 ?n5 ?n6 (by with_unfolding_all rfl) (by with_unfolding_all rfl) (by with_unfolding_all rfl) ?turn ?hE)
  case hlen => simp only [List.length_map, List.length_append, List.length_cons, List.length_nil, List.length_take]; omega
  case n1 => omega
  case n2 => omega
  case n3 => omega
  case n4 => omega
  case n5 => omega
  case n6 => omega
  case hE => first | passes_own | with_unfolding_all passes_own
  case hoff => 
    intro p hp b hb
    simp only [List.mem_cons, List.not_mem_nil, or_false] at hp hb
    rcases hp with rfl | rfl <;> rcases hb with rfl | rfl | rfl | rfl <;> (refine neN ?_; dsimp only; omega)
  case turn =>
    clear F9 N9
    intro c u h9 tk9 hrow hf hp F9 N9
    obtain ⟨pa, pn, la, ln, lv, li, o1, o2, tab, ext, qs⟩ := c
    obtain ⟨f1, f2, ⟨v1, f3⟩, ⟨v2, f4⟩, f5, f6, f7, f8, f9, f10, f11, f12⟩ := hf
    obtain ⟨p1, p2, p3⟩ := hp
    dsimp only at f1 f2 f3 f4 f5 f6 f7 f8 f9 f10 f11 f12 p1 p2 p3
    rcases List.eq_nil_or_concat qs with hq | ⟨qi, q, hq⟩
    · subst hq
      dsimp only [St.led, St.rest, List.map_nil, List.append_nil] at N9 F9
      (try k_fold)
      k_with "compareOp Eq ref ref" => refine stop ?_
      w_strict (k_steps)
      k_with_none
      unfold Stop
      rename List.Perm _ _ => pm9
      rename List.Pairwise _ _ => pw9
      have e9 := laid_eq p1 pm9 pw9
      subst e9
      w_strict (k_steps)
    · rw [List.concat_eq_append] at hq
      subst hq
      have fq := f1 q (by simp)
      have fqi : ∀ q ∈ qi, IntsAre q.v q.i := fun x hx => f1 x (by simp [hx])
      have hpl : (qi.map fun q => Value.ref q.a).length + 1 ≤ 2000 := by
        rw [List.length_append] at p3
        simp only [List.length_cons, List.length_nil, List.length_map] at p3 ⊢
        omega
      replace N9 := ledC N9
      replace f6 := restC f6
      have g1 := off4 f6 (.head _)
      have g2 := off4 f6 (.tail _ (.head _))
      have g3 := off4 f6 (.tail _ (.tail _ (.head _)))
      have g4 : OwnOff (ext ++ qi.map Qi.ent) _ := offSub f6 fun p hp => .tail _ (.tail _ (.tail _ hp))
      have f5o : TabOk tab (ext ++ qi.map Qi.ent) := f5.mono fun p hp => List.mem_append_left _ hp
      obtain ⟨qa, qn, qv, qx⟩ := q
      dsimp only at *
      generalize hpv : (qi.map fun q => Value.ref q.a) = pv at N9 hpl
      generalize hown : ext ++ qi.map Qi.ent = own at N9 g4 f5o f6
      (try k_fold)
      k_with "call builtin:len" => (k_dflt (refine len_pile N9 hpl ?_))
      k_with "getMethod ref" => (k_dflt (refine kl_method N9 (List.Mem.head _) PySem.F.slot_list_pop PySem.F.type_list_pop ?_))
      k_with "call builtin:list.pop" => refine stop ?_
      w_strict (k_steps)
      k_with_none
      unfold Stop
      rename Fr _ _ _ _ => kF
      rename News _ _ _ _ => kN
      k_dflt (refine pile_pop kF kN (off_pile f7 f8 f9 g1.1 g2.1 g3.1 g4) hpl ?_)
      intro h' F' N'
      clear kF kN
      k_with "exec Assign cons ListComp" => refine stop ?_
      k_with "TurnEnd" => refine stop ?_
      w_strict (k_steps)
      k_with_none
      · unfold Stop
        rename Fr _ _ _ _ => kF
        rename News _ _ _ _ => kN
        exact turn_empty kF kN hpv hown fqi f2 (by assumption) f4 f5 f6 f7 f8 f9 f10 f11 f12 (by with_unfolding_all rfl) (by with_unfolding_all rfl) (by with_unfolding_all rfl) p1 p2 p3 (by first | assumption | exact of_decide_eq_true (by assumption))
      · unfold Stop
        have hql : qx.length ≤ 20 := len_q p1 hrow
        have hne : 0 < qx.length := by
          rcases qx with _ | ⟨x, r⟩
          · rename decide _ = false => hd0
            simp at hd0
          · simp
        rename Fr _ _ _ _ => kF
        rename News _ _ _ _ => kN
        replace kN := cb_drop kN (fun p hp => List.Mem.tail _ hp)
        k_dflt (refine assign_five kF rfl (by with_unfolding_all rfl) (by with_unfolding_all rfl) (by decide) rfl (by decide) rfl rfl rfl ?_)
        k_with "SrcFive" => refine stop ?_
        w_strict (k_steps)
        k_with_none
        unfold Stop
        rename Fr _ _ _ _ => kF
        rename News _ _ _ _ => kN
        k_dflt (refine SrcFive.intro rfl kF kN (by assumption) (five_small hql) (five_size hne) (by rw [sizeLine_eq]; omega) ?_)
        intro g
        k_dflt (refine kcf_rest (ks := fiveKs qx.length) (fun k => medLow ((qx.drop k.toNat).take 5)) (fiveKs_length _) (fun i v hi hv => fiveKs_at _ i v hi hv) ?_ ?_)
        · clear kF kN
          intro k t I oI C oC Dc m₂ ysc h tkc E' hk hC hx F' N' off ne _
          have hk2 := mem_fiveKs hk hne
          (try k_fold)
          k_with "call ref" => refine stop ?_
          w_strict (k_steps)
          k_with_none
          unfold Stop
          rename Fr _ _ _ _ => kF
          rename News _ _ _ _ => kN
          rename IntsAre _ _ => kI
          rename Below _ _ _ _ => kB
          rename Top _ _ _ _ _ _ => kT
          rename Frag.In _ _ => kX
          rw [five_take hk2.1] at kI
          k_dflt (refine' med_call0 kB kF kX kN kT rfl kI ?mA ?mB ?mC ?mD ?_)
          case mA => (simp only [List.length_take, List.length_drop]; omega)
          case mB => (simp only [List.length_take, List.length_drop]; omega)
          case mC => ktr_room
          case mD => ktr_units
          intro t9 h9 tk9 F9 N9
          k_dflt (exact LCg.CompEnd.intro F9 N9 _ (fun p hp => List.Mem.tail _ hp) off trivial ⟨rfl, t9, rfl⟩)
        · unfold KPfDone
          intro yms hyms
          have hmlen : ((fiveKs qx.length).map fun k => medLow ((qx.drop k.toNat).take 5)).length = (qx.length - 1) / 5 + 1 := by rw [List.length_map, fiveKs_length]
          generalize hmids : ((fiveKs qx.length).map fun k => medLow ((qx.drop k.toNat).take 5)) = mids at hyms hmlen
          unfold LCg.FinA
          clear kF kN
          intro Dm h8 tk8 F8 N8 off8
          simp only [LCg.Off1, and_true] at off8
          (try k_unfold)
          (try dsimp only)
          (try k_fold)
          k_with "call ref" => refine stop ?_
          w_strict (k_steps)
          k_with_none
          unfold Stop
          rename Fr _ _ _ _ => kF
          rename News _ _ _ _ => kN
          rename Below _ _ _ _ => kB
          rename Top _ _ _ _ _ _ => kT
          rename Frag.In _ _ => kX
          k_dflt (refine' med_call0 kB kF kX kN kT rfl hyms ?mA ?mB ?mC ?mD ?_)
          case mA => omega
          case mB => omega
          case mC => ktr_room
          case mD => ktr_units
          clear kF kN
          intro t9 h9 tk9 F9 N9
          (try k_fold)
          k_with "eval Lambda" => refine stop ?_
          w_strict (k_steps)
          k_with_none
          unfold Stop
          rename Fr _ _ _ _ => kF
          rename News _ _ _ _ => kN
          rename (Obj.data _ = Data.cell (some (Value.int (medLow mids) t9))) => dmid
          replace g1 := Aside.mk g1
          replace g2 := Aside.mk g2
          replace g3 := Aside.mk g3
          replace f7 := Aside.mk f7
          replace f8 := Aside.mk f8
          replace f9 := Aside.mk f9
          replace f10 := Aside.mk f10
          replace f11 := Aside.mk f11
          replace f12 := Aside.mk f12
          replace off8 := Aside.mk off8
          (repeat ((rename (@Ne Nat _ _ ∧ _) => zz); clear zz))
          rename CodeHd _ _ _ => kC
          replace kN := fifth kN
          k_dflt (refine lam_first kF kN (off_tab off8.out.2.2.2.1 f9.out f11.out f12.out g1.out.2.2.2 g2.out.2.2.2 g3.out.2.2.2 g4) kT kC rfl rfl rfl qual_law f5o up7 ?_)
          clear kF kN
          intro fl c1 oc1 tab1 ctv h10 tk10 F10 N10 kc1 tm1 lf1 lc1
          replace N10 := tenth N10
          (try k_fold)
          k_with "call ref" => refine stop ?_
          k_with "callWith ref" => (k_dflt (refine' callWith_F ?k1 ?_; (case k1 => exact FnAt.of (by k_asm) (by k_mem)); k_whole))
          w_strict (k_steps)
          k_with_none
          unfold Stop
          rename Fr _ _ _ _ => kF
          rename News _ _ _ _ => kN
          k_dflt (refine' split_call0 kB kF kX kN kT rfl fq ?mA ?mB (predLt kc1 dmid) need3 ?_)
          case mA => omega
          case mB => ktr_room
          clear kF kN
          intro ta ya na yv nv yc nc h11 tk11 F11 N11 hyv hnv ly1 ly2 ly3
          generalize hmid : medLow mids = mid at dmid hyv hnv
          generalize hbel : qx.filter (fun x => decide (x < mid)) = bel at hyv
          generalize hrst : qx.filter (fun x => !decide (x < mid)) = rst at hnv
          have hbl : bel.length ≤ qx.length := by rw [← hbel]; exact List.length_filter_le ..
          have hrl : rst.length ≤ qx.length := by rw [← hrst]; exact List.length_filter_le ..
          (try k_fold)
          k_with "eval Lambda" => refine stop ?_
          w_strict (k_steps)
          k_with_none
          unfold Stop
          rename Fr _ _ _ _ => kF
          rename News _ _ _ _ => kN
          have o1c := Aside.mk (c_off lc1 g4 (.tail _ (.tail _ (.head _))) (.tail _ (.tail _ (.tail _ (.head _)))) (.tail _ (.tail _ (.tail _ (.tail _ (.head _))))) (.head _))
          have ltb := ly1 (43, tabObj tab1) (.tail _ (.tail _ (.tail _ (.head _))))
          have ltq := ly1 (qa, W.listOf qv.toArray qn) (.head _)
          dsimp only at ltb ltq
          replace kN := front7 kN
          k_dflt (refine lam_second kF kN (off_all (Nat.ne_of_gt (Nat.lt_trans (Nat.lt_trans ltb ly2) ly3)) (Nat.ne_of_gt (Nat.lt_trans ltb ly2)) (Nat.ne_of_gt ltb) g3.out.2.2.2 o1c.out.2.2.2 (Ne.symm off8.out.2.2.2.1) f9.out f11.out f12.out g1.out.2.2.2 g2.out.2.2.2 (g4.ne (.tail _ (.tail _ (.tail _ (.head _)))))) kT kC rfl rfl rfl qual_law tm1 up11 ?_)
          clear kF kN
          intro fl2 c2 oc2 ctv2 h12 tk12 F12 N12 kc2 lf2 lc2
          replace N12 := front5 N12
          (try k_fold)
          k_with "call ref" => refine stop ?_
          k_with "callWith ref" => (k_dflt (refine' callWith_F ?k1 ?_; (case k1 => exact FnAt.of (by k_asm) (by k_mem)); k_whole))
          w_strict (k_steps)
          k_with_none
          unfold Stop
          rename Fr _ _ _ _ => kF
          rename News _ _ _ _ => kN
          k_dflt (refine' split_call0 kB kF kX kN kT rfl hnv ?mA ?mB (predEq kc2 dmid) need10 ?_)
          case mA => omega
          case mB => ktr_room
          clear kF kN
          intro tb2 ala aba alv abv alc abc h13 tk13 F13 N13 halv habv la1 la2 la3
          replace N13 := drop5 N13
          have o2c := Aside.mk (c_off lc2 g4 (.tail _ (.tail _ (.tail _ (.tail _ (.tail _ (.tail _ (.tail _ (.head _)))))))) (.tail _ (.tail _ (.tail _ (.tail _ (.tail _ (.tail _ (.tail _ (.tail _ (.head _))))))))) (.tail _ (.tail _ (.tail _ (.tail _ (.tail _ (.tail _ (.tail _ (.tail _ (.tail _ (.head _)))))))))) (.head _))
          have hmids' : mids = midsOf qx := hmids.symm
          have C1 := cnt_below hne
          have C2 := cnt_above hne
          have C3 := len_rest qx mid
          have C4 := alike_ne hne
          have C5 := parts_len qx mid
          rw [← hmids', hmid] at C1 C2 C4
          have hbel' : belowOf qx mid = bel := hbel
          have hrst' : restOf qx mid = rst := hrst
          generalize hal : rst.filter (fun x => decide (x = mid)) = alk at halv
          generalize hab : rst.filter (fun x => !decide (x = mid)) = abo at habv
          have hal' : alikeOf qx mid = alk := by rw [← hal, ← hrst']; rfl
          have hab' : aboveOf qx mid = abo := by rw [← hab, ← hrst']; rfl
          rw [hbel'] at C1 C5
          rw [hab'] at C2 C3 C5
          rw [hal'] at C3 C4 C5
          rw [hrst'] at C3
          (try k_fold)
          k_with "ite" => refine stop ?_
          w_strict (k_steps)
          k_with_none
          unfold Stop
          with_reducible refine ite_no C1 ?_
          (try dsimp only)
          k_with "ite" => refine stop ?_
          w_strict (k_steps)
          k_with_none
          unfold Stop
          with_reducible refine ite_no C2 ?_
          (try dsimp only)
          k_with "CompSrcT" => refine stop ?_
          w_strict (k_steps)
          k_with_none
          unfold Stop
          rename Fr _ _ _ _ => kF
          rename News _ _ _ _ => kN
          replace kN := tidy kN
          k_dflt (refine LCt.CompSrcT.ledger rfl kF kN mem8 (by rw [List.size_toArray, IntsAre.length fq, sizeLine_eq]; omega) ?_)
          intro gA
          k_dflt (refine filt_rest (fun x => decide (x < mid)) fq (.inr ⟨_, mem8, rfl, _, rfl⟩) ?_ ?_)
          · clear kF kN
            intro k t I oI C oC Dc m₂ ysc hc tkc E' R1 R2 hC hx F' N' h1 h2
            (try k_fold)
            w_strict (k_steps)
            · exact h1 (by first | assumption | exact decide_eq_true (by assumption)) _ _ (by assumption) (by assumption)
            · exact h2 (by first | assumption | exact decide_eq_false (by assumption)) _ _ (by assumption) (by assumption)
          · clear kF kN
            intro ysA hysA
            rw [hbel] at hysA
            unfold LCg.FinE
            intro DA hA tkA FA NA offA
            (try k_unfold)
            (try dsimp only)
            (try k_fold)
            k_with "CompSrcT" => refine stop ?_
            w_strict (k_steps)
            k_with_none
            unfold Stop
            rename Fr _ _ _ _ => kF
            rename News _ _ _ _ => kN
            k_dflt (refine LCt.CompSrcT.ledger rfl kF kN mem9 (by rw [List.size_toArray, IntsAre.length fq, sizeLine_eq]; omega) ?_)
            intro gB
            k_dflt (refine filt_rest (fun x => decide (x ≥ mid)) fq (.inr ⟨_, mem9, rfl, _, rfl⟩) ?_ ?_)
            · clear kF kN
              intro k t I oI C oC Dc m₂ ysc hc tkc E' R1 R2 hC hx F' N' h1 h2
              (try k_fold)
              w_strict (k_steps)
              · exact h1 (by first | assumption | exact decide_eq_true (by assumption)) _ _ (by assumption) (by assumption)
              · exact h2 (by first | assumption | exact decide_eq_false (by assumption)) _ _ (by assumption) (by assumption)
            · clear kF kN
              intro ysB hysB
              rw [← rest_ge, hrst'] at hysB
              unfold LCg.FinE
              intro DB hB tkB FB NB offB
              (try k_unfold)
              (try dsimp only)
              (try k_fold)
              k_with "compareOp NotEq ref ref" => refine stop ?_
              w_strict (k_steps)
              k_with_none
              unfold Stop
              rename Fr _ _ _ _ => kF
              rename News _ _ _ _ => kN
              k_dflt (refine told_same kN hysA hysB hyv hnv (by ke_room) ?_)
              (try dsimp only)
              k_with "ite" => ((fail_if_success (with_reducible show if false = true then _ else _)); refine stop ?_)
              w_strict (k_steps)
              k_with_none
              unfold Stop
              have C3i : (alk.length : Int) + (abo.length : Int) = (rst.length : Int) := by exact_mod_cast C3
              with_reducible refine ite_bne C3i ?_
              (try dsimp only)
              k_with "ite" => ((fail_if_success (with_reducible show if false = true then _ else _)); refine stop ?_)
              w_strict (k_steps)
              k_with_none
              unfold Stop
              with_reducible refine ite_no C4 ?_
              (try dsimp only)
              k_with "binaryOp Add ref ref" => refine stop ?_
              w_strict (k_steps)
              k_with_none
              · have hb0 : belowOf qx mid = [] := hbel'.trans (of_decide_eq_true (by assumption))
                have ha0 : aboveOf qx mid = [] := hab'.trans (of_decide_eq_true (by assumption))
                have hll : li.length + alk.length ≤ 1000 := by
                  have e1 := congrArg List.length p1
                  rw [ahead_snoc, srt_length, List.length_append, List.length_append, srt_length] at e1
                  have e2 := parts_len qx mid
                  rw [hal'] at e2
                  dsimp only at e1
                  omega
                unfold Stop
                rename Fr _ _ _ _ => kF
                rename News _ _ _ _ => kN
                replace kN := tidyA kN
                k_dflt (refine add_laid kF kN f2 halv hll ?_)
                clear kF kN
                intro Dp us hP FP NP ltP hus
                (try k_fold)
                k_with "TurnEnd" => refine stop ?_
                w_strict (k_steps)
                k_with_none
                unfold Stop
                rename Fr _ _ _ _ => kF
                rename News _ _ _ _ => kN
                exact turn_laid kF kN ltP hpv hown fqi (hal' ▸ hus) (by assumption) dmid kc1 kc2 o1c.out o2c.out g2.out g4 f7.out f8.out f9.out f10.out f11.out f12.out (by with_unfolding_all rfl) (by with_unfolding_all rfl) (by with_unfolding_all rfl) p1 p2 hb0 ha0
              · have ha0 : aboveOf qx mid ≠ [] := fun e => of_decide_eq_false (by assumption) (hab'.symm.trans e)
                unfold Stop
                rename Fr _ _ _ _ => kF
                rename News _ _ _ _ => kN
                replace kN := tidyB kN
                k_dflt (refine add_pile kF kN hpl ?_)
                clear kF kN
                intro Dp hP FP NP ltP
                (try k_fold)
                k_with "TurnEnd" => refine stop ?_
                w_strict (k_steps)
                k_with_none
                unfold Stop
                rename Fr _ _ _ _ => kF
                rename News _ _ _ _ => kN
                exact turn_pile kF kN ltP rfl hpv hown fqi f2 (hab' ▸ habv) (hal' ▸ halv) (hbel' ▸ hyv) (by assumption) dmid kc1 kc2 o1c.out o2c.out g1.out g2.out g4 ⟨Nat.lt_trans (la1 _ (.tail _ (.tail _ (.tail _ (.tail _ (.tail _ (.tail _ (.tail _ (.tail _ (.tail _ (.tail _ (.head _)))))))))))) la2, Nat.lt_trans (la1 _ (.tail _ (.tail _ (.tail _ (.tail _ (.tail _ (.tail _ (.tail _ (.tail _ (.tail _ (.tail _ (.tail _ (.head _))))))))))))) la2, Nat.lt_trans (la1 _ (.tail _ (.tail _ (.tail _ (.head _))))) la2⟩ ⟨la1 _ (.tail _ (.tail _ (.tail _ (.tail _ (.tail _ (.tail _ (.tail _ (.tail _ (.tail _ (.tail _ (.head _))))))))))), la1 _ (.tail _ (.tail _ (.tail _ (.tail _ (.tail _ (.tail _ (.tail _ (.tail _ (.tail _ (.tail _ (.tail _ (.head _)))))))))))), la1 _ (.tail _ (.tail _ (.tail _ (.head _))))⟩ ⟨ly1 _ (.tail _ (.tail _ (.tail _ (.tail _ (.tail _ (.tail _ (.head _))))))), ly1 _ (.tail _ (.tail _ (.tail _ (.tail _ (.tail _ (.tail _ (.tail _ (.head _)))))))), ly1 _ (.tail _ (.tail _ (.tail _ (.head _))))⟩ f10.out f11.out f12.out (by with_unfolding_all rfl) (by with_unfolding_all rfl) (by with_unfolding_all rfl) p1 p2 (hal' ▸ C4) (.inr ha0)
              · have hb0 : belowOf qx mid ≠ [] := fun e => of_decide_eq_false (by assumption) (hbel'.symm.trans e)
                unfold Stop
                rename Fr _ _ _ _ => kF
                rename News _ _ _ _ => kN
                replace kN := tidyC kN
                k_dflt (refine add_pile kF kN hpl ?_)
                clear kF kN
                intro Dp hP FP NP ltP
                (try k_fold)
                k_with "TurnEnd" => refine stop ?_
                w_strict (k_steps)
                k_with_none
                unfold Stop
                rename Fr _ _ _ _ => kF
                rename News _ _ _ _ => kN
                exact turn_pile kF kN ltP rfl hpv hown fqi f2 (hab' ▸ habv) (hal' ▸ halv) (hbel' ▸ hyv) (by assumption) dmid kc1 kc2 o1c.out o2c.out g1.out g2.out g4 ⟨Nat.lt_trans (la1 _ (.tail _ (.tail _ (.tail _ (.tail _ (.tail _ (.tail _ (.tail _ (.tail _ (.tail _ (.tail _ (.head _)))))))))))) la2, Nat.lt_trans (la1 _ (.tail _ (.tail _ (.tail _ (.tail _ (.tail _ (.tail _ (.tail _ (.tail _ (.tail _ (.tail _ (.tail _ (.head _))))))))))))) la2, Nat.lt_trans (la1 _ (.tail _ (.tail _ (.tail _ (.head _))))) la2⟩ ⟨la1 _ (.tail _ (.tail _ (.tail _ (.tail _ (.tail _ (.tail _ (.tail _ (.tail _ (.tail _ (.tail _ (.head _))))))))))), la1 _ (.tail _ (.tail _ (.tail _ (.tail _ (.tail _ (.tail _ (.tail _ (.tail _ (.tail _ (.tail _ (.tail _ (.head _)))))))))))), la1 _ (.tail _ (.tail _ (.tail _ (.head _))))⟩ ⟨ly1 _ (.tail _ (.tail _ (.tail _ (.tail _ (.tail _ (.tail _ (.head _))))))), ly1 _ (.tail _ (.tail _ (.tail _ (.tail _ (.tail _ (.tail _ (.tail _ (.head _)))))))), ly1 _ (.tail _ (.tail _ (.tail _ (.head _))))⟩ f10.out f11.out f12.out (by with_unfolding_all rfl) (by with_unfolding_all rfl) (by with_unfolding_all rfl) p1 p2 (hal' ▸ C4) (.inl hb0))
end Mine
end
theorem PySem.Challenge.cw_rl0005_01_holds : PySem.Challenge.rw_rl0005_01.Holds := by
  exact Mine.t
#print axioms PySem.Challenge.cw_rl0005_01_holds
