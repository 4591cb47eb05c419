import Derived.Test.YbulkatumState
namespace Go.Proofs.Ybulkatum.Ap
open Go.RowKit
set_option linter.unusedVariables false

/-- The row of t behind 'checkChange'. -/
theorem changed_fields (R : Nat → Row) (t : Nat) (wt : Bool) (en : Int) (j : Nat) :
    (changed R t wt en j).id = (R j).id ∧ (changed R t wt en j).chk = (if j = t then IntKind.u32.wrap ((R t).chk + 1) else (R j).chk) ∧ (changed R t wt en j).en = (if j = t then en else (R j).en) ∧
      (changed R t wt en j).fl = (if j = t ∧ wt = true then bits .andNot .u8 (R t).fl 1 else (R j).fl) := by
  obtain ⟨r1, r2, r3, r4⟩ := removed_fl R t j
  unfold changed
  cases wt
  · simp only [setEn, setChk]
    by_cases h : j = t
    · simp [h]
    · simp [h]
  · simp only [setEn, setChk, setFl, if_true]
    by_cases h : j = t
    · subst h
      simp [r2]
    · simp [h, r1, r2, r3, r4]

theorem changed_links (R : Nat → Row) (t : Nat) (wt : Bool) (en : Int) (j : Nat) :
    (changed R t wt en j).pv = (if wt then (removed R t j).pv else (R j).pv) ∧ (changed R t wt en j).nx = (if wt then (removed R t j).nx else (R j).nx) := by
  unfold changed
  cases wt
  · simp only [setEn, setChk]
    by_cases h : j = t
    · simp [h]
    · simp [h]
  · simp only [setEn, setChk, setFl, if_true]
    by_cases h : j = t
    · subst h
      simp
    · simp [h]

theorem removed_self (R : Nat → Row) (i : Nat) : (removed R i i).pv = 0 ∧ (removed R i i).nx = 0 := by
  simp [removed, setNx, setPv]

/-- The links of the others behind 'remove'. -/
theorem removed_other (R : Nat → Row) (i j : Nat) (hj : j ≠ i) (hpi : (R i).pv ≠ i + 1) (hxi : (R i).nx ≠ i + 1) :
    (removed R i j).nx = (if (R i).pv ≠ 0 ∧ j = (R i).pv - 1 then (R i).nx else (R j).nx) ∧ (removed R i j).pv = (if (R i).nx ≠ 0 ∧ j = (R i).nx - 1 then (R i).pv else (R j).pv) := by
  have m1 : (cutPv R i i).pv = (R i).pv ∧ (cutPv R i i).nx = (R i).nx := by
    unfold cutPv
    split
    · exact ⟨rfl, rfl⟩
    · simp only [setNx]
      rw [if_neg (by omega)]
      exact ⟨rfl, rfl⟩
  have m2 : (cutPv R i j).pv = (R j).pv ∧ (cutPv R i j).nx = (if (R i).pv ≠ 0 ∧ j = (R i).pv - 1 then (R i).nx else (R j).nx) := by
    unfold cutPv
    split
    · rename_i h
      simp [h]
    · rename_i h
      simp only [setNx]
      by_cases hc : j = (R i).pv - 1
      · rw [if_pos hc, if_pos ⟨h, hc⟩]
        exact ⟨rfl, rfl⟩
      · rw [if_neg hc, if_neg (fun x => hc x.2)]
        exact ⟨rfl, rfl⟩
  have m3 : (cutNx (cutPv R i) i j).nx = (cutPv R i j).nx ∧ (cutNx (cutPv R i) i j).pv = (if (R i).nx ≠ 0 ∧ j = (R i).nx - 1 then (R i).pv else (cutPv R i j).pv) := by
    unfold cutNx
    rw [m1.2, m1.1]
    split
    · rename_i h
      simp [h]
    · rename_i h
      simp only [setPv]
      by_cases hc : j = (R i).nx - 1
      · rw [if_pos hc, if_pos ⟨h, hc⟩]
        exact ⟨rfl, rfl⟩
      · rw [if_neg hc, if_neg (fun x => hc x.2)]
        exact ⟨rfl, rfl⟩
  simp only [removed, setNx, setPv, if_neg hj]
  exact ⟨by rw [m3.1, m2.2], by rw [m3.2, m2.1]⟩

section
variable {Salt Checks k t : Nat} {wt : Nat → Bool} {flg : Nat → Int} {R : Nat → Row} {S : Nat → Nat} {hh tl : Nat}

/-- What 'withdrawCheck' asks. -/
theorem PB.links (b : PB Salt Checks wt flg k R S hh tl) (hk : k ≤ 8) (ht : t < k) : (R t).pv ≤ 8 ∧ (R t).nx ≤ 8 ∧ (R t).pv ≠ t + 1 ∧ (R t).nx ≠ t + 1 := by
  by_cases hw : wt t = true
  · obtain ⟨pre, post, h1, h2⟩ := wl_split wt t k ht hw
    have hl := b.lk
    rw [h1] at hl
    have e1 := Lk.pvOf hl
    have e2 := Lk.nxOf hl
    simp only [Nat.add_sub_cancel] at e1 e2
    have hn := wl_nodup wt k
    rw [h1] at hn
    have hm : ∀ x ∈ pre ++ (t + 1) :: post, x ≤ 8 := fun x hx => by
      rw [← h1] at hx
      have := wl_mem wt k x hx
      omega
    have hnp : ∀ x ∈ pre, x ≠ t + 1 := fun x hx e => by
      rw [List.nodup_append] at hn
      exact hn.2.2 x hx (t + 1) (by simp) e
    have hnq : ∀ x ∈ post, x ≠ t + 1 := fun x hx e => by
      rw [List.nodup_append] at hn
      have := (List.nodup_cons.1 hn.2.1).1
      exact this (by rw [← e]; exact hx)
    rw [e1, e2]
    refine ⟨?_, ?_, ?_, ?_⟩
    · by_cases hp : pre = []
      · subst hp; simp
      · exact hm _ (List.mem_append_left _ (getLastD_mem hp))
    · cases post with
      | nil => simp
      | cons y post => exact hm _ (by simp)
    · by_cases hp : pre = []
      · subst hp; simp
      · exact hnp _ (getLastD_mem hp)
    · cases post with
      | nil => simp
      | cons y post => exact hnq _ (by simp)
  · have := b.off t ht (by simpa using hw)
    rw [this.1, this.2]
    omega

/-- The list behind 'checkChange'. -/
theorem PB.after (b : PB Salt Checks wt flg k R S hh tl) (hk : k ≤ 8) (ht : t < k) (en : Int) :
    Lk (changed R t (wt t) en) 0 (ex wt t k) (if wt t then (if (R t).pv = 0 then (R t).nx else hh) else hh) (if wt t then (if (R t).nx = 0 then (R t).pv else tl) else tl) ∧
      (changed R t (wt t) en t).pv = 0 ∧ (changed R t (wt t) en t).nx = 0 := by
  obtain ⟨l1, l2, l3, l4⟩ := b.links hk ht
  have hc := fun j => changed_links R t (wt t) en j
  by_cases hw : wt t = true
  · rw [hw]
    rw [hw] at hc
    simp only [if_true] at hc ⊢
    refine ⟨?_, by rw [(hc t).1]; exact (removed_self R t).1, by rw [(hc t).2]; exact (removed_self R t).2⟩
    obtain ⟨pre, post, h1, h2⟩ := wl_split wt t k ht hw
    have hl := b.lk
    rw [h1] at hl
    have hn := wl_nodup wt k
    rw [h1] at hn
    have e1 := Lk.pvOf hl
    have e2 := Lk.nxOf hl
    simp only [Nat.add_sub_cancel] at e1 e2
    have hpos : ∀ x ∈ pre ++ (t + 1) :: post, 1 ≤ x := fun x hx => by
      rw [← h1] at hx
      exact (wl_mem wt k x hx).1
    have hne : ∀ x ∈ pre ++ post, x ≠ t + 1 := fun x hx e => by
      rw [List.nodup_append] at hn
      rcases List.mem_append.1 hx with h | h
      · exact hn.2.2 x h (t + 1) (by simp) e
      · exact (List.nodup_cons.1 hn.2.1).1 (by rw [← e]; exact h)
    have hdis : ∀ x ∈ pre, x ∉ post := fun x hx hy => by
      rw [List.nodup_append] at hn
      exact hn.2.2 x hx x (by simp [hy]) rfl
    have hp0 : (R t).pv = 0 ↔ pre = [] := by
      rw [e1]
      constructor
      · intro h
        cases pre with
        | nil => rfl
        | cons a pre => have := hpos _ (List.mem_append_left _ (getLastD_mem (l := a :: pre) (d := 0) (by simp))); omega
      · intro h; subst h; rfl
    have hq0 : (R t).nx = 0 ↔ post = [] := by
      rw [e2]
      cases post with
      | nil => simp
      | cons y post => have := hpos y (by simp); simp; omega
    have hR := Lk.remove (R' := changed R t true en) (x := t + 1) (p := (R t).pv) (q := (R t).nx) (by simp) (by simp) hl hn ?_ ?_ ?_ ?_ ?_ ?_
    · rw [h2]
      have g1 : (if pre = [] then (R t).nx else hh) = (if (R t).pv = 0 then (R t).nx else hh) := by simp [hp0]
      have g2 : (if post = [] then (R t).pv else tl) = (if (R t).nx = 0 then (R t).pv else tl) := by simp [hq0]
      rw [g1, g2] at hR
      exact hR
    · intro hm
      by_cases hp : pre = []
      · rw [hp0.2 hp] at hm
        have := hpos 0 (by simp [hm])
        omega
      · rw [e1] at hm
        exact hdis _ (getLastD_mem hp) hm
    · intro hm
      cases post with
      | nil =>
        rw [e2] at hm
        have := hpos _ (List.mem_append_left _ hm)
        simp at this
      | cons y post =>
        rw [e2] at hm
        exact hdis _ hm (by simp)
    · intro y hy hyp
      have h1 := hne y hy
      have h2 : 1 ≤ y := hpos y (by rcases List.mem_append.1 hy with h | h <;> simp [h])
      rw [(hc (y - 1)).2, (removed_other R t (y - 1) (by omega) l3 l4).1, if_neg (by omega)]
    · intro y hy hyq
      have h1 := hne y hy
      have h2 : 1 ≤ y := hpos y (by rcases List.mem_append.1 hy with h | h <;> simp [h])
      rw [(hc (y - 1)).1, (removed_other R t (y - 1) (by omega) l3 l4).2, if_neg (by omega)]
    · intro hp
      have : (R t).pv ≠ 0 := fun h => hp (hp0.1 h)
      rw [(hc ((R t).pv - 1)).2, (removed_other R t ((R t).pv - 1) (by omega) l3 l4).1, if_pos ⟨this, rfl⟩]
    · intro hq
      have : (R t).nx ≠ 0 := fun h => hq (hq0.1 h)
      rw [(hc ((R t).nx - 1)).1, (removed_other R t ((R t).nx - 1) (by omega) l3 l4).2, if_pos ⟨this, rfl⟩]
  · have hw' : wt t = false := by simpa using hw
    rw [hw']
    rw [hw'] at hc
    simp only [Bool.false_eq_true, if_false] at hc ⊢
    have ho := b.off t ht hw'
    refine ⟨?_, by rw [(hc t).1]; exact ho.1, by rw [(hc t).2]; exact ho.2⟩
    rw [ex_same wt t k (.inr hw')]
    exact Lk.congr (fun x hx => ⟨(hc (x - 1)).1, (hc (x - 1)).2⟩) b.lk

/-- Each ID is found, ahead of the change and behind it. -/
theorem PB.probe (b : PB Salt Checks wt flg k R S hh tl) (hk : k ≤ 8) (R' : Nat → Row) (hR : ∀ j, (R' j).id = (R j).id) (j : Nat) (hj : j < k) : ∃ d, Probe R' S (idf Salt j) (j + 1) d := by
  obtain ⟨d, hd, h1, h2⟩ := b.pr j hj
  refine ⟨d, hd, h1, by omega, by omega, fun c hc => ?_, fun e he => ?_⟩
  · simp only [Nat.add_sub_cancel]
    rw [hR j, (b.row j hj).1]
  · obtain ⟨g1, g2⟩ := h2 e he
    have g3 := b.le ((le8 (idf Salt j) + e) % 16) (by omega)
    refine ⟨g1, by omega, ?_⟩
    rw [hR, (b.row _ (by omega)).1]
    exact idf_other Salt _ j (by omega) (by omega) (by omega)
end

end Go.Proofs.Ybulkatum.Ap
