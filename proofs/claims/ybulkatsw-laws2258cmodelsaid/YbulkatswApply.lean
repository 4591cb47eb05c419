import Derived.Test.YbulkatswWait
import Derived.Test.YbulkatswGrant
import Derived.Test.YbulkatswCommit
import Derived.WalkSpells
import Derived.WalkLawsBesides
namespace Go.Proofs.Ybulkatsw.Md
open Go Go.RowKit Mf Rw
set_option linter.unusedVariables false

theorem ap_else {σ : Nat → Nat} {w : World} {G : Nat} {A : St} (hGr : Gr σ w G A) (hz : ∀ b, w.heap.size ≤ b → σ b = 0) {t r m : Nat} :
    Calls Yba.prog 10 #[.pointer (some ⟨G, 0, none⟩), .agg (evCells 10 t r m)] w fun e w' => e = .returned (.tuple #[]) ∧ ApPost σ w G A w' := by
  have HZ : Hid (∀ o, ApPost σ w G A (w.alloc o)) := fun o => ⟨σ, fun _ _ => rfl, fun b hb => hz b (by simp at hb; omega), hGr.kept (Same.alloc _ _ _ _), Fr.alloc _ _ _ _⟩
  clear hGr
  have c0 := (Cell.new w (evCells 10 t r m) 58 0 (.int .i64 10) rfl).1
  simp only [evCells] at c0 ⊢
  go_enter Yba.func10, Yba.ntmps10
  go_wp2
  exact bodyPost_end (results_none rfl _ _ _) rfl ⟨rfl, HZ.out _⟩

theorem isWaiting_in {σ : Nat → Nat} {w : World} {G Bh Be Bw Bq n : Nat} {wt : Nat → Option (Nat × Nat × Int)} (hG : GP σ w G Bh Be Bw Bq n) (hW : WP σ w Bw wt) {t : Nat} (ht : t < 3) :
    Calls Yba.prog 15 #[.pointer (some ⟨G, 0, none⟩), .string (tx t)] w fun e w' => e = .returned (.bool (wt t).isSome) ∧ ∃ o, w' = w.alloc o := by
  have hl := hW.look ht
  have c := hG.wt.1
  clear hG hW
  cases ho : wt t with
  | none =>
    rw [ho] at hl
    simp only [Option.map_none, Option.getD_none, Option.isSome_none, zreq] at hl
    go_enter Yba.func15, Yba.ntmps15
    go_wp2
    go_ret
    exact ⟨rfl, _, rfl⟩
  | some x =>
    obtain ⟨r, m, o⟩ := x
    rw [ho] at hl
    simp only [Option.map_some, Option.getD_some, Option.isSome_some, reqV] at hl
    go_enter Yba.func15, Yba.ntmps15
    go_wp2
    go_ret
    exact ⟨rfl, _, rfl⟩

theorem new_walk (w : World) : Calls Yba.prog 8 #[.pointer none] w fun e w' => e = .returned (.pointer (some ⟨w.heap.size + 4, 0, none⟩)) ∧
    w' = ((((w.alloc (.map #[] 0)).alloc (.map #[] 0)).alloc (.map #[] 0)).alloc (.map #[] 0)).alloc (.cells #[.pointer none, .map (some w.heap.size), .map (some (w.heap.size + 1)), .map (some (w.heap.size + 2)), .int .i64 0, .map (some (w.heap.size + 3))] 66) := by
  have hmm := @run_makeMap Yba.prog
  go_enter Yba.func8, Yba.ntmps8
  go_wp2
  go_ret
  exact ⟨rfl, rfl⟩

/-- (*waitGraph).apply: the graph takes the plain step. -/
theorem apply_in {σ : Nat → Nat} {w : World} {G n : Nat} {A : St} (hGr : Gr σ w G A)
    (hz : ∀ b, w.heap.size ≤ b → σ b = 0) (hI : Inv n A) (hn : n < 1024) {t r m : Nat} (ht : t < 3) (hr : r < 3) (hm : m < 2) {k : Nat} (hk : k < 5) :
    Calls Yba.prog 10 #[.pointer (some ⟨G, 0, none⟩), .agg (evCells (kind k) t r m)] w fun e w' => e = .returned (.tuple #[]) ∧ ApPost σ w G (A.step k t r m) w' := by
  match k, hk with
  | 0, _ => exact ap_wait hGr hz hI hn ht hr hm
  | 1, _ => exact ap_grant hGr hz hI hn ht hr hm
  | 2, _ => exact ap_commit hGr hz hI hn ht 5 (.inl rfl)
  | 3, _ => exact ap_commit hGr hz hI hn ht 4 (.inr rfl)
  | 4, _ => exact ap_else hGr hz

/-- newWaitGraph. -/
theorem new_in (w : World) : Calls Yba.prog 8 #[.pointer none] w fun e w' => ∃ G σ, e = .returned (.pointer (some ⟨G, 0, none⟩)) ∧ (∀ b, b < w.heap.size → σ b = 0) ∧ (∀ b, w'.heap.size ≤ b → σ b = 0) ∧ Gr σ w' G St.zero ∧ Fr σ (fun l => l ≠ 0) w w' := by
  refine (new_walk w).mono ?_
  rintro e w' ⟨rfl, hw'⟩
  obtain ⟨n, hn⟩ : ∃ n, w.heap.size = n := ⟨_, rfl⟩
  obtain ⟨w1, h1⟩ : ∃ w1, w.alloc (.map #[] 0) = w1 := ⟨_, rfl⟩
  obtain ⟨w2, h2⟩ : ∃ w2, w1.alloc (.map #[] 0) = w2 := ⟨_, rfl⟩
  obtain ⟨w3, h3⟩ : ∃ w3, w2.alloc (.map #[] 0) = w3 := ⟨_, rfl⟩
  obtain ⟨w4, h4⟩ : ∃ w4, w3.alloc (.map #[] 0) = w4 := ⟨_, rfl⟩
  rw [h1, h2, h3, h4, hn] at hw'
  have s1 : w1.heap.size = n + 1 := by rw [← h1]; simp [hn]
  have s2 : w2.heap.size = n + 2 := by rw [← h2]; simp [s1]
  have s3 : w3.heap.size = n + 3 := by rw [← h3]; simp [s2]
  have s4 : w4.heap.size = n + 4 := by rw [← h4]; simp [s3]
  have s5 : w'.heap.size = n + 5 := by rw [hw']; simp [s4]
  obtain ⟨σ, hσ⟩ : ∃ σ : Nat → Nat, σ = fun b => if b = n then 2 else if b = n + 1 then 3 else if b = n + 2 then 4 else if b = n + 3 then 5 else if b = n + 4 then 1 else 0 := ⟨_, rfl⟩
  have m1 : ∀ nm k, MapF w1 n nm k (fun _ => none) := fun nm k => by rw [← h1, ← hn]; exact MapF.made w nm k
  have m2 : ∀ nm k, MapF w2 (n + 1) nm k (fun _ => none) := fun nm k => by rw [← h2, ← s1]; exact MapF.made w1 nm k
  have m3 : ∀ nm k, MapF w3 (n + 2) nm k (fun _ => none) := fun nm k => by rw [← h3, ← s2]; exact MapF.made w2 nm k
  have m4 : ∀ nm k, MapF w4 (n + 3) nm k (fun _ => none) := fun nm k => by rw [← h4, ← s3]; exact MapF.made w3 nm k
  have q1 : ∀ b, b < w1.heap.size → w2.heap[b]? = w1.heap[b]? := fun b hb => by rw [← h2]; exact heap_alloc_old w1 _ hb
  have q2 : ∀ b, b < w2.heap.size → w3.heap[b]? = w2.heap[b]? := fun b hb => by rw [← h3]; exact heap_alloc_old w2 _ hb
  have q3 : ∀ b, b < w3.heap.size → w4.heap[b]? = w3.heap[b]? := fun b hb => by rw [← h4]; exact heap_alloc_old w3 _ hb
  have q4 : ∀ b, b < w4.heap.size → w'.heap[b]? = w4.heap[b]? := fun b hb => by rw [hw']; exact heap_alloc_old w4 _ hb
  have p3 : ∀ nm k, MapF w' (n + 3) nm k (fun _ => none) := fun nm k => (m4 nm k).of_block (q4 _ (by omega))
  have p2 : ∀ nm k, MapF w' (n + 2) nm k (fun _ => none) := fun nm k => ((m3 nm k).of_block (q3 _ (by omega))).of_block (q4 _ (by omega))
  have p1 : ∀ nm k, MapF w' (n + 1) nm k (fun _ => none) := fun nm k => (((m2 nm k).of_block (q2 _ (by omega))).of_block (q3 _ (by omega))).of_block (q4 _ (by omega))
  have p0 : ∀ nm k, MapF w' n nm k (fun _ => none) := fun nm k => ((((m1 nm k).of_block (q1 _ (by omega))).of_block (q2 _ (by omega))).of_block (q3 _ (by omega))).of_block (q4 _ (by omega))
  have cs : ∀ j v, (#[.pointer none, .map (some n), .map (some (n + 1)), .map (some (n + 2)), .int .i64 0, .map (some (n + 3))] : Array Value)[j]? = some v → Cell w' (n + 4) j v := fun j v h => by
    rw [hw', ← s4]
    exact Cell.new w4 _ 66 j v h
  have e0 : σ n = 2 := by rw [hσ]; simp
  have e1 : σ (n + 1) = 3 := by rw [hσ]; simp
  have e2 : σ (n + 2) = 4 := by rw [hσ]; simp
  have e3 : σ (n + 3) = 5 := by rw [hσ]; simp
  have e4 : σ (n + 4) = 1 := by rw [hσ]; simp
  have ez : ∀ b, b < n ∨ n + 5 ≤ b → σ b = 0 := fun b hb => by rw [hσ]; dsimp only; rw [if_neg (by omega), if_neg (by omega), if_neg (by omega), if_neg (by omega), if_neg (by omega)]
  rw [hn]
  refine ⟨n + 4, σ, rfl, fun b hb => ez b (.inl hb), fun b hb => ez b (.inr (by omega)), ⟨n, n + 1, n + 2, n + 3, fun _ => .slice none 0 0, fun _ => false, fun _ => 0, fun _ => false, fun _ => 0, fun _ _ => .slice none 0 0, ?_, ?_, ?_, ?_, ?_, ?_, ?_⟩, ?_⟩
  · exact ⟨e4, cs 1 _ rfl, cs 2 _ rfl, cs 3 _ rfl, cs 4 _ rfl, cs 5 _ rfl⟩
  · exact ⟨e2, (p2 tx 3).congr fun i _ => by simp [St.zero]⟩
  · exact ⟨e1, (p1 tx 3).congr fun i _ => by simp [St.zero], fun _ _ _ => rfl, fun _ _ => Sl.nil _ _ _⟩
  · exact ⟨e0, (p0 res 3).congr fun i _ => by simp, fun _ _ h => by simp at h, fun _ _ h => by simp at h, fun _ _ _ _ _ => rfl⟩
  · exact ⟨e3, (p3 res 3).congr fun i _ => by simp, fun _ _ h => by simp at h, fun _ _ h => by simp at h, fun _ _ _ _ _ => rfl, fun _ _ _ _ _ => rfl, fun _ _ _ _ => Sl.nil _ _ _⟩
  · intro r _; simp [St.zero]
  · intro r _; simp [St.zero]
  · have f : Fr σ (fun l => l ≠ 0) w w' := by
      rw [hw', ← h4, ← h3, ← h2, ← h1]
      exact ((((Fr.alloc _ _ _ _).trans (Fr.alloc _ _ _ _)).trans (Fr.alloc _ _ _ _)).trans (Fr.alloc _ _ _ _)).trans (Fr.alloc _ _ _ _)
    exact f

end Go.Proofs.Ybulkatsw.Md
