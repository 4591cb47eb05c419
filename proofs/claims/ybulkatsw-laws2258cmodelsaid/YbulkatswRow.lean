import Derived.Maps.AppendAt
import Derived.Laws.CopyRow
import Derived.Below
/-!
A slice of one-cell elements that may begin in the midst of its block, and 'append' of one element to it.
-/
namespace Go.Proofs.Ybulkatsw.Rw
open Go

/-- The value v is a slice that holds xs; its block is one of those of 'ok'. -/
def Sl (w : World) (e : TypeId) (ok : Nat → Prop) (v : Value) (xs : List Value) : Prop :=
  (v = .slice none 0 0 ∧ xs = []) ∨
  ∃ g off cap cur, v = .slice (some ⟨g, off, none⟩) xs.length cap ∧ ok g ∧ w.heap[g]? = some (.cells cur e (0, 0)) ∧ xs.length ≤ cap ∧ off + cap = cur.size ∧ cap ≤ maxLen ∧ (cur.toList.drop off).take xs.length = xs

variable {w : World} {e : TypeId} {ok : Nat → Prop} {v : Value} {xs : List Value}

theorem Sl.nil (w : World) (e : TypeId) (ok : Nat → Prop) : Sl w e ok (.slice none 0 0) [] := .inl ⟨rfl, rfl⟩

theorem Sl.mono {ok' : Nat → Prop} (h : Sl w e ok v xs) (hm : ∀ g, g < w.heap.size → ok g → ok' g) : Sl w e ok' v xs := by
  rcases h with h | ⟨g, off, cap, cur, h1, h2, h3, h4⟩
  · exact .inl h
  · exact .inr ⟨g, off, cap, cur, h1, hm g (Array.getElem?_eq_some_iff.1 h3).1 h2, h3, h4⟩

theorem Sl.of_blocks {w' : World} (h : Sl w e ok v xs) (hb : ∀ g, g < w.heap.size → ok g → w'.heap[g]? = w.heap[g]?) : Sl w' e ok v xs := by
  rcases h with h | ⟨g, off, cap, cur, h1, h2, h3, h4⟩
  · exact .inl h
  · exact .inr ⟨g, off, cap, cur, h1, h2, (hb g (Array.getElem?_eq_some_iff.1 h3).1 h2).trans h3, h4⟩

/-- Its shape. -/
theorem Sl.shape (h : Sl w e ok v xs) : ∃ a c, v = .slice a xs.length c ∧ xs.length ≤ c ∧ c ≤ maxLen := by
  rcases h with ⟨rfl, rfl⟩ | ⟨g, off, cap, cur, rfl, h2, h3, h4, h5, h6, h7⟩
  · exact ⟨_, _, rfl, by simp, by simp⟩
  · exact ⟨_, _, rfl, h4, h6⟩

theorem cell_in {cur : Array Value} {g off n : Nat} (hg : w.heap[g]? = some (.cells cur e (0, 0))) {xs : List Value} (hx : (cur.toList.drop off).take n = xs) (j : Nat) (u : Value) (hu : xs[j]? = some u) :
    w.cell? ⟨g, off + j, none⟩ = some u := by
  rw [cell_of_row w g (off + j) cur e (0, 0) hg]
  rw [← hx, List.getElem?_take] at hu
  split at hu
  · rw [List.getElem?_drop] at hu
    simpa using hu
  · cases hu

theorem frozen_in {cur : Array Value} {g : Nat} (hg : w.heap[g]? = some (.cells cur e (0, 0))) (j : Nat) : w.frozen? ⟨g, j, none⟩ = false := by
  simp [World.frozen?, hg]

/-- A slice that holds something: where it lies. -/
theorem Sl.pos (h : Sl w e ok v xs) (hx : xs ≠ []) : ∃ g off cap cur, v = .slice (some ⟨g, off, none⟩) xs.length cap ∧ ok g ∧ w.heap[g]? = some (.cells cur e (0, 0)) ∧ xs.length ≤ cap ∧ off + cap = cur.size ∧ cap ≤ maxLen ∧ (cur.toList.drop off).take xs.length = xs := by
  rcases h with ⟨_, rfl⟩ | h
  · exact absurd rfl hx
  · exact h

theorem add_zero' (a : Addr) : a.add 0 = a := by
  obtain ⟨b, o, s⟩ := a
  cases s <;> simp [Addr.add]

variable {P : Program}

/-- 'append(v, u)', u in a block of its own. -/
theorem run_append_sl (t ty : TypeId) (i : TypeInfo) (z : Value) (bytes : Nat) (ht : P.underlying t = some (.slice e)) (hi : P.info? e = some i) (hz : i.zero = some z)
    (hsize : i.size = 1) (hby : i.bytes = bytes) (hzs : z.cells.size = 1) (h : Sl w e ok v xs)
    (a : Addr) (c : Nat) (u : Value) (hu : w.cell? a = some u) (h1 : u.oneCell' = true) (hlen : xs.length < maxLen) (hbytes : (xs.length + 1) * bytes ≤ 140737488355328) (hnew : ok w.heap.size) :
    ∃ v' w', (Builtin.append_ #[t, t] ty #[v, .slice (some a) 1 c]).run P w = .ok v' w' ∧ Sl w' e ok v' (xs ++ [u]) ∧ w.grownBy w' v.ownBlock ∧ v' ≠ .slice none 0 0 := by
  subst hby
  have hnews : ∀ j u', [u][j]? = some u' → w.cell? (a.add j) = some u' := by
    intro j u' hj
    match j with
    | 0 => simp at hj; rw [add_zero', ← hj]; exact hu
    | _ + 1 => simp at hj
  have hlen' : xs.length + 1 ≤ maxLen := hlen
  have hsmall : xs.length + 1 ≤ 9223372036854775807 := by simp only [maxLen] at hlen'; omega
  have hl1 : [u].length = 1 * i.size := by simp [hsize]
  have grown : ∀ (old : Nat) (row : Option Nat),
      Sl (w.drew.alloc (.cells (xs.toArray ++ [u].toArray ++ Builtin.zeroCells z.cells (grownCap w (xs.length + 1) old e - (xs.length + 1))) e)) e ok
        (.slice (some ⟨w.heap.size, 0, none⟩) (xs.length + 1) (grownCap w (xs.length + 1) old e)) (xs ++ [u]) ∧
      w.grownBy (w.drew.alloc (.cells (xs.toArray ++ [u].toArray ++ Builtin.zeroCells z.cells (grownCap w (xs.length + 1) old e - (xs.length + 1))) e)) row := by
    intro old row
    have hge := grownCap_ge w (xs.length + 1) old e
    have hcm : grownCap w (xs.length + 1) old e ≤ maxLen := grownCap_le_maxLen w (xs.length + 1) old e hlen'
    refine ⟨.inr ⟨w.heap.size, 0, _, _, by simp, hnew, heap_alloc_new w.drew _, by simpa using hge, ?_, hcm, ?_⟩, ⟨rfl, rfl, rfl, by simp, fun k hk _ => heap_alloc_old w.drew _ k hk⟩⟩
    · simp only [Array.size_append, List.size_toArray, size_zeroCells, hzs, List.length_singleton]
      omega
    · simp only [Array.toList_append, List.drop_zero]
      exact List.take_left
  rcases h with ⟨rfl, rfl⟩ | ⟨g, off, cap, cur, rfl, hok, hg, hnc, hcs, hcm, htake⟩
  · have hr := run_append_nil (P := P) w t ty e i z ht hi hz a 1 c [u] hl1 hnews (by omega) (by omega) (by have hb := hbytes; simp at hb; omega)
    have hgr := grown 0 (Value.ownBlock (.slice none 0 0))
    simp only [List.length_nil, Nat.zero_add, List.nil_append, Array.empty_append] at hgr ⊢
    exact ⟨_, _, hr, hgr.1, hgr.2, by simp⟩
  · by_cases hroom : xs.length + 1 ≤ cap
    · have hf := run_firstCells_some (P := P) w 1 1 a 1 c [u] (by simp) hnews
      have hst := run_storeCells_at P g (off + xs.length) e [u] 0 cur w hg (by simp; omega) (by simpa using h1)
      simp only [Nat.add_zero] at hst
      refine ⟨.slice (some ⟨g, off, none⟩) (xs.length + 1) cap, w.setRow g (cur.toList.take (off + xs.length) ++ [u] ++ cur.toList.drop (off + xs.length + [u].length)).toArray, ?_, .inr ⟨g, off, cap, _, by simp, hok, setRow_heap w g cur _ e _ hg, by simpa using hroom, ?_, hcm, ?_⟩, ⟨rfl, rfl, rfl, by simp, fun k _ hk => setRow_other w g k _ (fun e => hk (by simp [Value.ownBlock, e]))⟩, by simp⟩
      · simp [Builtin.append_, run_underlying ht, sizeOf, typeInfo, hi, hsize, Builtin.lenOf, hroom, hf, Addr.add_lit, hst]
      · simp only [List.size_toArray, List.length_append, List.length_take, List.length_drop, Array.length_toList, List.length_singleton]
        omega
      · have hoff : off ≤ (cur.toList.take (off + xs.length)).length := by simp; omega
        rw [List.append_assoc, List.drop_append_of_le_length hoff, List.drop_take]
        have e1 : off + xs.length - off = xs.length := by omega
        rw [e1, htake, ← List.append_assoc]
        exact List.take_left
    · have holds : ∀ j u', xs[j]? = some u' → w.cell? ((⟨g, off, none⟩ : Addr).add j) = some u' := by
        intro j u' hj
        rw [Addr.add_lit]
        exact cell_in hg htake j u' hj
      have hr := run_append_grow (P := P) w t ty e i z ht hi hz ⟨g, off, none⟩ xs.length cap xs (by simp [hsize]) holds a 1 c [u] hl1 hnews (by omega) (by omega) (growslice_fits (by omega) hbytes)
      have hgr := grown cap (Value.ownBlock (.slice (some ⟨g, off, none⟩) xs.length cap))
      exact ⟨_, _, hr, hgr.1, hgr.2, by simp⟩

/-- 's[1:]'. -/
theorem Sl.tail {g off cap : Nat} {x : Value} {cur : Array Value} (hok : ok g) (hg : w.heap[g]? = some (.cells cur e (0, 0))) (hnc : (x :: xs).length ≤ cap) (hcs : off + cap = cur.size) (hcm : cap ≤ maxLen) (htake : (cur.toList.drop off).take (x :: xs).length = x :: xs) :
    Sl w e ok (.slice (some ⟨g, off + 1, none⟩) xs.length (cap - 1)) xs := by
  simp only [List.length_cons] at hnc htake
  refine .inr ⟨g, off + 1, cap - 1, cur, rfl, hok, hg, by omega, by omega, by omega, ?_⟩
  rw [show cur.toList.drop (off + 1) = (cur.toList.drop off).drop 1 by rw [List.drop_drop]]
  cases hL : cur.toList.drop off with
  | nil => rw [hL] at htake; simp at htake
  | cons y ys =>
    rw [hL] at htake
    simpa using (List.cons.inj htake).2

end Go.Proofs.Ybulkatsw.Rw
