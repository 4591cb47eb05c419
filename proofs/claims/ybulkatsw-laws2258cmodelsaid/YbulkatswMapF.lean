import Derived.Maps.Keyed
import Derived.Maps.AppendAt
import Derived.Below
/-!
A map block by the plain function that it is: keys nm 0 .. nm (n - 1), strings apart; no order, no clock.
-/
namespace Go.Proofs.Ybulkatsw.Mf
open Go Go.ChangeMaps Go.MapKept
open Go.Maps (Keyed)

/-- n strings, each within the bound, apart. -/
structure Names (nm : Nat → ByteArray) (n : Nat) : Prop where
  size : ∀ i, (nm i).size ≤ maxLen
  inj : ∀ i j, i < n → j < n → nm i = nm j → i = j

/-- Block b is the map f over the names. -/
def MapF (w : World) (b : Nat) (nm : Nat → ByteArray) (n : Nat) (f : Nat → Option Value) : Prop :=
  ∃ (es : Array MapEntry) (clock : Nat), w.heap[b]? = some (.map es clock) ∧ (∀ e ∈ es.toList, ∃ i, i < n ∧ e.key = .string (nm i)) ∧ es.toList.Pairwise (fun x y => x.key ≠ y.key) ∧
    ∀ i, i < n → ∀ v, (f i = some v ↔ ∃ e ∈ es.toList, e.key = .string (nm i) ∧ e.val = v)

/-- How many of 0 .. n - 1 are in f. -/
def cnt (n : Nat) (f : Nat → Option Value) : Nat := ((List.range n).filter (fun i => (f i).isSome)).length

section
variable {P : Program} {k t e : TypeId} {w : World} {b n : Nat} {nm : Nat → ByteArray} {f : Nat → Option Value}

theorem MapF.lt (h : MapF w b nm n f) : b < w.heap.size := by
  obtain ⟨es, clock, hb, _⟩ := h
  exact (Array.getElem?_eq_some_iff.1 hb).1

theorem MapF.of_block {w' : World} (h : MapF w b nm n f) (hb : w'.heap[b]? = w.heap[b]?) : MapF w' b nm n f := by
  obtain ⟨es, clock, h1, h2⟩ := h
  exact ⟨es, clock, hb.trans h1, h2⟩

theorem MapF.congr {g : Nat → Option Value} (h : MapF w b nm n f) (hg : ∀ i, i < n → g i = f i) : MapF w b nm n g := by
  obtain ⟨es, clock, h1, h2, h3, h4⟩ := h
  exact ⟨es, clock, h1, h2, h3, fun i hi v => by rw [hg i hi]; exact h4 i hi v⟩

theorem MapF.made (w : World) (nm : Nat → ByteArray) (n : Nat) : MapF (w.alloc (.map #[] 0)) w.heap.size nm n (fun _ => none) :=
  ⟨#[], 0, heap_alloc_new w _, by simp, by simp, by simp⟩

variable (hk : P.underlying k = some .string) (N : Names nm n)

include hk N in
theorem key_of {i : Nat} : keyOf P k (.string (nm i)) = some (.string (nm i).data.toList) := WideMaps.keyOf_string_mk hk (N.size i)

include hk N in
theorem found (K : Keyed P k) {es : Array MapEntry} (hks : ∀ e ∈ es.toList, ∃ i, i < n ∧ e.key = .string (nm i)) (i : Nat) (w : World) :
    ((Instr.findKey k (.string (nm i)) es.toList).run P w = .ok none w ∧ ∀ e ∈ es.toList, e.key ≠ .string (nm i)) ∨
    ∃ j e, (Instr.findKey k (.string (nm i)) es.toList).run P w = .ok (some (j, e.val)) w ∧ es.toList[j]? = some e ∧ e.key = .string (nm i) :=
  K.find w (key_of hk N (i := i)) es.toList (fun e he => by
    obtain ⟨j, _, hj⟩ := hks e he
    exact ⟨_, by rw [hj]; exact key_of hk N⟩)

/-- Two entries of one key are one. -/
theorem same_entry {es : List MapEntry} (hd : es.Pairwise (fun x y => x.key ≠ y.key)) {x y : MapEntry} (hx : x ∈ es) (hy : y ∈ es) (h : x.key = y.key) : x = y := by
  obtain ⟨i, hi, rfl⟩ := List.getElem_of_mem hx
  obtain ⟨j, hj, rfl⟩ := List.getElem_of_mem hy
  rcases Nat.lt_trichotomy i j with hij | rfl | hij
  · exact absurd h (List.pairwise_iff_getElem.1 hd i j hi hj hij)
  · rfl
  · exact absurd h.symm (List.pairwise_iff_getElem.1 hd j i hj hi hij)

include hk N in
/-- 'm[k]' and 'v, ok := m[k]'. -/
theorem MapF.look (h : MapF w b nm n f) (ht : P.underlying t = some (.map k e)) {z : Value} (hz : (zeroValue e).run P w = .ok z w) (c : Bool) {i : Nat} (hi : i < n) :
    (Instr.lookup t (.map (some b)) (.string (nm i)) c).run P w = .ok (if c then .tuple #[(f i).getD z, .bool (f i).isSome] else (f i).getD z) w := by
  obtain ⟨es, clock, hb, h2, h3, h4⟩ := h
  have K := Maps.string_keyed hk
  rcases found hk N K h2 i w with ⟨r1, r2⟩ | ⟨j, e0, r1, r2, r3⟩
  · have hf : f i = none := by
      cases hfi : f i with
      | none => rfl
      | some v =>
        obtain ⟨e1, he1, hk1, _⟩ := (h4 i hi v).1 hfi
        exact absurd hk1 (r2 e1 he1)
    rw [hf]
    simp [Instr.lookup, run_underlying ht, MapKept.run_getObj_map hb, K.check w _ (key_of hk N), r1, hz, Result.andThen]
  · have hf : f i = some e0.val := (h4 i hi _).2 ⟨e0, List.mem_of_getElem? r2, r3, rfl⟩
    rw [hf]
    simp [Instr.lookup, run_underlying ht, MapKept.run_getObj_map hb, K.check w _ (key_of hk N), r1, Result.andThen]

include hk N in
/-- 'm[k] = v'. -/
theorem MapF.put (h : MapF w b nm n f) (ht : P.underlying t = some (.map k e)) {i : Nat} (hi : i < n) (val : Value) :
    ∃ w', (Instr.mapUpdate t (.map (some b)) (.string (nm i)) val).run P w = .ok () w' ∧ MapF w' b nm n (fun j => if j = i then some val else f j) ∧ w.grownBy w' (some b) := by
  obtain ⟨es, clock, hb, h2, h3, h4⟩ := h
  have K := Maps.string_keyed hk
  rcases found hk N K h2 i w with ⟨r1, r2⟩ | ⟨j, e0, r1, r2, r3⟩
  · refine ⟨setBlock w b (.map (es.push ⟨.string (nm i), val, clock⟩) (clock + 1)), ?_, ⟨_, _, heap_setBlock_same hb _, ?_, ?_, ?_⟩, ⟨rfl, rfl, rfl, by simp [setBlock], fun i _ hi => heap_setBlock_other hb _ (fun e => hi (by rw [e]))⟩⟩
    · simp [Instr.mapUpdate, run_underlying ht, MapKept.run_getObj_map hb, K.check w false (key_of hk N), r1, MapKept.run_setObj_map _ hb, Result.andThen, setBlock]
    · intro x hx
      simp only [Array.toList_push, List.mem_append, List.mem_singleton] at hx
      rcases hx with hx | rfl
      · exact h2 x hx
      · exact ⟨i, hi, rfl⟩
    · rw [Array.toList_push, List.pairwise_append]
      refine ⟨h3, by simp, fun x hx y hy => ?_⟩
      simp only [List.mem_singleton] at hy
      subst hy
      exact r2 x hx
    · intro l hl v
      by_cases hli : l = i
      · subst hli
        simp only [if_true, Array.toList_push, List.mem_append, List.mem_singleton]
        constructor
        · intro hv
          cases hv
          exact ⟨_, .inr rfl, rfl, rfl⟩
        · rintro ⟨x, hx | rfl, hxk, hxv⟩
          · exact absurd hxk (r2 x hx)
          · rw [← hxv]
      · show (if l = i then some val else f l) = some v ↔ _
        rw [if_neg hli, h4 l hl v]
        simp only [Array.toList_push, List.mem_append, List.mem_singleton]
        constructor
        · rintro ⟨x, hx, hxk⟩
          exact ⟨x, .inl hx, hxk⟩
        · rintro ⟨x, hx | rfl, hxk, hxv⟩
          · exact ⟨x, hx, hxk, hxv⟩
          · simp only [Value.string.injEq] at hxk
            exact absurd (N.inj _ _ hi hl hxk).symm hli
  · have hj : es[j]? = some e0 := by simpa using r2
    have hjl : j < es.toList.length := (List.getElem?_eq_some_iff.1 r2).1
    have hlist : (es.modify j (fun e' => { e' with key := .string (nm i), val := val })).toList = es.toList.set j { e0 with key := .string (nm i), val := val } := by rw [Array.toList_modify, modify_eq_set _ _ _ _ r2]
    have hmem : ∀ x, x ∈ es.toList.set j { e0 with key := .string (nm i), val := val } ↔ x = { e0 with key := .string (nm i), val := val } ∨ (x ∈ es.toList ∧ x.key ≠ .string (nm i)) := by
      intro x
      constructor
      · intro hx
        obtain ⟨l, hl, ex⟩ := List.getElem_of_mem hx
        rw [List.getElem_set] at ex
        split at ex
        · exact .inl ex.symm
        · rename_i hne
          have hl' : l < es.toList.length := by simpa using hl
          refine .inr ⟨ex ▸ List.getElem_mem hl', fun hxk => hne ?_⟩
          have he0 : e0 = es.toList[j] := by rw [List.getElem?_eq_getElem hjl] at r2; cases r2; rfl
          rcases Nat.lt_trichotomy j l with hjl' | rfl | hjl'
          · exact absurd (by rw [ex, hxk, ← he0, r3] : es.toList[j].key = es.toList[l].key) (List.pairwise_iff_getElem.1 h3 j l hjl hl' hjl')
          · rfl
          · exact absurd (by rw [ex, hxk, ← he0, r3] : es.toList[l].key = es.toList[j].key) (List.pairwise_iff_getElem.1 h3 l j hl' hjl hjl')
      · rintro (rfl | ⟨hx, hxk⟩)
        · exact List.mem_iff_getElem.2 ⟨j, by simpa using hjl, by simp⟩
        · obtain ⟨l, hl, ex⟩ := List.getElem_of_mem hx
          refine List.mem_iff_getElem.2 ⟨l, by simpa using hl, ?_⟩
          rw [List.getElem_set]
          split
          · rename_i hjl'
            subst hjl'
            rw [List.getElem?_eq_getElem hjl] at r2
            cases r2
            exact absurd (ex ▸ r3) hxk
          · exact ex
    refine ⟨setBlock w b (.map (es.modify j (fun e' => { e' with key := .string (nm i), val := val })) clock), ?_, ⟨_, _, heap_setBlock_same hb _, ?_, ?_, ?_⟩, ⟨rfl, rfl, rfl, by simp [setBlock], fun i _ hi => heap_setBlock_other hb _ (fun e => hi (by rw [e]))⟩⟩
    · simp [Instr.mapUpdate, run_underlying ht, MapKept.run_getObj_map hb, K.check w false (key_of hk N), r1, hj, r3, K.stays w (key_of hk N), MapKept.run_setObj_map _ hb, Result.andThen, setBlock]
    · rw [hlist]
      intro x hx
      rcases (hmem x).1 hx with rfl | ⟨hx', _⟩
      · exact ⟨i, hi, rfl⟩
      · exact h2 x hx'
    · rw [hlist, List.pairwise_iff_getElem]
      intro l m hl hm hlm
      have hl' : l < es.toList.length := by simpa using hl
      have hm' : m < es.toList.length := by simpa using hm
      have hp := List.pairwise_iff_getElem.1 h3 l m hl' hm' hlm
      rw [List.getElem?_eq_getElem hjl] at r2
      cases r2
      rw [List.getElem_set, List.getElem_set]
      split
      · rename_i e1
        subst e1
        rw [if_neg (by omega)]
        exact fun e2 => hp (r3.trans e2)
      · split
        · rename_i e1
          subst e1
          exact fun e2 => hp (e2.trans r3.symm)
        · exact hp
    · rw [hlist]
      intro l hl v
      by_cases hli : l = i
      · subst hli
        simp only [if_true]
        constructor
        · intro hv
          cases hv
          exact ⟨_, (hmem _).2 (.inl rfl), rfl, rfl⟩
        · rintro ⟨x, hx, hxk, hxv⟩
          rcases (hmem x).1 hx with rfl | ⟨_, hne⟩
          · rw [← hxv]
          · exact absurd hxk hne
      · show (if l = i then some val else f l) = some v ↔ _
        rw [if_neg hli, h4 l hl v]
        constructor
        · rintro ⟨x, hx, hxk, hxv⟩
          refine ⟨x, (hmem x).2 (.inr ⟨hx, ?_⟩), hxk, hxv⟩
          rw [hxk]
          simp only [ne_eq, Value.string.injEq]
          exact fun e1 => hli (N.inj _ _ hl hi e1)
        · rintro ⟨x, hx, hxk, hxv⟩
          rcases (hmem x).1 hx with rfl | ⟨hx', _⟩
          · simp only [Value.string.injEq] at hxk
            exact absurd (N.inj _ _ hi hl hxk).symm hli
          · exact ⟨x, hx', hxk, hxv⟩

include hk N in
/-- 'delete(m, k)'. -/
theorem MapF.drop (h : MapF w b nm n f) (ht : P.underlying t = some (.map k e)) {i : Nat} (hi : i < n) (k' ty : TypeId) :
    ∃ w', (Builtin.delete_ #[t, k'] ty #[.map (some b), .string (nm i)]).run P w = .ok (.tuple #[]) w' ∧ MapF w' b nm n (fun j => if j = i then none else f j) ∧ w.grownBy w' (some b) := by
  obtain ⟨es, clock, hb, h2, h3, h4⟩ := h
  have K := Maps.string_keyed hk
  rcases found hk N K h2 i w with ⟨r1, r2⟩ | ⟨j, e0, r1, r2, r3⟩
  · refine ⟨setBlock w b (.map es clock), ?_, ⟨es, clock, heap_setBlock_same hb _, h2, h3, ?_⟩, ⟨rfl, rfl, rfl, by simp [setBlock], fun i _ hi => heap_setBlock_other hb _ (fun e => hi (by rw [e]))⟩⟩
    · simp [Builtin.delete_, run_underlying ht, MapKept.run_getObj_map hb, K.check w _ (key_of hk N), r1, MapKept.run_setObj_map _ hb, Result.andThen, setBlock]
    · intro l hl v
      by_cases hli : l = i
      · subst hli
        simp only [if_true]
        constructor
        · intro hv; cases hv
        · rintro ⟨x, hx, hxk, _⟩
          exact absurd hxk (r2 x hx)
      · show (if l = i then none else f l) = some v ↔ _
        rw [if_neg hli]
        exact h4 l hl v
  · have hjl : j < es.toList.length := (List.getElem?_eq_some_iff.1 r2).1
    have hjs : j < es.size := by simpa using hjl
    have hsub : (es.eraseIdxIfInBounds j).toList = es.toList.eraseIdx j := by
      unfold Array.eraseIdxIfInBounds
      rw [dif_pos hjs]
      simp
    have he0 : e0 = es.toList[j] := by rw [List.getElem?_eq_getElem hjl] at r2; cases r2; rfl
    have hmem : ∀ x, x ∈ es.toList.eraseIdx j ↔ x ∈ es.toList ∧ x.key ≠ .string (nm i) := by
      intro x
      rw [List.mem_eraseIdx_iff_getElem?]
      constructor
      · rintro ⟨l, hne, hl⟩
        refine ⟨List.mem_of_getElem? hl, fun hxk => hne ?_⟩
        obtain ⟨hl', rfl⟩ := List.getElem?_eq_some_iff.1 hl
        rcases Nat.lt_trichotomy l j with h' | h' | h'
        · exact absurd (by rw [hxk, ← he0, r3]) (List.pairwise_iff_getElem.1 h3 l j hl' hjl h')
        · exact h'
        · exact absurd (by rw [hxk, ← he0, r3]) (List.pairwise_iff_getElem.1 h3 j l hjl hl' h')
      · rintro ⟨hx, hxk⟩
        obtain ⟨l, hl, rfl⟩ := List.getElem_of_mem hx
        refine ⟨l, fun e1 => hxk ?_, List.getElem?_eq_getElem hl⟩
        subst e1
        rw [← he0]; exact r3
    refine ⟨setBlock w b (.map (es.eraseIdxIfInBounds j) clock), ?_, ⟨_, clock, heap_setBlock_same hb _, ?_, ?_, ?_⟩, ⟨rfl, rfl, rfl, by simp [setBlock], fun i _ hi => heap_setBlock_other hb _ (fun e => hi (by rw [e]))⟩⟩
    · simp [Builtin.delete_, run_underlying ht, MapKept.run_getObj_map hb, K.check w _ (key_of hk N), r1, MapKept.run_setObj_map _ hb, Result.andThen, setBlock]
    · rw [hsub]
      exact fun x hx => h2 x ((hmem x).1 hx).1
    · rw [hsub]
      exact List.Pairwise.sublist (List.eraseIdx_sublist _ _) h3
    · rw [hsub]
      intro l hl v
      by_cases hli : l = i
      · subst hli
        simp only [if_true]
        constructor
        · intro hv; cases hv
        · rintro ⟨x, hx, hxk, _⟩
          exact absurd hxk ((hmem x).1 hx).2
      · show (if l = i then none else f l) = some v ↔ _
        rw [if_neg hli, h4 l hl v]
        constructor
        · rintro ⟨x, hx, hxk, hxv⟩
          refine ⟨x, (hmem x).2 ⟨hx, ?_⟩, hxk, hxv⟩
          rw [hxk]
          simp only [ne_eq, Value.string.injEq]
          exact fun e1 => hli (N.inj _ _ hl hi e1)
        · rintro ⟨x, hx, hxk, hxv⟩
          exact ⟨x, ((hmem x).1 hx).1, hxk, hxv⟩

include N in
/-- 'len(m)'. -/
theorem MapF.len (h : MapF w b nm n f) (ht : P.underlying t = some (.map k e)) (ty : TypeId) : (Builtin.len_ #[t] ty #[.map (some b)]).run P w = .ok (.int .i64 (cnt n f)) w := by
  obtain ⟨es, clock, hb, h2, h3, h4⟩ := h
  have e1 : es.size = cnt n f := by
    have hp : (es.toList.map (·.key)).Perm (((List.range n).filter (fun i => (f i).isSome)).map (fun i => Value.string (nm i))) := by
      refine (List.perm_ext_iff_of_nodup ?_ ?_).2 ?_
      · exact List.pairwise_map.2 h3
      · refine List.pairwise_map.2 (List.Pairwise.imp_of_mem ?_ (List.Pairwise.filter _ List.nodup_range))
        intro i j hi hj hne e2
        simp only [Value.string.injEq] at e2
        exact hne (N.inj i j (List.mem_range.1 (List.mem_filter.1 hi).1) (List.mem_range.1 (List.mem_filter.1 hj).1) e2)
      · intro x
        simp only [List.mem_map, List.mem_filter, List.mem_range]
        constructor
        · rintro ⟨e0, he0, rfl⟩
          obtain ⟨i, hi, hk0⟩ := h2 e0 he0
          exact ⟨i, ⟨hi, by rw [(h4 i hi e0.val).2 ⟨e0, he0, hk0, rfl⟩]; rfl⟩, hk0.symm⟩
        · rintro ⟨i, ⟨hi, hs⟩, rfl⟩
          obtain ⟨v, hv⟩ := Option.isSome_iff_exists.1 hs
          obtain ⟨e0, he0, hk0, _⟩ := (h4 i hi v).1 hv
          exact ⟨e0, he0, hk0⟩
    have := hp.length_eq
    simpa [cnt] using this
  rw [← e1]
  simp [Builtin.len_, run_underlying ht, MapKept.run_getObj_map hb, goInt, Result.andThen]

end

end Go.Proofs.Ybulkatsw.Mf
