import Derived.Test.YbulkatswReq
namespace Go.Proofs.Ybulkatsw.Fo
open Go.RowKit
set_option linter.unusedVariables false

/-- The elements of a slice of pointers to requests: what is known of it. -/
def Ptrs (w : World) (la : Option Addr) (es : List Nat) : Prop := es = [] ∨ ∃ g o, la = some ⟨g, o, none⟩ ∧ ∀ i (h : i < es.length), w.cell? ⟨g, o + i, none⟩ = some (.pointer (some ⟨es[i], 0, none⟩))

theorem cell_block {w : World} {p : Addr} {v : Value} (h : w.cell? p = some v) : p.block < w.heap.size := by
  rcases Nat.lt_or_ge p.block w.heap.size with h1 | h1
  · exact h1
  · have : w.heap[p.block]? = none := by simp [h1]
    simp [World.cell?, this] at h

theorem Ptrs.below {w w' : World} {la : Option Addr} {es : List Nat} (h : Ptrs w la es) (hb : Below w.heap.size w w') : Ptrs w' la es := by
  rcases h with h | ⟨g, o, rfl, hc⟩
  · exact .inl h
  · refine .inr ⟨g, o, rfl, fun i hi => ?_⟩
    rw [hb.cell (cell_block (hc i hi))]
    exact hc i hi

/-- What the round's append does. -/
theorem own_push {w w1 wr : World} {B : Nat} {v v' : Value} {l : List Nat} {p : Nat} (hb : Below B w wr) (hB : B ≤ wr.heap.size) (ho : wr.ownsRow B 23 1 v l.length (ptrs l))
    (ho' : w1.ownsRow B 23 1 v' (l.length + 1) (ptrs l ++ [.pointer (some ⟨p, 0, none⟩)])) (o : Obj) (hg : (wr.alloc o).grownBy w1 v.ownBlock) :
    w1.ownsRow B 23 1 v' (l ++ [p]).length (ptrs (l ++ [p])) ∧ Below B w w1 := by
  refine ⟨?_, ?_⟩
  · rw [List.length_append, ptrs_append]
    exact ho'
  · exact (hb.alloc hB o).grown hg (by simp; omega) (fun k hk => (ho.lt k hk).1)

set_option maxHeartbeats 800000 in
theorem following_any (qb n c : Nat) (la : Option Addr) (es : List (Nat × Bool)) (w : World) (hn : n = es.length) (h1024 : n ≤ 1024) (hp : Ptrs w la (es.map (·.1))) (hr : ∀ p ∈ es, ReqOk w qb p.1 p.2) (hq : Blk w qb 110) :
    Calls Yba.prog 7 #[.slice la n c, .pointer (some ⟨qb, 0, none⟩)] w fun e w' => ∃ v, e = .returned v ∧ w'.ownsRow w.heap.size 23 1 v (kept es).length (ptrs (kept es)) ∧ Below w.heap.size w w' := by
  have HP : Hid (Ptrs w la (es.map (·.1))) := hp
  have HR : Hid (∀ p ∈ es, ReqOk w qb p.1 p.2) := hr
  have HQ : Hid (Blk w qb 110) := hq
  have HN : Hid (n = es.length) := hn
  clear hp hr hq hn
  obtain ⟨i0, hi, hz0, hz1, hz2⟩ := info_parts info23
  go_enter Yba.func7, Yba.ntmps7
  go_wp2
  go_loopw [5, 10] (fun v i wr => ∃ k : Nat, k ≤ n ∧ i = .int .i64 k ∧ wr.ownsRow w.heap.size 23 1 v (kept (es.take k)).length (ptrs (kept (es.take k))) ∧ Below w.heap.size w wr) (fun _ i _ => n - (intOf i).toNat)
  case atStart => exact ⟨0, Nat.zero_le _, rfl, World.ownsRow_nil _ _ _ _, Below.refl _ _⟩
  case round =>
    obtain ⟨k, hk, rfl, hown, hnx⟩ := hrel
    have hsz := hnx.size
    by_cases hlt : k < n
    · have hke : k < es.length := by have := HN.out; omega
      obtain ⟨p, b, hpb⟩ : ∃ p b, es[k] = (p, b) := ⟨_, _, rfl⟩
      have hreq : ReqOk wr qb p b := ((HR.out es[k] (List.getElem_mem hke)).keep (KeepsT.below hnx)) |> fun h => by rw [hpb] at h; exact h
      have hsn := kept_snoc es k hke
      rw [hpb] at hsn
      have HREQ : Hid (ReqOk wr qb p b) := hreq
      have HSN : Hid (kept (es.take (k + 1)) = kept (es.take k) ++ if b then [p] else []) := hsn
      have hkl : (kept (es.take k)).length ≤ k := Nat.le_trans (kept_le _) (by simp; omega)
      rcases HP.out.below hnx with h0 | ⟨g, o, rfl, hc⟩
      · have : es.length = 0 := by simpa using congrArg List.length h0
        omega
      have ck := hc k (by simpa using hke)
      have ek : (es.map (·.1))[k]'(by simpa using hke) = p := by simp [hpb]
      rw [ek] at ck
      have q1 : (k : Int) < (n : Int) := by omega
      clear hsn hreq hc hpb ek
      obtain ⟨ks, hks⟩ : ∃ ks, ks = kept (es.take k) := ⟨_, rfl⟩
      rw [← hks] at hown hkl
      have HKS : Hid (ks = kept (es.take k)) := hks
      have HOWN : Hid (wr.ownsRow w.heap.size 23 1 u5 ks.length (ptrs ks)) := hown
      clear hks hown
      go_wp2_with fail
      refine (HREQ.out.follows (HQ.out.keep (KeepsT.below hnx))).mono ?_
      rintro e wr ⟨rfl, rfl⟩
      cases b
      · go_wp2
        go_roundw
        case rel => exact ⟨k + 1, by omega, by go_num, by rw [HSN.out, ← HKS.out]; simpa using HOWN.out, hnx⟩
        case measure => simp [intOf]; omega
      · go_wp2_with (at_builtin; refine wpList_append_own _ rfl (.tmp 17) (.tmp 19) 24 (by rfl) w.heap.size 23 i0 (.pointer none) 1 8 Yba.underlying24 hi hz0 hz1 hz2 rfl (by decide) _ ks.length (ptrs ks) (by rfl) (HOWN.out.alloc _) ⟨wr.heap.size, 0, none⟩ 1 1 [.pointer (some ⟨p, 0, none⟩)] (by rfl) rfl (cell_one_new _ _ _) (one_ptr _) ?c3 ?c4 ?c5 ?_)
        case c3 => unfold maxLen; omega
        case c4 => omega
        case c5 => simp; omega
        intro v' w1 hown' hgrow _
        have R := own_push (p := p) hnx hsz HOWN.out hown' _ hgrow
        clear hown' hgrow
        go_wp2
        go_roundw
        case rel => exact ⟨k + 1, by omega, by go_num, by rw [HSN.out, ← HKS.out]; exact R.1, R.2⟩
        case measure => simp [intOf]; omega
    · have q1 : ¬ (k : Int) < (n : Int) := by omega
      have e1 : es.take k = es := List.take_of_length_le (by have := HN.out; omega)
      rw [e1] at hown
      have HOWN : Hid (wr.ownsRow w.heap.size 23 1 u5 (kept es).length (ptrs (kept es))) := hown
      clear hown e1
      go_wp2
      go_ret
      exact ⟨_, rfl, HOWN.out, hnx⟩
end Go.Proofs.Ybulkatsw.Fo
