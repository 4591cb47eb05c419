import Derived.Test.YbulkatswDoorSmall
namespace Go.Proofs.YbulkatswDoor.Dw
open Go.RowKit
set_option linter.unusedVariables false

/-- The lengths and bytes of slices. -/
def sig (cs : List Ch) : List (Nat × (Nat → UInt8)) := cs.map fun x => (x.n, x.f)
def vals (cs : List Ch) : List Value := cs.map Ch.val
theorem sig_length (cs : List Ch) : (sig cs).length = cs.length := by simp [sig]
theorem sig_append (a b : List Ch) : sig (a ++ b) = sig a ++ sig b := by simp [sig]
theorem vals_append (a b : List Ch) : vals (a ++ b) = vals a ++ vals b := by simp [vals]
theorem vals_length (cs : List Ch) : (vals cs).length = cs.length := by simp [vals]
theorem sig_take_succ (cs : List Ch) (k : Nat) (x : Ch) (h : cs[k]? = some x) : sig (cs.take (k + 1)) = sig (cs.take k) ++ [(x.n, x.f)] := by
  obtain ⟨hk, e⟩ := List.getElem?_eq_some_iff.1 h
  rw [List.take_succ_eq_append_getElem hk, sig_append, e]
  rfl
theorem len_of_sig {a b : List Ch} (h : sig a = sig b) : a.length = b.length := by rw [← sig_length a, h, sig_length]

/-- 'make([][]byte, n)'. -/
theorem make23_run (n : Nat) (h : n ≤ 1024) (W : World) :
    (Instr.makeSlice 22 (.int .i64 (n : Int)) (.int .i64 (n : Int))).run Ybad.prog W = .ok (.slice (some ⟨W.heap.size, 0, none⟩) n n) (W.alloc (.cells (List.replicate n (Value.slice none 0 0)).toArray 23)) := by
  obtain ⟨i0, hi, hz0, hz1, hz2⟩ := info_parts info23
  have := run_make (P := Ybad.prog) W 22 23 i0 (.slice none 0 0) Ybad.underlying22 hi hz0 .i64 .i64 (n : Int) (n : Int) (by omega) (by omega) (by rw [hz2]; omega) (by omega)
  rw [this, hz1]
  have e1 : ((n : Int)).toNat = n := by omega
  rw [e1]
  have e3 : madeCells (Value.slice none 0 0).cells (n * 1) = (List.replicate n (Value.slice none 0 0)).toArray := by
    apply Array.toList_inj.1
    rw [Nat.mul_one]
    exact toList_madeCells_one _ _
  rw [e3]

/-- What holds at the head of the copying loop. -/
def Copied (w wr : World) (n k : Nat) (cs cs' : List Ch) : Prop :=
  sig cs' = sig (cs.take k) ∧ wr.heap[w.heap.size]? = some (.cells (vals cs' ++ List.replicate (n - k) (Value.slice none 0 0)).toArray 23 (0, 0)) ∧ (∀ x ∈ cs', x.own wr) ∧ Below w.heap.size w wr

theorem Copied.step {w wr w1 : World} {n k : Nat} {cs cs' : List Ch} (h : Copied w wr n k cs cs') (hk : k < n) (hn : n = cs.length) (x y : Ch) (hx : cs[k]? = some x) (hb : Below wr.heap.size wr w1) (hy : y.own w1) (h1 : y.n = x.n) (h2 : y.f = x.f) :
    Copied w (w1.setCell ⟨w.heap.size, k, none⟩ y.val) n (k + 1) cs (cs' ++ [y]) := by
  obtain ⟨c1, c2, c3, c4⟩ := h
  have hl : cs'.length = k := by
    have := len_of_sig c1
    rw [List.length_take] at this
    omega
  have hg : w1.heap[w.heap.size]? = some (.cells (vals cs' ++ List.replicate (n - k) (Value.slice none 0 0)).toArray 23 (0, 0)) := by
    rw [hb.block _ (heap_lt c2)]; exact c2
  have k5 : Keeps5 w1 (w1.setCell ⟨w.heap.size, k, none⟩ y.val) := by
    intro j z hz
    by_cases e : j = w.heap.size
    · subst e
      rw [hg] at hz
      injection hz with hz
      injection hz with _ hz
      exact absurd hz (by decide)
    · rw [Below.heap_setCell _ _ _ _ e]; exact hz
  refine ⟨?_, ?_, ?_, ?_⟩
  · rw [sig_append, c1, sig_take_succ cs k x hx, ← h1, ← h2]; rfl
  · rw [heap_setCell_same _ _ _ _ _ _ hg]
    congr 2
    apply Array.toList_inj.1
    rw [Array.toList_setIfInBounds, vals_append]
    show (vals cs' ++ List.replicate (n - k) (Value.slice none 0 0)).set k y.val = vals cs' ++ [y.val] ++ List.replicate (n - (k + 1)) (Value.slice none 0 0)
    rw [List.set_append_right _ _ (by rw [vals_length]; omega), vals_length, hl, Nat.sub_self, show n - k = (n - (k + 1)) + 1 by omega, List.replicate_succ, List.set_cons_zero, List.append_assoc]
    rfl
  · intro z hz
    rcases List.mem_append.1 hz with hz | hz
    · exact ((c3 z hz).keep (Keeps5.below hb)).keep k5
    · simp at hz; subst hz; exact hy.keep k5
  · exact (c4.trans (hb.mono c4.size)).setCell (Nat.le_refl _) _

/-- What the copy is. -/
def CopySaid (w w' : World) (n : Nat) (cs : List Ch) (v : Value) : Prop := ∃ cs', sig cs' = sig cs ∧ w'.ownsRow w.heap.size 23 1 v n (vals cs') ∧ (∀ x ∈ cs', x.own w') ∧ Below w.heap.size w w'

set_option maxHeartbeats 400000 in
theorem acopy_any (fa : Option Addr) (n fc : Nat) (cs : List Ch) (w : World) (hf : Full w fa cs) (hn : n = cs.length) (h1024 : n ≤ 1024) (hsm : ∀ x ∈ cs, x.n ≤ 65536) (hok : ∀ x ∈ cs, x.ok w) (hnil : fa = none → n = 0 ∧ fc = 0) :
    Calls Ybad.prog 6 #[.slice fa n fc] w fun e w' => ∃ v, e = .returned v ∧ CopySaid w w' n cs v := by
  have hnl := fun W => Lib.run_eql_slice_nil (P := Ybad.prog) W 22 23 fa n fc 0 0 Ybad.underlying22
  have HF := Hid.mk hf
  have HN := Hid.mk hn
  have HS := Hid.mk hsm
  have HO := Hid.mk hok
  clear hf hn hsm hok
  rcases fa with _ | ad
  · obtain ⟨e1, e2⟩ := hnil rfl
    subst e1 e2
    clear hnil
    go_enter Ybad.func6, Ybad.ntmps6
    go_wp2
    go_ret
    refine ⟨_, rfl, [], ?_, World.ownsRow_nil _ _ _ _, fun x hx => (by cases hx), Below.refl _ _⟩
    rw [List.eq_nil_of_length_eq_zero HN.out.symm]
  · clear hnil
    have hmk := make23_run n h1024 w
    obtain ⟨Z, hZ⟩ : ∃ Z, Z = List.replicate n (Value.slice none 0 0) := ⟨_, rfl⟩
    rw [← hZ] at hmk
    have HZ := Hid.mk hZ
    clear hZ
    go_enter Ybad.func6, Ybad.ntmps6
    go_wp2
    go_loopw [12] (fun i wr => ∃ k : Nat, k ≤ n ∧ i = .int .i64 k ∧ ∃ cs', Copied w wr n k cs cs') (fun i _ => n - (intOf i).toNat)
    case atStart =>
      refine ⟨0, Nat.zero_le _, rfl, [], rfl, ?_, fun x hx => (by cases hx), (Below.refl _ _).alloc (Nat.le_refl _) _⟩
      rw [HZ.out, heap_alloc_new]
      rfl
    case round =>
      obtain ⟨k, hk, rfl, cs', hC⟩ := hrel
      have HC := Hid.mk hC
      have hnx := hC.2.2.2
      clear hC
      by_cases hlt : k < n
      · have hkc : k < cs.length := by have := HN.out; omega
        have q2 : (k : Int) < (n : Int) := by omega
        rcases HF.out.below hnx with e | ⟨g, o, ea, hc⟩
        · rw [e] at hkc; exact absurd hkc (Nat.not_lt_zero _)
        obtain rfl : ad = ⟨g, o, none⟩ := Option.some.inj ea
        have ck := hc k hkc
        obtain ⟨xa, xn, xc, xf, hx⟩ : ∃ xa xn xc xf, cs[k] = ⟨xa, xn, xc, xf⟩ := ⟨_, _, _, _, rfl⟩
        have hxm : (⟨xa, xn, xc, xf⟩ : Ch) ∈ cs := by rw [← hx]; exact List.getElem_mem hkc
        have HX : Hid (cs[k]? = some ⟨xa, xn, xc, xf⟩) := by rw [List.getElem?_eq_getElem hkc, hx]; rfl
        have HXO := Hid.mk ((HO.out _ hxm).below hnx)
        have hx6 : xn ≤ 65536 := HS.out _ hxm
        rw [hx] at ck
        have ck' : wr.cell? ⟨g, o + k, none⟩ = some (.slice xa xn xc) := ck
        clear ck hc hx hxm ea
        go_wp2_with fail
        refine (clone_any xa xn xc xf wr HXO.out hx6).mono ?_
        rintro e w1 ⟨ya, yc, rfl, hy, hb⟩
        have hg1 : w1.heap[w.heap.size]? = some (.cells (vals cs' ++ List.replicate (n - k) (Value.slice none 0 0)).toArray 23 (0, 0)) := by
          rw [hb.block _ (heap_lt HC.out.2.1)]; exact HC.out.2.1
        have hl : cs'.length = k := by
          have := len_of_sig HC.out.1
          rw [List.length_take] at this
          omega
        have c1 : w1.cell? ⟨w.heap.size, k, none⟩ = some (.slice none 0 0) := by
          rw [cell_of_blk hg1]
          show (vals cs' ++ List.replicate (n - k) (Value.slice none 0 0)).toArray[k]? = _
          rw [List.getElem?_toArray, List.getElem?_append_right (by rw [vals_length]; omega), vals_length, hl, Nat.sub_self, List.getElem?_replicate, if_pos (by omega)]
        have f1 : w1.frozen? ⟨w.heap.size, k, none⟩ = false := by simp [World.frozen?, hg1]
        have R := HC.out.step hlt HN.out ⟨xa, xn, xc, xf⟩ ⟨ya, xn, yc, xf⟩ HX.out hb hy rfl rfl
        have HR := Hid.mk R
        clear hg1 R hb hy ck' hl
        go_wp2
        go_roundw
        case rel => exact ⟨k + 1, by omega, by go_num, _, HR.out⟩
        case measure => simp [intOf]; omega
      · have q2 : ¬ (k : Int) < (n : Int) := by omega
        obtain rfl : k = n := by omega
        go_wp2
        go_ret
        obtain ⟨c1, c2, c3, c4⟩ := HC.out
        have e0 : cs.take k = cs := List.take_of_length_le (by have := HN.out; omega)
        rw [e0] at c1
        have hl : cs'.length = k := by rw [len_of_sig c1]; exact HN.out.symm
        refine ⟨_, rfl, cs', c1, ⟨by rw [vals_length]; omega, .inr ⟨w.heap.size, k, _, rfl, Nat.le_refl _, c2, Nat.le_refl _, by unfold maxLen; omega, ?_, ?_⟩⟩, c3, c4⟩
        · simp [vals_length, hl]
        · simp only [Nat.sub_self, List.replicate_zero, List.append_nil, Nat.mul_one]
          exact List.take_of_length_le (by rw [vals_length]; omega)
end Go.Proofs.YbulkatswDoor.Dw
