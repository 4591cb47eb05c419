import Derived.Test.YbulkatswBuild
import Derived.Deep.QuietTactic
import Derived.BigQuiet
namespace Go.Proofs.Ybulkatsw.Fo
open Go.RowKit
set_option linter.unusedVariables false

theorem ptrs_of {w : World} {B : Nat} {v : Value} {l : List Nat} (h : w.ownsRow B 23 1 v l.length (ptrs l)) : ∃ a c, v = .slice a l.length c ∧ Ptrs w a l := by
  rcases h.2 with ⟨rfl, hz⟩ | ⟨g, c, cur, rfl, _, hh, _, _, _, ht⟩
  · exact ⟨none, 0, by rw [hz], .inl (List.eq_nil_of_length_eq_zero hz)⟩
  · refine ⟨_, c, rfl, .inr ⟨g, 0, rfl, fun i hi => ?_⟩⟩
    have hx : (ptrs l)[i]? = some (.pointer (some ⟨l[i], 0, none⟩)) := by simp [ptrs, hi]
    rw [← ht, List.getElem?_take, if_pos (by omega)] at hx
    rw [Nat.zero_add, cell_of_blk hh]
    simpa using hx

/-- The elements of a slice of bools. -/
def Bools (w : World) (a : Option Addr) (l : List Bool) : Prop := l = [] ∨ ∃ g, a = some ⟨g, 0, none⟩ ∧ ∀ i (h : i < l.length), w.cell? ⟨g, i, none⟩ = some (.bool l[i])

theorem Bools.below {w w' : World} {la : Option Addr} {es : List Bool} (h : Bools w la es) (hb : Below w.heap.size w w') : Bools w' la es := by
  rcases h with h | ⟨g, rfl, hc⟩
  · exact .inl h
  · refine .inr ⟨g, rfl, fun i hi => ?_⟩
    rw [hb.cell (cell_block (hc i hi))]
    exact hc i hi

theorem bools_of {w : World} {B : Nat} {v : Value} {l : List Bool} (h : w.ownsRow B 4 1 v l.length (l.map Value.bool)) : ∃ a c, v = .slice a l.length c ∧ Bools w a l := by
  rcases h.2 with ⟨rfl, hz⟩ | ⟨g, c, cur, rfl, _, hh, _, _, _, ht⟩
  · exact ⟨none, 0, by rw [hz], .inl (List.eq_nil_of_length_eq_zero hz)⟩
  · refine ⟨_, c, rfl, .inr ⟨g, rfl, fun i hi => ?_⟩⟩
    have hx : (l.map Value.bool)[i]? = some (.bool l[i]) := by simp [hi]
    rw [← ht, List.getElem?_take, if_pos (by omega)] at hx
    rw [cell_of_blk hh]
    simpa using hx

theorem neq_same (x : Nat) (W : World) : (binOp .neq 23 (.pointer (some ⟨x, 0, none⟩)) (.pointer (some ⟨x, 0, none⟩))).run Yba.prog W = .ok (.bool false) W := by
  obtain ⟨j, hj, _⟩ := info110
  exact Lib.run_neq_ptr_same W _ Yba.underlying23 hj

theorem fdrewN {B : Nat} {a w : World} (h : Below B a w) (n : Nat) : Below B a (w.drewN n) := ⟨h.os, h.tape, h.output, h.size, h.block⟩

set_option maxRecDepth 20000 in
set_option maxHeartbeats 1600000 in
theorem filter_any (a : Option Addr) (n c : Nat) (W : Nat → Bool) (L D : Nat → UInt8) (w : World) (h1024 : n ≤ 1024) (hit : Items w a n W L D) :
    Calls Yba.prog 3 #[.slice a n c] w fun e w' => e = .returned (.bool true) ∧ Below w.heap.size w w' := by
  have HI := Hid.mk hit
  clear hit
  have q0 : ¬ (1024 : Int) < (n : Int) := by omega
  go_enter Yba.func3, Yba.ntmps3
  go_wp2_with fail
  refine (build_any a n c W L D w h1024 HI.out).mono ?_
  rintro e w1 ⟨lv, ev, rfl, es, hB⟩
  obtain ⟨hel, hlo, heo, hreq, hb1, hsz, hq, ho⟩ := hB
  have hlen : (es.map (·.1)).length = n := by simpa using hel
  obtain ⟨la, lc, el, hPl⟩ : ∃ la lc, lv = .slice la n lc ∧ Ptrs w1 la (es.map (·.1)) := by
    have := ptrs_of (l := es.map (·.1)) (by rw [hlen]; exact hlo)
    rwa [hlen] at this
  obtain ⟨ea, ec, ee, hPe⟩ : ∃ ea ec, ev = .slice ea n ec ∧ Bools w1 ea (es.map (·.2)) := by
    have hlen2 : (es.map (·.2)).length = n := by simpa using hel
    have := bools_of (l := es.map (·.2)) (by rw [hlen2, List.map_map]; exact heo)
    rwa [hlen2] at this
  have HN := Hid.mk hel
  have HPL := Hid.mk hPl
  have HPE := Hid.mk hPe
  have HRQ := Hid.mk hreq
  have HQ := Hid.mk hq
  rw [el, ee]
  clear hel hlo heo hreq hq ho hlen el ee hPl hPe
  go_wp2_with fail
  refine (following_any (w.heap.size + 1) n lc la es w1 HN.out.symm h1024 HPL.out HRQ.out HQ.out).mono ?_
  rintro e w2 ⟨v, rfl, hown2, hb2⟩
  obtain ⟨ga, gc, eg, hPg⟩ := ptrs_of hown2
  rw [eg]
  have HPG := Hid.mk hPg
  have hkl := kept_le es
  have hkn : (kept es).length ≤ n := by have := HN.out; omega
  obtain ⟨K, hK⟩ : ∃ K, K = (kept es).length := ⟨_, rfl⟩
  rw [← hK] at hkn ⊢
  have HK := Hid.mk hK
  have HB2 := Hid.mk hb2
  clear hPg hown2 eg hkl hK
  obtain ⟨i0, hi, hz0, hz1, hz2⟩ := info_parts info23
  go_wp2
  go_loopw [7, 8] (fun v i wr => ∃ k : Nat, k ≤ n ∧ i = .int .i64 k ∧ wr.ownsRow w2.heap.size 23 1 v (kept (es.take k)).length (ptrs (kept (es.take k))) ∧ Below w2.heap.size w2 wr) (fun _ i _ => n - (intOf i).toNat)
  case atStart => exact ⟨0, Nat.zero_le _, rfl, World.ownsRow_nil _ _ _ _, Below.refl _ _⟩
  case round =>
    obtain ⟨k, hk, rfl, hown, hnx⟩ := hrel
    have hsz2 := hnx.size
    by_cases hlt : k < n
    · have hke : k < es.length := by have := HN.out; omega
      obtain ⟨p, b, hpb⟩ : ∃ p b, es[k] = (p, b) := ⟨_, _, rfl⟩
      have hsn := kept_snoc es k hke
      rw [hpb] at hsn
      have HSN : Hid (kept (es.take (k + 1)) = kept (es.take k) ++ if b then [p] else []) := hsn
      have hkl : (kept (es.take k)).length ≤ k := Nat.le_trans (kept_le _) (by simp; omega)
      have q1 : (k : Int) < (n : Int) := by omega
      rcases (HPL.out.below HB2.out).below hnx with h0 | ⟨lg, lo, rfl, hcl⟩
      · have : es.length = 0 := by simpa using congrArg List.length h0
        omega
      rcases (HPE.out.below HB2.out).below hnx with h0 | ⟨eg, rfl, hce⟩
      · have : es.length = 0 := by simpa using congrArg List.length h0
        omega
      have cl := hcl k (by simpa using hke)
      have ce := hce k (by simpa using hke)
      have e1 : (es.map (·.1))[k]'(by simpa using hke) = p := by simp [hpb]
      have e2 : (es.map (·.2))[k]'(by simpa using hke) = b := by simp [hpb]
      rw [e1] at cl
      rw [e2] at ce
      obtain ⟨ks, hks⟩ : ∃ ks, ks = kept (es.take k) := ⟨_, rfl⟩
      rw [← hks] at hown hkl
      have HKS : Hid (ks = kept (es.take k)) := hks
      have HOWN := Hid.mk hown
      clear hsn hcl hce hpb e1 e2 hks hown
      cases b
      · go_wp2
        go_roundw
        case rel => exact ⟨k + 1, by omega, by go_num, by rw [HSN.out, ← HKS.out]; simpa using HOWN.out, hnx⟩
        case measure => simp [intOf]; omega
      · go_wp2_with (at_builtin; refine wpList_append_own _ rfl (.tmp 32) (.tmp 37) 24 (by rfl) w2.heap.size 23 i0 (.pointer none) 1 8 Yba.underlying24 hi hz0 hz1 hz2 rfl (by decide) _ ks.length (ptrs ks) (by rfl) (HOWN.out.alloc _) ⟨wr.heap.size, 0, none⟩ 1 1 [.pointer (some ⟨p, 0, none⟩)] (by rfl) rfl (cell_one_new _ _ _) (one_ptr _) ?c3 ?c4 ?c5 ?_)
        case c3 => unfold maxLen; omega
        case c4 => omega
        case c5 => first | omega | (simp; omega)
        intro v' w3 hown' hgrow _
        have R := own_push (p := p) hnx hsz2 HOWN.out hown' _ hgrow
        clear hown' hgrow
        go_wp2
        go_roundw
        case rel => exact ⟨k + 1, by omega, by go_num, by rw [HSN.out, ← HKS.out]; exact R.1, R.2⟩
        case measure => simp [intOf]; omega
    · have q1 : ¬ (k : Int) < (n : Int) := by omega
      have e1 : es.take k = es := List.take_of_length_le (by have := HN.out; omega)
      rw [e1] at hown
      obtain ⟨wa, wc, ew, hPw⟩ := ptrs_of hown
      rw [← HK.out] at ew
      subst ew
      have HPW := Hid.mk hPw
      have HNX := Hid.mk hnx
      clear hown e1 hPw hnx
      go_wp2
      obtain ⟨wo, rfl⟩ : ∃ wo : World, wo = wr := ⟨_, rfl⟩
      go_loopw [9] (fun i wt => ∃ m : Nat, m ≤ K ∧ i = .int .i64 m ∧ Below wo.heap.size wo wt) (fun i _ => K - (intOf i).toNat)
      case atStart => exact ⟨0, Nat.zero_le _, rfl, Below.refl _ _⟩
      case round =>
        obtain ⟨m, hm, rfl, hbt⟩ := hrel
        by_cases hmK : m < K
        · have q2 : (m : Int) < (K : Int) := by omega
          have hmk : m < (kept es).length := by have := HK.out; omega
          rcases (HPG.out.below HNX.out).below hbt with h0 | ⟨gg, go, rfl, hcg⟩
          · rw [h0] at hmk; exact absurd hmk (Nat.not_lt_zero _)
          rcases HPW.out.below hbt with h0 | ⟨wg, wo2, rfl, hcw⟩
          · rw [h0] at hmk; exact absurd hmk (Nat.not_lt_zero _)
          have cg := hcg m hmk
          have cw := hcw m hmk
          obtain ⟨x, hx⟩ : ∃ x, x = (kept es)[m] := ⟨_, rfl⟩
          rw [← hx] at cg cw
          have hne := neq_same x
          clear hcg hcw hx
          go_wp2
          go_quiet (fail)
          go_wp2
          go_roundw
          case rel => exact ⟨m + 1, by omega, by go_num, fdrewN hbt _⟩
          case measure => simp [intOf]; omega
        · have q2 : ¬ (m : Int) < (K : Int) := by omega
          go_wp2
          go_ret
          exact ⟨rfl, (hb1.trans (HB2.out.mono hb1.size)).trans ((HNX.out.trans (hbt.mono HNX.out.size)).mono (Nat.le_trans hb1.size HB2.out.size))⟩
end Go.Proofs.Ybulkatsw.Fo
