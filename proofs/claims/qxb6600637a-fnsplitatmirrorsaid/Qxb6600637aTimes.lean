import Derived.Test.Qxb6600637aArgs
namespace Go.Proofs.Qxb6600637a
open Go.ChangeShapes Go.WideShapes Go.ChangeAt Go.RowKit

section
variable {w : World} {t : Toks} {ao apl aob an ap : Option Addr} {lo co lpl cpl lob cob ln cn lp cp : Nat} {fpl fob : Nat → Int} {fs : Nat → ByteArray} {fp : Nat → Bool}

set_option maxHeartbeats 1000000 in
theorem times_any (h : Args w t ao apl aob an ap lo co lpl cpl lob cob ln cn lp cp fpl fob fs fp) (hn : lo ≤ 65536) (g : Nat → Bool) (pi : Int) (W : World) (hb : Below w.heap.size w W) :
    Calls Try.prog 31 #[.slice ao lo co, .slice apl lpl cpl, .slice aob lob cob, .slice an ln cn, .int .i64 pi] W fun e w' => e = .returned (.int .i64 (cntP pi (leafT t g 0 lo))) ∧ W = w' := by
  go_enter Try.func31, Try.ntmps31
  go_wp2
  go_loopw [11, 12] (fun vc vi wr => W = wr ∧ ∃ i : Nat, i ≤ lo ∧ vi = .int .i64 i ∧ vc = .int .i64 (cntP pi (leafT t g 0 i))) (fun _ vi _ => lo - (intOf vi).toNat)
  case atStart => exact ⟨rfl, 0, by omega, rfl, rfl⟩
  case round =>
    obtain ⟨rfl, i, hi, rfl, rfl⟩ := hrel
    by_cases hlt : i < lo
    · have H28 := h.Hlf i hlt W hb
      have H27 := h.Hpl i W hb
      have hcb := cntP_bd pi (leafT t g 0 i)
      have hln := leafT_len t g 0 i
      cases hl : isLeaf t i
      · have ET : Hid (leafT t g 0 (i + 1) = leafT t g 0 i) := by
          show leafT t g 0 (i + 1) = _
          rw [leafT_succ t g (Nat.zero_le i)]
          simp [oneT, hl]
        rw [hl] at H28
        clear hl
        go_wp2_with (first | (go_at_call 28; refine H28.mono ?_; rintro e w' ⟨rfl, rfl⟩) | (go_at_call 27; refine H27.mono ?_; rintro e w' ⟨rfl, rfl⟩))
        go_roundw
        case rel => exact ⟨by trivial, i + 1, by omega, by go_num, by rw [ET.out]⟩
        case measure => simp [intOf]; omega
      · have EC : Hid (cntP pi (leafT t g 0 (i + 1)) = if t.pl i = pi then cntP pi (leafT t g 0 i) + 1 else cntP pi (leafT t g 0 i)) := by
          show cntP pi (leafT t g 0 (i + 1)) = _
          rw [(st_time hl g).1, cntP_snoc]
        rw [hl] at H28
        clear hl
        generalize t.pl i = q at *
        by_cases e1 : q = pi
        · have e1' : (q == pi) = true := by simp [e1]
          have E1 : Hid (q = pi) := e1
          clear e1
          go_wp2_with (first | (go_at_call 28; refine H28.mono ?_; rintro e w' ⟨rfl, rfl⟩) | (go_at_call 27; refine H27.mono ?_; rintro e w' ⟨rfl, rfl⟩))
          go_roundw
          case rel => exact ⟨by trivial, i + 1, by omega, by go_num, by rw [EC.out, if_pos E1.out]⟩
          case measure => simp [intOf]; omega
        · have e1' : (q == pi) = false := by simp [e1]
          have E1 : Hid (¬ q = pi) := e1
          clear e1
          go_wp2_with (first | (go_at_call 28; refine H28.mono ?_; rintro e w' ⟨rfl, rfl⟩) | (go_at_call 27; refine H27.mono ?_; rintro e w' ⟨rfl, rfl⟩))
          go_roundw
          case rel => exact ⟨by trivial, i + 1, by omega, by go_num, by rw [EC.out, if_neg E1.out]⟩
          case measure => simp [intOf]; omega
    · have hil : i = lo := by omega
      subst hil
      go_wp2
      go_ret
      exact ⟨rfl, rfl⟩
end

/-- both calls of ZZsplitAt, the second with its sides exchanged -/
theorem call26b {wc W : World} {n lp cp : Nat} {t : Toks} {x y ap : Option Addr} {fp : Nat → Bool} (hok : BOK wc n lp t x y W) (hpk : Sl wc.heap.size wc ap lp (fun i => .bool (fp i))) (hn : n ≤ 65536) (pi hand : Int) :
    ∃ (X Y : List (Int × Int)) (A B : List (Int × Int × ByteArray)) (g : Nat → Bool), X ++ negT Y = leafT t g 0 n ∧ Below wc.heap.size wc W ∧
      (∀ cmp, Calls Try.prog 26 #[.string cmp, .pointer x, .pointer y, .int .i64 pi, .int .i64 hand, .slice ap lp cp] W fun e w' =>
        e = .returned (zzV cmp pi hand (fun p => fp p.toNat) (X ++ negT Y) (A ++ B)) ∧ Below W.heap.size W w') ∧
      (∀ (cmp : ByteArray) (W2 : World), Below W.heap.size W W2 → Calls Try.prog 26 #[.string cmp, .pointer y, .pointer x, .int .i64 pi, .int .i64 hand, .slice ap lp cp] W2 fun e w' =>
        e = .returned (zzV cmp pi hand (fun p => fp p.toNat) (Y ++ negT X) (B ++ A)) ∧ Below W2.heap.size W2 w') := by
  obtain ⟨s, lo, D, f, g, hs, hTx, hTy, hcat, hfl, hrng, hbW⟩ := hok
  have l1 := leafT_len t f 0 s
  have l2 := leafT_len t f s n
  have l3 := leafA_len t 0 s
  have l4 := leafA_len t s n
  have hA : leafA t 0 s ++ leafA t s n = leafA t 0 n := leafA_cat t (by omega) n hs
  have r1 : ∀ u ∈ leafT t f 0 s ++ negT (leafT t f s n), 0 ≤ u.1 ∧ u.1 < (lp : Int) ∧ -1 ≤ u.2 ∧ u.2 ≤ 1 := by
    intro u hu
    rw [hcat] at hu
    obtain ⟨p, _, hp, ho, e, e2, e3⟩ := leafT_mem t g 0 n u hu
    have := hrng p hp ho
    rw [e]
    exact ⟨this.1, this.2, e2, e3⟩
  have r2 : ∀ u ∈ leafA t 0 s ++ leafA t s n, 0 ≤ u.1 ∧ u.1 < (lp : Int) := by
    intro u hu
    rw [hA] at hu
    obtain ⟨p, _, hp, ho, e⟩ := leafA_mem t 0 n u hu
    rw [e]
    exact hrng p hp ho
  have r3 : ∀ u ∈ leafT t f s n ++ negT (leafT t f 0 s), 0 ≤ u.1 ∧ u.1 < (lp : Int) ∧ -1 ≤ u.2 ∧ u.2 ≤ 1 := by
    intro u hu
    rcases List.mem_append.1 hu with h1 | h1
    · have := r1 (u.1, -u.2) (List.mem_append_right _ (List.mem_map.2 ⟨u, h1, rfl⟩))
      have h2 : 0 ≤ u.1 ∧ u.1 < (lp : Int) ∧ -1 ≤ -u.2 ∧ -u.2 ≤ 1 := this
      omega
    · obtain ⟨v, hv, rfl⟩ := List.mem_map.1 h1
      have h2 := r1 v (List.mem_append_left _ hv)
      show 0 ≤ v.1 ∧ v.1 < (lp : Int) ∧ -1 ≤ -v.2 ∧ -v.2 ≤ 1
      omega
  have r4 : ∀ u ∈ leafA t s n ++ leafA t 0 s, 0 ≤ u.1 ∧ u.1 < (lp : Int) := by
    intro u hu
    exact r2 u (List.mem_append.2 (List.mem_append.1 hu).symm)
  refine ⟨leafT t f 0 s, leafT t f s n, leafA t 0 s, leafA t s n, g, hcat, hbW, fun cmp => ?_, fun cmp W2 hb2 => ?_⟩
  · exact zz_any W lo W.heap.size D D cmp x y _ _ _ _ pi hand ap lp cp fp hTx hTy (Nat.le_refl _) ((hpk.below hbW).mono hbW.size) (by omega) (by omega) r1 r2
  · exact zz_any W2 lo W.heap.size D D cmp y x _ _ _ _ pi hand ap lp cp fp (hTy.below hb2 (Nat.le_refl _)) (hTx.below hb2 (Nat.le_refl _)) hb2.size ((((hpk.below hbW).mono hbW.size).below hb2).mono hb2.size) (by omega) (by omega) r3 r4

end Go.Proofs.Qxb6600637a
