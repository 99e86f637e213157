import Derived.Test.Qxb6600637aTimes
import Derived.Test.Qxb6600637aMirPlain
namespace Go.Proofs.Qxb6600637a
open Go.ChangeShapes Go.WideShapes Go.ChangeAt Go.RowKit

theorem leafT_sgd (t : Toks) (g : Nat → Bool) (n : Nat) : Sgd (leafT t g 0 n) := by
  intro x hx
  unfold leafT at hx
  obtain ⟨p, _, hx⟩ := List.mem_flatMap.1 hx
  unfold oneT at hx
  by_cases hl : isLeaf t p
  · rw [if_pos hl] at hx
    simp only [List.mem_singleton] at hx
    subst hx
    show (if par g p then (-1 : Int) else 1) = 1 ∨ (if par g p then (-1 : Int) else 1) = -1
    split
    · exact .inr rfl
    · exact .inl rfl
  · rw [if_neg hl] at hx; simp at hx

/-- the answer of the mirrored comparison is the same -/
theorem zz_mirror (cmp : ByteArray) (pi hand : Int) (pk : Int → Bool) (X Y : List (Int × Int)) (A B : List (Int × Int × ByteArray)) (hs : Sgd (X ++ negT Y)) (h : cntP pi (X ++ negT Y) ≤ 1) :
    zzV cmp pi hand pk (X ++ negT Y) (A ++ B) = zzV (mirS cmp) pi hand pk (Y ++ negT X) (B ++ A) := by
  have hc : (sgs pi (X ++ negT Y)).length ≤ 1 := by rw [cnt_sgs] at h; omega
  unfold zzV
  rw [mir_tr pi hand X Y _ hs h, mir_rec hand X Y, mir_cnt pi X Y, mir_kn pk X Y A B, mir_ow pi A B, mir_fav cmp, ← mir_sgn pi X Y hc]

def SomeB (v : Value) : Prop := ∃ b : Bool, v = .bool b

set_option maxHeartbeats 4000000 in
set_option maxRecDepth 100000 in
theorem mirror_walk (w : World) (t : Toks) (cmp : ByteArray) (ao apl aob an ap : Option Addr) (lo co lpl cpl lob cob ln cn lp cp : Nat) (fpl fob : Nat → Int) (fs : Nat → ByteArray) (fp : Nat → Bool) (pi hand : Int)
    (h : Args w t ao apl aob an ap lo co lpl cpl lob cob ln cn lp cp fpl fob fs fp) :
    Calls Try.prog 9 #[.string cmp, .slice ao lo co, .slice apl lpl cpl, .slice aob lob cob, .slice an ln cn, .int .i64 pi, .int .i64 hand, .slice ap lp cp] w fun e w' => e = .returned (.bool true) ∧ Below w.heap.size w w' := by
  have hneq := fun w0 : World => run_neq_slice_nil_any (P := Try.prog) w0 40 4 ap lp cp 0 0 Try.underlying40
  go_enter Try.func9, Try.ntmps9
  go_wp2_with fail
  refine (zzMirror_any w.heap.size w cmp ao apl aob an ap lo co lpl cpl lob cob ln cn lp cp pi hand fs h.names h.len).mono ?_
  rintro e w' ⟨⟨c, rfl⟩, rfl⟩
  cases c
  · go_wp2_with fail
    go_ret
    exact ⟨rfl, Below.refl _ _⟩
  by_cases l1 : (65536 : Int) < (cmp.size : Int)
  · go_wp2_with fail
    go_ret
    exact ⟨rfl, Below.refl _ _⟩
  by_cases l2 : (65536 : Int) < (lo : Int)
  · go_wp2_with fail
    go_ret
    exact ⟨rfl, Below.refl _ _⟩
  by_cases l3 : (65536 : Int) < (lpl : Int)
  · go_wp2_with fail
    go_ret
    exact ⟨rfl, Below.refl _ _⟩
  by_cases l4 : (65536 : Int) < (lob : Int)
  · go_wp2_with fail
    go_ret
    exact ⟨rfl, Below.refl _ _⟩
  by_cases l5 : (65536 : Int) < (ln : Int)
  · go_wp2_with fail
    go_ret
    exact ⟨rfl, Below.refl _ _⟩
  by_cases l6 : (65536 : Int) < (lp : Int)
  · go_wp2_with fail
    go_ret
    exact ⟨rfl, Below.refl _ _⟩
  go_wp2_with fail
  refine (strings_any w.heap.size w an ln cn fs h.names h.len).mono ?_
  rintro e w' ⟨⟨z, rfl⟩, rfl⟩
  go_upto_region 7 with fail
  · go_ret
    exact ⟨rfl, Below.refl _ _⟩
  go_cut [105] from 91 to 104 (fun v105 wx => w = wx ∧ SomeB v105)
  case first =>
    cases c1 : (cmp.toList == [60])
    · cases c2 : (cmp.toList == [60, 61])
      · cases c3 : (cmp.toList == [62])
        · cases c4 : (cmp.toList == [62, 61])
          · go_wp2_with fail
            go_meet
            exact ⟨rfl, _, rfl⟩
          · go_wp2_with fail
            go_meet
            exact ⟨rfl, _, rfl⟩
        · go_wp2_with fail
          go_meet
          exact ⟨rfl, _, rfl⟩
      · go_wp2_with fail
        go_meet
        exact ⟨rfl, _, rfl⟩
    · go_wp2_with fail
      go_meet
      exact ⟨rfl, _, rfl⟩
  case rest =>
    obtain ⟨rfl, b105, rfl⟩ := hcut
    cases b105
    case true =>
      go_wp2_with fail
      go_ret
      exact ⟨rfl, Below.refl _ _⟩
    case false =>
      go_upto_if 107 with fail
      go_cut [7, 17] from 106 to 114 (fun v7 _ w1 => Pk w lp fp v7 w1)
      case first =>
        cases ap with
        | none =>
          obtain ⟨rfl, rfl⟩ := h.nil rfl
          go_wp2_with fail
          go_meet
          exact ⟨none, 0, rfl, fun i hi => absurd hi (by omega), Below.refl _ _⟩
        | some a =>
          have hlp : lp ≤ 65536 := by omega
          have hmk := run_make_row' (P := Try.prog) 40 4 (.bool false) 1 Try.underlying40 Try.info4 rfl .i64 .i64 lp (by omega) (by omega)
          have hal : Below w.heap.size w (w.alloc (.cells (madeCells #[.bool false] lp) 4)) := (Below.refl _ _).alloc (Nat.le_refl _) _
          go_wp2_with (refine wpList_copy_splice rfl (.tmp 111) (.tmp 112) 40 40 rfl 4 Try.underlying40 (by kernel_rfl) (some ⟨w.heap.size, 0, none⟩) (some a) lp lp lp cp rfl rfl w.heap.size 0 (List.replicate lp (.bool false)) 4 (made_blk w _ _ _) ((List.range lp).map fun i => .bool (fp i)) (by simp) (fun _ => ⟨rfl, a, rfl, copy_src h.picked hal⟩) (by simp) copy_one w.heap.size w hal (Nat.le_refl _) ?_; intro w2 HG hb2)
          go_meet
          exact ⟨some ⟨w.heap.size, 0, none⟩, lp, rfl, copy_sl HG.out, hb2⟩
      case rest =>
        obtain ⟨ap', cp', rfl, hpk, hbel⟩ := hcut
        clear hneq
        have hn : lo ≤ 65536 := by omega
        go_wp2_with fail
        refine (build_any wc lo lp t ao apl aob an co lpl cpl lob cob ln cn ((h.ops.below hbel).mono hbel.size) hn (fun k w' hb => h.Hpl k w' (hbel.trans (hb.mono hbel.size))) (fun k w' hb => h.Hob k w' (hbel.trans (hb.mono hbel.size))) (fun k w' hb => h.Hnm k w' (hbel.trans (hb.mono hbel.size)))).mono ?_
        rintro e W (⟨rfl, hbW⟩ | ⟨x, y, rfl, hok⟩)
        · go_wp2_with fail
          go_ret
          exact ⟨rfl, hbel.trans (hbW.mono hbel.size)⟩
        obtain ⟨X, Y, A, B, g, hcat, hbW, H1, H2⟩ := call26b (cp := cp') hok hpk hn pi hand
        have hbw := hbel.trans (hbW.mono hbel.size)
        have H31 := times_any h hn g pi W hbw
        have hsg := leafT_sgd t g lo
        rw [← hcat] at H31 hsg
        clear hok hpk hbW hbel hcat
        go_wp2_with fail
        refine H31.mono ?_
        rintro e w' ⟨rfl, rfl⟩
        clear H31
        by_cases hc : cntP pi (X ++ negT Y) ≤ 1
        · have HZ := zz_mirror cmp pi hand (fun p => fp p.toNat) X Y A B hsg hc
          have K1 := H1 cmp
          have K2 := H2 (mirS cmp)
          rw [← HZ] at K2
          clear HZ H1 H2 hsg
          unfold zzV at K1 K2
          generalize trB _ _ _ _ _ = tr at K1 K2
          generalize favB _ _ = st at K1 K2
          generalize knA _ _ _ = kn at K1 K2
          generalize recP _ _ = re at K1 K2
          generalize cntP pi (X ++ negT Y) = cn0 at *
          go_wp2_with fail
          refine K1.mono ?_
          rintro e W2 ⟨rfl, hb2⟩
          have K3 := K2 W2 hb2
          clear K1 K2
          go_wp2_with (go_at_call 32; refine (mir_any _ _).mono ?_; rintro e w' ⟨rfl, rfl⟩)
          refine K3.mono ?_
          rintro e W3 ⟨rfl, hb3⟩
          go_wp2_with fail
          go_ret
          exact ⟨rfl, hbw.trans ((hb2.trans (hb3.mono hb2.size)).mono hbw.size)⟩
        · have hc' : 1 < cntP pi (X ++ negT Y) := by omega
          clear hc
          go_wp2_with fail
          go_ret
          exact ⟨rfl, hbw⟩

end Go.Proofs.Qxb6600637a
