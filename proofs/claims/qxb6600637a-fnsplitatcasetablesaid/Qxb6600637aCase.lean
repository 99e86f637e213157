import Derived.Test.Qxb6600637aLoop
import Derived.Test.Qxb6600637aTail
namespace Go.Proofs.Qxb6600637a
open Go.ChangeShapes Go.WideShapes Go.ChangeAt Go.RowKit

set_option maxHeartbeats 4000000 in
set_option maxRecDepth 100000 in
theorem case_walk (w : World) (t : Toks) (cmp : ByteArray) (ao apl aob an ap : Option Addr) (lo co lpl cpl lob cob ln cn lp cp : Nat) (fpl fob : Nat → Int) (fs : Nat → ByteArray) (fp : Nat → Bool) (pi hand : Int)
    (h : Args w t ao apl aob an ap lo co lpl cpl lob cob ln cn lp cp fpl fob fs fp) :
    Calls Try.prog 8 #[.string cmp, .slice ao lo co, .slice apl lpl cpl, .slice aob lob cob, .slice an ln cn, .int .i64 pi, .int .i64 hand, .slice ap lp cp] w fun e w' => e = .returned (.bool true) ∧ Below w.heap.size w w' := by
  have hneq := fun w0 : World => run_neq_slice_nil_any (P := Try.prog) w0 40 4 ap lp cp 0 0 Try.underlying40
  go_enter Try.func8, Try.ntmps8
  go_wp2_with fail
  refine (zzCase_any w.heap.size w cmp ao apl aob an ap lo co lpl cpl lob cob ln cn lp cp pi hand fs h.names h.len).mono ?_
  rintro e w' ⟨⟨c, rfl⟩, rfl⟩
  cases c
  · go_wp2_with fail
    go_ret
    exact ⟨rfl, Below.refl _ _⟩
  by_cases l1 : (65536 : Int) < (cmp.size : Int)
  · go_wp2_with fail
    go_ret
    exact ⟨rfl, Below.refl _ _⟩
  by_cases l2 : (65536 : Int) < (lo : Int)
  · go_wp2_with fail
    go_ret
    exact ⟨rfl, Below.refl _ _⟩
  by_cases l3 : (65536 : Int) < (lpl : Int)
  · go_wp2_with fail
    go_ret
    exact ⟨rfl, Below.refl _ _⟩
  by_cases l4 : (65536 : Int) < (lob : Int)
  · go_wp2_with fail
    go_ret
    exact ⟨rfl, Below.refl _ _⟩
  by_cases l5 : (65536 : Int) < (ln : Int)
  · go_wp2_with fail
    go_ret
    exact ⟨rfl, Below.refl _ _⟩
  by_cases l6 : (65536 : Int) < (lp : Int)
  · go_wp2_with fail
    go_ret
    exact ⟨rfl, Below.refl _ _⟩
  go_wp2_with fail
  refine (strings_any w.heap.size w an ln cn fs h.names h.len).mono ?_
  rintro e w' ⟨⟨z, rfl⟩, rfl⟩
  go_upto_if 99 with fail
  · go_ret
    exact ⟨rfl, Below.refl _ _⟩
  go_cut [7, 17] from 98 to 106 (fun v7 _ w1 => Pk w lp fp v7 w1)
  case first =>
    cases ap with
    | none =>
      obtain ⟨rfl, rfl⟩ := h.nil rfl
      go_wp2_with fail
      go_meet
      exact ⟨none, 0, rfl, fun i hi => absurd hi (by omega), Below.refl _ _⟩
    | some a =>
      have hlp : lp ≤ 65536 := by omega
      have hmk := run_make_row' (P := Try.prog) 40 4 (.bool false) 1 Try.underlying40 Try.info4 rfl .i64 .i64 lp (by omega) (by omega)
      have hal : Below w.heap.size w (w.alloc (.cells (madeCells #[.bool false] lp) 4)) := (Below.refl _ _).alloc (Nat.le_refl _) _
      go_wp2_with (refine wpList_copy_splice rfl (.tmp 103) (.tmp 104) 40 40 rfl 4 Try.underlying40 (by kernel_rfl) (some ⟨w.heap.size, 0, none⟩) (some a) lp lp lp cp rfl rfl w.heap.size 0 (List.replicate lp (.bool false)) 4 (made_blk w _ _ _) ((List.range lp).map fun i => .bool (fp i)) (by simp) (fun _ => ⟨rfl, a, rfl, copy_src h.picked hal⟩) (by simp) copy_one w.heap.size w hal (Nat.le_refl _) ?_; intro w2 HG hb2)
      go_meet
      exact ⟨some ⟨w.heap.size, 0, none⟩, lp, rfl, copy_sl HG.out, hb2⟩
  case rest =>
    obtain ⟨ap', cp', rfl, hpk, hbel⟩ := hcut
    clear hneq
    have hn : lo ≤ 65536 := by omega
    go_wp2_with fail
    refine (build_any wc lo lp t ao apl aob an co lpl cpl lob cob ln cn ((h.ops.below hbel).mono hbel.size) hn (fun k w' hb => h.Hpl k w' (hbel.trans (hb.mono hbel.size))) (fun k w' hb => h.Hob k w' (hbel.trans (hb.mono hbel.size))) (fun k w' hb => h.Hnm k w' (hbel.trans (hb.mono hbel.size)))).mono ?_
    rintro e W (⟨rfl, hbW⟩ | ⟨x, y, rfl, hok⟩)
    · go_wp2_with fail
      go_ret
      exact ⟨rfl, hbel.trans (hbW.mono hbel.size)⟩
    obtain ⟨g, hfl, hrng, hbW, H26⟩ := call26 (cp := cp') hok hpk hn cmp pi hand
    have hpk2 := (hpk.below hbW).mono hbW.size
    have hbw := hbel.trans (hbW.mono hbel.size)
    clear hok hpk hbW hbel
    unfold zzV at H26
    generalize hre : recP hand (leafT t g 0 lo) = re at H26
    generalize htr : trB re (leafT t g 0 lo).length (sgnP hand (leafT t g 0 lo)) (sgnP pi (leafT t g 0 lo)) (owA pi (leafA t 0 lo)) = tr at H26
    generalize hst : favB cmp (sgnP pi (leafT t g 0 lo)) = st at H26
    generalize hcn : cntP pi (leafT t g 0 lo) = cn0 at H26
    generalize hkn : knA (fun p => fp p.toNat) (knT (fun p => fp p.toNat) (leafT t g 0 lo)) (leafA t 0 lo) = kn at H26
    have HRE : Hid (recP hand (leafT t g 0 lo) = re) := hre
    have HTR : Hid (trB re (leafT t g 0 lo).length (sgnP hand (leafT t g 0 lo)) (sgnP pi (leafT t g 0 lo)) (owA pi (leafA t 0 lo)) = tr) := htr
    have HST : Hid (favB cmp (sgnP pi (leafT t g 0 lo)) = st) := hst
    have HCN : Hid (cntP pi (leafT t g 0 lo) = cn0) := hcn
    have HKN : Hid (knA (fun p => fp p.toNat) (knT (fun p => fp p.toNat) (leafT t g 0 lo)) (leafA t 0 lo) = kn) := hkn
    clear hre htr hst hcn hkn
    go_wp2_with fail
    refine H26.mono ?_
    rintro e W2 ⟨rfl, hb2⟩
    have hpk3 := (hpk2.below hb2).mono hb2.size
    have hfl3 := (hfl.below hb2).mono hb2.size
    have hbw2 := hbw.trans (hb2.mono hbw.size)
    clear hpk2 hfl hbw hb2 H26
    go_wp2_with fail
    rename_i K ha
    refine case_loop h hn hrng hpk3 hfl3 hbw2 _ _ ?_
    intros
    refine ha _ _ ?_
    have hsb := sgnP_bd pi (leafT t g 0 lo) (fun u hu => by obtain ⟨p, _, _, _, _, e2, e3⟩ := leafT_mem t g 0 lo u hu; exact ⟨e2, e3⟩)
    have HKN2 : Hid (knL (fun p => fp p.toNat) t g lo = kn) := HKN.out
    have hlb := leafT_len t g 0 lo
    rw [HRE.out, HCN.out, HKN2.out]
    clear HRE HCN HKN HKN2 hpk3 hfl3 hrng
    generalize sgnP pi (leafT t g 0 lo) = sg at *
    generalize sgnP hand (leafT t g 0 lo) = hs at *
    generalize (leafT t g 0 lo).length = len at *
    generalize owA pi (leafA t 0 lo) = ow at *
    obtain ⟨hs1, hs2⟩ := hsb
    exact case_tail HTR HST hs1 hs2 hbw2

end Go.Proofs.Qxb6600637a
