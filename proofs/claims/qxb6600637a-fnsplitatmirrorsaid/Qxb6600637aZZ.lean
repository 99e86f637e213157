import Derived.Test.Qxb6600637aSplit
import Derived.Deep.QuietTactic
import Derived.BigQuiet
namespace Go.Proofs.Qxb6600637a
open Go.ChangeShapes Go.WideShapes Go.ChangeAt Go.RowKit

theorem Sl.alloc {B : Nat} {w : World} {ao : Option Addr} {len : Nat} {V : Nat → Value} (h : Sl B w ao len V) (hB : B ≤ w.heap.size) (o : Obj) : Sl (B + 1) (w.alloc o) ao len V := by
  intro i hi
  obtain ⟨b, off, h1, h2, h3⟩ := h i hi
  exact ⟨b, off, h1, by omega, (((Below.refl B w).alloc hB o).cell (p := ⟨b, off + i, none⟩) h2).trans h3⟩

theorem Sl.mono {B B' : Nat} {w : World} {ao : Option Addr} {len : Nat} {V : Nat → Value} (h : Sl B w ao len V) (hB : B ≤ B') : Sl B' w ao len V := by
  intro i hi
  obtain ⟨b, off, h1, h2, h3⟩ := h i hi
  exact ⟨b, off, h1, by omega, h3⟩

/-- what ZZsplitAt answers -/
def zzV (cmp : ByteArray) (pi hand : Int) (pk : Int → Bool) (L : List (Int × Int)) (A : List (Int × Int × ByteArray)) : Value :=
  .tuple #[.bool false, .bool (recP hand L), .bool (trB (recP hand L) L.length (sgnP hand L) (sgnP pi L) (owA pi A)), .bool (favB cmp (sgnP pi L)), .int .i64 (cntP pi L), .bool (knA pk (knT pk L) A)]

theorem fill_one {wr W : World} {g : Nat} {cmp : ByteArray} {x y : Option Addr} {re tr st : Bool} (h : wr.heap[g]? = some (spObj ⟨#[]⟩ none none false false false))
    (hW : (((((((wr.setCell ⟨g, 0, none⟩ (.string cmp)).setCell ⟨g, 1, none⟩ (.pointer x)).setCell ⟨g, 2, none⟩ (.pointer y)).setCell ⟨g, 3, none⟩ (.bool false)).setCell ⟨g, 4, none⟩ (.bool re)).setCell ⟨g, 5, none⟩ (.bool tr)).setCell ⟨g, 6, none⟩ (.bool st)) = W) :
    (W.cell? ⟨g, 3, none⟩ = some (.bool false) ∧ W.cell? ⟨g, 4, none⟩ = some (.bool re) ∧ W.cell? ⟨g, 5, none⟩ = some (.bool tr) ∧ W.cell? ⟨g, 6, none⟩ = some (.bool st)) ∧
    ∀ B w, Below B w wr → B ≤ g → Below B w W := by
  subst hW
  refine ⟨?_, fun B w hb hB => ?_⟩
  · have k := sp_s6 (sp_s5 (sp_s4 (sp_s3 (sp_s2 (sp_s1 (sp_s0 h (.string cmp)) (.pointer x)) (.pointer y)) (.bool false)) (.bool re)) (.bool tr)) (.bool st)
    refine ⟨?_, ?_, ?_, ?_⟩ <;> rw [cell_of_row _ g _ _ _ _ k] <;> rfl
  · exact (((((((hb.setCell hB _).setCell hB _).setCell hB _).setCell hB _).setCell hB _).setCell hB _).setCell hB _)

set_option maxHeartbeats 1000000 in
theorem zz_any (w : World) (lo hi kx ky : Nat) (cmp : ByteArray) (x y : Option Addr) (Tx Ty : List (Int × Int)) (Ax Ay : List (Int × Int × ByteArray)) (pi hand : Int) (ap : Option Addr) (lp cp : Nat) (fp : Nat → Bool)
    (hx : Tr w lo hi kx x Tx Ax) (hy : Tr w lo hi ky y Ty Ay) (hhi : hi ≤ w.heap.size) (hp : Sl w.heap.size w ap lp (fun i => .bool (fp i)))
    (hlen : Tx.length + Ty.length ≤ 100000) (hlenA : Ax.length + Ay.length ≤ 100000) (hrT : ∀ t ∈ Tx ++ negT Ty, 0 ≤ t.1 ∧ t.1 < (lp : Int) ∧ -1 ≤ t.2 ∧ t.2 ≤ 1) (hrA : ∀ t ∈ Ax ++ Ay, 0 ≤ t.1 ∧ t.1 < (lp : Int)) :
    Calls Try.prog 26 #[.string cmp, .pointer x, .pointer y, .int .i64 pi, .int .i64 hand, .slice ap lp cp] w fun e w' =>
      e = .returned (zzV cmp pi hand (fun p => fp p.toNat) (Tx ++ negT Ty) (Ax ++ Ay)) ∧ Below w.heap.size w w' := by
  have hba : Below w.heap.size w (w.alloc (spObj ⟨#[]⟩ none none false false false)) := (Below.refl _ _).alloc (Nat.le_refl _) _
  have H := split_any (w.alloc (spObj ⟨#[]⟩ none none false false false)) lo hi kx ky cmp x y Tx Ty Ax Ay pi hand ap lp cp fp (hx.below hba hhi) (hy.below hba hhi) (by simp; omega) ((hp.alloc (Nat.le_refl _) _).mono (by simp)) hlen hlenA hrT hrA
  unfold splitV at H
  unfold zzV
  generalize recP hand (Tx ++ negT Ty) = re at *
  generalize trB re _ _ _ _ = tr at *
  generalize favB cmp _ = st at *
  generalize cntP pi (Tx ++ negT Ty) = cn at *
  generalize knA _ _ _ = kn at *
  have hsz : (w.alloc (spObj ⟨#[]⟩ none none false false false)).heap.size = w.heap.size + 1 := by simp
  rw [hsz] at H
  have hnew : (w.alloc (spObj ⟨#[]⟩ none none false false false)).heap[w.heap.size]? = some (spObj ⟨#[]⟩ none none false false false) := heap_alloc_new w _
  have HN : Hid ((w.alloc (spObj ⟨#[]⟩ none none false false false)).heap[w.heap.size]? = some (spObj ⟨#[]⟩ none none false false false)) := hnew
  clear hx hy hp hrT hrA hlen hlenA hhi hsz hnew
  unfold spObj at H
  go_enter Try.func26, Try.ntmps26
  go_wp2_with (go_at_call 40; refine H.mono ?_; rintro e w1 ⟨rfl, hb1⟩; have hblk := (hb1.block w.heap.size (Nat.lt_succ_self _)).trans HN.out; have hfz : ∀ j, w1.frozen? ⟨w.heap.size, j, none⟩ = false := fun j => frozen_of_row w1 _ j _ _ hblk; have e0 : w1.cell? ⟨w.heap.size, 0, none⟩ = some (.string ⟨#[]⟩) := (by rw [cell_of_row w1 _ 0 _ _ _ hblk]; rfl); have e1 : w1.cell? ⟨w.heap.size, 1, none⟩ = some (.pointer none) := (by rw [cell_of_row w1 _ 1 _ _ _ hblk]; rfl); have e2 : w1.cell? ⟨w.heap.size, 2, none⟩ = some (.pointer none) := (by rw [cell_of_row w1 _ 2 _ _ _ hblk]; rfl); have e3 : w1.cell? ⟨w.heap.size, 3, none⟩ = some (.bool false) := (by rw [cell_of_row w1 _ 3 _ _ _ hblk]; rfl); have e4 : w1.cell? ⟨w.heap.size, 4, none⟩ = some (.bool false) := (by rw [cell_of_row w1 _ 4 _ _ _ hblk]; rfl); have e5 : w1.cell? ⟨w.heap.size, 5, none⟩ = some (.bool false) := (by rw [cell_of_row w1 _ 5 _ _ _ hblk]; rfl); have e6 : w1.cell? ⟨w.heap.size, 6, none⟩ = some (.bool false) := (by rw [cell_of_row w1 _ 6 _ _ _ hblk]; rfl); have HBK : Hid (w1.heap[w.heap.size]? = some (spObj ⟨#[]⟩ none none false false false)) := hblk; clear hblk)
  generalize hWf : World.setCell _ _ _ = Wf
  obtain ⟨⟨f3, f4, f5, f6⟩, fb⟩ := fill_one HBK.out hWf
  clear hWf e0 e1 e2 e3 e4 e5 e6 hfz
  go_quiet (fail)
  go_wp2
  refine bodyPost_ret (v := .tuple #[.bool false, .bool re, .bool tr, .bool st, .int .i64 cn, .bool kn]) (by simp [results, Try.results26, go_sem]) rfl ⟨rfl, ?_⟩
  exact below_drewN (fb _ _ (hba.trans (hb1.mono (by omega))) (Nat.le_refl _)) _

end Go.Proofs.Qxb6600637a
