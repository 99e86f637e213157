import Derived.Test.Qxb6600637aSmall
import Derived.Test.Qxb6600637aPlain
import Derived.Laws.ResultCell
namespace Go.Proofs.Qxb6600637a
open Go.ChangeShapes Go.WideShapes Go.ChangeAt Go.RowKit

/-- the split that is being filled -/
def spObj (cmp : ByteArray) (x y : Option Addr) (re tr st : Bool) : Obj := .cells #[.string cmp, .pointer x, .pointer y, .bool false, .bool re, .bool tr, .bool st] 66

/-- the shape of what owns a row -/
theorem own_form {w : World} {B e size n : Nat} {v : Value} {xs : List Value} (h : w.ownsRow B e size v n xs) :
    ∃ (ao : Option Addr) (cap : Nat), v = .slice ao n cap ∧ ∀ (j : Nat) (u : Value), xs[j]? = some u → ∃ g : Nat, ao = some ⟨g, 0, none⟩ := by
  rcases h with ⟨hl, ⟨rfl, rfl⟩ | ⟨g, cap, cur, rfl, _⟩⟩
  · refine ⟨none, 0, rfl, fun j u hj => ?_⟩
    have : xs = [] := by simpa using hl
    rw [this] at hj; simp at hj
  · exact ⟨some ⟨g, 0, none⟩, cap, rfl, fun j u _ => ⟨g, rfl⟩⟩

/-- its cells -/
theorem own_cell {w : World} {B e size n cap g : Nat} {xs : List Value} (h : w.ownsRow B e size (.slice (some ⟨g, 0, none⟩) n cap) n xs) (j : Nat) (u : Value) (hj : xs[j]? = some u) :
    w.cell? ⟨g, j, none⟩ = some u := by
  have := h.cells (g := g) rfl j u hj
  have hadd : (⟨g, 0, none⟩ : Addr).add j = ⟨g, j, none⟩ := by unfold Addr.add; split <;> simp_all
  rw [hadd] at this
  exact this

theorem cellsT_get (L : List (Int × Int)) (k : Nat) (h : k < L.length) : (cellsT L)[k * 2]? = some (.int .i64 L[k].1) ∧ (cellsT L)[k * 2 + 1]? = some (.int .i64 L[k].2) := by
  induction L generalizing k with
  | nil => simp at h
  | cons t L ih =>
    cases k with
    | zero => simp [cellsT]
    | succ k =>
      have := ih k (by simpa using h)
      have e1 : (k + 1) * 2 = k * 2 + 1 + 1 := by omega
      rw [e1]
      simpa [cellsT] using this

theorem cellsA_get (L : List (Int × Int × ByteArray)) (k : Nat) (h : k < L.length) : (cellsA L)[k * 3]? = some (.int .i64 L[k].1) ∧ (cellsA L)[k * 3 + 1]? = some (.int .u8 L[k].2.1) ∧ (cellsA L)[k * 3 + 2]? = some (.string L[k].2.2) := by
  induction L generalizing k with
  | nil => simp at h
  | cons t L ih =>
    cases k with
    | zero => simp [cellsA]
    | succ k =>
      have := ih k (by simpa using h)
      have e1 : (k + 1) * 3 = k * 3 + 1 + 1 + 1 := by omega
      rw [e1]
      simpa [cellsA] using this

theorem blk_alloc {w : World} {b : Nat} {o o' : Obj} (h : w.heap[b]? = some o) : (w.alloc o').heap[b]? = some o :=
  (Below.heap_alloc w o' b (blk_lt h)).trans h

theorem scale_one (T : List (Int × Int)) : scaleT 1 T = T := by simp [scaleT]
theorem scale_m1 (T : List (Int × Int)) : scaleT (-1) T = negT T := by
  unfold scaleT negT
  apply List.map_congr_left
  intro t _
  simp

/-- what stands behind the two calls of terms -/
theorem split_mid {w w1 w2 : World} {oa ob : Obj} {v2 : Value} {Tx Ty : List (Int × Int)} (hb1 : Below (w.heap.size + 2) ((w.alloc oa).alloc ob).drew w1) (hb2 : Below (w.heap.size + 2) w1 w2)
    (hown : w2.ownsRow (w.heap.size + 2) 77 2 v2 (0 + Tx.length + Ty.length) ([] ++ cellsT (scaleT 1 Tx) ++ cellsT (scaleT (-1) Ty))) :
    w2.heap[w.heap.size]? = some oa ∧ w2.heap[w.heap.size + 1]? = some ob ∧ Below w.heap.size w w2 ∧ w.heap.size + 2 ≤ w2.heap.size ∧
    w2.ownsRow (w.heap.size + 2) 77 2 v2 (Tx ++ negT Ty).length (cellsT (Tx ++ negT Ty)) := by
  have hb := hb1.trans hb2
  refine ⟨?_, ?_, ?_, ?_, ?_⟩
  · rw [hb.block _ (by omega)]
    show (((w.heap.push oa).push ob))[w.heap.size]? = _
    simp [Array.getElem?_push]
  · rw [hb.block _ (by omega)]
    show (((w.heap.push oa).push ob))[w.heap.size + 1]? = _
    have e : w.heap.size + 1 = (w.heap.push oa).size := by simp
    rw [e, Array.getElem?_push, if_pos rfl]
  · have h0 : Below w.heap.size w ((w.alloc oa).alloc ob).drew := (((Below.refl _ _).alloc (Nat.le_refl _) _).alloc (by simp) _).drew
    exact h0.trans (hb.mono (by omega))
  · have := hb.size
    simpa using this
  · rw [List.length_append, negT_len, cellsT_append]
    rw [scale_one, scale_m1, List.nil_append, Nat.zero_add] at hown
    exact hown

/-- the relation of the first loop -/
def Rel1 (w : World) (cmp : ByteArray) (x y : Option Addr) (hand : Int) (L : List (Int × Int)) (ao : Option Addr) (cap : Nat) (k : Nat) (wr : World) : Prop :=
  wr.heap[w.heap.size]? = some (.cells #[.string cmp, .pointer x, .pointer y] 64) ∧ wr.heap[w.heap.size + 1]? = some (spObj ⟨#[]⟩ none none (recP hand (L.take k)) false false) ∧
  Below w.heap.size w wr ∧ w.heap.size + 2 ≤ wr.heap.size ∧ wr.ownsRow (w.heap.size + 2) 77 2 (.slice ao L.length cap) L.length (cellsT L)

theorem Rel1.skip {w wr : World} {cmp : ByteArray} {x y : Option Addr} {hand : Int} {L : List (Int × Int)} {ao : Option Addr} {cap k : Nat} (h : Rel1 w cmp x y hand L ao cap k wr)
    (hlt : k < L.length) (hne : ¬ L[k].1 = hand) (o : Obj) : Rel1 w cmp x y hand L ao cap (k + 1) (wr.alloc o) := by
  obtain ⟨h0, h1, hb, hs, ho⟩ := h
  refine ⟨blk_alloc h0, ?_, hb.alloc (by omega) _, by simp; omega, ho.alloc _⟩
  rw [take_snoc _ _ hlt, recP_snoc, if_neg hne]
  exact blk_alloc h1

theorem Rel1.hit {w wr : World} {cmp : ByteArray} {x y : Option Addr} {hand : Int} {L : List (Int × Int)} {ao : Option Addr} {cap k : Nat} (h : Rel1 w cmp x y hand L ao cap k wr)
    (hlt : k < L.length) (he : L[k].1 = hand) (o : Obj) : Rel1 w cmp x y hand L ao cap (k + 1) ((wr.setCell ⟨w.heap.size + 1, 4, none⟩ (.bool true)).alloc o).drew := by
  obtain ⟨h0, h1, hb, hs, ho⟩ := h
  have h1' := heap_setCell_same wr (w.heap.size + 1) 4 _ _ (.bool true) h1
  refine ⟨?_, ?_, ((hb.setCell (by simp) _).alloc (by simp; omega) _).drew, by simp; omega, ?_⟩
  · show ((wr.setCell ⟨w.heap.size + 1, 4, none⟩ (.bool true)).alloc o).heap[w.heap.size]? = _
    exact blk_alloc ((heap_setCell_other wr ⟨w.heap.size + 1, 4, none⟩ w.heap.size _ (by simp)).trans h0)
  · show ((wr.setCell ⟨w.heap.size + 1, 4, none⟩ (.bool true)).alloc o).heap[w.heap.size + 1]? = _
    rw [take_snoc _ _ hlt, recP_snoc, if_pos he]
    exact blk_alloc h1'
  · have := (ownsRow_setCell_below ho (a := ⟨w.heap.size + 1, 4, none⟩) (by simp) (.bool true)).alloc o
    exact this.drew

/-- the relation of the second loop -/
def Rel2 (w : World) (cmp : ByteArray) (x y : Option Addr) (re : Bool) (A : List (Int × Int × ByteArray)) (C n : Nat) (ao : Option Addr) (cap : Nat) (wr : World) : Prop :=
  wr.heap[w.heap.size]? = some (.cells #[.string cmp, .pointer x, .pointer y] 64) ∧ wr.heap[w.heap.size + 1]? = some (spObj ⟨#[]⟩ none none re false false) ∧
  Below w.heap.size w wr ∧ w.heap.size + 2 ≤ wr.heap.size ∧ wr.ownsRow C 71 3 (.slice ao n cap) n (cellsA A)

theorem Rel2.alloc {w wr : World} {cmp : ByteArray} {x y : Option Addr} {re : Bool} {A : List (Int × Int × ByteArray)} {C n : Nat} {ao : Option Addr} {cap : Nat} (h : Rel2 w cmp x y re A C n ao cap wr)
    (o : Obj) : Rel2 w cmp x y re A C n ao cap (wr.alloc o) := by
  obtain ⟨h0, h1, hb, hs, ho⟩ := h
  exact ⟨blk_alloc h0, blk_alloc h1, hb.alloc (by omega) _, by simp; omega, ho.alloc _⟩

theorem split_mid2 {w u u1 u2 : World} {oa ob : Obj} {v2 : Value} {Ax Ay : List (Int × Int × ByteArray)} (h0 : u.heap[w.heap.size]? = some oa) (h1 : u.heap[w.heap.size + 1]? = some ob) (hb : Below w.heap.size w u) (hs : w.heap.size + 2 ≤ u.heap.size)
    (hb1 : Below u.heap.size u.drew u1) (hb2 : Below u.heap.size u1 u2) {n : Nat} (hown : u2.ownsRow u.heap.size 71 3 v2 n ([] ++ cellsA Ax ++ cellsA Ay)) :
    u2.heap[w.heap.size]? = some oa ∧ u2.heap[w.heap.size + 1]? = some ob ∧ Below w.heap.size w u2 ∧ w.heap.size + 2 ≤ u2.heap.size ∧ u2.ownsRow u.heap.size 71 3 v2 n (cellsA (Ax ++ Ay)) := by
  have hbb := hb1.trans hb2
  have hsz := hbb.size
  have hd : u.drew.heap.size = u.heap.size := rfl
  refine ⟨(hbb.block _ (by omega)).trans h0, (hbb.block _ (by omega)).trans h1, hb.drew.trans (hbb.mono (by omega)), by omega, ?_⟩
  rw [cellsA_append]
  rw [List.nil_append] at hown
  exact hown

def trB (re : Bool) (len : Nat) (hs sg : Int) (ow : Bool) : Bool := re && (len == 2) && (hs == -sg) && ow

/-- what splitAt answers -/
def splitV (cmp : ByteArray) (x y : Option Addr) (pi hand : Int) (pk : Int → Bool) (L : List (Int × Int)) (A : List (Int × Int × ByteArray)) : Value :=
  .tuple #[.agg #[.string cmp, .pointer x, .pointer y, .bool false, .bool (recP hand L), .bool (trB (recP hand L) L.length (sgnP hand L) (sgnP pi L) (owA pi A)), .bool (favB cmp (sgnP pi L))],
    .int .i64 (cntP pi L), .bool (knA pk (knT pk L) A)]

theorem rngT {L : List (Int × Int)} {lp : Nat} (h : ∀ t ∈ L, 0 ≤ t.1 ∧ t.1 < (lp : Int) ∧ -1 ≤ t.2 ∧ t.2 ≤ 1) (k : Nat) (hk : k < L.length) : ∃ (q : Nat) (s : Int), L[k] = ((q : Int), s) ∧ q < lp ∧ -1 ≤ s ∧ s ≤ 1 := by
  obtain ⟨h1, h2, h3, h4⟩ := h L[k] (List.getElem_mem hk)
  refine ⟨L[k].1.toNat, L[k].2, ?_, by omega, h3, h4⟩
  rw [Int.toNat_of_nonneg h1]

theorem rngA {L : List (Int × Int × ByteArray)} {lp : Nat} (h : ∀ t ∈ L, 0 ≤ t.1 ∧ t.1 < (lp : Int)) (k : Nat) (hk : k < L.length) : ∃ (q : Nat) (ob : Int) (nm : ByteArray), L[k] = ((q : Int), ob, nm) ∧ q < lp := by
  obtain ⟨h1, h2⟩ := h L[k] (List.getElem_mem hk)
  refine ⟨L[k].1.toNat, L[k].2.1, L[k].2.2, ?_, by omega⟩
  rw [Int.toNat_of_nonneg h1]

theorem sp_s0 {w : World} {g : Nat} {c0 c1 c2 c3 c4 c5 c6 : Value} (h : w.heap[g]? = some (.cells #[c0, c1, c2, c3, c4, c5, c6] 66)) (v : Value) : (w.setCell ⟨g, 0, none⟩ v).heap[g]? = some (.cells #[v, c1, c2, c3, c4, c5, c6] 66) := heap_setCell_same w g 0 _ _ v h
theorem sp_s1 {w : World} {g : Nat} {c0 c1 c2 c3 c4 c5 c6 : Value} (h : w.heap[g]? = some (.cells #[c0, c1, c2, c3, c4, c5, c6] 66)) (v : Value) : (w.setCell ⟨g, 1, none⟩ v).heap[g]? = some (.cells #[c0, v, c2, c3, c4, c5, c6] 66) := heap_setCell_same w g 1 _ _ v h
theorem sp_s2 {w : World} {g : Nat} {c0 c1 c2 c3 c4 c5 c6 : Value} (h : w.heap[g]? = some (.cells #[c0, c1, c2, c3, c4, c5, c6] 66)) (v : Value) : (w.setCell ⟨g, 2, none⟩ v).heap[g]? = some (.cells #[c0, c1, v, c3, c4, c5, c6] 66) := heap_setCell_same w g 2 _ _ v h
theorem sp_s3 {w : World} {g : Nat} {c0 c1 c2 c3 c4 c5 c6 : Value} (h : w.heap[g]? = some (.cells #[c0, c1, c2, c3, c4, c5, c6] 66)) (v : Value) : (w.setCell ⟨g, 3, none⟩ v).heap[g]? = some (.cells #[c0, c1, c2, v, c4, c5, c6] 66) := heap_setCell_same w g 3 _ _ v h
theorem sp_s4 {w : World} {g : Nat} {c0 c1 c2 c3 c4 c5 c6 : Value} (h : w.heap[g]? = some (.cells #[c0, c1, c2, c3, c4, c5, c6] 66)) (v : Value) : (w.setCell ⟨g, 4, none⟩ v).heap[g]? = some (.cells #[c0, c1, c2, c3, v, c5, c6] 66) := heap_setCell_same w g 4 _ _ v h
theorem sp_s5 {w : World} {g : Nat} {c0 c1 c2 c3 c4 c5 c6 : Value} (h : w.heap[g]? = some (.cells #[c0, c1, c2, c3, c4, c5, c6] 66)) (v : Value) : (w.setCell ⟨g, 5, none⟩ v).heap[g]? = some (.cells #[c0, c1, c2, c3, c4, v, c6] 66) := heap_setCell_same w g 5 _ _ v h
theorem sp_s6 {w : World} {g : Nat} {c0 c1 c2 c3 c4 c5 c6 : Value} (h : w.heap[g]? = some (.cells #[c0, c1, c2, c3, c4, c5, c6] 66)) (v : Value) : (w.setCell ⟨g, 6, none⟩ v).heap[g]? = some (.cells #[c0, c1, c2, c3, c4, c5, v] 66) := heap_setCell_same w g 6 _ _ v h

theorem fill_block {wr W : World} {g : Nat} {cmp : ByteArray} {x y : Option Addr} {r0 re tr st : Bool} (h : wr.heap[g]? = some (spObj ⟨#[]⟩ none none r0 false false))
    (hW : ((((((((((((wr.setCell ⟨g, 0, none⟩ (.string cmp)).setCell ⟨g, 1, none⟩ (.pointer x)).setCell ⟨g, 2, none⟩ (.pointer y)).setCell ⟨g, 5, none⟩ (.bool tr)).setCell ⟨g, 6, none⟩ (.bool st)).setCell ⟨g, 0, none⟩ (.string cmp)).setCell ⟨g, 1, none⟩ (.pointer x)).setCell ⟨g, 2, none⟩ (.pointer y)).setCell ⟨g, 3, none⟩ (.bool false)).setCell ⟨g, 4, none⟩ (.bool re)).setCell ⟨g, 5, none⟩ (.bool tr)).setCell ⟨g, 6, none⟩ (.bool st)) = W) :
    (W.cell? ⟨g, 0, none⟩ = some (.string cmp) ∧ W.cell? ⟨g, 1, none⟩ = some (.pointer x) ∧ W.cell? ⟨g, 2, none⟩ = some (.pointer y) ∧ W.cell? ⟨g, 3, none⟩ = some (.bool false) ∧ W.cell? ⟨g, 4, none⟩ = some (.bool re) ∧ W.cell? ⟨g, 5, none⟩ = some (.bool tr) ∧ W.cell? ⟨g, 6, none⟩ = some (.bool st)) ∧
    ∀ B w, Below B w wr → B ≤ g → Below B w W := by
  subst hW
  refine ⟨?_, fun B w hb hB => ?_⟩
  · have k := sp_s6 (sp_s5 (sp_s4 (sp_s3 (sp_s2 (sp_s1 (sp_s0 (sp_s6 (sp_s5 (sp_s2 (sp_s1 (sp_s0 h (.string cmp)) (.pointer x)) (.pointer y)) (.bool tr)) (.bool st)) (.string cmp)) (.pointer x)) (.pointer y)) (.bool false)) (.bool re)) (.bool tr)) (.bool st)
    refine ⟨?_, ?_, ?_, ?_, ?_, ?_, ?_⟩ <;> rw [cell_of_row _ g _ _ _ _ k] <;> rfl
  · exact ((((((((((((hb.setCell hB _).setCell hB _).setCell hB _).setCell hB _).setCell hB _).setCell hB _).setCell hB _).setCell hB _).setCell hB _).setCell hB _).setCell hB _).setCell hB _)

set_option maxHeartbeats 4000000 in
theorem split_any (w : World) (lo hi kx ky : Nat) (cmp : ByteArray) (x y : Option Addr) (Tx Ty : List (Int × Int)) (Ax Ay : List (Int × Int × ByteArray)) (pi hand : Int) (ap : Option Addr) (lp cp : Nat) (fp : Nat → Bool)
    (hx : Tr w lo hi kx x Tx Ax) (hy : Tr w lo hi ky y Ty Ay) (hhi : hi ≤ w.heap.size) (hp : Sl w.heap.size w ap lp (fun i => .bool (fp i)))
    (hlen : Tx.length + Ty.length ≤ 100000) (hlenA : Ax.length + Ay.length ≤ 100000) (hrT : ∀ t ∈ Tx ++ negT Ty, 0 ≤ t.1 ∧ t.1 < (lp : Int) ∧ -1 ≤ t.2 ∧ t.2 ≤ 1) (hrA : ∀ t ∈ Ax ++ Ay, 0 ≤ t.1 ∧ t.1 < (lp : Int)) :
    Calls Try.prog 40 #[.agg #[.string cmp, .pointer x, .pointer y], .int .i64 pi, .int .i64 hand, .slice ap lp cp] w fun e w' =>
      e = .returned (splitV cmp x y pi hand (fun p => fp p.toNat) (Tx ++ negT Ty) (Ax ++ Ay)) ∧ Below w.heap.size w w' := by
  obtain ⟨V, hV⟩ : ∃ V, V = splitV cmp x y pi hand (fun p => fp p.toNat) (Tx ++ negT Ty) (Ax ++ Ay) := ⟨_, rfl⟩
  rw [← hV]
  have HV : Hid (V = splitV cmp x y pi hand (fun p => fp p.toNat) (Tx ++ negT Ty) (Ax ++ Ay)) := hV
  clear hV
  have hsb := sgnP_bd pi (Tx ++ negT Ty) (fun t ht => (hrT t ht).2.2)
  have HRA : Hid (∀ t ∈ Ax ++ Ay, 0 ≤ t.1 ∧ t.1 < (lp : Int)) := hrA
  have hrng := rngT hrT
  clear hrA hrT
  have ihx := terms_any lo hi (w.heap.size + 2) (by omega) kx
  have ihy := terms_any lo hi (w.heap.size + 2) (by omega) ky
  have hx2 : ∀ oa ob, Tr ((w.alloc oa).alloc ob).drew lo hi kx x Tx Ax := fun oa ob => Tr.below (B := w.heap.size) ((((Below.refl _ _).alloc (Nat.le_refl _) _).alloc (by simp) _).drew) hhi hx
  have hy2 : ∀ oa ob, Tr ((w.alloc oa).alloc ob).drew lo hi ky y Ty Ay := fun oa ob => Tr.below (B := w.heap.size) ((((Below.refl _ _).alloc (Nat.le_refl _) _).alloc (by simp) _).drew) hhi hy
  go_enter Try.func40, Try.ntmps40
  go_wp2_with fail
  go_region_held3 (fun w' => w'.cell? ⟨w.heap.size, 1, none⟩ = some (.pointer x) ∧ w'.cell? ⟨w.heap.size, 2, none⟩ = some (.pointer y))
    (first | go_keep | (refine ⟨?_, ?_⟩ <;> first | (rw [hb2.cell (by simp), hb1.cell (by simp)]; simp) | (rw [hb1.cell (by simp)]; simp)))
    (first
      | (go_at_call_of 41 (Value.pointer x); refine (ihx _ x Tx Ax 1 (.slice none 0 0) 0 [] (by exact hx2 _ _) (.inl rfl) (by exact World.ownsRow_nil _ _ _ _) (by omega) (by simp)).mono ?_; rintro e w1 ⟨v1, rfl, hown1, hb1⟩)
      | (go_at_call_of 41 (Value.pointer y); refine (ihy _ y Ty Ay (-1) v1 (0 + Tx.length) ([] ++ cellsT (scaleT 1 Tx)) (by exact Tr.below hb1 (by omega) (hy2 _ _)) (.inr rfl) (by exact hown1) (by omega) (by have := hb1.size; simpa using this)).mono ?_; rintro e w2 ⟨v2, rfl, hown2, hb2⟩))
  obtain ⟨g0, g1, gb, gs, go⟩ := split_mid hb1 hb2 hown2
  obtain ⟨ao, cap, rfl, hao⟩ := own_form go
  clear hown2 hb1 hb2 hown1 ihx ihy hx2 hy2
  have hLl : (Tx ++ negT Ty).length ≤ 100000 := by rw [List.length_append, negT_len]; exact hlen
  have hR : Rel1 w cmp x y hand (Tx ++ negT Ty) ao cap 0 w2 := ⟨g0, g1, gb, gs, go⟩
  clear g0 g1 gb gs go
  generalize hL : Tx ++ negT Ty = L at *
  have HL : Hid (Tx ++ negT Ty = L) := hL
  clear hL
  go_wp2_with fail
  go_loopw [9, 10, 11, 12, 27] (fun n kn sg hs i wr => ∃ k : Nat, k ≤ L.length ∧ i = .int .i64 k ∧ n = .int .i64 (cntP pi (L.take k)) ∧ kn = .bool (knT (fun p => fp p.toNat) (L.take k)) ∧ sg = .int .i64 (sgnP pi (L.take k)) ∧ hs = .int .i64 (sgnP hand (L.take k)) ∧ Rel1 w cmp x y hand L ao cap k wr) (fun _ _ _ _ i _ => L.length - (intOf i).toNat)
  case atStart => exact ⟨0, by omega, rfl, rfl, rfl, rfl, rfl, hR⟩
  case round =>
    obtain ⟨k, hk, rfl, rfl, rfl, rfl, rfl, hr⟩ := hrel
    by_cases hlt : k < L.length
    · obtain ⟨q, s, hq, hql, hs1, hs2⟩ := hrng k hlt
      obtain ⟨c1, c2⟩ := cellsT_get L k hlt
      rw [hq] at c1 c2
      obtain ⟨g, rfl⟩ := hao _ _ c1
      have d1 := own_cell hr.2.2.2.2 _ _ c1
      have d2 := own_cell hr.2.2.2.2 _ _ c2
      obtain ⟨b, off, rfl, hbl, hpc0⟩ := hp q hql
      have hpc : wr.cell? ⟨b, off + q, none⟩ = some (.bool (fp q)) := (hr.2.2.1.cell (p := ⟨b, off + q, none⟩) hbl).trans hpc0
      have hfz : wr.frozen? ⟨w.heap.size + 1, 4, none⟩ = false := frozen_of_row wr _ 4 _ _ hr.2.1
      have hc4 : wr.cell? ⟨w.heap.size + 1, 4, none⟩ = some (.bool (recP hand (L.take k))) := by rw [cell_of_row wr _ 4 _ _ _ hr.2.1]; rfl
      have hn := cntP_bd pi (L.take k)
      have hnl : (L.take k).length ≤ 100000 := by simp; omega
      have hsz := hr.2.2.2.1
      have hglt : g < wr.heap.size := (hr.2.2.2.2.lt g rfl).2
      clear c1 c2 hpc0
      have HQ : Hid (L[k] = ((q : Int), s)) := hq
      clear hq
      have HR : Hid (Rel1 w cmp x y hand L (some ⟨g, 0, none⟩) cap k wr) := hr
      clear hr
      have hbl2 : b < wr.heap.size := by omega
      have hx1 : w.heap.size + 1 < wr.heap.size := by omega
      have hqi : (q : Int) < (lp : Int) := by omega
      have HK : Hid (knT (fun p => fp p.toNat) (L.take (k + 1)) = (knT (fun p => fp p.toNat) (L.take k) && fp q)) := by
        show knT (fun p => fp p.toNat) (L.take (k + 1)) = _
        rw [take_snoc _ _ hlt, knT_snoc, HQ.out]; simp
      generalize knT (fun p => fp p.toNat) (L.take k) = kn at *
      have HC : Hid (cntP pi (L.take (k + 1)) = if (q : Int) = pi then cntP pi (L.take k) + 1 else cntP pi (L.take k)) := by
        show cntP pi (L.take (k + 1)) = _
        rw [take_snoc _ _ hlt, cntP_snoc, HQ.out]
      have HS : Hid (sgnP pi (L.take (k + 1)) = if (q : Int) = pi then s else sgnP pi (L.take k)) := by
        show sgnP pi (L.take (k + 1)) = _
        rw [take_snoc _ _ hlt, sgnP_snoc, HQ.out]
      have HH : Hid (sgnP hand (L.take (k + 1)) = if (q : Int) = hand then s else sgnP hand (L.take k)) := by
        show sgnP hand (L.take (k + 1)) = _
        rw [take_snoc _ _ hlt, sgnP_snoc, HQ.out]
      by_cases e1 : (q : Int) = pi
      · have e1' : ((q : Int) == pi) = true := by simp [e1]
        have E1 : Hid ((q : Int) = pi) := e1
        clear e1
        by_cases e2 : (q : Int) = hand
        · have e2' : ((q : Int) == hand) = true := by simp [e2]
          have E2 : Hid ((q : Int) = hand) := e2
          clear e2
          cases kn
          · go_wp2_with fail
            go_region
            all_goals (try go_wp2_with fail)
            go_roundw
            case rel => exact ⟨k + 1, by omega, by go_num, by rw [HC.out, if_pos E1.out], by rw [HK.out]; simp, by rw [HS.out, if_pos E1.out], by rw [HH.out, if_pos E2.out], HR.out.hit hlt (by rw [HQ.out]; exact E2.out) _⟩
            case measure => simp [intOf]; omega
          · go_wp2_with fail
            go_region
            all_goals (try go_wp2_with fail)
            go_roundw
            case rel => exact ⟨k + 1, by omega, by go_num, by rw [HC.out, if_pos E1.out], by rw [HK.out]; simp, by rw [HS.out, if_pos E1.out], by rw [HH.out, if_pos E2.out], HR.out.hit hlt (by rw [HQ.out]; exact E2.out) _⟩
            case measure => simp [intOf]; omega
        · have e2' : ((q : Int) == hand) = false := by simp [e2]
          have E2 : Hid (¬ (q : Int) = hand) := e2
          clear e2
          cases kn
          · go_wp2_with fail
            go_roundw
            case rel => exact ⟨k + 1, by omega, by go_num, by rw [HC.out, if_pos E1.out], by rw [HK.out]; simp, by rw [HS.out, if_pos E1.out], by rw [HH.out, if_neg E2.out], HR.out.skip hlt (by rw [HQ.out]; exact E2.out) _⟩
            case measure => simp [intOf]; omega
          · go_wp2_with fail
            go_roundw
            case rel => exact ⟨k + 1, by omega, by go_num, by rw [HC.out, if_pos E1.out], by rw [HK.out]; simp, by rw [HS.out, if_pos E1.out], by rw [HH.out, if_neg E2.out], HR.out.skip hlt (by rw [HQ.out]; exact E2.out) _⟩
            case measure => simp [intOf]; omega
      · have e1' : ((q : Int) == pi) = false := by simp [e1]
        have E1 : Hid (¬ (q : Int) = pi) := e1
        clear e1
        by_cases e2 : (q : Int) = hand
        · have e2' : ((q : Int) == hand) = true := by simp [e2]
          have E2 : Hid ((q : Int) = hand) := e2
          clear e2
          cases kn
          · go_wp2_with fail
            go_region
            all_goals (try go_wp2_with fail)
            go_roundw
            case rel => exact ⟨k + 1, by omega, by go_num, by rw [HC.out, if_neg E1.out], by rw [HK.out]; simp, by rw [HS.out, if_neg E1.out], by rw [HH.out, if_pos E2.out], HR.out.hit hlt (by rw [HQ.out]; exact E2.out) _⟩
            case measure => simp [intOf]; omega
          · go_wp2_with fail
            go_region
            all_goals (try go_wp2_with fail)
            go_roundw
            case rel => exact ⟨k + 1, by omega, by go_num, by rw [HC.out, if_neg E1.out], by rw [HK.out]; simp, by rw [HS.out, if_neg E1.out], by rw [HH.out, if_pos E2.out], HR.out.hit hlt (by rw [HQ.out]; exact E2.out) _⟩
            case measure => simp [intOf]; omega
        · have e2' : ((q : Int) == hand) = false := by simp [e2]
          have E2 : Hid (¬ (q : Int) = hand) := e2
          clear e2
          cases kn
          · go_wp2_with fail
            go_roundw
            case rel => exact ⟨k + 1, by omega, by go_num, by rw [HC.out, if_neg E1.out], by rw [HK.out]; simp, by rw [HS.out, if_neg E1.out], by rw [HH.out, if_neg E2.out], HR.out.skip hlt (by rw [HQ.out]; exact E2.out) _⟩
            case measure => simp [intOf]; omega
          · go_wp2_with fail
            go_roundw
            case rel => exact ⟨k + 1, by omega, by go_num, by rw [HC.out, if_neg E1.out], by rw [HK.out]; simp, by rw [HS.out, if_neg E1.out], by rw [HH.out, if_neg E2.out], HR.out.skip hlt (by rw [HQ.out]; exact E2.out) _⟩
            case measure => simp [intOf]; omega
    · have hkl : k = L.length := by omega
      subst hkl
      obtain ⟨h0, h1, hb, hsz, -⟩ := hr
      rw [List.take_length] at *
      have ihx := attrs_any lo hi wr.heap.size (by omega) kx
      have ihy := attrs_any lo hi wr.heap.size (by omega) ky
      have hx2 := (Tr.below hb hhi hx).drew
      have hy2 := (Tr.below hb hhi hy).drew
      have d1 : wr.cell? ⟨w.heap.size, 1, none⟩ = some (.pointer x) := by rw [cell_of_row wr _ 1 _ _ _ h0]; rfl
      have d2 : wr.cell? ⟨w.heap.size, 2, none⟩ = some (.pointer y) := by rw [cell_of_row wr _ 2 _ _ _ h0]; rfl
      have hx0 : w.heap.size < wr.heap.size := by omega
      go_wp2_with fail
      go_region_held3 (fun w' => w'.cell? ⟨w.heap.size, 1, none⟩ = some (.pointer x) ∧ w'.cell? ⟨w.heap.size, 2, none⟩ = some (.pointer y))
        (first | go_keep | (refine ⟨?_, ?_⟩ <;> first | exact (hb2.cell (p := ⟨w.heap.size, 1, none⟩) hx0).trans ((hb1.cell (p := ⟨w.heap.size, 1, none⟩) hx0).trans d1) | exact (hb2.cell (p := ⟨w.heap.size, 2, none⟩) hx0).trans ((hb1.cell (p := ⟨w.heap.size, 2, none⟩) hx0).trans d2) | exact (hb1.cell (p := ⟨w.heap.size, 1, none⟩) hx0).trans d1 | exact (hb1.cell (p := ⟨w.heap.size, 2, none⟩) hx0).trans d2))
        (first
          | (go_at_call_of 42 (Value.pointer x); refine (ihx _ x Tx Ax (.slice none 0 0) 0 [] (by exact hx2) (by exact World.ownsRow_nil _ _ _ _) (by omega) (by exact Nat.le_refl _)).mono ?_; rintro e w1 ⟨v1, rfl, hown1, hb1⟩)
          | (go_at_call_of 42 (Value.pointer y); refine (ihy _ y Ty Ay v1 (0 + Ax.length) ([] ++ cellsA Ax) (by exact Tr.below hb1 (by omega) hy2) (by exact hown1) (by omega) (by have := hb1.size; exact this)).mono ?_; rintro e w2 ⟨v2, rfl, hown2, hb2⟩; obtain ⟨ao2, cap2, rfl, hao2⟩ := own_form hown2; generalize hAl : 0 + Ax.length + Ay.length = lA at hown2 ⊢; have HAl : Hid (0 + Ax.length + Ay.length = lA) := hAl; clear hAl))
      obtain ⟨g0, g1, gb, gs, go⟩ := split_mid2 h0 h1 hb hsz hb1 hb2 hown2
      have hlA : lA ≤ 100000 := by have := HAl.out; omega
      have hAlen : (Ax ++ Ay).length = lA := by rw [List.length_append, ← HAl.out, Nat.zero_add]
      rw [List.nil_append, ← cellsA_append] at hao2
      have hR2 : Rel2 w cmp x y (recP hand L) (Ax ++ Ay) wr.heap.size lA ao2 cap2 w2 := ⟨g0, g1, gb, gs, go⟩
      clear g0 g1 gb gs go hown2 hown1 hb1 hb2 ihx ihy hx2 hy2 d1 d2 h0 h1 hb
      have hrngA := rngA HRA.out
      generalize Ax ++ Ay = A at *
      generalize wr.heap.size = C at *
      have HA2 : Hid (A.length = lA) := hAlen
      clear hAlen
      generalize hkn0 : knT (fun p => fp p.toNat) L = kn0 at *
      have HKN : Hid (knT (fun p => fp p.toNat) L = kn0) := hkn0
      clear hkn0
      go_wp2_with fail
      go_loopw [10, 16, 62] (fun kn ow i wr => ∃ k : Nat, k ≤ lA ∧ i = .int .i64 k ∧ kn = .bool (knA (fun p => fp p.toNat) kn0 (A.take k)) ∧ ow = .bool (owA pi (A.take k)) ∧ Rel2 w cmp x y (recP hand L) A C lA ao2 cap2 wr) (fun _ _ i _ => lA - (intOf i).toNat)
      case atStart => exact ⟨0, by omega, rfl, rfl, rfl, hR2⟩
      case round =>
        obtain ⟨k, hk, rfl, rfl, rfl, hr⟩ := hrel
        by_cases hlt : k < lA
        · have hltA : k < A.length := by rw [HA2.out]; exact hlt
          obtain ⟨q, ob, nm, hq, hql⟩ := hrngA k hltA
          obtain ⟨c1, c2, c3⟩ := cellsA_get A k hltA
          rw [hq] at c1 c2 c3
          obtain ⟨g, rfl⟩ := hao2 _ _ c1
          have d1 := own_cell hr.2.2.2.2 _ _ c1
          have d2 := own_cell hr.2.2.2.2 _ _ c2
          have d3 := own_cell hr.2.2.2.2 _ _ c3
          obtain ⟨b, off, rfl, hbl, hpc0⟩ := hp q hql
          have hpc : wr.cell? ⟨b, off + q, none⟩ = some (.bool (fp q)) := (hr.2.2.1.cell (p := ⟨b, off + q, none⟩) hbl).trans hpc0
          have hsz2 := hr.2.2.2.1
          have hglt : g < wr.heap.size := (hr.2.2.2.2.lt g rfl).2
          clear c1 c2 c3 hpc0
          have HQ : Hid (A[k] = ((q : Int), ob, nm)) := hq
          clear hq
          have HR : Hid (Rel2 w cmp x y (recP hand L) A C lA (some ⟨g, 0, none⟩) cap2 wr) := hr
          clear hr
          have hbl2 : b < wr.heap.size := by omega
          have hqi : (q : Int) < (lp : Int) := by omega
          have HK : Hid (knA (fun p => fp p.toNat) kn0 (A.take (k + 1)) = (knA (fun p => fp p.toNat) kn0 (A.take k) && fp q)) := by
            show knA (fun p => fp p.toNat) kn0 (A.take (k + 1)) = _
            rw [take_snoc _ _ hltA, knA_snoc, HQ.out]; simp
          have HO : Hid (owA pi (A.take (k + 1)) = (owA pi (A.take k) && ((q : Int) == pi))) := by
            show owA pi (A.take (k + 1)) = _
            rw [take_snoc _ _ hltA, owA_snoc, HQ.out]
          generalize knA (fun p => fp p.toNat) kn0 (A.take k) = kn at *
          generalize owA pi (A.take k) = ow at *
          cases kn
          all_goals
            cases ow
            all_goals
              go_wp2_with fail
              go_roundw
              case rel => exact ⟨k + 1, by omega, by go_num, by rw [HK.out]; simp, by rw [HO.out]; simp, HR.out.alloc _⟩
              case measure => simp [intOf]; omega
        · have hkl : k = lA := by omega
          subst hkl
          obtain ⟨h0, h1, hb, hsz2, -⟩ := hr
          rw [← HA2.out, List.take_length]
          have d0 : wr.cell? ⟨w.heap.size, 0, none⟩ = some (.string cmp) := by rw [cell_of_row wr _ 0 _ _ _ h0]; rfl
          have d1 : wr.cell? ⟨w.heap.size, 1, none⟩ = some (.pointer x) := by rw [cell_of_row wr _ 1 _ _ _ h0]; rfl
          have d2 : wr.cell? ⟨w.heap.size, 2, none⟩ = some (.pointer y) := by rw [cell_of_row wr _ 2 _ _ _ h0]; rfl
          have e0 : wr.cell? ⟨w.heap.size + 1, 0, none⟩ = some (.string ⟨#[]⟩) := by rw [cell_of_row wr _ 0 _ _ _ h1]; rfl
          have e1 : wr.cell? ⟨w.heap.size + 1, 1, none⟩ = some (.pointer none) := by rw [cell_of_row wr _ 1 _ _ _ h1]; rfl
          have e2 : wr.cell? ⟨w.heap.size + 1, 2, none⟩ = some (.pointer none) := by rw [cell_of_row wr _ 2 _ _ _ h1]; rfl
          have e3 : wr.cell? ⟨w.heap.size + 1, 3, none⟩ = some (.bool false) := by rw [cell_of_row wr _ 3 _ _ _ h1]; rfl
          have e4 : wr.cell? ⟨w.heap.size + 1, 4, none⟩ = some (.bool (recP hand L)) := by rw [cell_of_row wr _ 4 _ _ _ h1]; rfl
          have e5 : wr.cell? ⟨w.heap.size + 1, 5, none⟩ = some (.bool false) := by rw [cell_of_row wr _ 5 _ _ _ h1]; rfl
          have e6 : wr.cell? ⟨w.heap.size + 1, 6, none⟩ = some (.bool false) := by rw [cell_of_row wr _ 6 _ _ _ h1]; rfl
          have hf : ∀ j, wr.frozen? ⟨w.heap.size + 1, j, none⟩ = false := fun j => frozen_of_row wr _ j _ _ h1
          have HB1 : Hid (wr.heap[w.heap.size + 1]? = some (spObj ⟨#[]⟩ none none (recP hand L) false false)) := h1
          clear h0 h1
          have HV2 : Hid (V = .tuple #[.agg #[.string cmp, .pointer x, .pointer y, .bool false, .bool (recP hand L), .bool (recP hand L && (L.length == 2) && (sgnP hand L == -(sgnP pi L)) && owA pi A), .bool (favB cmp (sgnP pi L))], .int .i64 (cntP pi L), .bool (knA (fun p => fp p.toNat) kn0 A)]) := by
            rw [HV.out, ← HKN.out]; rfl
          clear HV
          generalize knA (fun p => fp p.toNat) kn0 A = kn at *
          generalize owA pi A = ow at *
          generalize recP hand L = re at *
          generalize sgnP hand L = hs at *
          generalize sgnP pi L = sg at *
          obtain ⟨hs1, hs2⟩ := hsb
          generalize cntP pi L = cn at *
          clear hrng hao hR hrngA hao2 hR2 hp hx hy
          cases re
          · go_wp2_with (go_at_call 43; refine (fav_any _ _ _).mono ?_; rintro e w' ⟨rfl, rfl⟩)
            generalize hWf : World.setCell _ _ _ = Wf
            obtain ⟨⟨f0, f1, f2, f3, f4, f5, f6⟩, fb⟩ := fill_block HB1.out hWf
            refine bodyPost_ret (v := .tuple #[.agg #[.string cmp, .pointer x, .pointer y, .bool false, .bool false, .bool false, .bool (favB cmp sg)], .int .i64 cn, .bool kn]) (by simp [results, Try.results40, go_sem, f0, f1, f2, f3, f4, f5, f6]) rfl ⟨by rw [HV2.out]; simp only [Bool.false_and], fb _ _ hb (by simp)⟩
          · by_cases l2 : L.length = 2
            · have l2' : ((L.length : Int) == 2) = true := by simp [l2]
              have l2n : (L.length == 2) = true := by simp [l2]
              clear l2
              by_cases l3 : hs = -sg
              · have l3' : (hs == -sg) = true := by simp [l3]
                clear l3
                go_wp2_with (go_at_call 43; refine (fav_any _ _ _).mono ?_; rintro e w' ⟨rfl, rfl⟩)
                generalize hWf : World.setCell _ _ _ = Wf
                obtain ⟨⟨f0, f1, f2, f3, f4, f5, f6⟩, fb⟩ := fill_block HB1.out hWf
                refine bodyPost_ret (v := .tuple #[.agg #[.string cmp, .pointer x, .pointer y, .bool false, .bool true, .bool ow, .bool (favB cmp sg)], .int .i64 cn, .bool kn]) (by simp [results, Try.results40, go_sem, f0, f1, f2, f3, f4, f5, f6]) rfl ⟨by rw [HV2.out]; simp only [Bool.true_and, l2n, l3'], fb _ _ hb (by simp)⟩
              · have l3' : (hs == -sg) = false := by simp [l3]
                clear l3
                go_wp2_with (go_at_call 43; refine (fav_any _ _ _).mono ?_; rintro e w' ⟨rfl, rfl⟩)
                generalize hWf : World.setCell _ _ _ = Wf
                obtain ⟨⟨f0, f1, f2, f3, f4, f5, f6⟩, fb⟩ := fill_block HB1.out hWf
                refine bodyPost_ret (v := .tuple #[.agg #[.string cmp, .pointer x, .pointer y, .bool false, .bool true, .bool false, .bool (favB cmp sg)], .int .i64 cn, .bool kn]) (by simp [results, Try.results40, go_sem, f0, f1, f2, f3, f4, f5, f6]) rfl ⟨by rw [HV2.out]; simp only [Bool.true_and, Bool.false_and, l2n, l3'], fb _ _ hb (by simp)⟩
            · have l2' : ((L.length : Int) == 2) = false := by simp; omega
              have l2n : (L.length == 2) = false := by simp [l2]
              clear l2
              go_wp2_with (go_at_call 43; refine (fav_any _ _ _).mono ?_; rintro e w' ⟨rfl, rfl⟩)
              generalize hWf : World.setCell _ _ _ = Wf
              obtain ⟨⟨f0, f1, f2, f3, f4, f5, f6⟩, fb⟩ := fill_block HB1.out hWf
              refine bodyPost_ret (v := .tuple #[.agg #[.string cmp, .pointer x, .pointer y, .bool false, .bool true, .bool false, .bool (favB cmp sg)], .int .i64 cn, .bool kn]) (by simp [results, Try.results40, go_sem, f0, f1, f2, f3, f4, f5, f6]) rfl ⟨by rw [HV2.out]; simp only [Bool.true_and, Bool.false_and, l2n], fb _ _ hb (by simp)⟩

end Go.Proofs.Qxb6600637a
