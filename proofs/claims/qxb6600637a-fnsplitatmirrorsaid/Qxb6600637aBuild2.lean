import Derived.Test.Qxb6600637aBuild
import Derived.WalkSmall
namespace Go.Proofs.Qxb6600637a
open Go.ChangeShapes Go.WideShapes Go.ChangeAt Go.RowKit

theorem noLeaf {t : Toks} {i : Nat} (h : t.op i ≠ 114) (f : Nat → Bool) : oneT t f i = [] ∧ oneA t i = [] := by
  have e : isLeaf t i = false := by simp [isLeaf, leafB, h]
  exact ⟨by simp [oneT, e], by simp [oneA, h]⟩

theorem two_blocks (wr : World) (g a b : Nat) (u v : Value) : ∀ k, k ≠ g → ((wr.setCell ⟨g, a, none⟩ u).setCell ⟨g, b, none⟩ v).heap[k]? = wr.heap[k]? := by
  intro k hk
  rw [heap_setCell_other _ ⟨g, b, none⟩ k v hk, heap_setCell_other _ ⟨g, a, none⟩ k u hk]

theorem BS.minus {w wr : World} {n np i s : Nat} {t : Toks} {p : Option Addr} {rest : List (Option Addr × Nat)} {f : Nat → Bool} (h : BS w n np t i ((p, s) :: rest) f wr) (hop : t.op i = 126) :
    BS w n np t (i + 1) ((some ⟨wr.heap.size, 0, none⟩, s) :: rest) (tog (tog f s) i)
      ((((wr.setCell ⟨w.heap.size + 2, s, none⟩ (.bool (!(f s)))).setCell ⟨w.heap.size + 2, i, none⟩ (.bool (!(f i)))).setCell ⟨w.heap.size, rest.length, none⟩ (.pointer (some ⟨wr.heap.size, 0, none⟩))).alloc (nodeObj 126 0 0 ⟨#[]⟩ p none)) := by
  obtain ⟨hs, hT, hinv⟩ := h.inv
  have hs : s < i := hs
  have hne : t.op i ≠ 114 := by rw [hop]; decide
  have hlen := h.len
  have hsz := h.size
  simp only [List.length_cons] at hlen
  have hstk := h.stack
  have hsts := h.starts
  simp only [List.length_cons, List.reverse_cons, List.map_append, List.map_cons, List.map_nil] at hstk hsts
  refine BS.node (g := tog (tog f s) i) h (nodeObj 126 0 0 ⟨#[]⟩ p none) (flip2 h.flip s i hs) (fun b hb => two_blocks wr _ s i _ _ b hb) (by simp) ((h.below.setCell (by simp) _).setCell (by simp) _)
    (ownsRow_setCell_other (ownsRow_setCell_other hstk (by simp [Value.ownBlock]) _) (by simp [Value.ownBlock]) _)
    (ownsRow_setCell_other (ownsRow_setCell_other hsts (by simp [Value.ownBlock]) _) (by simp [Value.ownBlock]) _)
    hinv hs (by omega) (fun q hq => ?_) (fun q hq => ?_) ?_ hne
  · rw [par_tog2 f s i q (by omega), if_neg (by omega)]
  · rw [par_tog2 f s i q (by omega), if_neg (by omega)]; exact h.even q hq
  · have hnew := heap_alloc_new ((wr.setCell ⟨w.heap.size + 2, s, none⟩ (.bool (!(f s)))).setCell ⟨w.heap.size + 2, i, none⟩ (.bool (!(f i)))) (nodeObj 126 0 0 ⟨#[]⟩ p none)
    simp only [World.size_setCell] at hnew
    refine ⟨wr.heap.size, 126, 0, 0, ⟨#[]⟩, p, none, rfl, by omega, by omega, hnew, .inr (.inr (.inr (.inl ⟨rfl, leafT t f s i, ?_, ?_⟩)))⟩
    · rw [leafA_succ t (by omega : s ≤ i), (noLeaf hne f).2, List.append_nil]
      refine Tr.keep (fun b h1 h2 => ?_) (by omega) _ _ _ _ hT
      rw [Below.heap_alloc _ _ b (by simp; omega)]
      exact two_blocks wr _ s i _ _ b (by omega)
    · rw [leafT_succ t _ (by omega : s ≤ i), (noLeaf hne _).1, List.append_nil]
      refine leafT_neg t i (fun q h1 h2 => ?_)
      rw [par_tog2 f s i q (by omega), if_pos ⟨h1, h2⟩]

/-- the two topmost trees joined: what the two ways have in common -/
theorem BS.joinPop {w wr : World} {n np i s e : Nat} {t : Toks} {px py : Option Addr} {rest : List (Option Addr × Nat)} {f : Nat → Bool} (h : BS w n np t i ((py, e) :: (px, s) :: rest) f wr) :
    wr.ownsRow w.heap.size 42 1 (.slice (some ⟨w.heap.size, 0, none⟩) (rest.length + 1) n) (rest.length + 1) ((rest.reverse.map fun x => .pointer x.1) ++ [.pointer px]) ∧
    wr.ownsRow w.heap.size 3 1 (.slice (some ⟨w.heap.size + 1, 0, none⟩) (rest.length + 1) n) (rest.length + 1) ((rest.reverse.map fun x => .int .i64 x.2) ++ [.int .i64 s]) := by
  have hstk := h.stack
  have hsts := h.starts
  simp only [List.length_cons, List.reverse_cons, List.map_append, List.map_cons, List.map_nil] at hstk hsts
  exact ⟨ownsRow_pop (by simp) hstk, ownsRow_pop (by simp) hsts⟩

theorem BS.sub {w wr : World} {n np i s e : Nat} {t : Toks} {px py : Option Addr} {rest : List (Option Addr × Nat)} {f : Nat → Bool} (h : BS w n np t i ((py, e) :: (px, s) :: rest) f wr) (hop : t.op i = 45) :
    BS w n np t (i + 1) ((some ⟨wr.heap.size, 0, none⟩, s) :: rest) (tog (tog f e) i)
      ((((wr.setCell ⟨w.heap.size + 2, e, none⟩ (.bool (!(f e)))).setCell ⟨w.heap.size + 2, i, none⟩ (.bool (!(f i)))).setCell ⟨w.heap.size, rest.length, none⟩ (.pointer (some ⟨wr.heap.size, 0, none⟩))).alloc (nodeObj 45 0 0 ⟨#[]⟩ px py)) := by
  obtain ⟨he, hTy, hs, hTx, hinv⟩ := h.inv
  have he : e < i := he
  have hs : s < e := hs
  have hne : t.op i ≠ 114 := by rw [hop]; decide
  have hlen := h.len
  have hsz := h.size
  simp only [List.length_cons] at hlen
  obtain ⟨hstk, hsts⟩ := h.joinPop
  have kk : ∀ b, w.heap.size + 3 ≤ b → b < wr.heap.size → (((wr.setCell ⟨w.heap.size + 2, e, none⟩ (.bool (!(f e)))).setCell ⟨w.heap.size + 2, i, none⟩ (.bool (!(f i)))).alloc (nodeObj 45 0 0 ⟨#[]⟩ px py)).heap[b]? = wr.heap[b]? := by
    intro b h1 h2
    rw [Below.heap_alloc _ _ b (by simp; omega)]
    exact two_blocks wr _ e i _ _ b (by omega)
  refine BS.node (g := tog (tog f e) i) h (nodeObj 45 0 0 ⟨#[]⟩ px py) (flip2 h.flip e i he) (fun b hb => two_blocks wr _ e i _ _ b hb) (by simp) ((h.below.setCell (by simp) _).setCell (by simp) _)
    (ownsRow_setCell_other (ownsRow_setCell_other hstk (by simp [Value.ownBlock]) _) (by simp [Value.ownBlock]) _)
    (ownsRow_setCell_other (ownsRow_setCell_other hsts (by simp [Value.ownBlock]) _) (by simp [Value.ownBlock]) _)
    hinv (by omega) (by omega) (fun q hq => ?_) (fun q hq => ?_) ?_ hne
  · rw [par_tog2 f e i q (by omega), if_neg (by omega)]
  · rw [par_tog2 f e i q (by omega), if_neg (by omega)]; exact h.even q hq
  · have hnew := heap_alloc_new ((wr.setCell ⟨w.heap.size + 2, e, none⟩ (.bool (!(f e)))).setCell ⟨w.heap.size + 2, i, none⟩ (.bool (!(f i)))) (nodeObj 45 0 0 ⟨#[]⟩ px py)
    simp only [World.size_setCell] at hnew
    refine ⟨wr.heap.size, 45, 0, 0, ⟨#[]⟩, px, py, rfl, by omega, by omega, hnew, .inr (.inr (.inr (.inr (.inl ⟨rfl, leafT t f s e, leafA t s e, leafT t f e i, leafA t e i, Tr.keep kk (by omega) _ _ _ _ hTx, Tr.keep kk (by omega) _ _ _ _ hTy, ?_, ?_⟩))))⟩
    · rw [leafT_succ t _ (by omega : s ≤ i), (noLeaf hne _).1, List.append_nil, ← leafT_cat t _ (by omega : s ≤ e) i (by omega)]
      rw [leafT_congr t (f := f) (g := tog (tog f e) i) (s := s) e (fun q h1 h2 => by rw [par_tog2 f e i q (by omega), if_neg (by omega)])]
      rw [leafT_neg t (f := f) (g := tog (tog f e) i) (s := e) i (fun q h1 h2 => by rw [par_tog2 f e i q (by omega), if_pos ⟨h1, h2⟩])]
    · rw [leafA_succ t (by omega : s ≤ i), (noLeaf hne f).2, List.append_nil, leafA_cat t (by omega) i (by omega)]

theorem BS.add {w wr : World} {n np i s e : Nat} {t : Toks} {px py : Option Addr} {rest : List (Option Addr × Nat)} {f : Nat → Bool} (h : BS w n np t i ((py, e) :: (px, s) :: rest) f wr)
    (o1 : t.op i ≠ 114) (o2 : t.op i ≠ 110) (o3 : t.op i ≠ 126) (o4 : t.op i ≠ 45) :
    BS w n np t (i + 1) ((some ⟨wr.heap.size, 0, none⟩, s) :: rest) f
      ((wr.setCell ⟨w.heap.size, rest.length, none⟩ (.pointer (some ⟨wr.heap.size, 0, none⟩))).alloc (nodeObj (t.op i) 0 0 ⟨#[]⟩ px py)) := by
  obtain ⟨he, hTy, hs, hTx, hinv⟩ := h.inv
  have he : e < i := he
  have hs : s < e := hs
  have hlen := h.len
  have hsz := h.size
  simp only [List.length_cons] at hlen
  obtain ⟨hstk, hsts⟩ := h.joinPop
  have kk : ∀ b, w.heap.size + 3 ≤ b → b < wr.heap.size → (wr.alloc (nodeObj (t.op i) 0 0 ⟨#[]⟩ px py)).heap[b]? = wr.heap[b]? := fun b _ h2 => Below.heap_alloc _ _ b h2
  refine BS.node (g := f) h (nodeObj (t.op i) 0 0 ⟨#[]⟩ px py) h.flip (fun b _ => rfl) rfl h.below hstk hsts hinv (by omega) (by omega) (fun q _ => rfl) h.even ?_ o1
  have hnew := heap_alloc_new wr (nodeObj (t.op i) 0 0 ⟨#[]⟩ px py)
  refine ⟨wr.heap.size, t.op i, 0, 0, ⟨#[]⟩, px, py, rfl, by omega, by omega, hnew, .inr (.inr (.inr (.inr (.inr ⟨o1, o2, o3, o4, leafT t f s e, leafA t s e, leafT t f e i, leafA t e i, Tr.keep kk (by omega) _ _ _ _ hTx, Tr.keep kk (by omega) _ _ _ _ hTy, ?_, ?_⟩))))⟩
  · rw [leafT_succ t _ (by omega : s ≤ i), (noLeaf o1 _).1, List.append_nil, leafT_cat t _ (by omega : s ≤ e) i (by omega)]
  · rw [leafA_succ t (by omega : s ≤ i), (noLeaf o1 f).2, List.append_nil, leafA_cat t (by omega) i (by omega)]

end Go.Proofs.Qxb6600637a
