import Derived.Test.Qxb6600637aSplit
import Derived.Test.Qxb6600637aToks
import Derived.Laws.OwnMore
namespace Go.Proofs.Qxb6600637a
open Go.ChangeShapes Go.WideShapes Go.ChangeAt Go.RowKit

/-- the stack, its top first, of trees that cover the tokens 0 .. e-1 one behind the other -/
def Inv (w : World) (lo hi D : Nat) (t : Toks) (f : Nat → Bool) : List (Option Addr × Nat) → Nat → Prop
  | [], e => e = 0
  | x :: rest, e => x.2 < e ∧ Tr w lo hi D x.1 (leafT t f x.2 e) (leafA t x.2 e) ∧ Inv w lo hi D t f rest x.2

theorem Inv.keep {w w' : World} {lo hi hi' D D' : Nat} {t : Toks} {f g : Nat → Bool} (hk : ∀ b, lo ≤ b → b < hi → w'.heap[b]? = w.heap[b]?) (hh : hi ≤ hi') (hD : D ≤ D') :
    ∀ st e, (∀ p, p < e → par g p = par f p) → Inv w lo hi D t f st e → Inv w' lo hi' D' t g st e
  | [], _, _, h => h
  | x :: rest, e, hp, h => by
    obtain ⟨h1, h2, h3⟩ := h
    refine ⟨h1, ?_, Inv.keep hk hh hD rest x.2 (fun p h => hp p (by omega)) h3⟩
    rw [leafT_congr t e (fun p _ h => hp p h)]
    exact Tr.more _ _ _ _ _ hD (Tr.keep hk hh _ _ _ _ h2)

/-- what holds at the head of each round; w: the world at the call; n: the number of tokens -/
structure BS (w : World) (n np : Nat) (t : Toks) (i : Nat) (st : List (Option Addr × Nat)) (f : Nat → Bool) (wr : World) : Prop where
  len : st.length ≤ i
  stack : wr.ownsRow w.heap.size 42 1 (.slice (some ⟨w.heap.size, 0, none⟩) st.length n) st.length (st.reverse.map fun x => .pointer x.1)
  starts : wr.ownsRow w.heap.size 3 1 (.slice (some ⟨w.heap.size + 1, 0, none⟩) st.length n) st.length (st.reverse.map fun x => .int .i64 x.2)
  flip : wr.ownsRow w.heap.size 4 1 (.slice (some ⟨w.heap.size + 2, 0, none⟩) (n + 1) (n + 1)) (n + 1) ((List.range (n + 1)).map fun j => .bool (f j))
  inv : Inv wr (w.heap.size + 3) wr.heap.size i t f st i
  even : ∀ p, i ≤ p → par f p = false
  range : ∀ p, p < i → t.op p = 114 → 0 ≤ t.pl p ∧ t.pl p < (np : Int)
  below : Below w.heap.size w wr
  size : w.heap.size + 3 ≤ wr.heap.size

theorem blocks_alloc (w : World) (o : Obj) (lo : Nat) : ∀ b, lo ≤ b → b < w.heap.size → (w.alloc o).heap[b]? = w.heap[b]? := fun b _ h => Below.heap_alloc w o b h

/-- a leaf or a number pushed -/
theorem BS.push {w wr w1 w2 : World} {n np i : Nat} {t : Toks} {st : List (Option Addr × Nat)} {f : Nat → Bool} (h : BS w n np t i st f wr) (o o1 o2 : Obj)
    (hT : Tr (wr.alloc o) (w.heap.size + 3) (wr.heap.size + 1) 1 (some ⟨wr.heap.size, 0, none⟩) (oneT t f i) (oneA t i))
    (hr : t.op i = 114 → 0 ≤ t.pl i ∧ t.pl i < (np : Int))
    (own1 : w1.ownsRow w.heap.size 42 1 (.slice (some ⟨w.heap.size, 0, none⟩) (st.length + 1) n) (st.length + 1) ((st.reverse.map fun x => .pointer x.1) ++ [.pointer (some ⟨wr.heap.size, 0, none⟩)]))
    (grow1 : ((wr.alloc o).alloc o1).grownBy w1 (some w.heap.size))
    (own2 : w2.ownsRow w.heap.size 3 1 (.slice (some ⟨w.heap.size + 1, 0, none⟩) (st.length + 1) n) (st.length + 1) ((st.reverse.map fun x => .int .i64 x.2) ++ [.int .i64 i]))
    (grow2 : (w1.alloc o2).grownBy w2 (some (w.heap.size + 1))) :
    BS w n np t (i + 1) ((some ⟨wr.heap.size, 0, none⟩, i) :: st) f w2 := by
  have hs := h.size
  have s1 := grow1.size
  have s2 := grow2.size
  simp only [World.size_alloc] at s1 s2
  have hblk : ∀ b, w.heap.size + 3 ≤ b → b < wr.heap.size + 1 → w2.heap[b]? = (wr.alloc o).heap[b]? := by
    intro b h1 h2
    rw [grow2.block b (by simp; omega) (by simp; omega), Below.heap_alloc w1 o2 b (by omega), grow1.block b (by simp; omega) (by simp; omega), Below.heap_alloc (wr.alloc o) o1 b (by simp; omega)]
  have hblk0 : ∀ b, w.heap.size + 3 ≤ b → b < wr.heap.size → w2.heap[b]? = wr.heap[b]? := fun b h1 h2 => (hblk b h1 (by omega)).trans (Below.heap_alloc wr o b h2)
  refine ⟨by simp; have := h.len; omega, ?_, ?_, ?_, ?_, fun p hp => h.even p (by omega), ?_, ?_, by omega⟩
  · have := (own1.alloc o2).kept grow2 (.inr (by simp [Value.ownBlock]))
    simpa using this
  · simpa using own2
  · have a1 := ((h.flip.alloc o).alloc o1).kept grow1 (.inr (by simp [Value.ownBlock]))
    exact (a1.alloc o2).kept grow2 (.inr (by simp [Value.ownBlock]))
  · refine ⟨by show i < i + 1; omega, ?_, Inv.keep hblk0 (by omega) (by omega) st i (fun _ _ => rfl) h.inv⟩
    show Tr w2 _ _ _ _ (leafT t f i (i + 1)) (leafA t i (i + 1))
    rw [leafT_succ t f (Nat.le_refl i), leafA_succ t (Nat.le_refl i), leafT_self, leafA_self, List.nil_append, List.nil_append]
    exact Tr.more _ _ _ _ _ (by omega) (Tr.keep hblk (by omega) _ _ _ _ hT)
  · intro p hp hop
    by_cases e : p = i
    · subst e; exact hr hop
    · exact h.range p (by omega) hop
  · have b1 := ((h.below.alloc (by omega) o).alloc (by simp; omega) o1).grown grow1 (by simp; omega) (fun k hk => by simp at hk; omega)
    exact (b1.alloc (by omega) o2).grown grow2 (by simp; omega) (fun k hk => by simp at hk; omega)

theorem BS.drew {w wr : World} {n np i : Nat} {t : Toks} {st : List (Option Addr × Nat)} {f : Nat → Bool} (h : BS w n np t i st f wr) : BS w n np t i st f wr.drew :=
  ⟨h.len, h.stack.drew, h.starts.drew, h.flip.drew, Inv.keep (w := wr) (w' := wr.drew) (fun _ _ _ => rfl) (Nat.le_refl _) (Nat.le_refl _) st i (fun _ _ => rfl) h.inv, h.even, h.range, h.below.drew, h.size⟩

/-- the marks in their row, one turned -/
theorem flips_set (n : Nat) (f : Nat → Bool) (s : Nat) : (((List.range (n + 1)).map fun j => Value.bool (f j)).set s (.bool (!(f s)))) = (List.range (n + 1)).map fun j => Value.bool (tog f s j) := by
  apply List.ext_getElem
  · simp
  · intro j h1 h2
    rw [List.getElem_set]
    by_cases e : s = j
    · subst e; simp [tog]
    · rw [if_neg e]
      have : ¬ j = s := fun h => e h.symm
      simp [tog, this]

theorem flip_cell {wr : World} {B n : Nat} {f : Nat → Bool} (h : wr.ownsRow B 4 1 (.slice (some ⟨B + 2, 0, none⟩) (n + 1) (n + 1)) (n + 1) ((List.range (n + 1)).map fun j => .bool (f j))) (j : Nat) (hj : j ≤ n) :
    wr.cell? ⟨B + 2, j, none⟩ = some (.bool (f j)) := by
  rw [h.cellAt j (by omega)]
  simp [List.getElem?_range (show j < n + 1 by omega)]

/-- two marks turned -/
theorem flip2 {wr : World} {B n : Nat} {f : Nat → Bool} (h : wr.ownsRow B 4 1 (.slice (some ⟨B + 2, 0, none⟩) (n + 1) (n + 1)) (n + 1) ((List.range (n + 1)).map fun j => .bool (f j))) (s i : Nat) (hsi : s < i) :
    ((wr.setCell ⟨B + 2, s, none⟩ (.bool (!(f s)))).setCell ⟨B + 2, i, none⟩ (.bool (!(f i)))).ownsRow B 4 1 (.slice (some ⟨B + 2, 0, none⟩) (n + 1) (n + 1)) (n + 1) ((List.range (n + 1)).map fun j => .bool (tog (tog f s) i j)) := by
  have h1 := (h.stored s (.bool (!(f s)))).1
  rw [flips_set] at h1
  have h2 := (h1.stored i (.bool (!(f i)))).1
  have e : f i = tog f s i := by
    have : ¬ i = s := by omega
    simp [tog, this]
  rw [e, flips_set] at h2
  rw [e]
  exact h2

/-- a node in the place of the topmost trees; wf: the world behind the turned marks -/
theorem BS.node {w wr wf : World} {n np i s : Nat} {t : Toks} {st rest : List (Option Addr × Nat)} {f g : Nat → Bool} (h : BS w n np t i st f wr) {u : Value} (o : Obj)
    (hfl : wf.ownsRow w.heap.size 4 1 (.slice (some ⟨w.heap.size + 2, 0, none⟩) (n + 1) (n + 1)) (n + 1) ((List.range (n + 1)).map fun j => .bool (g j)))
    (hblk : ∀ b, b ≠ w.heap.size + 2 → wf.heap[b]? = wr.heap[b]?) (hsz : wf.heap.size = wr.heap.size) (hbel : Below w.heap.size w wf)
    (hstk : wf.ownsRow w.heap.size 42 1 (.slice (some ⟨w.heap.size, 0, none⟩) (rest.length + 1) n) (rest.length + 1) ((rest.reverse.map fun x => .pointer x.1) ++ [u]))
    (hsts : wf.ownsRow w.heap.size 3 1 (.slice (some ⟨w.heap.size + 1, 0, none⟩) (rest.length + 1) n) (rest.length + 1) ((rest.reverse.map fun x => .int .i64 x.2) ++ [.int .i64 s]))
    (hinv : Inv wr (w.heap.size + 3) wr.heap.size i t f rest s) (hs : s < i) (hrl : rest.length < i)
    (hpar : ∀ p, p < s → par g p = par f p) (heven : ∀ p, i ≤ p → par g p = false)
    (hT : Tr (wf.alloc o) (w.heap.size + 3) (wr.heap.size + 1) (i + 1) (some ⟨wr.heap.size, 0, none⟩) (leafT t g s (i + 1)) (leafA t s (i + 1))) (hop : t.op i ≠ 114) :
    BS w n np t (i + 1) ((some ⟨wr.heap.size, 0, none⟩, s) :: rest) g ((wf.setCell ⟨w.heap.size, rest.length, none⟩ (.pointer (some ⟨wr.heap.size, 0, none⟩))).alloc o) := by
  have hs3 := h.size
  have hblk2 : ∀ b, w.heap.size + 3 ≤ b → b < wr.heap.size + 1 → ((wf.setCell ⟨w.heap.size, rest.length, none⟩ (.pointer (some ⟨wr.heap.size, 0, none⟩))).alloc o).heap[b]? = (wf.alloc o).heap[b]? := by
    intro b h1 h2
    by_cases e : b = wr.heap.size
    · have k1 := heap_alloc_new (wf.setCell ⟨w.heap.size, rest.length, none⟩ (.pointer (some ⟨wr.heap.size, 0, none⟩))) o
      have k2 := heap_alloc_new wf o
      rw [show (wf.setCell ⟨w.heap.size, rest.length, none⟩ (.pointer (some ⟨wr.heap.size, 0, none⟩))).heap.size = wr.heap.size by simp [hsz]] at k1
      rw [hsz] at k2
      rw [e, k1, k2]
    · rw [Below.heap_alloc _ o b (by simp; omega), Below.heap_alloc _ o b (by omega)]
      exact heap_setCell_other wf ⟨w.heap.size, rest.length, none⟩ b _ (by simp; omega)
  have hblk0 : ∀ b, w.heap.size + 3 ≤ b → b < wr.heap.size → ((wf.setCell ⟨w.heap.size, rest.length, none⟩ (.pointer (some ⟨wr.heap.size, 0, none⟩))).alloc o).heap[b]? = wr.heap[b]? := by
    intro b h1 h2
    rw [hblk2 b h1 (by omega), Below.heap_alloc _ o b (by omega)]
    exact hblk b (by omega)
  refine ⟨by simp; omega, ?_, ?_, ?_, ?_, fun p hp => heven p (by omega), ?_, (hbel.setCell (by simp) _).alloc (by simp; omega) _, by simp; omega⟩
  · have k := (hstk.stored rest.length (.pointer (some ⟨wr.heap.size, 0, none⟩))).1.alloc o
    have e : ((rest.reverse.map fun x => Value.pointer x.1) ++ [u]).set rest.length (.pointer (some ⟨wr.heap.size, 0, none⟩)) = (rest.reverse.map fun x => Value.pointer x.1) ++ [.pointer (some ⟨wr.heap.size, 0, none⟩)] := by
      rw [List.set_append_right _ _ (by simp)]
      simp
    rw [e] at k
    simpa using k
  · have k := (ownsRow_setCell_other hsts (a := ⟨w.heap.size, rest.length, none⟩) (by simp [Value.ownBlock]) (.pointer (some ⟨wr.heap.size, 0, none⟩))).alloc o
    simpa using k
  · exact (ownsRow_setCell_other hfl (a := ⟨w.heap.size, rest.length, none⟩) (by simp [Value.ownBlock]) (.pointer (some ⟨wr.heap.size, 0, none⟩))).alloc o
  · refine ⟨by show s < i + 1; omega, ?_, Inv.keep hblk0 (by simp; omega) (by omega) rest s hpar hinv⟩
    exact Tr.keep hblk2 (by simp; omega) _ _ _ _ hT
  · intro p hp hop'
    by_cases e : p = i
    · subst e; exact absurd hop' hop
    · exact h.range p (by omega) hop'

end Go.Proofs.Qxb6600637a
