import Derived.Test.Qxb6600637aTok
import Derived.Deep.RegionHeld3
import Derived.Deep.AppendLies
namespace Go.Proofs.Qxb6600637a
open Go.ChangeShapes Go.WideShapes Go.ChangeAt Go.RowKit

/-! ### the small functions -/
def tmB (ob : Int) (nm : ByteArray) : Bool := (ob == 0) && (nm.toList == [116, 105, 109, 101])

set_option maxHeartbeats 400000 in
theorem isTime_any (w : World) (pl ob : Int) (nm : ByteArray) :
    Calls Try.prog 44 #[.agg #[.int .i64 pl, .int .u8 ob, .string nm]] w fun e w' => e = .returned (.bool (tmB ob nm)) ∧ w' = w.alloc (.cells #[.int .i64 pl, .int .u8 ob, .string nm] 71) := by
  by_cases h : ob = 0
  · have h0 : (ob == 0) = true := by simp [h]
    have e : (nm.toList == [116, 105, 109, 101]) = tmB ob nm := by simp [tmB, h0]
    have E : Hid ((nm.toList == [116, 105, 109, 101]) = tmB ob nm) := e
    clear e h
    go_enter Try.func44, Try.ntmps44
    go_wp2
    go_ret
    exact ⟨by rw [← E.out]; rfl, rfl⟩
  · have h0 : (ob == 0) = false := by simp [h]
    have e : tmB ob nm = false := by simp [tmB, h0]
    have E : Hid (tmB ob nm = false) := e
    clear e h
    go_enter Try.func44, Try.ntmps44
    go_wp2
    go_ret
    exact ⟨by rw [E.out]; rfl, rfl⟩

/-! ### trees in memory -/
/-- one node -/
def nodeObj (op pl ob : Int) (nm : ByteArray) (x y : Option Addr) : Obj :=
  .cells #[.int .u8 op, .int .i64 pl, .int .u8 ob, .string nm, .float .f64 0, .pointer x, .pointer y] 73

def negT (T : List (Int × Int)) : List (Int × Int) := T.map fun t => (t.1, -t.2)
def scaleT (s : Int) (T : List (Int × Int)) : List (Int × Int) := T.map fun t => (t.1, s * t.2)

/-- the pointer p leads to a tree of depth at most k, all of whose nodes lie in blocks lo .. hi-1, whose times are T (with their signs) and whose other references are A -/
def Tr (w : World) (lo hi : Nat) : Nat → Option Addr → List (Int × Int) → List (Int × Int × ByteArray) → Prop
  | 0, _, _, _ => False
  | k + 1, p, T, A => ∃ b op pl ob nm x y, p = some ⟨b, 0, none⟩ ∧ lo ≤ b ∧ b < hi ∧ w.heap[b]? = some (nodeObj op pl ob nm x y) ∧
      ((op = 114 ∧ tmB ob nm = true ∧ T = [(pl, 1)] ∧ A = []) ∨
       (op = 114 ∧ tmB ob nm = false ∧ T = [] ∧ A = [(pl, ob, nm)]) ∨
       (op = 110 ∧ T = [] ∧ A = []) ∨
       (op = 126 ∧ ∃ T1, Tr w lo hi k x T1 A ∧ T = negT T1) ∨
       (op = 45 ∧ ∃ T1 A1 T2 A2, Tr w lo hi k x T1 A1 ∧ Tr w lo hi k y T2 A2 ∧ T = T1 ++ negT T2 ∧ A = A1 ++ A2) ∨
       (op ≠ 114 ∧ op ≠ 110 ∧ op ≠ 126 ∧ op ≠ 45 ∧ ∃ T1 A1 T2 A2, Tr w lo hi k x T1 A1 ∧ Tr w lo hi k y T2 A2 ∧ T = T1 ++ T2 ∧ A = A1 ++ A2))

theorem Tr.keep {w w' : World} {lo hi hi' : Nat} (hk : ∀ b, lo ≤ b → b < hi → w'.heap[b]? = w.heap[b]?) (hh : hi ≤ hi') :
    ∀ k p T A, Tr w lo hi k p T A → Tr w' lo hi' k p T A
  | 0, _, _, _, h => h
  | k + 1, p, T, A, h => by
    obtain ⟨b, op, pl, ob, nm, x, y, hp, h1, h2, h3, h4⟩ := h
    refine ⟨b, op, pl, ob, nm, x, y, hp, h1, by omega, (hk b h1 h2).trans h3, ?_⟩
    rcases h4 with h | h | h | ⟨h, T1, t1, e⟩ | ⟨h, T1, A1, T2, A2, t1, t2, e⟩ | ⟨g1, g2, g3, g4, T1, A1, T2, A2, t1, t2, e⟩
    · exact .inl h
    · exact .inr (.inl h)
    · exact .inr (.inr (.inl h))
    · exact .inr (.inr (.inr (.inl ⟨h, T1, Tr.keep hk hh k _ _ _ t1, e⟩)))
    · exact .inr (.inr (.inr (.inr (.inl ⟨h, T1, A1, T2, A2, Tr.keep hk hh k _ _ _ t1, Tr.keep hk hh k _ _ _ t2, e⟩))))
    · exact .inr (.inr (.inr (.inr (.inr ⟨g1, g2, g3, g4, T1, A1, T2, A2, Tr.keep hk hh k _ _ _ t1, Tr.keep hk hh k _ _ _ t2, e⟩))))

theorem Tr.more {w : World} {lo hi : Nat} : ∀ k k' p T A, k ≤ k' → Tr w lo hi k p T A → Tr w lo hi k' p T A
  | 0, _, _, _, _, _, h => False.elim h
  | k + 1, 0, _, _, _, hk, _ => by omega
  | k + 1, k' + 1, p, T, A, hk, h => by
    obtain ⟨b, op, pl, ob, nm, x, y, hp, h1, h2, h3, h4⟩ := h
    refine ⟨b, op, pl, ob, nm, x, y, hp, h1, h2, h3, ?_⟩
    rcases h4 with h | h | h | ⟨h, T1, t1, e⟩ | ⟨h, T1, A1, T2, A2, t1, t2, e⟩ | ⟨g1, g2, g3, g4, T1, A1, T2, A2, t1, t2, e⟩
    · exact .inl h
    · exact .inr (.inl h)
    · exact .inr (.inr (.inl h))
    · exact .inr (.inr (.inr (.inl ⟨h, T1, Tr.more k k' _ _ _ (by omega) t1, e⟩)))
    · exact .inr (.inr (.inr (.inr (.inl ⟨h, T1, A1, T2, A2, Tr.more k k' _ _ _ (by omega) t1, Tr.more k k' _ _ _ (by omega) t2, e⟩))))
    · exact .inr (.inr (.inr (.inr (.inr ⟨g1, g2, g3, g4, T1, A1, T2, A2, Tr.more k k' _ _ _ (by omega) t1, Tr.more k k' _ _ _ (by omega) t2, e⟩))))

theorem Tr.below {w w' : World} {lo hi B : Nat} (hb : Below B w w') (hB : hi ≤ B) {k p T A} (h : Tr w lo hi k p T A) : Tr w' lo hi k p T A :=
  Tr.keep (fun b _ h2 => hb.block b (by omega)) (Nat.le_refl _) k p T A h

theorem nodeCells {w : World} {b : Nat} {op pl ob : Int} {nm : ByteArray} {x y : Option Addr} (h : w.heap[b]? = some (nodeObj op pl ob nm x y)) :
    w.cell? ⟨b, 0, none⟩ = some (.int .u8 op) ∧ w.cell? ⟨b, 1, none⟩ = some (.int .i64 pl) ∧ w.cell? ⟨b, 2, none⟩ = some (.int .u8 ob) ∧ w.cell? ⟨b, 3, none⟩ = some (.string nm) ∧
    w.cell? ⟨b, 5, none⟩ = some (.pointer x) ∧ w.cell? ⟨b, 6, none⟩ = some (.pointer y) := by
  unfold nodeObj at h
  refine ⟨?_, ?_, ?_, ?_, ?_, ?_⟩ <;> rw [cell_of_row w b _ _ _ _ h] <;> rfl

/-! ### the times of a tree, appended -/
def cellsT (T : List (Int × Int)) : List Value := T.flatMap fun t => [.int .i64 t.1, .int .i64 t.2]

theorem cellsT_append (a b : List (Int × Int)) : cellsT (a ++ b) = cellsT a ++ cellsT b := by simp [cellsT]
theorem cellsT_length (a : List (Int × Int)) : (cellsT a).length = a.length * 2 := by
  induction a with
  | nil => rfl
  | cons t a ih => simp [cellsT] at ih ⊢; omega

theorem Try.info77 : (Try.prog.info? 77).map (fun i => (i.zero, i.size, i.bytes)) = some (some (.agg #[.int .i64 0, .int .i64 0]), 2, 16) := by kernel_rfl

set_option maxHeartbeats 1000000 in
theorem terms_time (w : World) (B b : Nat) (pl ob : Int) (nm : ByteArray) (x y : Option Addr) (sg : Int) (v : Value) (n : Nat) (xs : List Value)
    (hb : w.heap[b]? = some (nodeObj 114 pl ob nm x y)) (htm : tmB ob nm = true) (hown : w.ownsRow B 77 2 v n xs) (hn : n ≤ 1000000) (hB : B ≤ w.heap.size) :
    Calls Try.prog 41 #[.pointer (some ⟨b, 0, none⟩), .int .i64 sg, v] w fun e w' => ∃ v', e = .returned v' ∧ w'.ownsRow B 77 2 v' (n + 1) (xs ++ [.int .i64 pl, .int .i64 sg]) ∧ Below B w w' := by
  obtain ⟨c0, c1, c2, c3, c5, c6⟩ := nodeCells hb
  have hlt : b < w.heap.size := by
    rcases Nat.lt_or_ge b w.heap.size with h | h
    · exact h
    · rw [Array.getElem?_eq_none h] at hb; cases hb
  have HB : Hid (w.heap[b]? = some (nodeObj 114 pl ob nm x y)) := hb
  clear hb
  obtain ⟨i0, hi, hz0, hz1, hz2⟩ := info_parts Try.info77
  go_enter Try.func41, Try.ntmps41
  go_wp2_with (first | (go_at_call 44; refine (isTime_any _ _ _ _).mono ?_; rintro e w' ⟨rfl, rfl⟩) | (at_builtin; refine wpList_append_own _ rfl _ _ 74 rfl B 77 i0 (.agg #[.int .i64 0, .int .i64 0]) 2 16 Try.underlying74 hi hz0 hz1 hz2 rfl (by decide) _ _ _ rfl ((hown.alloc _).alloc _) ⟨w.heap.size + 1, 0, none⟩ 1 1 [.int .i64 pl, .int .i64 sg] rfl rfl ?c1 ?c2 ?c3 ?c4 ?c5 ?_))
  case c1 =>
    have hg := heap_alloc_new (w.alloc (.cells #[.int .i64 pl, .int .u8 ob, .string nm] 71)) (.cells #[.int .i64 pl, .int .i64 sg] 77)
    exact World.news_of_block (by simpa using hg)
  case c2 => intro u hu; simp at hu; rcases hu with rfl | rfl <;> rfl
  case c3 => unfold maxLen; omega
  case c4 => omega
  case c5 => simp; omega
  intro v' w1 hown' hgrow _
  go_wp2
  go_ret
  refine ⟨v', rfl, hown', ?_⟩
  exact (((Below.refl _ _).alloc hB _).alloc (by simp; omega) _).grown hgrow (by simp; omega) (fun k hk => (hown.lt k hk).1)

end Go.Proofs.Qxb6600637a
