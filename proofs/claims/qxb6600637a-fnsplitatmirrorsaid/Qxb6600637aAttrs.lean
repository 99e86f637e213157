import Derived.Test.Qxb6600637aTerms
namespace Go.Proofs.Qxb6600637a
open Go.ChangeShapes Go.WideShapes Go.ChangeAt Go.RowKit

def cellsA (A : List (Int × Int × ByteArray)) : List Value := A.flatMap fun t => [.int .i64 t.1, .int .u8 t.2.1, .string t.2.2]

theorem cellsA_append (a b : List (Int × Int × ByteArray)) : cellsA (a ++ b) = cellsA a ++ cellsA b := by simp [cellsA]
theorem cellsA_length (a : List (Int × Int × ByteArray)) : (cellsA a).length = a.length * 3 := by
  induction a with
  | nil => rfl
  | cons t a ih => simp [cellsA] at ih ⊢; omega

theorem Try.info71 : (Try.prog.info? 71).map (fun i => (i.zero, i.size, i.bytes)) = some (some (.agg #[.int .i64 0, .int .u8 0, .string ⟨#[]⟩]), 3, 32) := by kernel_rfl

def AttrsAt (lo hi B k : Nat) : Prop := ∀ (w : World) (p : Option Addr) (T : List (Int × Int)) (A : List (Int × Int × ByteArray)) (v : Value) (n : Nat) (xs : List Value),
  Tr w lo hi k p T A → w.ownsRow B 71 3 v n xs → n + A.length ≤ 1000000 → B ≤ w.heap.size →
  Calls Try.prog 42 #[.pointer p, v] w fun e w' => ∃ v', e = .returned v' ∧ w'.ownsRow B 71 3 v' (n + A.length) (xs ++ cellsA A) ∧ Below B w w'

set_option maxHeartbeats 1000000 in
theorem attrs_attr (w : World) (B b : Nat) (pl ob : Int) (nm : ByteArray) (x y : Option Addr) (v : Value) (n : Nat) (xs : List Value)
    (hb : w.heap[b]? = some (nodeObj 114 pl ob nm x y)) (htm : tmB ob nm = false) (hown : w.ownsRow B 71 3 v n xs) (hn : n ≤ 1000000) (hB : B ≤ w.heap.size) :
    Calls Try.prog 42 #[.pointer (some ⟨b, 0, none⟩), v] w fun e w' => ∃ v', e = .returned v' ∧ w'.ownsRow B 71 3 v' (n + 1) (xs ++ [.int .i64 pl, .int .u8 ob, .string nm]) ∧ Below B w w' := by
  obtain ⟨c0, c1, c2, c3, c5, c6⟩ := nodeCells hb
  have hlt := blk_lt hb
  clear hb
  obtain ⟨i0, hi, hz0, hz1, hz2⟩ := info_parts Try.info71
  go_enter Try.func42, Try.ntmps42
  go_wp2_with (first | (go_at_call 44; refine (isTime_any _ _ _ _).mono ?_; rintro e w' ⟨rfl, rfl⟩) | (at_builtin; refine wpList_append_own _ rfl _ _ 78 rfl B 71 i0 (.agg #[.int .i64 0, .int .u8 0, .string ⟨#[]⟩]) 3 32 Try.underlying78 hi hz0 hz1 hz2 rfl (by decide) _ _ _ rfl ((hown.alloc _).alloc _) ⟨w.heap.size + 1, 0, none⟩ 1 1 [.int .i64 pl, .int .u8 ob, .string nm] rfl rfl ?c1 ?c2 ?c3 ?c4 ?c5 ?_))
  case c1 =>
    have hg := heap_alloc_new (w.alloc (.cells #[.int .i64 pl, .int .u8 ob, .string nm] 71)) (.cells #[.int .i64 pl, .int .u8 ob, .string nm] 71)
    exact World.news_of_block (by simpa using hg)
  case c2 => intro u hu; simp at hu; rcases hu with rfl | rfl | rfl <;> rfl
  case c3 => unfold maxLen; omega
  case c4 => omega
  case c5 => simp; omega
  intro v' w1 hown' hgrow _
  go_wp2
  go_ret
  refine ⟨v', rfl, hown', ?_⟩
  exact (((Below.refl _ _).alloc hB _).alloc (by simp; omega) _).grown hgrow (by simp; omega) (fun k hk => (hown.lt k hk).1)

set_option maxHeartbeats 400000 in
theorem attrs_time (w : World) (b : Nat) (pl ob : Int) (nm : ByteArray) (x y : Option Addr) (v : Value)
    (hb : w.heap[b]? = some (nodeObj 114 pl ob nm x y)) (htm : tmB ob nm = true) :
    Calls Try.prog 42 #[.pointer (some ⟨b, 0, none⟩), v] w fun e w' => e = .returned v ∧ w' = w.alloc (.cells #[.int .i64 pl, .int .u8 ob, .string nm] 71) := by
  obtain ⟨c0, c1, c2, c3, c5, c6⟩ := nodeCells hb
  have hlt := blk_lt hb
  clear hb
  go_enter Try.func42, Try.ntmps42
  go_wp2_with (go_at_call 44; refine (isTime_any _ _ _ _).mono ?_; rintro e w' ⟨rfl, rfl⟩)
  go_ret
  exact ⟨rfl, rfl⟩

set_option maxHeartbeats 400000 in
theorem attrs_num (w : World) (b : Nat) (pl ob : Int) (nm : ByteArray) (x y : Option Addr) (v : Value)
    (hb : w.heap[b]? = some (nodeObj 110 pl ob nm x y)) :
    Calls Try.prog 42 #[.pointer (some ⟨b, 0, none⟩), v] w fun e w' => e = .returned v ∧ w' = w := by
  obtain ⟨c0, c1, c2, c3, c5, c6⟩ := nodeCells hb
  clear hb
  go_enter Try.func42, Try.ntmps42
  go_wp2_with fail
  go_ret
  exact ⟨rfl, rfl⟩

set_option maxHeartbeats 400000 in
theorem attrs_minus {lo hi B k : Nat} (ih : AttrsAt lo hi B k) (w : World) (b : Nat) (pl ob : Int) (nm : ByteArray) (x y : Option Addr) (v : Value) (n : Nat) (xs : List Value)
    (T1 : List (Int × Int)) (A1 : List (Int × Int × ByteArray)) (hb : w.heap[b]? = some (nodeObj 126 pl ob nm x y)) (hx : Tr w lo hi k x T1 A1)
    (hown : w.ownsRow B 71 3 v n xs) (hn : n + A1.length ≤ 1000000) (hB : B ≤ w.heap.size) :
    Calls Try.prog 42 #[.pointer (some ⟨b, 0, none⟩), v] w fun e w' => ∃ v', e = .returned v' ∧ w'.ownsRow B 71 3 v' (n + A1.length) (xs ++ cellsA A1) ∧ Below B w w' := by
  obtain ⟨c0, c1, c2, c3, c5, c6⟩ := nodeCells hb
  clear hb
  go_enter Try.func42, Try.ntmps42
  go_wp2_with (go_at_call 42; refine (ih _ x T1 A1 v n xs hx hown hn hB).mono ?_; rintro e w' ⟨v', rfl, hown', hbel⟩)
  go_ret
  exact ⟨v', rfl, hown', hbel⟩

set_option maxHeartbeats 1000000 in
theorem attrs_two {lo hi B k : Nat} (ih : AttrsAt lo hi B k) (w : World) (b : Nat) (pl ob : Int) (nm : ByteArray) (x y : Option Addr) (v : Value) (n : Nat) (xs : List Value)
    (T1 : List (Int × Int)) (A1 : List (Int × Int × ByteArray)) (T2 : List (Int × Int)) (A2 : List (Int × Int × ByteArray)) (op : Int) (o1 : (op == 114) = false) (o2 : (op == 110) = false) (o3 : (op == 126) = false)
    (hb : w.heap[b]? = some (nodeObj op pl ob nm x y)) (hbB : b < B) (hiB : hi ≤ B) (hx : Tr w lo hi k x T1 A1) (hy : Tr w lo hi k y T2 A2)
    (hown : w.ownsRow B 71 3 v n xs) (hn : n + A1.length + A2.length ≤ 1000000) (hB : B ≤ w.heap.size) :
    Calls Try.prog 42 #[.pointer (some ⟨b, 0, none⟩), v] w fun e w' => ∃ v', e = .returned v' ∧ w'.ownsRow B 71 3 v' (n + A1.length + A2.length) ((xs ++ cellsA A1) ++ cellsA A2) ∧ Below B w w' := by
  obtain ⟨c0, c1, c2, c3, c5, c6⟩ := nodeCells hb
  clear hb
  go_enter Try.func42, Try.ntmps42
  go_wp2_with fail
  go_region_held3 (fun w' => w'.cell? ⟨b, 5, none⟩ = some (.pointer x) ∧ w'.cell? ⟨b, 6, none⟩ = some (.pointer y)) (first | go_keep | (refine ⟨?_, ?_⟩ <;> first | exact (hb2.cell (p := ⟨b, 5, none⟩) hbB).trans ((hb1.cell (p := ⟨b, 5, none⟩) hbB).trans c5) | exact (hb2.cell (p := ⟨b, 6, none⟩) hbB).trans ((hb1.cell (p := ⟨b, 6, none⟩) hbB).trans c6) | exact (hb1.cell (p := ⟨b, 5, none⟩) hbB).trans c5 | exact (hb1.cell (p := ⟨b, 6, none⟩) hbB).trans c6))
    (first
      | (go_at_call_of 42 (Value.pointer x); refine (ih _ x T1 A1 v n xs (by exact hx.drew) (by exact hown.drew) (by omega) (by exact hB)).mono ?_; rintro e w1 ⟨v1, rfl, hown1, hb1⟩)
      | (go_at_call_of 42 (Value.pointer y); refine (ih _ y T2 A2 v1 (n + A1.length) (xs ++ cellsA A1) (by exact Tr.below hb1 hiB hy.drew) (by exact hown1) (by omega) (by have := hb1.size; exact Nat.le_trans hB this)).mono ?_; rintro e w2 ⟨v2, rfl, hown2, hb2⟩))
  all_goals go_wp2
  all_goals go_ret
  all_goals exact ⟨v2, rfl, hown2, ((Below.refl _ _).drew.trans hb1).trans hb2⟩

theorem attrs_any (lo hi B : Nat) (hiB : hi ≤ B) : ∀ k, AttrsAt lo hi B k
  | 0 => fun _ _ _ _ _ _ _ h => False.elim h
  | k + 1 => by
    have ih := attrs_any lo hi B hiB k
    intro w p T A v n xs h hown hn hB
    obtain ⟨b, op, pl, ob, nm, x, y, rfl, h1, h2, h3, h4⟩ := h
    rcases h4 with ⟨rfl, htm, rfl, rfl⟩ | ⟨rfl, htm, rfl, rfl⟩ | ⟨rfl, rfl, rfl⟩ | ⟨rfl, T1, t1, rfl⟩ | ⟨rfl, T1, A1, T2, A2, t1, t2, rfl, rfl⟩ | ⟨g1, g2, g3, g4, T1, A1, T2, A2, t1, t2, rfl, rfl⟩
    · refine (attrs_time w b pl ob nm x y v h3 htm).mono ?_
      rintro e w' ⟨rfl, rfl⟩
      exact ⟨v, rfl, by simpa [cellsA] using hown.alloc _, (Below.refl _ _).alloc hB _⟩
    · refine (attrs_attr w B b pl ob nm x y v n xs h3 htm hown (by simp at hn; omega) hB).mono ?_
      rintro e w' ⟨v', rfl, ho, hb⟩
      exact ⟨v', rfl, by simpa [cellsA] using ho, hb⟩
    · refine (attrs_num w b pl ob nm x y v h3).mono ?_
      rintro e w' ⟨rfl, rfl⟩
      exact ⟨v, rfl, by simpa [cellsA] using hown, Below.refl _ _⟩
    · refine (attrs_minus ih w b pl ob nm x y v n xs T1 A h3 t1 hown hn hB).mono ?_
      rintro e w' ⟨v', rfl, ho, hb⟩
      exact ⟨v', rfl, ho, hb⟩
    · rw [List.length_append] at hn
      refine (attrs_two ih w b pl ob nm x y v n xs T1 A1 T2 A2 45 rfl rfl rfl h3 (by omega) hiB t1 t2 hown (by omega) hB).mono ?_
      rintro e w' ⟨v', rfl, ho, hb⟩
      refine ⟨v', rfl, ?_, hb⟩
      rw [List.length_append, cellsA_append, ← Nat.add_assoc, ← List.append_assoc]
      exact ho
    · rw [List.length_append] at hn
      refine (attrs_two ih w b pl ob nm x y v n xs T1 A1 T2 A2 op (by simp [g1]) (by simp [g2]) (by simp [g3]) h3 (by omega) hiB t1 t2 hown (by omega) hB).mono ?_
      rintro e w' ⟨v', rfl, ho, hb⟩
      refine ⟨v', rfl, ?_, hb⟩
      rw [List.length_append, cellsA_append, ← Nat.add_assoc, ← List.append_assoc]
      exact ho

end Go.Proofs.Qxb6600637a
