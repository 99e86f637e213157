import Derived.Test.Qxb6600637aTree
import Derived.Deep.RegionWith
namespace Go.Proofs.Qxb6600637a
open Go.ChangeShapes Go.WideShapes Go.ChangeAt Go.RowKit

def TermsAt (lo hi B k : Nat) : Prop := ∀ (w : World) (p : Option Addr) (T : List (Int × Int)) (A : List (Int × Int × ByteArray)) (sg : Int) (v : Value) (n : Nat) (xs : List Value),
  Tr w lo hi k p T A → (sg = 1 ∨ sg = -1) → w.ownsRow B 77 2 v n xs → n + T.length ≤ 1000000 → B ≤ w.heap.size →
  Calls Try.prog 41 #[.pointer p, .int .i64 sg, v] w fun e w' => ∃ v', e = .returned v' ∧ w'.ownsRow B 77 2 v' (n + T.length) (xs ++ cellsT (scaleT sg T)) ∧ Below B w w'

theorem blk_lt {w : World} {b : Nat} {o : Obj} (hb : w.heap[b]? = some o) : b < w.heap.size := by
  rcases Nat.lt_or_ge b w.heap.size with h | h
  · exact h
  · rw [Array.getElem?_eq_none h] at hb; cases hb

theorem Tr.drew {w : World} {lo hi k : Nat} {p : Option Addr} {T : List (Int × Int)} {A : List (Int × Int × ByteArray)} (h : Tr w lo hi k p T A) : Tr w.drew lo hi k p T A :=
  Tr.keep (w := w) (w' := w.drew) (fun _ _ _ => rfl) (Nat.le_refl _) k p T A h

set_option maxHeartbeats 400000 in
theorem terms_attr (w : World) (b : Nat) (pl ob : Int) (nm : ByteArray) (x y : Option Addr) (sg : Int) (v : Value)
    (hb : w.heap[b]? = some (nodeObj 114 pl ob nm x y)) (htm : tmB ob nm = false) :
    Calls Try.prog 41 #[.pointer (some ⟨b, 0, none⟩), .int .i64 sg, v] w fun e w' => e = .returned v ∧ w' = w.alloc (.cells #[.int .i64 pl, .int .u8 ob, .string nm] 71) := by
  obtain ⟨c0, c1, c2, c3, c5, c6⟩ := nodeCells hb
  have hlt := blk_lt hb
  clear hb
  go_enter Try.func41, Try.ntmps41
  go_wp2_with (go_at_call 44; refine (isTime_any _ _ _ _).mono ?_; rintro e w' ⟨rfl, rfl⟩)
  go_ret
  exact ⟨rfl, rfl⟩

set_option maxHeartbeats 400000 in
theorem terms_num (w : World) (b : Nat) (pl ob : Int) (nm : ByteArray) (x y : Option Addr) (sg : Int) (v : Value)
    (hb : w.heap[b]? = some (nodeObj 110 pl ob nm x y)) :
    Calls Try.prog 41 #[.pointer (some ⟨b, 0, none⟩), .int .i64 sg, v] w fun e w' => e = .returned v ∧ w' = w := by
  obtain ⟨c0, c1, c2, c3, c5, c6⟩ := nodeCells hb
  clear hb
  go_enter Try.func41, Try.ntmps41
  go_wp2_with fail
  go_ret
  exact ⟨rfl, rfl⟩

theorem scale_neg (s : Int) (T : List (Int × Int)) : scaleT s (negT T) = scaleT (-s) T := by
  unfold scaleT negT
  rw [List.map_map]
  apply List.map_congr_left
  intro t _
  simp [Int.mul_neg, Int.neg_mul]

theorem scale_app (s : Int) (T U : List (Int × Int)) : scaleT s (T ++ U) = scaleT s T ++ scaleT s U := by simp [scaleT]

theorem negT_len (T : List (Int × Int)) : (negT T).length = T.length := by simp [negT]

set_option maxHeartbeats 400000 in
theorem terms_minus {lo hi B k : Nat} (ih : TermsAt lo hi B k) (w : World) (b : Nat) (pl ob : Int) (nm : ByteArray) (x y : Option Addr) (sg : Int) (v : Value) (n : Nat) (xs : List Value)
    (T1 : List (Int × Int)) (A1 : List (Int × Int × ByteArray)) (hb : w.heap[b]? = some (nodeObj 126 pl ob nm x y)) (hx : Tr w lo hi k x T1 A1)
    (hsg : sg = 1 ∨ sg = -1) (hown : w.ownsRow B 77 2 v n xs) (hn : n + T1.length ≤ 1000000) (hB : B ≤ w.heap.size) :
    Calls Try.prog 41 #[.pointer (some ⟨b, 0, none⟩), .int .i64 sg, v] w fun e w' => ∃ v', e = .returned v' ∧ w'.ownsRow B 77 2 v' (n + T1.length) (xs ++ cellsT (scaleT (-sg) T1)) ∧ Below B w w' := by
  obtain ⟨c0, c1, c2, c3, c5, c6⟩ := nodeCells hb
  clear hb
  have s1 : -1 ≤ sg := by omega
  have s2 : sg ≤ 1 := by omega
  have HS : Hid (-sg = 1 ∨ -sg = -1) := by show -sg = 1 ∨ -sg = -1; omega
  clear hsg
  go_enter Try.func41, Try.ntmps41
  go_wp2_with (go_at_call 41; refine (ih _ x T1 A1 (-sg) v n xs hx HS.out hown hn hB).mono ?_; rintro e w' ⟨v', rfl, hown', hbel⟩)
  go_ret
  exact ⟨v', rfl, hown', hbel⟩

set_option maxHeartbeats 1000000 in
theorem terms_sub {lo hi B k : Nat} (ih : TermsAt lo hi B k) (w : World) (b : Nat) (pl ob : Int) (nm : ByteArray) (x y : Option Addr) (sg : Int) (v : Value) (n : Nat) (xs : List Value)
    (T1 : List (Int × Int)) (A1 : List (Int × Int × ByteArray)) (T2 : List (Int × Int)) (A2 : List (Int × Int × ByteArray)) (hb : w.heap[b]? = some (nodeObj 45 pl ob nm x y)) (hbB : b < B) (hiB : hi ≤ B)
    (hx : Tr w lo hi k x T1 A1) (hy : Tr w lo hi k y T2 A2)
    (hsg : sg = 1 ∨ sg = -1) (hown : w.ownsRow B 77 2 v n xs) (hn : n + T1.length + T2.length ≤ 1000000) (hB : B ≤ w.heap.size) :
    Calls Try.prog 41 #[.pointer (some ⟨b, 0, none⟩), .int .i64 sg, v] w fun e w' => ∃ v', e = .returned v' ∧ w'.ownsRow B 77 2 v' (n + T1.length + T2.length) ((xs ++ cellsT (scaleT sg T1)) ++ cellsT (scaleT (-sg) T2)) ∧ Below B w w' := by
  obtain ⟨c0, c1, c2, c3, c5, c6⟩ := nodeCells hb
  clear hb
  have s1 : -1 ≤ sg := by omega
  have s2 : sg ≤ 1 := by omega
  have HS : Hid (-sg = 1 ∨ -sg = -1) := by show -sg = 1 ∨ -sg = -1; omega
  have HS2 : Hid (sg = 1 ∨ sg = -1) := hsg
  have HW : Hid (IntKind.i64.wrap (-sg) = -sg) := by
    show IntKind.i64.wrap (-sg) = -sg
    simp [IntKind.wrap, IntKind.bits, IntKind.signed]; omega
  clear hsg
  go_enter Try.func41, Try.ntmps41
  go_wp2_with fail
  go_region_held3 (fun w' => w'.cell? ⟨b, 5, none⟩ = some (.pointer x) ∧ w'.cell? ⟨b, 6, none⟩ = some (.pointer y)) (first | go_keep | (refine ⟨?_, ?_⟩ <;> first | exact (hb2.cell (p := ⟨b, 5, none⟩) hbB).trans ((hb1.cell (p := ⟨b, 5, none⟩) hbB).trans c5) | exact (hb2.cell (p := ⟨b, 6, none⟩) hbB).trans ((hb1.cell (p := ⟨b, 6, none⟩) hbB).trans c6) | exact (hb1.cell (p := ⟨b, 5, none⟩) hbB).trans c5 | exact (hb1.cell (p := ⟨b, 6, none⟩) hbB).trans c6))
    (first
      | (go_at_call_of 41 (Value.pointer x); refine (ih _ x T1 A1 sg v n xs (by exact hx.drew) HS2.out (by exact hown.drew) (by omega) (by exact hB)).mono ?_; rintro e w1 ⟨v1, rfl, hown1, hb1⟩)
      | (go_at_call_of 41 (Value.pointer y); rw [HW.out]; refine (ih _ y T2 A2 (-sg) v1 (n + T1.length) (xs ++ cellsT (scaleT sg T1)) (by exact Tr.below hb1 hiB hy.drew) HS.out (by exact hown1) (by omega) (by have := hb1.size; exact Nat.le_trans hB this)).mono ?_; rintro e w2 ⟨v2, rfl, hown2, hb2⟩))
  all_goals go_wp2
  all_goals go_ret
  all_goals exact ⟨v2, rfl, hown2, ((Below.refl _ _).drew.trans hb1).trans hb2⟩

set_option maxHeartbeats 1000000 in
theorem terms_add {lo hi B k : Nat} (ih : TermsAt lo hi B k) (w : World) (b : Nat) (pl ob : Int) (nm : ByteArray) (x y : Option Addr) (sg : Int) (v : Value) (n : Nat) (xs : List Value)
    (T1 : List (Int × Int)) (A1 : List (Int × Int × ByteArray)) (T2 : List (Int × Int)) (A2 : List (Int × Int × ByteArray)) (op : Int) (o1 : (op == 114) = false) (o2 : (op == 110) = false) (o3 : (op == 126) = false) (o4 : (op == 45) = false) (hb : w.heap[b]? = some (nodeObj op pl ob nm x y)) (hbB : b < B) (hiB : hi ≤ B)
    (hx : Tr w lo hi k x T1 A1) (hy : Tr w lo hi k y T2 A2)
    (hsg : sg = 1 ∨ sg = -1) (hown : w.ownsRow B 77 2 v n xs) (hn : n + T1.length + T2.length ≤ 1000000) (hB : B ≤ w.heap.size) :
    Calls Try.prog 41 #[.pointer (some ⟨b, 0, none⟩), .int .i64 sg, v] w fun e w' => ∃ v', e = .returned v' ∧ w'.ownsRow B 77 2 v' (n + T1.length + T2.length) ((xs ++ cellsT (scaleT sg T1)) ++ cellsT (scaleT sg T2)) ∧ Below B w w' := by
  obtain ⟨c0, c1, c2, c3, c5, c6⟩ := nodeCells hb
  clear hb
  have HS2 : Hid (sg = 1 ∨ sg = -1) := hsg
  clear hsg
  go_enter Try.func41, Try.ntmps41
  go_wp2_with fail
  go_region_held3 (fun w' => w'.cell? ⟨b, 5, none⟩ = some (.pointer x) ∧ w'.cell? ⟨b, 6, none⟩ = some (.pointer y)) (first | go_keep | (refine ⟨?_, ?_⟩ <;> first | exact (hb2.cell (p := ⟨b, 5, none⟩) hbB).trans ((hb1.cell (p := ⟨b, 5, none⟩) hbB).trans c5) | exact (hb2.cell (p := ⟨b, 6, none⟩) hbB).trans ((hb1.cell (p := ⟨b, 6, none⟩) hbB).trans c6) | exact (hb1.cell (p := ⟨b, 5, none⟩) hbB).trans c5 | exact (hb1.cell (p := ⟨b, 6, none⟩) hbB).trans c6))
    (first
      | (go_at_call_of 41 (Value.pointer x); refine (ih _ x T1 A1 sg v n xs (by exact hx.drew) HS2.out (by exact hown.drew) (by omega) (by exact hB)).mono ?_; rintro e w1 ⟨v1, rfl, hown1, hb1⟩)
      | (go_at_call_of 41 (Value.pointer y); refine (ih _ y T2 A2 sg v1 (n + T1.length) (xs ++ cellsT (scaleT sg T1)) (by exact Tr.below hb1 hiB hy.drew) HS2.out (by exact hown1) (by omega) (by have := hb1.size; exact Nat.le_trans hB this)).mono ?_; rintro e w2 ⟨v2, rfl, hown2, hb2⟩))
  all_goals go_wp2
  all_goals go_ret
  all_goals exact ⟨v2, rfl, hown2, ((Below.refl _ _).drew.trans hb1).trans hb2⟩


theorem terms_any (lo hi B : Nat) (hiB : hi ≤ B) : ∀ k, TermsAt lo hi B k
  | 0 => fun _ _ _ _ _ _ _ _ h => False.elim h
  | k + 1 => by
    have ih := terms_any lo hi B hiB k
    intro w p T A sg v n xs h hsg hown hn hB
    obtain ⟨b, op, pl, ob, nm, x, y, rfl, h1, h2, h3, h4⟩ := h
    rcases h4 with ⟨rfl, htm, rfl, rfl⟩ | ⟨rfl, htm, rfl, rfl⟩ | ⟨rfl, rfl, rfl⟩ | ⟨rfl, T1, t1, rfl⟩ | ⟨rfl, T1, A1, T2, A2, t1, t2, rfl, rfl⟩ | ⟨g1, g2, g3, g4, T1, A1, T2, A2, t1, t2, rfl, rfl⟩
    · refine (terms_time w B b pl ob nm x y sg v n xs h3 htm hown (by simp at hn; omega) hB).mono ?_
      rintro e w' ⟨v', rfl, ho, hb⟩
      exact ⟨v', rfl, by simpa [cellsT, scaleT] using ho, hb⟩
    · refine (terms_attr w b pl ob nm x y sg v h3 htm).mono ?_
      rintro e w' ⟨rfl, rfl⟩
      exact ⟨v, rfl, by simpa [cellsT, scaleT] using hown.alloc _, (Below.refl _ _).alloc hB _⟩
    · refine (terms_num w b pl ob nm x y sg v h3).mono ?_
      rintro e w' ⟨rfl, rfl⟩
      exact ⟨v, rfl, by simpa [cellsT, scaleT] using hown, Below.refl _ _⟩
    · rw [negT_len] at hn
      refine (terms_minus ih w b pl ob nm x y sg v n xs T1 A h3 t1 hsg hown hn hB).mono ?_
      rintro e w' ⟨v', rfl, ho, hb⟩
      exact ⟨v', rfl, by rw [negT_len, scale_neg]; exact ho, hb⟩
    · rw [List.length_append, negT_len] at hn
      refine (terms_sub ih w b pl ob nm x y sg v n xs T1 A1 T2 A2 h3 (by omega) hiB t1 t2 hsg hown (by omega) hB).mono ?_
      rintro e w' ⟨v', rfl, ho, hb⟩
      refine ⟨v', rfl, ?_, hb⟩
      rw [List.length_append, negT_len, scale_app, scale_neg, cellsT_append, ← Nat.add_assoc, ← List.append_assoc]
      exact ho
    · rw [List.length_append] at hn
      refine (terms_add ih w b pl ob nm x y sg v n xs T1 A1 T2 A2 op (by simp [g1]) (by simp [g2]) (by simp [g3]) (by simp [g4]) h3 (by omega) hiB t1 t2 hsg hown (by omega) hB).mono ?_
      rintro e w' ⟨v', rfl, ho, hb⟩
      refine ⟨v', rfl, ?_, hb⟩
      rw [List.length_append, scale_app, cellsT_append, ← Nat.add_assoc, ← List.append_assoc]
      exact ho

end Go.Proofs.Qxb6600637a
