import Derived.Test.Qxb6600637aBuild2
import Derived.Deep.QuietTactic
import Derived.BigQuiet
namespace Go.Proofs.Qxb6600637a
open Go.ChangeShapes Go.WideShapes Go.ChangeAt Go.RowKit

theorem Try.info42 : (Try.prog.info? 42).map (fun i => (i.zero, i.size, i.bytes)) = some (some (.pointer none), 1, 8) := by kernel_rfl
theorem Try.info3 : (Try.prog.info? 3).map (fun i => (i.zero, i.size, i.bytes)) = some (some (.int .i64 0), 1, 8) := by kernel_rfl
theorem Try.info4 : (Try.prog.info? 4).map (fun i => (i.zero, i.size, i.bytes)) = some (some (.bool false), 1, 1) := by kernel_rfl

theorem make0 (T E : TypeId) (z : Value) (bytes : Nat) (ht : Try.prog.underlying T = some (.slice E)) (hinfo : (Try.prog.info? E).map (fun i => (i.zero, i.size, i.bytes)) = some (some z, 1, bytes)) (hz : z.cells = #[z]) (n : Nat) (hn : n ≤ 65536) (hb : bytes ≤ 8) (w : World) :
    (Instr.makeSlice T (.int .i64 0) (.int .i64 (n : Int))).run Try.prog w = .ok (.slice (some ⟨w.heap.size, 0, none⟩) 0 n) (w.alloc (.cells (madeCells #[z] n) E)) := by
  obtain ⟨i, hi, h0, h1, h2⟩ := info_parts hinfo
  have hm : bytes * n ≤ 8 * 65536 := Nat.mul_le_mul hb hn
  have := run_make (P := Try.prog) w T E i z ht hi h0 .i64 .i64 0 (n : Int) (by omega) (by omega) (by rw [h2]; have h : ((bytes * n : Nat) : Int) ≤ 281474976710656 := (by omega); rwa [Int.natCast_mul] at h) (by omega)
  rw [this, hz, h1]
  simp

theorem make1 (T E : TypeId) (z : Value) (bytes : Nat) (ht : Try.prog.underlying T = some (.slice E)) (hinfo : (Try.prog.info? E).map (fun i => (i.zero, i.size, i.bytes)) = some (some z, 1, bytes)) (hz : z.cells = #[z]) (n : Nat) (hn : n ≤ 65536) (hb : bytes ≤ 8) (w : World) :
    (Instr.makeSlice T (.int .i64 ((n : Int) + 1)) (.int .i64 ((n : Int) + 1))).run Try.prog w = .ok (.slice (some ⟨w.heap.size, 0, none⟩) (n + 1) (n + 1)) (w.alloc (.cells (madeCells #[z] (n + 1)) E)) := by
  obtain ⟨i, hi, h0, h1, h2⟩ := info_parts hinfo
  have hm : bytes * (n + 1) ≤ 8 * 65537 := Nat.mul_le_mul hb (by omega)
  have := run_make (P := Try.prog) w T E i z ht hi h0 .i64 .i64 ((n : Int) + 1) ((n : Int) + 1) (by omega) (by omega) (by rw [h2]; have h : ((bytes * (n + 1) : Nat) : Int) ≤ 281474976710656 := (by omega); rwa [Int.natCast_mul, Int.natCast_add, Int.natCast_one] at h) (by omega)
  rw [this, hz, h1]
  have e : ((n : Int) + 1).toNat = n + 1 := by omega
  rw [e]
  simp

theorem made_one (z : Value) (n : Nat) : (madeCells #[z] n).toList = List.replicate n z := by
  unfold madeCells
  apply List.ext_getElem
  · simp
  · intro j h1 h2
    simp [Nat.mod_one]

/-- the state as the loop begins -/
theorem BS.start (w : World) (n np : Nat) (t : Toks) (hn : n ≤ 65536) : BS w n np t 0 [] (fun _ => false) (((w.alloc (.cells (madeCells #[.pointer none] n) 42)).alloc (.cells (madeCells #[.int .i64 0] n) 3)).alloc (.cells (madeCells #[.bool false] (n + 1)) 4)) := by
  have hm : n ≤ maxLen := by unfold maxLen; omega
  have hm1 : n + 1 ≤ maxLen := by unfold maxLen; omega
  refine ⟨by simp, ?_, ?_, ?_, rfl, fun p _ => ?_, fun p hp => by omega, (((Below.refl _ _).alloc (Nat.le_refl _) _).alloc (by simp) _).alloc (by rw [World.size_alloc, World.size_alloc]; omega) _, by simp⟩
  · exact ((World.ownsRow_made (base := w.heap.size) (e := 42) (size := 1) w (madeCells #[.pointer none] n) n (Nat.le_refl _) hm (by rw [size_madeCells]; omega)).alloc _).alloc _
  · have := (World.ownsRow_made (base := w.heap.size) (e := 3) (size := 1) (w.alloc (.cells (madeCells #[.pointer none] n) 42)) (madeCells #[.int .i64 0] n) n (by rw [World.size_alloc]; omega) hm (by rw [size_madeCells]; omega)).alloc (.cells (madeCells #[.bool false] (n + 1)) 4)
    simpa using this
  · have := World.ownsRow_lit (base := w.heap.size) (e := 4) (size := 1) ((w.alloc (.cells (madeCells #[.pointer none] n) 42)).alloc (.cells (madeCells #[.int .i64 0] n) 3)) (madeCells #[.bool false] (n + 1)) (n + 1) (by rw [World.size_alloc, World.size_alloc]; omega) hm1 (by rw [size_madeCells]; omega)
    rw [made_one] at this
    have e : (List.range (n + 1)).map (fun _ => Value.bool false) = List.replicate (n + 1) (Value.bool false) := by rw [List.map_const', List.length_range]
    rw [e]
    simpa using this
  · induction p with
    | zero => rfl
    | succ p ih => rw [par]; simp [ih]

theorem BS.leafTr {w wr : World} {n np i : Nat} {t : Toks} {st : List (Option Addr × Nat)} {f : Nat → Bool} (h : BS w n np t i st f wr) (ho : t.op i = 114) :
    Tr (wr.alloc (nodeObj 114 (t.pl i) (t.ob i) (t.nm i) none none)) (w.heap.size + 3) (wr.heap.size + 1) 1 (some ⟨wr.heap.size, 0, none⟩) (oneT t f i) (oneA t i) := by
  have hsz := h.size
  refine ⟨wr.heap.size, 114, t.pl i, t.ob i, t.nm i, none, none, rfl, hsz, by omega, heap_alloc_new wr _, ?_⟩
  have hp := h.even i (Nat.le_refl _)
  cases htm : tmB (t.ob i) (t.nm i)
  · have e : isLeaf t i = false := by simp [isLeaf, leafB, htm]
    exact .inr (.inl ⟨rfl, rfl, by simp [oneT, e], by simp [oneA, e, ho]⟩)
  · have e : isLeaf t i = true := by simp [isLeaf, leafB, htm, ho]
    exact .inl ⟨rfl, rfl, by simp [oneT, e, hp], by simp [oneA, e]⟩

theorem BS.numTr {w wr : World} {n np i : Nat} {t : Toks} {st : List (Option Addr × Nat)} {f : Nat → Bool} (h : BS w n np t i st f wr) (ho : t.op i = 110) :
    Tr (wr.alloc (nodeObj 110 0 0 ⟨#[]⟩ none none)) (w.heap.size + 3) (wr.heap.size + 1) 1 (some ⟨wr.heap.size, 0, none⟩) (oneT t f i) (oneA t i) := by
  have hsz := h.size
  have hne : t.op i ≠ 114 := by rw [ho]; decide
  refine ⟨wr.heap.size, 110, 0, 0, ⟨#[]⟩, none, none, rfl, hsz, by omega, heap_alloc_new wr _, .inr (.inr (.inl ⟨rfl, (noLeaf hne f).1, (noLeaf hne f).2⟩))⟩

theorem one_new (w : World) (v : Value) (T : TypeId) : ∀ (j : Nat) (u : Value), [v][j]? = some u → (w.alloc (.cells #[v] T)).cell? ((⟨w.heap.size, 0, none⟩ : Addr).add j) = some u :=
  World.news_of_block (heap_alloc_new w _)

theorem one_new2 (w : World) (o : Obj) (v : Value) (T : TypeId) : ∀ (j : Nat) (u : Value), [v][j]? = some u → ((w.alloc o).alloc (.cells #[v] T)).cell? ((⟨w.heap.size + 1, 0, none⟩ : Addr).add j) = some u := by
  have h := one_new (w.alloc o) v T
  rw [World.size_alloc] at h
  exact h

/-- the topmost cells of the rows -/
theorem BS.top {w wr : World} {n np i s : Nat} {t : Toks} {p : Option Addr} {rest : List (Option Addr × Nat)} {f : Nat → Bool} (h : BS w n np t i ((p, s) :: rest) f wr) :
    wr.cell? ⟨w.heap.size, rest.length, none⟩ = some (.pointer p) ∧ wr.cell? ⟨w.heap.size + 1, rest.length, none⟩ = some (.int .i64 s) ∧ s < i := by
  refine ⟨?_, ?_, h.inv.1⟩
  · rw [h.stack.cellAt rest.length (by simp)]; simp
  · rw [h.starts.cellAt rest.length (by simp)]; simp

theorem BS.next {w wr : World} {n np i s e : Nat} {t : Toks} {px py : Option Addr} {rest : List (Option Addr × Nat)} {f : Nat → Bool} (h : BS w n np t i ((py, e) :: (px, s) :: rest) f wr) :
    wr.cell? ⟨w.heap.size, rest.length, none⟩ = some (.pointer px) := by
  rw [h.stack.cellAt rest.length (by simp; omega)]
  simp

/-- what buildSums leaves where it says yes -/
def BOK (w : World) (n np : Nat) (t : Toks) (x y : Option Addr) (W : World) : Prop :=
  ∃ (s lo D : Nat) (f g : Nat → Bool), s ≤ n ∧ Tr W lo W.heap.size D x (leafT t f 0 s) (leafA t 0 s) ∧ Tr W lo W.heap.size D y (leafT t f s n) (leafA t s n) ∧
    leafT t f 0 s ++ negT (leafT t f s n) = leafT t g 0 n ∧ Sl W.heap.size W (some ⟨w.heap.size + 2, 0, none⟩) (n + 1) (fun j => .bool (g j)) ∧
    (∀ p, p < n → t.op p = 114 → 0 ≤ t.pl p ∧ t.pl p < (np : Int)) ∧ Below w.heap.size w W

theorem BS.fin {w wr : World} {n np s1 s0 : Nat} {t : Toks} {px py : Option Addr} {f : Nat → Bool} (h : BS w n np t n [(py, s1), (px, s0)] f wr) (k : Nat) :
    BOK w n np t px py ((wr.setCell ⟨w.heap.size + 2, s1, none⟩ (.bool (!(f s1)))).drewN k) := by
  obtain ⟨h1, hTy, h2, hTx, h3⟩ := h.inv
  have h1 : s1 < n := h1
  have h2 : s0 < s1 := h2
  have h3 : s0 = 0 := h3
  subst h3
  have hsz := h.size
  have hsize : ((wr.setCell ⟨w.heap.size + 2, s1, none⟩ (.bool (!(f s1)))).drewN k).heap.size = wr.heap.size := by show (wr.setCell ⟨w.heap.size + 2, s1, none⟩ (.bool (!(f s1)))).heap.size = _; simp
  have kk : ∀ b, w.heap.size + 3 ≤ b → b < wr.heap.size → ((wr.setCell ⟨w.heap.size + 2, s1, none⟩ (.bool (!(f s1)))).drewN k).heap[b]? = wr.heap[b]? := fun b hb _ => heap_setCell_other wr ⟨w.heap.size + 2, s1, none⟩ b _ (by simp; omega)
  refine ⟨s1, w.heap.size + 3, n, f, tog f s1, by omega, Tr.keep kk (by omega) _ _ _ _ hTx, Tr.keep kk (by omega) _ _ _ _ hTy, ?_, ?_, h.range, below_drewN (h.below.setCell (by simp) _) _⟩
  · rw [← leafT_cat t (tog f s1) (by omega : 0 ≤ s1) n (by omega)]
    rw [leafT_congr t (f := f) (g := tog f s1) (s := 0) s1 (fun q _ hq => by rw [par_tog, if_neg (by omega)])]
    rw [leafT_neg t (f := f) (g := tog f s1) (s := s1) n (fun q hq _ => by rw [par_tog, if_pos hq])]
  · intro j hj
    refine ⟨w.heap.size + 2, 0, rfl, by omega, ?_⟩
    have hst := (h.flip.stored s1 (.bool (!(f s1)))).1
    rw [flips_set] at hst
    rw [Nat.zero_add]
    exact flip_cell hst j (by omega)

set_option maxHeartbeats 4000000 in
set_option maxRecDepth 100000 in
theorem build_any (w : World) (n np : Nat) (t : Toks) (ao apl aob anm : Option Addr) (co lpl cpl lob cob lnm cnm : Nat)
    (hops : Sl w.heap.size w ao n (fun i => .int .u8 (t.op i))) (hn : n ≤ 65536)
    (Hpl : ∀ (k : Nat) (w' : World), Below w.heap.size w w' → Calls Try.prog 27 #[.slice apl lpl cpl, .int .i64 k] w' fun e w'' => e = .returned (.int .i64 (t.pl k)) ∧ w' = w'')
    (Hob : ∀ (k : Nat) (w' : World), Below w.heap.size w w' → Calls Try.prog 36 #[.slice aob lob cob, .int .i64 k] w' fun e w'' => e = .returned (.int .u8 (t.ob k)) ∧ w' = w'')
    (Hnm : ∀ (k : Nat) (w' : World), Below w.heap.size w w' → Calls Try.prog 37 #[.slice anm lnm cnm, .int .i64 k] w' fun e w'' => e = .returned (.string (t.nm k)) ∧ w' = w'') :
    Calls Try.prog 25 #[.slice ao n co, .slice apl lpl cpl, .slice aob lob cob, .slice anm lnm cnm, .int .i64 np] w fun e w' =>
      (e = .returned (.tuple #[.pointer none, .pointer none, .slice none 0 0, .bool false]) ∧ Below w.heap.size w w') ∨
      (∃ x y, e = .returned (.tuple #[.pointer x, .pointer y, .slice (some ⟨w.heap.size + 2, 0, none⟩) (n + 1) (n + 1), .bool true]) ∧ BOK w n np t x y w') := by
  have m1 := make0 57 42 (.pointer none) 8 Try.underlying57 Try.info42 rfl n hn (by omega)
  have m2 := make0 39 3 (.int .i64 0) 8 Try.underlying39 Try.info3 rfl n hn (by omega)
  have m3 := make1 40 4 (.bool false) 1 Try.underlying40 Try.info4 rfl n hn (by omega)
  have hbs := BS.start w n np t hn
  have HBS : Hid (BS w n np t 0 [] (fun _ => false) (((w.alloc (.cells (madeCells #[.pointer none] n) 42)).alloc (.cells (madeCells #[.int .i64 0] n) 3)).alloc (.cells (madeCells #[.bool false] (n + 1)) 4))) := hbs
  clear hbs
  go_enter Try.func25, Try.ntmps25
  go_wp2_with fail
  rw [show w.heap.size + 1 + 1 = w.heap.size + 2 from rfl]
  go_loopw [12, 15, 16, 17] (fun vf vs vt vi wr => ∃ (i : Nat) (st : List (Option Addr × Nat)) (f : Nat → Bool), i ≤ n ∧ vf = .slice (some ⟨w.heap.size + 2, 0, none⟩) (n + 1) (n + 1) ∧ vi = .int .i64 i ∧ vs = .slice (some ⟨w.heap.size, 0, none⟩) st.length n ∧ vt = .slice (some ⟨w.heap.size + 1, 0, none⟩) st.length n ∧ BS w n np t i st f wr) (fun _ _ _ vi _ => n - (intOf vi).toNat)
  case atStart => exact ⟨0, [], fun _ => false, by omega, rfl, rfl, rfl, rfl, HBS.out⟩
  case round =>
    clear m1 m2 m3 HBS
    obtain ⟨i, st, f, hi, rfl, rfl, rfl, rfl, h⟩ := hrel
    by_cases hlt : i < n
    · obtain ⟨b, off, rfl, hbl, hc0⟩ := hops i hlt
      have hc : wr.cell? ⟨b, off + i, none⟩ = some (.int .u8 (t.op i)) := (h.below.cell (p := ⟨b, off + i, none⟩) hbl).trans hc0
      clear hc0
      have hlen := h.len
      have hsz := h.size
      by_cases o1 : t.op i = 114
      · rw [o1] at hc
        by_cases r1 : t.pl i < 0
        · go_wp2_with (go_at_call 27; refine (Hpl i _ h.below).mono ?_; rintro e w' ⟨rfl, rfl⟩)
          refine bodyPost_ret (v := .tuple #[.pointer none, .pointer none, .slice none 0 0, .bool false]) (by simp [results, Try.results25, go_sem]) rfl (.inl ⟨rfl, h.below⟩)
        · by_cases r2 : (np : Int) ≤ t.pl i
          · go_wp2_with (go_at_call 27; refine (Hpl i _ h.below).mono ?_; rintro e w' ⟨rfl, rfl⟩)
            refine bodyPost_ret (v := .tuple #[.pointer none, .pointer none, .slice none 0 0, .bool false]) (by simp [results, Try.results25, go_sem]) rfl (.inl ⟨rfl, h.below⟩)
          · obtain ⟨i42, hi42, hz42, hs42, hb42⟩ := info_parts Try.info42
            obtain ⟨i3, hi3, hz3, hs3, hb3⟩ := info_parts Try.info3
            go_wp2_with (first
              | (go_at_call 27; refine (Hpl i _ h.below).mono ?_; rintro e w' ⟨rfl, rfl⟩)
              | (go_at_call 36; refine (Hob i _ h.below).mono ?_; rintro e w' ⟨rfl, rfl⟩)
              | (go_at_call 37; refine (Hnm i _ h.below).mono ?_; rintro e w' ⟨rfl, rfl⟩)
              | (go_at_call 35; refine (leaf_any _ _ _ _).mono ?_; rintro e w' ⟨rfl, rfl⟩)
              | (at_builtin; refine wpList_append_fits _ rfl (.tmp 56) (.tmp 65) 57 rfl w.heap.size 42 i42 1 Try.underlying57 hi42 hs42 w.heap.size st.length n _ rfl ((h.stack.alloc _).alloc _) ⟨wr.heap.size + 1, 0, none⟩ 1 1 [.pointer (some ⟨wr.heap.size, 0, none⟩)] rfl rfl ?a1 ?a2 (by omega) ?_; rotate_right; intro w1 own1 grow1)
              | (at_builtin; refine wpList_append_fits _ rfl (.tmp 67) (.tmp 69) 39 rfl w.heap.size 3 i3 1 Try.underlying39 hi3 hs3 (w.heap.size + 1) st.length n _ rfl ((((h.starts.alloc _).alloc _).kept grow1 (.inr (by simp [Value.ownBlock]))).alloc _) ⟨w1.heap.size, 0, none⟩ 1 1 [.int .i64 i] rfl rfl ?a3 ?a4 (by omega) ?_; rotate_right; intro w2 own2 grow2))
            case a1 => exact one_new2 _ _ _ _
            case a2 => intro u hu; simp at hu; subst hu; rfl
            case a3 => exact one_new _ _ _
            case a4 => intro u hu; simp at hu; subst hu; rfl
            go_roundw
            case rel => exact ⟨i + 1, _ :: st, f, by omega, rfl, by go_num, rfl, rfl, BS.push h _ _ _ (h.leafTr o1) (fun _ => ⟨by omega, by omega⟩) own1 grow1 own2 grow2⟩
            case measure => simp [intOf]; omega
      · by_cases o2 : t.op i = 110
        · rw [o2] at hc
          obtain ⟨i42, hi42, hz42, hs42, hb42⟩ := info_parts Try.info42
          obtain ⟨i3, hi3, hz3, hs3, hb3⟩ := info_parts Try.info3
          go_wp2_with (first
            | (go_at_call 38; refine (number_any _).mono ?_; rintro e w' ⟨rfl, rfl⟩)
            | (at_builtin; refine wpList_append_fits _ rfl (.tmp 73) (.tmp 75) 57 rfl w.heap.size 42 i42 1 Try.underlying57 hi42 hs42 w.heap.size st.length n _ rfl ((h.stack.alloc _).alloc _) ⟨wr.heap.size + 1, 0, none⟩ 1 1 [.pointer (some ⟨wr.heap.size, 0, none⟩)] rfl rfl ?b1 ?b2 (by omega) ?_; rotate_right; intro w1 own1 grow1)
            | (at_builtin; refine wpList_append_fits _ rfl (.tmp 77) (.tmp 79) 39 rfl w.heap.size 3 i3 1 Try.underlying39 hi3 hs3 (w.heap.size + 1) st.length n _ rfl ((((h.starts.alloc _).alloc _).kept grow1 (.inr (by simp [Value.ownBlock]))).alloc _) ⟨w1.heap.size, 0, none⟩ 1 1 [.int .i64 i] rfl rfl ?b3 ?b4 (by omega) ?_; rotate_right; intro w2 own2 grow2))
          case b1 => exact one_new2 _ _ _ _
          case b2 => intro u hu; simp at hu; subst hu; rfl
          case b3 => exact one_new _ _ _
          case b4 => intro u hu; simp at hu; subst hu; rfl
          go_roundw
          case rel => exact ⟨i + 1, _ :: st, f, by omega, rfl, by go_num, rfl, rfl, BS.push h _ _ _ (h.numTr o2) (fun e => absurd e (by rw [o2]; decide)) own1 grow1 own2 grow2⟩
          case measure => simp [intOf]; omega
        · by_cases o3 : t.op i = 126
          · rw [o3] at hc
            cases st with
            | nil =>
              go_wp2_with fail
              refine bodyPost_ret (v := .tuple #[.pointer none, .pointer none, .slice none 0 0, .bool false]) (by simp [results, Try.results25, go_sem]) rfl (.inl ⟨rfl, h.below⟩)
            | cons x rest =>
              obtain ⟨p, s⟩ := x
              obtain ⟨k1, k2, k3⟩ := h.top
              have f1 := flip_cell h.flip s (by omega)
              have f2 := flip_cell h.flip i (by omega)
              have z1 : ∀ j, wr.frozen? ⟨w.heap.size, j, none⟩ = false := fun j => h.stack.frozenAt j
              have z2 : ∀ j, wr.frozen? ⟨w.heap.size + 2, j, none⟩ = false := fun j => h.flip.frozenAt j
              simp only [List.length_cons] at hlen ⊢
              have y1 : w.heap.size < wr.heap.size := by omega
              have y2 : w.heap.size + 2 < wr.heap.size := by omega
              go_wp2_with (go_at_call 39; refine (node_any _ _ _ _).mono ?_; rintro e w' ⟨rfl, rfl⟩)
              go_roundw
              case rel => exact ⟨i + 1, _ :: rest, _, by omega, rfl, by go_num, rfl, rfl, h.minus o3⟩
              case measure => simp [intOf]; omega
          · have q1 : (t.op i == 114) = false := by simp [o1]
            have q2 : (t.op i == 110) = false := by simp [o2]
            have q3 : (t.op i == 126) = false := by simp [o3]
            match st, h, hlen with
            | [], h, hlen =>
              simp only [List.length_nil]
              clear o1 o2 o3
              go_wp2_with fail
              refine bodyPost_ret (v := .tuple #[.pointer none, .pointer none, .slice none 0 0, .bool false]) (by simp [results, Try.results25, go_sem]) rfl (.inl ⟨rfl, h.below⟩)
            | [x], h, hlen =>
              simp only [List.length_cons, List.length_nil]
              clear o1 o2 o3
              go_wp2_with fail
              refine bodyPost_ret (v := .tuple #[.pointer none, .pointer none, .slice none 0 0, .bool false]) (by simp [results, Try.results25, go_sem]) rfl (.inl ⟨rfl, h.below⟩)
            | (py, e) :: (px, s) :: rest, h, hlen =>
              obtain ⟨k1, k2, k3⟩ := h.top
              have k4 := h.next
              simp only [List.length_cons] at hlen k1 k2 ⊢
              have f1 := flip_cell h.flip e (by omega)
              have f2 := flip_cell h.flip i (by omega)
              have z1 : ∀ j, wr.frozen? ⟨w.heap.size, j, none⟩ = false := fun j => h.stack.frozenAt j
              have z2 : ∀ j, wr.frozen? ⟨w.heap.size + 2, j, none⟩ = false := fun j => h.flip.frozenAt j
              have y1 : w.heap.size < wr.heap.size := by omega
              have y2 : w.heap.size + 2 < wr.heap.size := by omega
              have wa : IntKind.i64.wrap ((rest.length : Int) + 1 - 1) = (rest.length : Int) := by simp [IntKind.wrap, IntKind.bits, IntKind.signed]; omega
              have wb : IntKind.i64.wrap (rest.length : Int) = (rest.length : Int) := by simp [IntKind.wrap, IntKind.bits, IntKind.signed]; omega
              have ia : (rest.length : Int) < (rest.length : Int) + 1 + 1 := by omega
              have ib : (rest.length : Int) + 1 < (rest.length : Int) + 1 + 1 := by omega
              have ic : (0 : Int) ≤ (rest.length : Int) := by omega
              have id : (0 : Int) ≤ (rest.length : Int) + 1 := by omega
              by_cases o4 : t.op i = 45
              · rw [o4] at hc
                clear q1 q2 q3 o1 o2 o3
                have O4 : Hid (t.op i = 45) := o4
                clear o4
                go_wp2_with fail
                go_region_held3 (fun w' => w'.cell? ⟨w.heap.size, rest.length, none⟩ = some (.pointer px) ∧ w'.cell? ⟨w.heap.size, rest.length + 1, none⟩ = some (.pointer py)) (go_keep)
                  (first | (go_at_call 39; refine (node_any _ _ _ _).mono ?_; rintro e w' ⟨rfl, rfl⟩))
                all_goals go_wp2_with fail
                go_roundw
                case rel => exact ⟨i + 1, _ :: rest, _, by omega, rfl, by go_num, rfl, rfl, (h.sub O4.out).drew⟩
                case measure => simp [intOf]; omega
              · have q4 : (t.op i == 45) = false := by simp [o4]
                have O : Hid (t.op i ≠ 114 ∧ t.op i ≠ 110 ∧ t.op i ≠ 126 ∧ t.op i ≠ 45) := ⟨o1, o2, o3, o4⟩
                clear o1 o2 o3 o4
                go_wp2_with fail
                go_region_held3 (fun w' => w'.cell? ⟨w.heap.size, rest.length, none⟩ = some (.pointer px) ∧ w'.cell? ⟨w.heap.size, rest.length + 1, none⟩ = some (.pointer py)) (go_keep)
                  (first | (go_at_call 39; refine (node_any _ _ _ _).mono ?_; rintro e w' ⟨rfl, rfl⟩))
                all_goals go_wp2_with fail
                go_roundw
                case rel => exact ⟨i + 1, _ :: rest, _, by omega, rfl, by go_num, rfl, rfl, (h.add O.out.1 O.out.2.1 O.out.2.2.1 O.out.2.2.2).drew⟩
                case measure => simp [intOf]; omega
    · have hin : i = n := by omega
      subst hin
      have hlen := h.len
      have hsz := h.size
      match st, h, hlen with
      | [], h, hlen =>
        simp only [List.length_nil]
        go_wp2_with fail
        refine bodyPost_ret (v := .tuple #[.pointer none, .pointer none, .slice none 0 0, .bool false]) (by simp [results, Try.results25, go_sem]) rfl (.inl ⟨rfl, h.below⟩)
      | [x], h, hlen =>
        simp only [List.length_cons, List.length_nil]
        go_wp2_with fail
        refine bodyPost_ret (v := .tuple #[.pointer none, .pointer none, .slice none 0 0, .bool false]) (by simp [results, Try.results25, go_sem]) rfl (.inl ⟨rfl, h.below⟩)
      | a :: b :: c :: rest, h, hlen =>
        simp only [List.length_cons]
        have hne : ((((rest.length + 1 + 1 + 1 : Nat) : Int)) != 2) = true := by rw [bne_iff_ne]; omega
        go_wp2_with fail
        refine bodyPost_ret (v := .tuple #[.pointer none, .pointer none, .slice none 0 0, .bool false]) (by simp [results, Try.results25, go_sem]) rfl (.inl ⟨rfl, h.below⟩)
      | [(py, s1), (px, s0)], h, hlen =>
        obtain ⟨k1, k2, k3⟩ := h.top
        have k4 := h.next
        simp only [List.length_cons, List.length_nil, Nat.zero_add, Nat.reduceAdd] at hlen k1 k2 k4 ⊢
        have f1 := flip_cell h.flip s1 (by omega)
        have z2 : ∀ j, wr.frozen? ⟨w.heap.size + 2, j, none⟩ = false := fun j => h.flip.frozenAt j
        go_wp2_with fail
        go_quiet (fail)
        go_wp2
        refine bodyPost_ret (v := .tuple #[.pointer px, .pointer py, .slice (some ⟨w.heap.size + 2, 0, none⟩) (i + 1) (i + 1), .bool true]) (by simp [results, Try.results25, go_sem]) rfl (.inr ⟨px, py, rfl, h.fin _⟩)

end Go.Proofs.Qxb6600637a
