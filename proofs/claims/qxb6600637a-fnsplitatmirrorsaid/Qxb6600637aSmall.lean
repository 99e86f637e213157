import Derived.Test.Qxb6600637aAttrs
namespace Go.Proofs.Qxb6600637a
open Go.ChangeShapes Go.WideShapes Go.ChangeAt Go.RowKit

def belB (s : ByteArray) : Bool := s.toList == [60] || s.toList == [60, 61]
def favB (s : ByteArray) (sg : Int) : Bool := if belB s then decide (0 < sg) else decide (sg < 0)
def mirS (s : ByteArray) : ByteArray :=
  if s.toList == [60] then ⟨#[62]⟩ else if s.toList == [60, 61] then ⟨#[62, 61]⟩ else if s.toList == [62] then ⟨#[60]⟩ else ⟨#[60, 61]⟩

set_option maxHeartbeats 400000 in
theorem fav_any (w : World) (s : ByteArray) (sg : Int) :
    Calls Try.prog 43 #[.string s, .int .i64 sg] w fun e w' => e = .returned (.bool (favB s sg)) ∧ w' = w := by
  cases h1 : (s.toList == [60])
  · cases h2 : (s.toList == [60, 61])
    · have e : Hid (favB s sg = decide (sg < 0)) := by show favB s sg = _; simp only [favB, belB, h1, h2]; simp
      go_enter Try.func43, Try.ntmps43
      go_wp2
      go_ret
      exact ⟨by rw [e.out]; rfl, rfl⟩
    · have e : Hid (favB s sg = decide (0 < sg)) := by show favB s sg = _; simp only [favB, belB, h1, h2]; simp
      go_enter Try.func43, Try.ntmps43
      go_wp2
      go_ret
      exact ⟨by rw [e.out]; rfl, rfl⟩
  · have e : Hid (favB s sg = decide (0 < sg)) := by show favB s sg = _; simp only [favB, belB, h1]; simp
    go_enter Try.func43, Try.ntmps43
    go_wp2
    go_ret
    exact ⟨by rw [e.out]; rfl, rfl⟩

set_option maxHeartbeats 400000 in
theorem bel_any (w : World) (s : ByteArray) :
    Calls Try.prog 29 #[.string s] w fun e w' => e = .returned (.bool (belB s)) ∧ w' = w := by
  cases h1 : (s.toList == [60])
  · have e : Hid (belB s = (s.toList == [60, 61])) := by show belB s = _; simp only [belB, h1]; simp
    go_enter Try.func29, Try.ntmps29
    go_wp2
    go_ret
    exact ⟨by rw [e.out]; rfl, rfl⟩
  · have e : Hid (belB s = true) := by show belB s = _; simp only [belB, h1]; simp
    go_enter Try.func29, Try.ntmps29
    go_wp2
    go_ret
    exact ⟨by rw [e.out]; rfl, rfl⟩

set_option maxHeartbeats 400000 in
theorem mir_any (w : World) (s : ByteArray) :
    Calls Try.prog 32 #[.string s] w fun e w' => e = .returned (.string (mirS s)) ∧ w' = w := by
  cases h1 : (s.toList == [60])
  · cases h2 : (s.toList == [60, 61])
    · cases h3 : (s.toList == [62])
      · have e : Hid (mirS s = ⟨#[60, 61]⟩) := by show mirS s = _; simp only [mirS, h1, h2, h3]; simp
        go_enter Try.func32, Try.ntmps32
        go_wp2
        go_ret
        exact ⟨by rw [e.out]; rfl, rfl⟩
      · have e : Hid (mirS s = ⟨#[60]⟩) := by show mirS s = _; simp only [mirS, h1, h2, h3]; simp
        go_enter Try.func32, Try.ntmps32
        go_wp2
        go_ret
        exact ⟨by rw [e.out]; rfl, rfl⟩
    · have e : Hid (mirS s = ⟨#[62, 61]⟩) := by show mirS s = _; simp only [mirS, h1, h2]; simp
      go_enter Try.func32, Try.ntmps32
      go_wp2
      go_ret
      exact ⟨by rw [e.out]; rfl, rfl⟩
  · have e : Hid (mirS s = ⟨#[62]⟩) := by show mirS s = _; simp only [mirS, h1]; simp
    go_enter Try.func32, Try.ntmps32
    go_wp2
    go_ret
    exact ⟨by rw [e.out]; rfl, rfl⟩

/-- is token k a time leaf? -/
def leafB (op ob : Int) (nm : ByteArray) : Bool := (op == 114) && tmB ob nm

set_option maxHeartbeats 400000 in
theorem isTimeLeaf_any (B : Nat) (w : World) (ao ab an : Option Addr) (lo lb ls co cb cs : Nat) (fo fb : Nat → Int) (fs : Nat → ByteArray)
    (ho : Sl B w ao lo (fun i => .int .u8 (fo i))) (hb : Sl B w ab lb (fun i => .int .u8 (fb i))) (hs : Sl B w an ls (fun i => .string (fs i))) (k : Nat) (hk : k < lo) :
    Calls Try.prog 28 #[.slice ao lo co, .slice ab lb cb, .slice an ls cs, .int .i64 k] w fun e w' => e = .returned (.bool (leafB (fo k) (atI lb fb k) (atS ls fs k))) ∧ w' = w := by
  obtain ⟨b, off, rfl, -, hc0⟩ := ho k hk
  clear ho
  have hc : w.cell? ⟨b, off + k, none⟩ = some (.int .u8 (fo k)) := hc0
  clear hc0
  generalize hop : fo k = op at *
  generalize hob : atI lb fb k = ob at *
  generalize hnm : atS ls fs k = nm at *
  have H1 := tokObj_any B w ab lb cb fb hb k
  have H2 := tokName_any B w an ls cs fs hs k
  rw [hob] at H1
  rw [hnm] at H2
  clear hop hob hnm hb hs
  cases h1 : (op == 114)
  · have e : Hid (leafB op ob nm = false) := by show leafB op ob nm = _; simp [leafB, h1]
    go_enter Try.func28, Try.ntmps28
    go_wp2_with (first | (go_at_call 36; refine H1.mono ?_; rintro e w' ⟨rfl, rfl⟩) | (go_at_call 37; refine H2.mono ?_; rintro e w' ⟨rfl, rfl⟩))
    go_ret
    exact ⟨by rw [e.out]; rfl, rfl⟩
  · cases h2 : (ob == 0)
    · have e : Hid (leafB op ob nm = false) := by show leafB op ob nm = _; simp [leafB, tmB, h2]
      go_enter Try.func28, Try.ntmps28
      go_wp2_with (first | (go_at_call 36; refine H1.mono ?_; rintro e w' ⟨rfl, rfl⟩) | (go_at_call 37; refine H2.mono ?_; rintro e w' ⟨rfl, rfl⟩))
      go_ret
      exact ⟨by rw [e.out]; rfl, rfl⟩
    · have e : Hid (leafB op ob nm = (nm.toList == [116, 105, 109, 101])) := by show leafB op ob nm = _; simp [leafB, tmB, h1, h2]
      go_enter Try.func28, Try.ntmps28
      go_wp2_with (first | (go_at_call 36; refine H1.mono ?_; rintro e w' ⟨rfl, rfl⟩) | (go_at_call 37; refine H2.mono ?_; rintro e w' ⟨rfl, rfl⟩))
      go_ret
      exact ⟨by rw [e.out]; rfl, rfl⟩

set_option maxHeartbeats 400000 in
theorem leaf_any (w : World) (pl ob : Int) (s : ByteArray) :
    Calls Try.prog 35 #[.int .i64 pl, .int .u8 ob, .string s] w fun e w' => e = .returned (.pointer (some ⟨w.heap.size, 0, none⟩)) ∧ w' = w.alloc (nodeObj 114 pl ob s none none) := by
  go_enter Try.func35, Try.ntmps35
  go_wp2
  go_ret
  exact ⟨rfl, rfl⟩

set_option maxHeartbeats 400000 in
theorem number_any (w : World) :
    Calls Try.prog 38 #[.float .f64 0] w fun e w' => e = .returned (.pointer (some ⟨w.heap.size, 0, none⟩)) ∧ w' = w.alloc (nodeObj 110 0 0 ⟨#[]⟩ none none) := by
  go_enter Try.func38, Try.ntmps38
  go_wp2
  go_ret
  exact ⟨rfl, rfl⟩

set_option maxHeartbeats 400000 in
theorem node_any (w : World) (op : Int) (x y : Option Addr) :
    Calls Try.prog 39 #[.int .u8 op, .pointer x, .pointer y] w fun e w' => e = .returned (.pointer (some ⟨w.heap.size, 0, none⟩)) ∧ w' = w.alloc (nodeObj op 0 0 ⟨#[]⟩ x y) := by
  go_enter Try.func39, Try.ntmps39
  go_wp2
  go_ret
  exact ⟨rfl, rfl⟩

end Go.Proofs.Qxb6600637a
