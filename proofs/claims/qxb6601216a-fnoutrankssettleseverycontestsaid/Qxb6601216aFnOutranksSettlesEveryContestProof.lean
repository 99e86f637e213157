/-
  A PROOF OF 'Rows.FnOutranksSettlesEveryContestSaid': the walk is Qxb6601216aLaw's 'walk'; here the plain law (no Go in sight) and the row's frame.
-/
import Derived.Test.Qxb6601216aRows
import Derived.Test.Qxb6601216aLaw
import Derived.WalkKit
import Derived.ProofKit
import Derived.OpenShut
import Derived.ShutString
import Derived.ChangeOld
import Derived.Below
import Derived.Lib.SmallJoins
namespace Go.Proofs.Qxb6601216a.fnOutranksSettlesEveryContest
open Go.ChangeShapes Go.WideShapes Go.ChangeAt Go.RowKit
set_option linter.unusedVariables false

/-! ### THE PLAIN LAW -/
theorem less_total : ∀ (x y : List UInt8), x ≠ y → Op.bytesLess x y = !Op.bytesLess y x
  | [], [], h => absurd rfl h
  | _ :: _, [], _ => by simp [Op.bytesLess]
  | [], _ :: _, _ => by simp [Op.bytesLess]
  | a :: x, b :: y, h => by
    rw [Op.bytesLess, Op.bytesLess]
    by_cases hab : a = b
    · subst hab
      have := less_total x y (fun e => h (by rw [e]))
      simp [this]
    · have hne : ¬ b = a := fun e => hab e.symm
      rcases Nat.lt_trichotomy a.toNat b.toNat with g | g | g
      · have g1 : a < b := g
        have g2 : ¬ b < a := fun k => Nat.lt_asymm g k
        simp [hne, g1, g2]
      · exact absurd (UInt8.toNat_inj.1 g) hab
      · have g1 : b < a := g
        have g2 : ¬ a < b := fun k => Nat.lt_asymm g k
        simp [hab, g1, g2]

theorem same_symm (h s h' s' : ByteArray) : sameB h' s' h s = sameB h s h' s' := by
  unfold sameB
  rw [Bool.beq_comm (a := h'.toList), Bool.beq_comm (a := s'.toList)]

theorem law1 (n h s r n' h' s' r' : ByteArray) (t t' : Int) (a a' : Bool) (hs : sameB h s h' s' = false) : outB n h s r n' h' s' t t' a a' = false ∧ outB n' h' s' r' n h s t' t a' a = false := by
  unfold outB
  rw [same_symm h s h' s', hs]
  simp

theorem law2 (n h s r n' h' s' r' : ByteArray) (t t' : Int) (a a' : Bool) (hc : conB n h s r n' h' s' r' t t' a a' = true) : (outB n h s r n' h' s' t t' a a' != outB n' h' s' r' n h s t' t a' a) = true := by
  unfold conB at hc
  unfold outB
  rw [same_symm h s h' s']
  cases hs : sameB h s h' s'
  · rw [hs] at hc; simp at hc
  · rw [hs] at hc
    simp only [if_true] at hc ⊢
    by_cases hn : n.toList = n'.toList
    · have e1 : (n.toList == n'.toList) = true := by simp [hn]
      have e2 : (n'.toList == n.toList) = true := by simp [hn]
      rw [if_pos e1] at hc
      rw [if_pos e1, if_pos e2]
      have : t ≠ t' := by simpa using hc
      by_cases g : t' < t
      · have g' : ¬ t < t' := by omega
        simp [g, g']
      · have g' : t < t' := by omega
        simp [g, g']
    · have e1 : ¬ (n.toList == n'.toList) = true := by simp [hn]
      have e2 : ¬ (n'.toList == n.toList) = true := by simpa using fun e : n'.toList = n.toList => hn e.symm
      rw [if_neg e1] at hc
      rw [if_neg e1, if_neg e2]
      have hl := less_total n.toList n'.toList hn
      have hf : ∀ b : Bool, (decide (t' < t) || (decide (t = t') && !b)) = !(decide (t < t') || (decide (t' = t) && b)) := by
        intro b
        rcases (show t < t' ∨ t = t' ∨ t' < t by omega) with g | g | g
        · have g1 : ¬ t' < t := by omega
          have g2 : ¬ t = t' := by omega
          simp [g, g1, g2]
        · subst g; simp
        · have g1 : ¬ t < t' := by omega
          have g2 : ¬ t' = t := by omega
          simp [g, g1, g2]
      rw [hl, hf]
      generalize (decide (t < t') || (decide (t' = t) && Op.bytesLess n'.toList n.toList)) = q
      cases a <;> cases a'
      · simp at hc; simp [hc]
      · simp
      · simp
      · simp at hc; simp [hc]

/-! ### A STRUCT OF SIX ONE-CELL FIELDS, BY VALUE, OPENED -/
theorem array6 {α : Type} {cs : Array α} (h : cs.size = 6) : ∃ c0 c1 c2 c3 c4 c5, cs = #[c0, c1, c2, c3, c4, c5] := by
  obtain ⟨l⟩ := cs
  match l, h with
  | [c0, c1, c2, c3, c4, c5], _ => exact ⟨c0, c1, c2, c3, c4, c5, rfl⟩

theorem cells23 : Try.prog.cellsOf 23 = 6 := by kernel_rfl
theorem cells9 : Try.prog.cellsOf 9 = 1 := by kernel_rfl
theorem cells2 : Try.prog.cellsOf 2 = 1 := by kernel_rfl
theorem cells4 : Try.prog.cellsOf 4 = 1 := by kernel_rfl

theorem open_claim {H : Type} {enc : TypeId × Value → H} {w : World} {base : Nat} {spare : Nat → Bool} {held : Bool} {r : Reach} {b0 : Nat} {v : Value} {d : DataW H} {p : List MemPlace}
    (hv : Value.okWide Try.prog w r b0 23 v) (h : DataW.Trod enc Try.prog w base spare held 23 v d p) :
    ∃ (n h s r : ByteArray) (t : Int) (a : Bool), v = .agg #[.string n, .string h, .string s, .string r, .int .i64 t, .bool a] := by
  obtain ⟨cs, rfl, hsz⟩ := okWide_struct Try.underlying23 hv
  obtain ⟨c0, c1, c2, c3, c4, c5, rfl⟩ := array6 (hsz.trans cells23)
  obtain ⟨fuel, hf⟩ := h
  obtain ⟨xs, n, _, hx, hl, hlen, hf⟩ := DataW.trod_struct Try.underlying23 hf
  have k (i : Nat) (hi : i < xs.length) : xs[i]? = some xs[i] := List.getElem?_eq_getElem hi
  have hl6 : xs.length = 6 := hlen
  have f0 := hf 0 _ rfl
  have f1 := hf 1 _ rfl
  have f2 := hf 2 _ rfl
  have f3 := hf 3 _ rfl
  have f4 := hf 4 _ rfl
  have f5 := hf 5 _ rfl
  rw [k 0 (by omega)] at f0
  rw [k 1 (by omega)] at f1
  rw [k 2 (by omega)] at f2
  rw [k 3 (by omega)] at f3
  rw [k 4 (by omega)] at f4
  rw [k 5 (by omega)] at f5
  obtain ⟨a0, e0, _⟩ := DataW.trod_string Try.underlying9 f0
  obtain ⟨a1, e1, _⟩ := DataW.trod_string Try.underlying9 f1
  obtain ⟨a2, e2, _⟩ := DataW.trod_string Try.underlying9 f2
  obtain ⟨a3, e3, _⟩ := DataW.trod_string Try.underlying9 f3
  obtain ⟨a4, e4, _⟩ := DataW.trod_int Try.underlying2 f4
  obtain ⟨a5, e5, _⟩ := DataW.trod_bool Try.underlying4 f5
  simp [Value.cells, cells9, cells2, cells4] at e0 e1 e2 e3 e4 e5
  subst e0 e1 e2 e3 e4 e5
  exact ⟨_, _, _, _, _, _, rfl⟩

theorem own : ownKnob Try.prog.godebug = none := by kernel_rfl
theorem laidOut : laidOutB Try.prog = true := by kernel_rfl

/-! ### THE ROW's STEP -/
set_option maxRecDepth 100000 in
theorem lifted (os : Os) (started : os.Started) (H : Type) (enc : TypeId × Value → H) :
    ReturnsInHanded {} Try.checked os 5 .any (Rows.fnOutranksSettlesEveryContestSpec.pre6 enc Try.prog Try.f5 Rows.fnOutranksSettlesEveryContestRow.domain false) (Rows.fnOutranksSettlesEveryContestSpec.post enc Try.prog Try.f5 false true false false) := by
  refine returnsInHanded_of_change (C := Try.checked) own started (by kernel_rfl) Try.func5
    (ChangeSpec.witness6 (enc := enc) (C := Try.checked) false ⟨#[], #[.agg #[.string ByteArray.empty, .string ByteArray.empty, .string ByteArray.empty, .string ByteArray.empty, .int .i64 0, .bool false], .agg #[.string ByteArray.empty, .string ByteArray.empty, .string ByteArray.empty, .string ByteArray.empty, .int .i64 0, .bool false]], []⟩ 8 (by kernel_rfl) (by kernel_rfl) (by kernel_rfl) (by kernel_rfl)) ?_
  intro W base args ds gs before hval0 hW hcnd _
  have hval : ∀ (j : Nat) t v, Try.f5.params[j]? = some t → args[j]? = some v → Value.okWide Try.prog W .any base t v := hval0
  have hW' := hW
  obtain ⟨p, q, hA0, hV, rfl, hfz, hnd⟩ := hW
  have hA : DataW.TrodAll enc Try.prog W 0 (fun _ => true) true Try.f5.params.toList args.toList ds p := hA0
  rw [Try.params5] at hA hval
  obtain ⟨v0, vs0, d0, ds0, p0, q0, hargs0, rfl, rfl, h0, r0⟩ := trodAll_cons hA
  obtain ⟨v1, vs1, d1, ds1, p1, q1, rfl, rfl, rfl, h1, r1⟩ := trodAll_cons r0
  obtain ⟨rfl, rfl, rfl⟩ := trodAll_nil r1
  obtain rfl : args = #[v0, v1] := by cases args; simp_all
  obtain ⟨rfl, rfl⟩ := trodVars_none hV
  have lt0 : ∀ x ∈ p0, x.block < W.heap.size := by obtain ⟨m, hm⟩ := h0; exact DataW.trod_lt m _ _ _ hm
  have lt1 : ∀ x ∈ p1, x.block < W.heap.size := by obtain ⟨m, hm⟩ := h1; exact DataW.trod_lt m _ _ _ hm
  obtain ⟨n, h, s, r, t, a, rfl⟩ := open_claim (hval 0 23 v0 rfl rfl) h0
  obtain ⟨n', h', s', r', t', a', rfl⟩ := open_claim (hval 1 23 v1 rfl rfl) h1
  clear hA0 hval0
  refine (walk W n h s r n' h' s' r' t t' a a' _ _ _ _ rfl rfl rfl rfl (law1 n h s r n' h' s' r' t t' a a') (law2 n h s r n' h' s' r' t t' a a')).mono fun e W' ⟨he, bel⟩ => ?_
  subst he
  exact ⟨_, rfl, _, _, _, [], _, [], hW', trodAll_mk1 (shut_bool Try.underlying4 _), (trodAll_cons_mk (Below.trod laidOut (by kernel_rfl) (of_decide_eq_true (by kernel_rfl)) h0 bel lt0) (trodAll_cons_mk (Below.trod laidOut (by kernel_rfl) (of_decide_eq_true (by kernel_rfl)) h1 bel lt1) trodAll_mk0)), rfl, bel.frame _, fun h => by cases h⟩

theorem over : Rows.fnOutranksSettlesEveryContestRow.holds Try.pinned (OpenSpec.ofChange Rows.fnOutranksSettlesEveryContestSpec) :=
  OpenClaim.holds_of_wide 5 Try.f5 rfl rfl rfl rfl rfl rfl rfl ⟨rfl, rfl, rfl, rfl, rfl⟩ rfl rfl rfl rfl rfl (by kernel_rfl) Try.func5 (by kernel_rfl)
    (of_decide_eq_true (by kernel_rfl)) (by unfold Func.isWrapper; first | (rw [if_pos (by decide +kernel)]; kernel_rfl) | (rw [if_neg (by decide +kernel)]; exact ⟨rfl, rfl⟩))
    (fun os started H enc _ => lifted os started H enc)

/-- ████ THE STATEMENT ████ -/
theorem proved : Rows.FnOutranksSettlesEveryContestSaid := over
end Go.Proofs.Qxb6601216a.fnOutranksSettlesEveryContest
