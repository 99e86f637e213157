import Derived.Test.Qxb6600637aToks
import Derived.Test.Qxb6600637aPlain
namespace Go.Proofs.Qxb6600637a

/-- the parity of the marks before i -/
def pre (g : Nat → Bool) : Nat → Bool
  | 0 => false
  | k + 1 => par g k

theorem par_pre (g : Nat → Bool) (i : Nat) : par g i = Bool.xor (pre g i) (g i) := by
  cases i with
  | zero => simp [par, pre]
  | succ k => rfl

def sgOf (g : Nat → Bool) (i : Nat) : Int := if par g i then -1 else 1
def knL (pk : Int → Bool) (t : Toks) (g : Nat → Bool) (i : Nat) : Bool := knA pk (knT pk (leafT t g 0 i)) (leafA t 0 i)

theorem st_none {t : Toks} {i : Nat} (h : t.op i ≠ 114) (g : Nat → Bool) : leafT t g 0 (i + 1) = leafT t g 0 i ∧ leafA t 0 (i + 1) = leafA t 0 i := by
  have e : isLeaf t i = false := by simp [isLeaf, leafB, h]
  rw [leafT_succ t g (Nat.zero_le i), leafA_succ t (Nat.zero_le i)]
  simp [oneT, oneA, e, h]

theorem st_time {t : Toks} {i : Nat} (h : isLeaf t i = true) (g : Nat → Bool) : leafT t g 0 (i + 1) = leafT t g 0 i ++ [(t.pl i, sgOf g i)] ∧ leafA t 0 (i + 1) = leafA t 0 i := by
  rw [leafT_succ t g (Nat.zero_le i), leafA_succ t (Nat.zero_le i)]
  simp [oneT, oneA, h, sgOf]

theorem st_attr {t : Toks} {i : Nat} (ho : t.op i = 114) (h : isLeaf t i = false) (g : Nat → Bool) : leafT t g 0 (i + 1) = leafT t g 0 i ∧ leafA t 0 (i + 1) = leafA t 0 i ++ [(t.pl i, t.ob i, t.nm i)] := by
  rw [leafT_succ t g (Nat.zero_le i), leafA_succ t (Nat.zero_le i)]
  simp [oneT, oneA, h, ho]

theorem knA_and (pk : Int → Bool) (A : List (Int × Int × ByteArray)) : ∀ c d : Bool, knA pk (c && d) A = (knA pk c A && d) := by
  induction A with
  | nil => intro c d; rfl
  | cons a A ih =>
    intro c d
    show knA pk ((c && d) && pk a.1) A = (knA pk (c && pk a.1) A && d)
    rw [show ((c && d) && pk a.1) = ((c && pk a.1) && d) by cases c <;> cases d <;> cases pk a.1 <;> rfl]
    exact ih _ _

theorem kn_none {pk : Int → Bool} {t : Toks} {i : Nat} (h : t.op i ≠ 114) (g : Nat → Bool) : knL pk t g (i + 1) = knL pk t g i := by
  unfold knL
  rw [(st_none h g).1, (st_none h g).2]

theorem kn_leaf {pk : Int → Bool} {t : Toks} {i : Nat} (ho : t.op i = 114) (g : Nat → Bool) : knL pk t g (i + 1) = (knL pk t g i && pk (t.pl i)) := by
  unfold knL
  cases h : isLeaf t i
  · rw [(st_attr ho h g).1, (st_attr ho h g).2, knA_snoc]
  · rw [(st_time h g).1, (st_time h g).2, knT_snoc, knA_and]

end Go.Proofs.Qxb6600637a
