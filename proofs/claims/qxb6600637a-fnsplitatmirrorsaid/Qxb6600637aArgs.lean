import Derived.Test.Qxb6600637aSums
import Derived.Test.Qxb6600637aZZ
import Derived.Test.Qxb6600637aBytes
import Derived.Test.Qxb6600637aSteps
import Derived.Laws.CopyOwn
import Derived.Deep.LoopGhost
import Derived.Deep.OwnRows
import Derived.Deep.DeepCutAuto
namespace Go.Proofs.Qxb6600637a
open Go.ChangeShapes Go.WideShapes Go.ChangeAt Go.RowKit

/-- what is known of the arguments in the world of the call -/
structure Args (w : World) (t : Toks) (ao apl aob an ap : Option Addr) (lo co lpl cpl lob cob ln cn lp cp : Nat) (fpl fob : Nat → Int) (fs : Nat → ByteArray) (fp : Nat → Bool) : Prop where
  ops : Sl w.heap.size w ao lo (fun i => .int .u8 (t.op i))
  places : Sl w.heap.size w apl lpl (fun i => .int .i64 (fpl i))
  objs : Sl w.heap.size w aob lob (fun i => .int .u8 (fob i))
  names : Sl w.heap.size w an ln (fun i => .string (fs i))
  picked : Sl w.heap.size w ap lp (fun i => .bool (fp i))
  pl : ∀ k, t.pl k = atI lpl fpl k
  ob : ∀ k, t.ob k = atI lob fob k
  nm : ∀ k, t.nm k = atS ln fs k
  nil : ap = none → lp = 0 ∧ cp = 0
  len : ln ≤ 9223372036854775807

section
variable {w : World} {t : Toks} {ao apl aob an ap : Option Addr} {lo co lpl cpl lob cob ln cn lp cp : Nat} {fpl fob : Nat → Int} {fs : Nat → ByteArray} {fp : Nat → Bool}

theorem Args.Hpl (h : Args w t ao apl aob an ap lo co lpl cpl lob cob ln cn lp cp fpl fob fs fp) (k : Nat) (w' : World) (hb : Below w.heap.size w w') :
    Calls Try.prog 27 #[.slice apl lpl cpl, .int .i64 k] w' fun e w'' => e = .returned (.int .i64 (t.pl k)) ∧ w' = w'' := by
  refine (tokPlace_any w.heap.size w' apl lpl cpl fpl (h.places.below hb) k).mono ?_
  rintro e w'' ⟨rfl, rfl⟩
  exact ⟨by rw [h.pl], rfl⟩

theorem Args.Hob (h : Args w t ao apl aob an ap lo co lpl cpl lob cob ln cn lp cp fpl fob fs fp) (k : Nat) (w' : World) (hb : Below w.heap.size w w') :
    Calls Try.prog 36 #[.slice aob lob cob, .int .i64 k] w' fun e w'' => e = .returned (.int .u8 (t.ob k)) ∧ w' = w'' := by
  refine (tokObj_any w.heap.size w' aob lob cob fob (h.objs.below hb) k).mono ?_
  rintro e w'' ⟨rfl, rfl⟩
  exact ⟨by rw [h.ob], rfl⟩

theorem Args.Hnm (h : Args w t ao apl aob an ap lo co lpl cpl lob cob ln cn lp cp fpl fob fs fp) (k : Nat) (w' : World) (hb : Below w.heap.size w w') :
    Calls Try.prog 37 #[.slice an ln cn, .int .i64 k] w' fun e w'' => e = .returned (.string (t.nm k)) ∧ w' = w'' := by
  refine (tokName_any w.heap.size w' an ln cn fs (h.names.below hb) k).mono ?_
  rintro e w'' ⟨rfl, rfl⟩
  exact ⟨by rw [h.nm], rfl⟩

theorem Args.Hlf (h : Args w t ao apl aob an ap lo co lpl cpl lob cob ln cn lp cp fpl fob fs fp) (k : Nat) (hk : k < lo) (w' : World) (hb : Below w.heap.size w w') :
    Calls Try.prog 28 #[.slice ao lo co, .slice aob lob cob, .slice an ln cn, .int .i64 k] w' fun e w'' => e = .returned (.bool (isLeaf t k)) ∧ w' = w'' := by
  refine (isTimeLeaf_any w.heap.size w' ao aob an lo lob ln co cob cn t.op fob fs (h.ops.below hb) (h.objs.below hb) (h.names.below hb) k hk).mono ?_
  rintro e w'' ⟨rfl, rfl⟩
  exact ⟨by unfold isLeaf; rw [h.ob, h.nm], rfl⟩
end

/-- picked, as the walk holds it behind the copy -/
def Pk (w : World) (lp : Nat) (fp : Nat → Bool) (v : Value) (w1 : World) : Prop := ∃ ap' cp', v = .slice ap' lp cp' ∧ Sl w1.heap.size w1 ap' lp (fun i => .bool (fp i)) ∧ Below w.heap.size w w1

theorem made_blk (w : World) (z : Value) (n : Nat) (E : TypeId) : (w.alloc (.cells (madeCells #[z] n) E)).heap[w.heap.size]? = some (.cells (List.replicate n z).toArray E (0, 0)) := by
  rw [← made_one z n]
  simpa using heap_alloc_new w (.cells (madeCells #[z] n) E)

theorem copy_src {w w' : World} {a : Addr} {lp : Nat} {fp : Nat → Bool} (h : Sl w.heap.size w (some a) lp (fun i => .bool (fp i))) (hb : Below w.heap.size w w') :
    ∀ (j : Nat) (v : Value), ((List.range lp).map fun i => Value.bool (fp i))[j]? = some v → w'.cell? (a.add j) = some v := by
  intro j v hj
  have hjl : j < lp := by
    have := List.getElem?_eq_some_iff.1 hj
    obtain ⟨h1, _⟩ := this
    simpa using h1
  obtain ⟨b, off, e, hbl, hc⟩ := h j hjl
  simp only [Option.some.injEq] at e
  subst e
  have hadd : (⟨b, off, none⟩ : Addr).add j = ⟨b, off + j, none⟩ := by unfold Addr.add; split <;> simp_all
  rw [hadd, hb.cell (p := ⟨b, off + j, none⟩) hbl, hc]
  simp [hjl] at hj
  simp [hj]

theorem copy_one {lp : Nat} {fp : Nat → Bool} : ∀ v ∈ (List.range lp).map fun i => Value.bool (fp i), v.oneCell' = true := by
  intro v hv
  obtain ⟨i, _, rfl⟩ := List.mem_map.1 hv
  rfl

theorem copy_sl {w2 : World} {g lp : Nat} {fp : Nat → Bool} (h : w2.heap[g]? = some (.cells (splice (List.replicate lp (Value.bool false)) 0 ((List.range lp).map fun i => Value.bool (fp i))).toArray 4 (0, 0))) :
    Sl w2.heap.size w2 (some ⟨g, 0, none⟩) lp (fun i => .bool (fp i)) := by
  intro i hi
  refine ⟨g, 0, rfl, blk_lt h, ?_⟩
  rw [cell_of_row w2 g _ _ _ _ h]
  simp [splice, hi]

theorem call26 {wc W : World} {n lp cp : Nat} {t : Toks} {x y ap : Option Addr} {fp : Nat → Bool} (hok : BOK wc n lp t x y W) (hpk : Sl wc.heap.size wc ap lp (fun i => .bool (fp i))) (hn : n ≤ 65536) (cmp : ByteArray) (pi hand : Int) :
    ∃ g : Nat → Bool, Sl W.heap.size W (some ⟨wc.heap.size + 2, 0, none⟩) (n + 1) (fun j => .bool (g j)) ∧ (∀ p, p < n → t.op p = 114 → 0 ≤ t.pl p ∧ t.pl p < (lp : Int)) ∧ Below wc.heap.size wc W ∧
      Calls Try.prog 26 #[.string cmp, .pointer x, .pointer y, .int .i64 pi, .int .i64 hand, .slice ap lp cp] W fun e w' =>
        e = .returned (zzV cmp pi hand (fun p => fp p.toNat) (leafT t g 0 n) (leafA t 0 n)) ∧ Below W.heap.size W w' := by
  obtain ⟨s, lo, D, f, g, hs, hTx, hTy, hcat, hfl, hrng, hbW⟩ := hok
  refine ⟨g, hfl, hrng, hbW, ?_⟩
  have l1 := leafT_len t f 0 s
  have l2 := leafT_len t f s n
  have l3 := leafA_len t 0 s
  have l4 := leafA_len t s n
  have hA : leafA t 0 s ++ leafA t s n = leafA t 0 n := leafA_cat t (by omega) n hs
  have := zz_any W lo W.heap.size D D cmp x y (leafT t f 0 s) (leafT t f s n) (leafA t 0 s) (leafA t s n) pi hand ap lp cp fp hTx hTy (Nat.le_refl _) ((hpk.below hbW).mono hbW.size) (by omega) (by omega)
    (fun u hu => by
      rw [hcat] at hu
      obtain ⟨p, _, hp, ho, e, e2, e3⟩ := leafT_mem t g 0 n u hu
      have := hrng p hp ho
      rw [e]
      exact ⟨this.1, this.2, e2, e3⟩)
    (fun u hu => by
      rw [hA] at hu
      obtain ⟨p, _, hp, ho, e⟩ := leafA_mem t 0 n u hu
      rw [e]
      exact hrng p hp ho)
  rw [hcat, hA] at this
  exact this

end Go.Proofs.Qxb6600637a
