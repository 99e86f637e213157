import Derived.Test.Qxb6601216aTwo
import Derived.Deep.QuietTactic
namespace Go.Proofs.Qxb6601216a
open Go.RowKit

/-- a fact, kept from the walk's eyes -/
structure Hd (p : Prop) : Prop where
  out : p

/-- the two arguments' boxes still hold what they held; what was there before the call is as it was -/
def Bx (w : World) (n h s r n' h' s' r' : ByteArray) (t t' : Int) (a a' : Bool) (x : World) : Prop :=
  x.cell? ⟨w.heap.size, 0, none⟩ = some (.string n) ∧ x.cell? ⟨w.heap.size, 1, none⟩ = some (.string h) ∧ x.cell? ⟨w.heap.size, 2, none⟩ = some (.string s) ∧ x.cell? ⟨w.heap.size, 3, none⟩ = some (.string r) ∧ x.cell? ⟨w.heap.size, 4, none⟩ = some (.int .i64 t) ∧ x.cell? ⟨w.heap.size, 5, none⟩ = some (.bool a) ∧ x.cell? ⟨w.heap.size + 1, 0, none⟩ = some (.string n') ∧ x.cell? ⟨w.heap.size + 1, 1, none⟩ = some (.string h') ∧ x.cell? ⟨w.heap.size + 1, 2, none⟩ = some (.string s') ∧ x.cell? ⟨w.heap.size + 1, 3, none⟩ = some (.string r') ∧ x.cell? ⟨w.heap.size + 1, 4, none⟩ = some (.int .i64 t') ∧ x.cell? ⟨w.heap.size + 1, 5, none⟩ = some (.bool a') ∧ Below w.heap.size w x ∧ w.heap.size + 2 ≤ x.heap.size

theorem Bx.alloc {w : World} {n h s r n' h' s' r' : ByteArray} {t t' : Int} {a a' : Bool} {v : World} (hb : Bx w n h s r n' h' s' r' t t' a a' v) (o : Obj) : Bx w n h s r n' h' s' r' t t' a a' (v.alloc o) := by
  obtain ⟨c0, c1, c2, c3, c4, c5, c6, c7, c8, c9, c10, c11, bel, hsz⟩ := hb
  have k := (Below.refl v.heap.size v).alloc (Nat.le_refl _) o
  exact ⟨(k.cell (p := ⟨w.heap.size, 0, none⟩) (show w.heap.size < v.heap.size by omega)).trans c0, (k.cell (p := ⟨w.heap.size, 1, none⟩) (show w.heap.size < v.heap.size by omega)).trans c1, (k.cell (p := ⟨w.heap.size, 2, none⟩) (show w.heap.size < v.heap.size by omega)).trans c2, (k.cell (p := ⟨w.heap.size, 3, none⟩) (show w.heap.size < v.heap.size by omega)).trans c3, (k.cell (p := ⟨w.heap.size, 4, none⟩) (show w.heap.size < v.heap.size by omega)).trans c4, (k.cell (p := ⟨w.heap.size, 5, none⟩) (show w.heap.size < v.heap.size by omega)).trans c5, (k.cell (p := ⟨w.heap.size + 1, 0, none⟩) (show w.heap.size + 1 < v.heap.size by omega)).trans c6, (k.cell (p := ⟨w.heap.size + 1, 1, none⟩) (show w.heap.size + 1 < v.heap.size by omega)).trans c7, (k.cell (p := ⟨w.heap.size + 1, 2, none⟩) (show w.heap.size + 1 < v.heap.size by omega)).trans c8, (k.cell (p := ⟨w.heap.size + 1, 3, none⟩) (show w.heap.size + 1 < v.heap.size by omega)).trans c9, (k.cell (p := ⟨w.heap.size + 1, 4, none⟩) (show w.heap.size + 1 < v.heap.size by omega)).trans c10, (k.cell (p := ⟨w.heap.size + 1, 5, none⟩) (show w.heap.size + 1 < v.heap.size by omega)).trans c11, bel.alloc (by omega) o, by simp; omega⟩

theorem Bx.drew {w : World} {n h s r n' h' s' r' : ByteArray} {t t' : Int} {a a' : Bool} {v : World} (hb : Bx w n h s r n' h' s' r' t t' a a' v) : Bx w n h s r n' h' s' r' t t' a a' v.drew := by
  obtain ⟨c0, c1, c2, c3, c4, c5, c6, c7, c8, c9, c10, c11, bel, hsz⟩ := hb
  exact ⟨c0, c1, c2, c3, c4, c5, c6, c7, c8, c9, c10, c11, bel.drew, hsz⟩

theorem Bx.base (w : World) (n h s r n' h' s' r' : ByteArray) (t t' : Int) (a a' : Bool) : Bx w n h s r n' h' s' r' t t' a a' ((w.alloc (.cells #[.string n, .string h, .string s, .string r, .int .i64 t, .bool a] 23)).alloc (.cells #[.string n', .string h', .string s', .string r', .int .i64 t', .bool a'] 23)) := by
  refine ⟨?_, ?_, ?_, ?_, ?_, ?_, ?_, ?_, ?_, ?_, ?_, ?_, ((Below.refl _ _).alloc (Nat.le_refl _) _).alloc (by simp) _, by simp⟩
  all_goals simp [go_sem, World.cell?_alloc_past]

set_option maxHeartbeats 4000000 in
theorem walk (w : World) (n h s r n' h' s' r' : ByteArray) (t t' : Int) (a a' : Bool) (c ab ba con : Bool) (hc : sameB h s h' s' = c) (hcon : conB n h s r n' h' s' r' t t' a a' = con) (hab : outB n h s r n' h' s' t t' a a' = ab) (hba : outB n' h' s' r' n h s t' t a' a = ba)
    (h1 : c = false → ab = false ∧ ba = false) (h2 : con = true → (ab != ba) = true) :
    Calls Try.prog 5 #[.agg #[.string n, .string h, .string s, .string r, .int .i64 t, .bool a], .agg #[.string n', .string h', .string s', .string r', .int .i64 t', .bool a']] w fun e w' =>
      e = .returned (.bool true) ∧ Below w.heap.size w w' := by
  have HS := fun (v : World) (hb : Bx w n h s r n' h' s' r' t t' a a' v) => (same_any v n h s r n' h' s' r' t t' a a').mono (R' := fun e v' => e = .returned (.bool c) ∧ Bx w n h s r n' h' s' r' t t' a a' v') (fun e v' ⟨he, o1, o2, hv⟩ => ⟨hc ▸ he, hv ▸ (hb.alloc o1).alloc o2⟩)
  have HC := fun (v : World) (hb : Bx w n h s r n' h' s' r' t t' a a' v) => (contested_any v n h s r n' h' s' r' t t' a a').mono (R' := fun e v' => e = .returned (.bool con) ∧ Bx w n h s r n' h' s' r' t t' a a' v') (fun e v' ⟨he, o1, o2, o3, o4, hv⟩ => ⟨hcon ▸ he, hv ▸ (((hb.alloc o1).alloc o2).alloc o3).alloc o4⟩)
  have H1 := fun (v : World) (hb : Bx w n h s r n' h' s' r' t t' a a' v) => (zzoutranks_any v n h s r n' h' s' r' t t' a a').mono (R' := fun e v' => e = .returned (.bool ab) ∧ Bx w n h s r n' h' s' r' t t' a a' v') (fun e v' ⟨he, o1, o2, o3, o4, hv⟩ => ⟨hab ▸ he, hv ▸ (((hb.alloc o1).alloc o2).alloc o3).alloc o4⟩)
  have H2 := fun (v : World) (hb : Bx w n h s r n' h' s' r' t t' a a' v) => (zzoutranks_any v n' h' s' r' n h s r t' t a' a).mono (R' := fun e v' => e = .returned (.bool ba) ∧ Bx w n h s r n' h' s' r' t t' a a' v') (fun e v' ⟨he, o1, o2, o3, o4, hv⟩ => ⟨hba ▸ he, hv ▸ (((hb.alloc o1).alloc o2).alloc o3).alloc o4⟩)
  have HT := fun (v : World) (hb : Bx w n h s r n' h' s' r' t t' a a' v) => (toClaim_any v n h s r t a).mono (R' := fun e v' => e = .returned (.agg #[.string n, .string h, .string s, .string r, .int .i64 t, .bool a]) ∧ Bx w n h s r n' h' s' r' t t' a a' v') (fun e v' ⟨he, o1, o2, hv⟩ => ⟨he, hv ▸ (hb.alloc o1).alloc o2⟩)
  have HT' := fun (v : World) (hb : Bx w n h s r n' h' s' r' t t' a a' v) => (toClaim_any v n' h' s' r' t' a').mono (R' := fun e v' => e = .returned (.agg #[.string n', .string h', .string s', .string r', .int .i64 t', .bool a']) ∧ Bx w n h s r n' h' s' r' t t' a a' v') (fun e v' ⟨he, o1, o2, hv⟩ => ⟨he, hv ▸ (hb.alloc o1).alloc o2⟩)
  have HZ := zzBytes_any ((w.alloc (.cells #[.string n, .string h, .string s, .string r, .int .i64 t, .bool a] 23)).alloc (.cells #[.string n', .string h', .string s', .string r', .int .i64 t', .bool a'] 23)) n h s r n' h' s' r' t t' a a'
  by_cases hle : n.size + h.size + s.size + r.size + n'.size + h'.size + s'.size + r'.size ≤ 1048576
  · rw [show lenB n h s r n' h' s' r' = true from decide_eq_true hle] at HZ
    obtain ⟨N, hN⟩ : ∃ N : Int, (n.size : Int) + h.size + s.size + r.size = N := ⟨_, rfl⟩
    obtain ⟨N', hN'⟩ : ∃ N' : Int, (n'.size : Int) + h'.size + s'.size + r'.size = N' := ⟨_, rfl⟩
    have HB := fun (v : World) (hb : Bx w n h s r n' h' s' r' t t' a a' v) => (claimBytes_any v n h s r t a (by omega)).mono (R' := fun e v' => e = .returned (.int .i64 N) ∧ Bx w n h s r n' h' s' r' t t' a a' v') (fun e v' ⟨he, o1, hv⟩ => ⟨hN ▸ he, hv ▸ hb.alloc o1⟩)
    have HB' := fun (v : World) (hb : Bx w n h s r n' h' s' r' t t' a a' v) => (claimBytes_any v n' h' s' r' t' a' (by omega)).mono (R' := fun e v' => e = .returned (.int .i64 N') ∧ Bx w n h s r n' h' s' r' t t' a a' v') (fun e v' ⟨he, o1, hv⟩ => ⟨hN' ▸ he, hv ▸ hb.alloc o1⟩)
    have g3 : N + N' ≤ 1048576 := by omega
    have g4 : 0 ≤ N := by omega
    have g5 : 0 ≤ N' := by omega
    have d1 : decide (1048576 < N) = false := decide_eq_false (by omega)
    have d2 : decide (1048576 < N') = false := decide_eq_false (by omega)
    have d3 : decide (1048576 < N + N') = false := decide_eq_false (by omega)
    have e3 : IntKind.i64.wrap (N + N') = N + N' := by rw [IntKind.wrap_i64]; omega
    have HX := Bx.base w n h s r n' h' s' r' t t' a a'
    clear hN hN' hle hc hcon hab hba
    replace HS := Hd.mk HS; replace HC := Hd.mk HC; replace H1 := Hd.mk H1; replace H2 := Hd.mk H2; replace HT := Hd.mk HT; replace HT' := Hd.mk HT'; replace HB := Hd.mk HB; replace HB' := Hd.mk HB'
    replace HX := Hd.mk HX
    replace HZ := Hd.mk HZ
    go_enter Try.func5, Try.ntmps5
    go_wp2_with (go_at_call 12; refine HZ.out.mono ?_; rintro e w' ⟨rfl, o1, o2, rfl⟩)
    refine wp_region_quiet (C := Bx w n h s r n' h' s' r' t t' a a') (by kernel_rfl) (by kernel_rfl) (((HX.out.alloc o1).alloc o2).drew) ?_
    refine wpQuiet_step (fun K hK => ?_)
    go_simp
    refine ⟨.agg #[.string n, .string h, .string s, .string r, .int .i64 t, .bool a], ?_, hK _ ?_⟩
    · rintro x ⟨c0, c1, c2, c3, c4, c5, c6, c7, c8, c9, c10, c11, bel, hsz⟩
      go_simp
    clear hK K
    refine wpQuiet_step (fun K hK => ?_)
    go_simp
    refine ⟨.int .i64 N, fun x hx => HB.out x hx, hK _ ?_⟩
    clear hK K
    refine wpQuiet_step (fun K hK => ?_)
    go_simp
    refine ⟨.bool false, fun x hx => ?_, hK _ ?_⟩
    · first | rfl | exact congrArg Value.bool d1 | exact ⟨rfl, rfl⟩ | go_simp
    clear hK K
    refine wpQuiet_step (fun K hK => ?_)
    go_simp
    refine ⟨.bool false, fun x hx => ?_, hK _ ?_⟩
    · first | rfl | exact congrArg (Value.int .i64) e3 | exact ⟨rfl, rfl⟩ | go_simp
    clear hK K
    refine wpQuiet_step (fun K hK => ?_)
    go_simp
    refine ⟨.agg #[.string n', .string h', .string s', .string r', .int .i64 t', .bool a'], ?_, hK _ ?_⟩
    · rintro x ⟨c0, c1, c2, c3, c4, c5, c6, c7, c8, c9, c10, c11, bel, hsz⟩
      go_simp
    clear hK K
    refine wpQuiet_step (fun K hK => ?_)
    go_simp
    refine ⟨.int .i64 N', fun x hx => HB'.out x hx, hK _ ?_⟩
    clear hK K
    refine wpQuiet_step (fun K hK => ?_)
    go_simp
    refine ⟨.bool false, fun x hx => ?_, hK _ ?_⟩
    · first | rfl | exact congrArg Value.bool d2 | exact ⟨rfl, rfl⟩ | go_simp
    clear hK K
    refine wpQuiet_step (fun K hK => ?_)
    go_simp
    refine ⟨.bool false, fun x hx => ?_, hK _ ?_⟩
    · first | rfl | exact congrArg (Value.int .i64) e3 | exact ⟨rfl, rfl⟩ | go_simp
    clear hK K
    refine wpQuiet_step (fun K hK => ?_)
    go_simp
    refine ⟨.bool false, fun x hx => ?_, hK _ ?_⟩
    · first | rfl | exact congrArg (Value.int .i64) e3 | exact ⟨rfl, rfl⟩ | go_simp
    clear hK K
    refine wpQuiet_step (fun K hK => ?_)
    go_simp
    refine ⟨.agg #[.string n, .string h, .string s, .string r, .int .i64 t, .bool a], ?_, hK _ ?_⟩
    · rintro x ⟨c0, c1, c2, c3, c4, c5, c6, c7, c8, c9, c10, c11, bel, hsz⟩
      go_simp
    clear hK K
    refine wpQuiet_step (fun K hK => ?_)
    go_simp
    refine ⟨.int .i64 N, fun x hx => HB.out x hx, hK _ ?_⟩
    clear hK K
    refine wpQuiet_step (fun K hK => ?_)
    go_simp
    refine ⟨.agg #[.string n', .string h', .string s', .string r', .int .i64 t', .bool a'], ?_, hK _ ?_⟩
    · rintro x ⟨c0, c1, c2, c3, c4, c5, c6, c7, c8, c9, c10, c11, bel, hsz⟩
      go_simp
    clear hK K
    refine wpQuiet_step (fun K hK => ?_)
    go_simp
    refine ⟨.int .i64 N', fun x hx => HB'.out x hx, hK _ ?_⟩
    clear hK K
    refine wpQuiet_step (fun K hK => ?_)
    go_simp
    refine ⟨.int .i64 (N + N'), fun x hx => ?_, hK _ ?_⟩
    · first | rfl | exact congrArg (Value.int .i64) e3 | exact ⟨rfl, rfl⟩ | go_simp
    clear hK K
    refine wpQuiet_step (fun K hK => ?_)
    go_simp
    refine ⟨.bool false, fun x hx => ?_, hK _ ?_⟩
    · first | rfl | exact congrArg Value.bool d3 | exact ⟨rfl, rfl⟩ | go_simp
    clear hK K
    refine wpQuiet_step (fun K hK => ?_)
    go_simp
    refine ⟨.bool false, fun x hx => ?_, hK _ ?_⟩
    · first | rfl | exact congrArg (Value.int .i64) e3 | exact ⟨rfl, rfl⟩ | go_simp
    clear hK K
    refine wpQuiet_nil ?_
    intro x hx
    go_wp2
    refine wp_region_quiet (C := Bx w n h s r n' h' s' r' t t' a a') (by kernel_rfl) (by kernel_rfl) (hx.drew) ?_
    refine wpQuiet_step (fun K hK => ?_)
    go_simp
    refine ⟨.agg #[.string n, .string h, .string s, .string r, .int .i64 t, .bool a], ?_, hK _ ?_⟩
    · rintro x ⟨c0, c1, c2, c3, c4, c5, c6, c7, c8, c9, c10, c11, bel, hsz⟩
      go_simp
    clear hK K
    refine wpQuiet_step (fun K hK => ?_)
    go_simp
    refine ⟨.agg #[.string n, .string h, .string s, .string r, .int .i64 t, .bool a], fun x hx => HT.out x hx, hK _ ?_⟩
    clear hK K
    refine wpQuiet_step (fun K hK => ?_)
    go_simp
    refine ⟨.agg #[.string n', .string h', .string s', .string r', .int .i64 t', .bool a'], ?_, hK _ ?_⟩
    · rintro x ⟨c0, c1, c2, c3, c4, c5, c6, c7, c8, c9, c10, c11, bel, hsz⟩
      go_simp
    clear hK K
    refine wpQuiet_step (fun K hK => ?_)
    go_simp
    refine ⟨.agg #[.string n', .string h', .string s', .string r', .int .i64 t', .bool a'], fun x hx => HT'.out x hx, hK _ ?_⟩
    clear hK K
    refine wpQuiet_step (fun K hK => ?_)
    go_simp
    refine ⟨.bool ab, fun x hx => H1.out x hx, hK _ ?_⟩
    clear hK K
    refine wpQuiet_step (fun K hK => ?_)
    go_simp
    refine ⟨.bool ab, fun x hx => ?_, hK _ ?_⟩
    · first | rfl | exact congrArg (Value.int .i64) e3 | exact ⟨rfl, rfl⟩ | go_simp
    clear hK K
    refine wpQuiet_nil ?_
    clear hx
    intro x2 hx2
    go_wp2
    refine wp_region_quiet (C := Bx w n h s r n' h' s' r' t t' a a') (by kernel_rfl) (by kernel_rfl) (hx2.drew) ?_
    refine wpQuiet_step (fun K hK => ?_)
    go_simp
    refine ⟨.agg #[.string n', .string h', .string s', .string r', .int .i64 t', .bool a'], ?_, hK _ ?_⟩
    · rintro x ⟨c0, c1, c2, c3, c4, c5, c6, c7, c8, c9, c10, c11, bel, hsz⟩
      go_simp
    clear hK K
    refine wpQuiet_step (fun K hK => ?_)
    go_simp
    refine ⟨.agg #[.string n', .string h', .string s', .string r', .int .i64 t', .bool a'], fun x hx => HT'.out x hx, hK _ ?_⟩
    clear hK K
    refine wpQuiet_step (fun K hK => ?_)
    go_simp
    refine ⟨.agg #[.string n, .string h, .string s, .string r, .int .i64 t, .bool a], ?_, hK _ ?_⟩
    · rintro x ⟨c0, c1, c2, c3, c4, c5, c6, c7, c8, c9, c10, c11, bel, hsz⟩
      go_simp
    clear hK K
    refine wpQuiet_step (fun K hK => ?_)
    go_simp
    refine ⟨.agg #[.string n, .string h, .string s, .string r, .int .i64 t, .bool a], fun x hx => HT.out x hx, hK _ ?_⟩
    clear hK K
    refine wpQuiet_step (fun K hK => ?_)
    go_simp
    refine ⟨.bool ba, fun x hx => H2.out x hx, hK _ ?_⟩
    clear hK K
    refine wpQuiet_step (fun K hK => ?_)
    go_simp
    refine ⟨.bool ba, fun x hx => ?_, hK _ ?_⟩
    · first | rfl | exact congrArg (Value.int .i64) e3 | exact ⟨rfl, rfl⟩ | go_simp
    clear hK K
    refine wpQuiet_nil ?_
    clear hx2
    intro x3 hx3
    have hy := Hd.mk hx3
    obtain ⟨c0, c1, c2, c3, c4, c5, c6, c7, c8, c9, c10, c11, bel, hsz⟩ := hx3
    cases c
    · obtain ⟨rfl, rfl⟩ := h1 rfl
      go_wp2_with (go_at_call 13; refine (HS.out _ hy.out).mono ?_; rintro e w' ⟨rfl, hz⟩; replace hz := Hd.mk hz)
      go_ret
      exact ⟨rfl, by obtain ⟨c0, c1, c2, c3, c4, c5, c6, c7, c8, c9, c10, c11, bel, hsz⟩ := hz.out; exact bel⟩
    · cases con
      · go_wp2_with (first | (go_at_call 13; refine (HS.out _ hy.out).mono ?_; rintro e w' ⟨rfl, hz⟩; have hz1 := Hd.mk hz; obtain ⟨e0, e1, e2, e3, e4, e5, e6, e7, e8, e9, e10, e11, -, -⟩ := hz) | (go_at_call 14; refine (HC.out _ hz1.out).mono ?_; rintro e w' ⟨rfl, hz2⟩; replace hz2 := Hd.mk hz2))
        go_ret
        exact ⟨rfl, by obtain ⟨c0, c1, c2, c3, c4, c5, c6, c7, c8, c9, c10, c11, bel, hsz⟩ := hz2.out; exact bel⟩
      · have hd := h2 rfl
        go_wp2_with (first | (go_at_call 13; refine (HS.out _ hy.out).mono ?_; rintro e w' ⟨rfl, hz⟩; have hz1 := Hd.mk hz; obtain ⟨e0, e1, e2, e3, e4, e5, e6, e7, e8, e9, e10, e11, -, -⟩ := hz) | (go_at_call 14; refine (HC.out _ hz1.out).mono ?_; rintro e w' ⟨rfl, hz2⟩; replace hz2 := Hd.mk hz2))
        go_ret
        exact ⟨congrArg (fun b => Ending.returned (.bool b)) hd, by obtain ⟨c0, c1, c2, c3, c4, c5, c6, c7, c8, c9, c10, c11, bel, hsz⟩ := hz2.out; exact bel⟩
  · rw [show lenB n h s r n' h' s' r' = false from decide_eq_false hle] at HZ
    clear hle HT HT' HS HC H1 H2
    replace HZ := Hd.mk HZ
    go_enter Try.func5, Try.ntmps5
    go_wp2_with (go_at_call 12; refine HZ.out.mono ?_; rintro e w' ⟨rfl, o1, o2, rfl⟩)
    go_ret
    exact ⟨rfl, ((((Below.refl _ _).alloc (by simp) _).alloc (by simp) _).alloc (by simp; omega) _).alloc (by simp; omega) _⟩
end Go.Proofs.Qxb6601216a
