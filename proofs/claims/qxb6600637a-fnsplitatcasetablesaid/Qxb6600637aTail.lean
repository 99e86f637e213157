import Derived.Test.Qxb6600637aLoop
namespace Go.Proofs.Qxb6600637a
open Go.ChangeShapes Go.WideShapes Go.ChangeAt Go.RowKit

/-- what follows the first loop of a body -/
def afterLoop : Code → Option Code
  | .seq a b => match firstLoop a with
    | some _ => some b
    | none => afterLoop b
  | .scope c => afterLoop c
  | _ => none

set_option maxHeartbeats 8000000 in
set_option maxRecDepth 100000 in
theorem case_tail {w W2 : World} {cmp : ByteArray} {re tr st kn ow : Bool} {cn0 sg hs : Int} {len : Nat} (HTR : Hid (trB re len hs sg ow = tr)) (HST : Hid (favB cmp sg = st)) (hs1 : -1 ≤ sg) (hs2 : sg ≤ 1) (hbw2 : Below w.heap.size w W2)
    {c1 c2 c3 c4 c5 c6 c7 c8 c9 c10 c11 c12 c13 c14 c15 c16 c17 c18 c19 c20 c21 c28 c36 c37 c38 c39 c40 c41 c42 c43 c44 c45 c46 c47 c48 c49 c50 c51 c52 c53 c54 c55 c56 c57 c58 c59 c60 c61 c62 c63 c64 c65 c66 c67 c68 c69 c70 c71 c72 c73 c74 c75 c76 c77 c78 c79 c80 c81 c82 c83 c84 c85 c86 c87 c88 c89 c90 c91 c92 c93 c94 c95 c96 c97 c98 c99 c100 c101 c102 c103 c104 c105 c106 c107 c108 c109 c110 c111 c112 c113 c114 c115 c116 c117 c118 c119 c120 c121 c122 c123 c124 c125 c126 c127 c128 c129 c130 c131 c132 c133 c134 c135 c136 c137 c138 c139 c140 c141 c142 c143 c144 c145 c146 c147 c148 c149 c150 c151 c152 c153 c154 c155 c156 c157 c158 c159 c160 c161 c162 c163 c164 c165 c166 c167 c168 c169 c170 c171 c172 c173 c174 c175 c176 c177 c178 c179 c180 c181 c182 c183 c184 c185 c186 c187 c188 c189 c190 c191 c192 c193 c194 c195 c196 c197 c198 c199 c200 c201 c202 c203 c204 c205 c206 c207 c208 c209 c210 c211 c212 c213 c214 c215 c216 c217 c218 c219 c220 c221 c222 c223 c224 c225 c226 c227 c228 c229 c230 c231 c232 c233 c234 c235 c236 : Value} :
    Code.wp Try.prog ((Try.f8.body.bind afterLoop).getD .skip) (bodyPost Try.prog Try.f8 fun e w' => e = .returned (.bool true) ∧ Below w.heap.size w w')
      ⟨List.toArray ((.string cmp : Value) :: c1 :: c2 :: c3 :: c4 :: c5 :: c6 :: c7 :: c8 :: c9 :: c10 :: c11 :: c12 :: c13 :: c14 :: c15 :: c16 :: c17 :: c18 :: c19 :: c20 :: c21 :: (.bool false : Value) :: (.bool re : Value) :: (.bool tr : Value) :: (.bool st : Value) :: (.int .i64 cn0 : Value) :: (.bool kn : Value) :: c28 :: (.int .i64 cn0 : Value) :: (.int .i64 sg : Value) :: (.int .i64 hs : Value) :: (.int .i64 (len : Nat) : Value) :: (.bool re : Value) :: (.bool kn : Value) :: (.bool ow : Value) :: c36 :: c37 :: c38 :: c39 :: c40 :: c41 :: c42 :: c43 :: c44 :: c45 :: c46 :: c47 :: c48 :: c49 :: c50 :: c51 :: c52 :: c53 :: c54 :: c55 :: c56 :: c57 :: c58 :: c59 :: c60 :: c61 :: c62 :: c63 :: c64 :: c65 :: c66 :: c67 :: c68 :: c69 :: c70 :: c71 :: c72 :: c73 :: c74 :: c75 :: c76 :: c77 :: c78 :: c79 :: c80 :: c81 :: c82 :: c83 :: c84 :: c85 :: c86 :: c87 :: c88 :: c89 :: c90 :: c91 :: c92 :: c93 :: c94 :: c95 :: c96 :: c97 :: c98 :: c99 :: c100 :: c101 :: c102 :: c103 :: c104 :: c105 :: c106 :: c107 :: c108 :: c109 :: c110 :: c111 :: c112 :: c113 :: c114 :: c115 :: c116 :: c117 :: c118 :: c119 :: c120 :: c121 :: c122 :: c123 :: c124 :: c125 :: c126 :: c127 :: c128 :: c129 :: c130 :: c131 :: c132 :: c133 :: c134 :: c135 :: c136 :: c137 :: c138 :: c139 :: c140 :: c141 :: c142 :: c143 :: c144 :: c145 :: c146 :: c147 :: c148 :: c149 :: c150 :: c151 :: c152 :: c153 :: c154 :: c155 :: c156 :: c157 :: c158 :: c159 :: c160 :: c161 :: c162 :: c163 :: c164 :: c165 :: c166 :: c167 :: c168 :: c169 :: c170 :: c171 :: c172 :: c173 :: c174 :: c175 :: c176 :: c177 :: c178 :: c179 :: c180 :: c181 :: c182 :: c183 :: c184 :: c185 :: c186 :: c187 :: c188 :: c189 :: c190 :: c191 :: c192 :: c193 :: c194 :: c195 :: c196 :: c197 :: c198 :: c199 :: c200 :: c201 :: c202 :: c203 :: c204 :: c205 :: c206 :: c207 :: c208 :: c209 :: c210 :: c211 :: c212 :: c213 :: c214 :: c215 :: c216 :: c217 :: c218 :: c219 :: c220 :: c221 :: c222 :: c223 :: c224 :: c225 :: c226 :: c227 :: c228 :: c229 :: c230 :: c231 :: c232 :: c233 :: c234 :: c235 :: c236 :: []), []⟩ W2 := by
  conv => arg 2; whnf
  go_upto_region 40 with fail
  go_cut [39] from 181 to 194 (fun v39 wx => W2 = wx ∧ v39 = .bool tr)
  case first =>
    have HT : Hid (tr = (re && (len == 2) && (hs == -sg) && ow)) := HTR.out.symm
    clear HTR HST
    cases re
    · go_wp2_with fail
      go_meet
      exact ⟨rfl, by rw [HT.out]; simp⟩
    · by_cases l2 : len = 2
      · have l2' : ((len : Int) == 2) = true := by simp [l2]
        have L2 : Hid ((len == 2) = true) := by show (len == 2) = true; simp [l2]
        clear l2
        by_cases l3 : hs = -sg
        · have l3' : (hs == -sg) = true := by simp [l3]
          clear l3
          go_wp2_with fail
          go_meet
          exact ⟨rfl, by rw [HT.out, L2.out, l3']; simp⟩
        · have l3' : (hs == -sg) = false := by simp [l3]
          clear l3
          go_wp2_with fail
          go_meet
          exact ⟨rfl, by rw [HT.out, L2.out, l3']; simp⟩
      · have l2' : ((len : Int) == 2) = false := by simp; omega
        have L2 : Hid ((len == 2) = false) := by show (len == 2) = false; simp [l2]
        clear l2
        go_wp2_with fail
        go_meet
        exact ⟨rfl, by rw [HT.out, L2.out]; simp⟩
  case rest =>
    obtain ⟨rfl, rfl⟩ := hcut
    clear HTR
    go_upto_region 41 with fail
    go_cut [40] from 195 to 209 (fun v40 wx => W2 = wx ∧ v40 = .bool st)
    case first =>
      have H29 := bel_any W2 cmp
      have HS : Hid (st = if belB cmp then decide (0 < sg) else decide (sg < 0)) := HST.out.symm
      clear HST
      generalize belB cmp = bl at *
      rcases (show 0 < sg ∨ sg < 0 ∨ sg = 0 by omega) with g1 | g1 | g1
      · cases bl
        · go_wp2_with (go_at_call 29; refine H29.mono ?_; rintro e w' ⟨rfl, rfl⟩)
          go_meet
          exact ⟨rfl, by rw [HS.out]; simp; omega⟩
        · go_wp2_with (go_at_call 29; refine H29.mono ?_; rintro e w' ⟨rfl, rfl⟩)
          go_meet
          exact ⟨rfl, by rw [HS.out]; simp; omega⟩
      · cases bl
        · go_wp2_with (go_at_call 29; refine H29.mono ?_; rintro e w' ⟨rfl, rfl⟩)
          go_meet
          exact ⟨rfl, by rw [HS.out]; simp; omega⟩
        · go_wp2_with (go_at_call 29; refine H29.mono ?_; rintro e w' ⟨rfl, rfl⟩)
          go_meet
          exact ⟨rfl, by rw [HS.out]; simp; omega⟩
      · subst g1
        go_wp2_with (go_at_call 29; refine H29.mono ?_; rintro e w' ⟨rfl, rfl⟩)
        go_meet
        exact ⟨rfl, by rw [HS.out]; cases bl <;> simp⟩
    case rest =>
      obtain ⟨rfl, rfl⟩ := hcut
      go_wp2_with fail
      go_ret
      exact ⟨rfl, hbw2⟩


end Go.Proofs.Qxb6600637a
