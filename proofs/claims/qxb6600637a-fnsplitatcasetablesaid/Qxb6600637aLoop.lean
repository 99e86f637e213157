import Derived.Test.Qxb6600637aArgs
namespace Go.Proofs.Qxb6600637a
open Go.ChangeShapes Go.WideShapes Go.ChangeAt Go.RowKit

/-- the first loop of a body -/
def firstLoop : Code → Option Code
  | .loop c => some c
  | .seq a b => match firstLoop a with
    | some c => some c
    | none => firstLoop b
  | .block _ c => firstLoop c
  | .scope c => firstLoop c
  | .cond _ a b => match firstLoop a with
    | some c => some c
    | none => firstLoop b
  | _ => none

set_option maxHeartbeats 8000000 in
set_option maxRecDepth 100000 in
theorem case_loop {w W2 : World} {t : Toks} {cmp : ByteArray} {ao apl aob an ap : Option Addr} {lo co lpl cpl lob cob ln cn lp cp : Nat} {fpl fob : Nat → Int} {fs : Nat → ByteArray} {fp : Nat → Bool} {pi hand : Int} {F cp' : Nat} {ap' : Option Addr} {g : Nat → Bool}
    (h : Args w t ao apl aob an ap lo co lpl cpl lob cob ln cn lp cp fpl fob fs fp) (hn : lo ≤ 65536) (hrng : ∀ p, p < lo → t.op p = 114 → 0 ≤ t.pl p ∧ t.pl p < (lp : Int))
    (hpk3 : Sl W2.heap.size W2 ap' lp (fun i => .bool (fp i))) (hfl3 : Sl W2.heap.size W2 (some ⟨F, 0, none⟩) (lo + 1) (fun j => .bool (g j))) (hbw2 : Below w.heap.size w W2)
    {c8 c9 c10 c11 c12 c13 c14 c15 c16 c17 c18 c19 c21 c22 c23 c24 c25 c26 c27 c37 c38 c39 c40 c41 c42 c43 c44 c45 c46 c47 c48 c49 c50 c51 c52 c53 c54 c55 c56 c57 c58 c59 c60 c61 c62 c63 c64 c65 c66 c67 c68 c69 c70 c71 c72 c73 c74 c75 c76 c77 c78 c79 c80 c81 c82 c83 c84 c85 c86 c87 c88 c89 c90 c91 c92 c93 c94 c95 c96 c97 c98 c99 c100 c101 c102 c103 c104 c105 c106 c107 c108 c109 c110 c111 c112 c113 c114 c115 c116 c117 c118 c119 c120 c121 c122 c123 c124 c125 c126 c127 c128 c129 c130 c131 c132 c133 c134 c135 c136 c137 c138 c139 c140 c141 c142 c143 c144 c145 c146 c147 c148 c149 c150 c151 c152 c153 c154 c155 c156 c157 c158 c159 c160 c161 c162 c163 c164 c165 c166 c167 c168 c169 c170 c171 c172 c173 c174 c175 c176 c177 c178 c179 c180 c181 c182 c183 c184 c185 c186 c187 c188 c189 c190 c191 c192 c193 c194 c195 c196 c197 c198 c199 c200 c201 c202 c203 c204 c205 c206 c207 c208 c209 c210 c211 c212 c213 c214 c215 c216 c217 c218 c219 c220 c221 c222 c223 c224 c225 c226 c227 c228 c229 c230 c231 c232 c233 c234 c235 c236 : Value}
    (K : Act → World → Prop) (Q0 : Exit → Act → World → Prop)
    (hK : ∀ d37 d38 d135 d136 d137 d138 d139 d140 d141 d142 d143 d144 d145 d146 d147 d148 d149 d150 d151 d152 d153 d154 d155 d156 d157 d158 d159 d160 d161 d162 d163 d164 d165 d166 d167 d168 d169 d170 d171 d172 d173 d174 d175 d176 d177 d178 d179 d180 : Value, K ⟨List.toArray ((.string cmp : Value) :: (.slice ao lo co : Value) :: (.slice apl lpl cpl : Value) :: (.slice aob lob cob : Value) :: (.slice an ln cn : Value) :: (.int .i64 pi : Value) :: (.int .i64 hand : Value) :: (.slice ap' lp cp' : Value) :: c8 :: c9 :: c10 :: c11 :: c12 :: c13 :: c14 :: c15 :: c16 :: c17 :: c18 :: c19 :: (.slice (some ⟨F, 0, none⟩) (lo + 1) (lo + 1) : Value) :: c21 :: c22 :: c23 :: c24 :: c25 :: c26 :: c27 :: (.bool (pre g lo) : Value) :: (.int .i64 (cntP pi (leafT t g 0 lo)) : Value) :: (.int .i64 (sgnP pi (leafT t g 0 lo)) : Value) :: (.int .i64 (sgnP hand (leafT t g 0 lo)) : Value) :: (.int .i64 (leafT t g 0 lo).length : Value) :: (.bool (recP hand (leafT t g 0 lo)) : Value) :: (.bool (knL (fun p => fp p.toNat) t g lo) : Value) :: (.bool (owA pi (leafA t 0 lo)) : Value) :: (.int .i64 lo : Value) :: d37 :: d38 :: c39 :: c40 :: c41 :: c42 :: c43 :: c44 :: c45 :: c46 :: c47 :: c48 :: c49 :: c50 :: c51 :: c52 :: c53 :: c54 :: c55 :: c56 :: c57 :: c58 :: c59 :: c60 :: c61 :: c62 :: c63 :: c64 :: c65 :: c66 :: c67 :: c68 :: c69 :: c70 :: c71 :: c72 :: c73 :: c74 :: c75 :: c76 :: c77 :: c78 :: c79 :: c80 :: c81 :: c82 :: c83 :: c84 :: c85 :: c86 :: c87 :: c88 :: c89 :: c90 :: c91 :: c92 :: c93 :: c94 :: c95 :: c96 :: c97 :: c98 :: c99 :: c100 :: c101 :: c102 :: c103 :: c104 :: c105 :: c106 :: c107 :: c108 :: c109 :: c110 :: c111 :: c112 :: c113 :: c114 :: c115 :: c116 :: c117 :: c118 :: c119 :: c120 :: c121 :: c122 :: c123 :: c124 :: c125 :: c126 :: c127 :: c128 :: c129 :: c130 :: c131 :: c132 :: c133 :: c134 :: d135 :: d136 :: d137 :: d138 :: d139 :: d140 :: d141 :: d142 :: d143 :: d144 :: d145 :: d146 :: d147 :: d148 :: d149 :: d150 :: d151 :: d152 :: d153 :: d154 :: d155 :: d156 :: d157 :: d158 :: d159 :: d160 :: d161 :: d162 :: d163 :: d164 :: d165 :: d166 :: d167 :: d168 :: d169 :: d170 :: d171 :: d172 :: d173 :: d174 :: d175 :: d176 :: d177 :: d178 :: d179 :: d180 :: c181 :: c182 :: c183 :: c184 :: c185 :: c186 :: c187 :: c188 :: c189 :: c190 :: c191 :: c192 :: c193 :: c194 :: c195 :: c196 :: c197 :: c198 :: c199 :: c200 :: c201 :: c202 :: c203 :: c204 :: c205 :: c206 :: c207 :: c208 :: c209 :: c210 :: c211 :: c212 :: c213 :: c214 :: c215 :: c216 :: c217 :: c218 :: c219 :: c220 :: c221 :: c222 :: c223 :: c224 :: c225 :: c226 :: c227 :: c228 :: c229 :: c230 :: c231 :: c232 :: c233 :: c234 :: c235 :: c236 :: []), []⟩ W2) :
    Code.wp Try.prog (Code.loop ((Try.f8.body.bind firstLoop).getD .skip)) (Exit.inBlock 0 (Exit.then K Q0))
      ⟨List.toArray ((.string cmp : Value) :: (.slice ao lo co : Value) :: (.slice apl lpl cpl : Value) :: (.slice aob lob cob : Value) :: (.slice an ln cn : Value) :: (.int .i64 pi : Value) :: (.int .i64 hand : Value) :: (.slice ap' lp cp' : Value) :: c8 :: c9 :: c10 :: c11 :: c12 :: c13 :: c14 :: c15 :: c16 :: c17 :: c18 :: c19 :: (.slice (some ⟨F, 0, none⟩) (lo + 1) (lo + 1) : Value) :: c21 :: c22 :: c23 :: c24 :: c25 :: c26 :: c27 :: (.bool false : Value) :: (.int .i64 0 : Value) :: (.int .i64 0 : Value) :: (.int .i64 0 : Value) :: (.int .i64 0 : Value) :: (.bool false : Value) :: (.bool true : Value) :: (.bool true : Value) :: (.int .i64 0 : Value) :: c37 :: c38 :: c39 :: c40 :: c41 :: c42 :: c43 :: c44 :: c45 :: c46 :: c47 :: c48 :: c49 :: c50 :: c51 :: c52 :: c53 :: c54 :: c55 :: c56 :: c57 :: c58 :: c59 :: c60 :: c61 :: c62 :: c63 :: c64 :: c65 :: c66 :: c67 :: c68 :: c69 :: c70 :: c71 :: c72 :: c73 :: c74 :: c75 :: c76 :: c77 :: c78 :: c79 :: c80 :: c81 :: c82 :: c83 :: c84 :: c85 :: c86 :: c87 :: c88 :: c89 :: c90 :: c91 :: c92 :: c93 :: c94 :: c95 :: c96 :: c97 :: c98 :: c99 :: c100 :: c101 :: c102 :: c103 :: c104 :: c105 :: c106 :: c107 :: c108 :: c109 :: c110 :: c111 :: c112 :: c113 :: c114 :: c115 :: c116 :: c117 :: c118 :: c119 :: c120 :: c121 :: c122 :: c123 :: c124 :: c125 :: c126 :: c127 :: c128 :: c129 :: c130 :: c131 :: c132 :: c133 :: c134 :: c135 :: c136 :: c137 :: c138 :: c139 :: c140 :: c141 :: c142 :: c143 :: c144 :: c145 :: c146 :: c147 :: c148 :: c149 :: c150 :: c151 :: c152 :: c153 :: c154 :: c155 :: c156 :: c157 :: c158 :: c159 :: c160 :: c161 :: c162 :: c163 :: c164 :: c165 :: c166 :: c167 :: c168 :: c169 :: c170 :: c171 :: c172 :: c173 :: c174 :: c175 :: c176 :: c177 :: c178 :: c179 :: c180 :: c181 :: c182 :: c183 :: c184 :: c185 :: c186 :: c187 :: c188 :: c189 :: c190 :: c191 :: c192 :: c193 :: c194 :: c195 :: c196 :: c197 :: c198 :: c199 :: c200 :: c201 :: c202 :: c203 :: c204 :: c205 :: c206 :: c207 :: c208 :: c209 :: c210 :: c211 :: c212 :: c213 :: c214 :: c215 :: c216 :: c217 :: c218 :: c219 :: c220 :: c221 :: c222 :: c223 :: c224 :: c225 :: c226 :: c227 :: c228 :: c229 :: c230 :: c231 :: c232 :: c233 :: c234 :: c235 :: c236 :: []), []⟩ W2 := by
  conv => arg 2; arg 1; whnf
  go_loopg [28, 29, 30, 31, 32, 33, 34, 35, 36] lo (fun gk v28 v29 v30 v31 v32 v33 v34 v35 v36 wr => W2 = wr ∧ ∃ i : Nat, i ≤ lo ∧ gk = lo - i ∧ v36 = .int .i64 i ∧ v28 = .bool (pre g i) ∧ v29 = .int .i64 (cntP pi (leafT t g 0 i)) ∧ v30 = .int .i64 (sgnP pi (leafT t g 0 i)) ∧ v31 = .int .i64 (sgnP hand (leafT t g 0 i)) ∧ v32 = .int .i64 (leafT t g 0 i).length ∧ v33 = .bool (recP hand (leafT t g 0 i)) ∧ v34 = .bool (knL (fun p => fp p.toNat) t g i) ∧ v35 = .bool (owA pi (leafA t 0 i)))
  case atStart => exact ⟨rfl, 0, by omega, rfl, rfl, rfl, rfl, rfl, rfl, rfl, rfl, rfl, rfl⟩
  case round =>
    obtain ⟨rfl, i, hi, rfl, rfl, rfl, rfl, rfl, rfl, rfl, rfl, rfl, rfl⟩ := hrel
    by_cases hlt : i < lo
    · obtain ⟨b1, off1, e1, hbl1, hcF0⟩ := hfl3 i (by omega)
      cases e1
      have hcF : W2.cell? ⟨F, i, none⟩ = some (.bool (g i)) := by rw [Nat.zero_add] at hcF0; exact hcF0
      clear hcF0
      obtain ⟨b2, off2, rfl, hbl2, hcO0⟩ := (h.ops.below hbw2) i hlt
      have hcO : W2.cell? ⟨b2, off2 + i, none⟩ = some (.int .u8 (t.op i)) := hcO0
      clear hcO0
      have hii : (i : Int) < (lo : Int) + 1 := by omega
      have HP : Hid (par g i = Bool.xor (pre g i) (g i)) := par_pre g i
      go_upto_if 144 with fail
      go_cut [28] from 135 to 180 (fun v28 wx => W2 = wx ∧ v28 = .bool (par g i))
      case first =>
        cases hgi : g i
        · rw [hgi] at hcF
          go_wp2_with fail
          go_meet
          exact ⟨rfl, by rw [HP.out, hgi]; simp⟩
        · rw [hgi] at hcF
          go_wp2_with fail
          go_meet
          exact ⟨rfl, by rw [HP.out, hgi]; simp⟩
      case rest =>
        obtain ⟨rfl, rfl⟩ := hcut
        clear hcF hii HP
        have hcb := cntP_bd pi (leafT t g 0 i)
        have hln := leafT_len t g 0 i
        by_cases o1 : t.op i = 114
        · rw [o1] at hcO
          obtain ⟨hq1, hq2⟩ := hrng i hlt o1
          obtain ⟨q, hq⟩ := Int.eq_ofNat_of_zero_le hq1
          have H27 := h.Hpl i W2 hbw2
          have H28 := h.Hlf i hlt W2 hbw2
          rw [hq] at hq2 H27
          have hql : q < lp := by omega
          obtain ⟨b3, off3, rfl, hbl3, hcP0⟩ := hpk3 q hql
          have hcP : W2.cell? ⟨b3, off3 + q, none⟩ = some (.bool (fp q)) := hcP0
          have HK : Hid (knL (fun p => fp p.toNat) t g (i + 1) = (knL (fun p => fp p.toNat) t g i && fp q)) := by
            show knL _ _ _ _ = _
            rw [kn_leaf o1, hq]; simp
          have HQ : Hid (t.pl i = (q : Int)) := hq
          have O1 : Hid (t.op i = 114) := o1
          clear hcP0 hq hq1 o1
          go_upto_if 159 with (go_at_call 27; refine H27.mono ?_; rintro e w' ⟨rfl, rfl⟩)
          go_cut [34] from 135 to 180 (fun v34 wx => W2 = wx ∧ v34 = .bool (knL (fun p => fp p.toNat) t g (i + 1)))
          case first =>
            cases hf : fp q
            · rw [hf] at hcP
              go_wp2_with fail
              go_meet
              exact ⟨rfl, by rw [HK.out, hf]; simp⟩
            · rw [hf] at hcP
              go_wp2_with fail
              go_meet
              exact ⟨rfl, by rw [HK.out, hf]; simp⟩
          case rest =>
            obtain ⟨rfl, rfl⟩ := hcut
            clear HK hcP H27
            cases hl : isLeaf t i
            · rw [hl] at H28
              obtain ⟨eT, eA⟩ := st_attr O1.out hl g
              have ET : Hid (leafT t g 0 (i + 1) = leafT t g 0 i) := eT
              have EO : Hid (owA pi (leafA t 0 (i + 1)) = (owA pi (leafA t 0 i) && ((q : Int) == pi))) := by
                show owA pi (leafA t 0 (i + 1)) = _
                rw [eA, owA_snoc, HQ.out]
              clear eT eA hl
              by_cases e1 : (q : Int) = pi
              · have e1' : ((q : Int) != pi) = false := by simp [e1]
                have E1 : Hid (((q : Int) == pi) = true) := by show ((q : Int) == pi) = true; simp [e1]
                clear e1
                go_wp2_with (go_at_call 28; refine H28.mono ?_; rintro e w' ⟨rfl, rfl⟩)
                go_roundg (lo - (i + 1))
                case measure => omega
                case rel => exact ⟨rfl, i + 1, by omega, rfl, by go_num, rfl, by rw [ET.out], by rw [ET.out], by rw [ET.out], by rw [ET.out], by rw [ET.out], rfl, by rw [EO.out, E1.out]; simp⟩
              · have e1' : ((q : Int) != pi) = true := by simp [e1]
                have E1 : Hid (((q : Int) == pi) = false) := by show ((q : Int) == pi) = false; simp [e1]
                clear e1
                go_wp2_with (go_at_call 28; refine H28.mono ?_; rintro e w' ⟨rfl, rfl⟩)
                go_roundg (lo - (i + 1))
                case measure => omega
                case rel => exact ⟨rfl, i + 1, by omega, rfl, by go_num, rfl, by rw [ET.out], by rw [ET.out], by rw [ET.out], by rw [ET.out], by rw [ET.out], rfl, by rw [EO.out, E1.out]; simp⟩
            · rw [hl] at H28
              obtain ⟨eT, eA⟩ := st_time hl g
              rw [HQ.out] at eT
              have ET : Hid (leafT t g 0 (i + 1) = leafT t g 0 i ++ [((q : Int), sgOf g i)]) := eT
              have EA : Hid (leafA t 0 (i + 1) = leafA t 0 i) := eA
              clear eT eA hl
              go_upto_if 165 with (go_at_call 28; refine H28.mono ?_; rintro e w' ⟨rfl, rfl⟩)
              go_cut [28, 38] from 135 to 180 (fun v28 v38 wx => W2 = wx ∧ v28 = .bool (par g i) ∧ v38 = .int .i64 (sgOf g i))
              case first =>
                have HSG : Hid (sgOf g i = if par g i then -1 else 1) := rfl
                cases hp : par g i
                · go_wp2_with fail
                  go_meet
                  exact ⟨rfl, by rw [hp], by rw [HSG.out, hp]; simp⟩
                · go_wp2_with fail
                  go_meet
                  exact ⟨rfl, by rw [hp], by rw [HSG.out, hp]; simp⟩
              case rest =>
                obtain ⟨rfl, rfl, rfl⟩ := hcut
                have EC : Hid (cntP pi (leafT t g 0 (i + 1)) = if (q : Int) = pi then cntP pi (leafT t g 0 i) + 1 else cntP pi (leafT t g 0 i)) := by show cntP pi (leafT t g 0 (i + 1)) = _; rw [ET.out, cntP_snoc]
                have ES : Hid (sgnP pi (leafT t g 0 (i + 1)) = if (q : Int) = pi then sgOf g i else sgnP pi (leafT t g 0 i)) := by show sgnP pi (leafT t g 0 (i + 1)) = _; rw [ET.out, sgnP_snoc]
                have EH : Hid (sgnP hand (leafT t g 0 (i + 1)) = if (q : Int) = hand then sgOf g i else sgnP hand (leafT t g 0 i)) := by show sgnP hand (leafT t g 0 (i + 1)) = _; rw [ET.out, sgnP_snoc]
                have ER : Hid (recP hand (leafT t g 0 (i + 1)) = if (q : Int) = hand then true else recP hand (leafT t g 0 i)) := by show recP hand (leafT t g 0 (i + 1)) = _; rw [ET.out, recP_snoc]
                have EN : Hid (((leafT t g 0 (i + 1)).length : Int) = ((leafT t g 0 i).length : Int) + 1) := by show ((leafT t g 0 (i + 1)).length : Int) = _; rw [ET.out]; simp
                clear ET
                go_upto_if 170 with fail
                go_cut [29, 30] from 135 to 180 (fun v29 v30 wx => W2 = wx ∧ v29 = .int .i64 (cntP pi (leafT t g 0 (i + 1))) ∧ v30 = .int .i64 (sgnP pi (leafT t g 0 (i + 1))))
                case first =>
                  by_cases e1 : (q : Int) = pi
                  · have e1' : ((q : Int) == pi) = true := by simp [e1]
                    have E1 : Hid ((q : Int) = pi) := e1
                    clear e1
                    go_wp2_with fail
                    go_meet
                    exact ⟨rfl, by rw [EC.out, if_pos E1.out], by rw [ES.out, if_pos E1.out]⟩
                  · have e1' : ((q : Int) == pi) = false := by simp [e1]
                    have E1 : Hid (¬ (q : Int) = pi) := e1
                    clear e1
                    go_wp2_with fail
                    go_meet
                    exact ⟨rfl, by rw [EC.out, if_neg E1.out], by rw [ES.out, if_neg E1.out]⟩
                case rest =>
                  obtain ⟨rfl, rfl, rfl⟩ := hcut
                  by_cases e2 : (q : Int) = hand
                  · have e2' : ((q : Int) == hand) = true := by simp [e2]
                    have E2 : Hid ((q : Int) = hand) := e2
                    clear e2
                    go_wp2_with fail
                    go_roundg (lo - (i + 1))
                    case measure => omega
                    case rel => exact ⟨rfl, i + 1, by omega, rfl, by go_num, rfl, rfl, rfl, by rw [EH.out, if_pos E2.out], by rw [EN.out], by rw [ER.out, if_pos E2.out], rfl, by rw [EA.out]⟩
                  · have e2' : ((q : Int) == hand) = false := by simp [e2]
                    have E2 : Hid (¬ (q : Int) = hand) := e2
                    clear e2
                    go_wp2_with fail
                    go_roundg (lo - (i + 1))
                    case measure => omega
                    case rel => exact ⟨rfl, i + 1, by omega, rfl, by go_num, rfl, rfl, rfl, by rw [EH.out, if_neg E2.out], by rw [EN.out], by rw [ER.out, if_neg E2.out], rfl, by rw [EA.out]⟩
        · have o1' : (t.op i != 114) = true := by simp [o1]
          obtain ⟨eT, eA⟩ := st_none o1 g
          have ET : Hid (leafT t g 0 (i + 1) = leafT t g 0 i) := eT
          have EA : Hid (leafA t 0 (i + 1) = leafA t 0 i) := eA
          have EK : Hid (knL (fun p => fp p.toNat) t g (i + 1) = knL (fun p => fp p.toNat) t g i) := kn_none o1 g
          clear eT eA o1
          go_wp2_with fail
          go_roundg (lo - (i + 1))
          case measure => omega
          case rel => exact ⟨rfl, i + 1, by omega, rfl, by go_num, rfl, by rw [ET.out], by rw [ET.out], by rw [ET.out], by rw [ET.out], by rw [ET.out], by rw [EK.out], by rw [EA.out]⟩
    · have hil : i = lo := by omega
      subst hil
      clear hpk3 hfl3 hrng h
      go_wp2_with fail
      exact hK _ _ _ _ _ _ _ _ _ _ _ _ _ _ _ _ _ _ _ _ _ _ _ _ _ _ _ _ _ _ _ _ _ _ _ _ _ _ _ _ _ _ _ _ _ _ _ _

end Go.Proofs.Qxb6600637a
