/-
  OWN WORK: LawS0517CModel: its first loop.
-/
import Derived.Test.YbulkjrkR2
namespace Go.Proofs.Ybulkjrk
open Go.RowKit
set_option linter.unusedSimpArgs false
set_option linter.unusedVariables false
set_option linter.unusedSectionVars false
set_option maxRecDepth 100000
theorem In5.under {W W' : World} {bs os n : Nat} {en sl : Nat → Bool} {st li qy : Nat → Int} (h : In5 W bs os n en sl st li qy) (hB : Below W.heap.size W W') : In5 W' bs os n en sl st li qy := by
  have cl : ∀ t, t < n → ∀ o, W'.cell? ⟨bs, o, none⟩ = W.cell? ⟨bs, o, none⟩ := fun t ht o => hB.cell (p := ⟨bs, o, none⟩) (World.block_lt_of_cell? W ⟨bs, os + t * 5, none⟩ (h.c0 t ht))
  exact ⟨fun t ht => (cl t ht _).trans (h.c0 t ht), fun t ht => (cl t ht _).trans (h.c1 t ht), fun t ht => (cl t ht _).trans (h.c2 t ht), fun t ht => (cl t ht _).trans (h.c3 t ht), fun t ht => (cl t ht _).trans (h.c4 t ht), h.r2, h.r3, h.r4⟩
set_option maxHeartbeats 20000000 in
theorem loop1_any {Q : Exit → Act → World → Prop} {w2 w3 w4 : World} {u1 u2 u3 u4 u6 u7 u8 u18 u19 u20 u21 u22 u23 u24 u25 u26 u27 u28 u29 u30 u31 u32 u33 u34 u35 u36 u37 u38 u39 u40 u41 u42 u43 u44 u45 u46 u47 u48 u49 u50 u51 u52 u53 u54 u55 u56 u57 u58 u59 u60 u61 u62 u63 u64 u65 u66 u67 u68 u69 u70 u71 u72 u73 u74 u75 u76 u77 u78 u79 u80 u81 u82 u83 u84 u85 u86 u87 u88 u89 u90 u91 u92 u93 u94 u95 u96 u97 u98 u99 u100 u101 u102 u103 u104 u105 u106 u107 u108 u109 u110 u111 u112 u113 u114 u115 u116 u117 u118 u119 u120 u121 u122 u123 u124 u125 u126 u127 u128 u129 u130 u131 u132 u133 u134 u135 u136 u137 u138 u139 u140 u141 u142 u143 u144 u145 u146 u147 u148 u149 u150 u151 u152 u153 u154 u155 u156 u157 u158 u159 u160 u161 u162 u163 u164 u165 u166 u167 u168 u169 u170 u171 u172 u173 u174 u175 u176 u177 u178 u179 u180 u181 u182 u183 u184 u185 u186 u187 u188 u189 u190 u191 u192 u193 u194 u195 u196 u197 u198 u199 u200 u201 u202 u203 u204 u205 u206 u207 u208 u209 u210 u211 u212 u213 u214 u215 u216 u217 u218 u219 u220 u221 u222 u223 u224 u225 u226 u227 u228 u229 u230 u231 u232 u233 u234 u235 u236 u237 u238 u239 u240 u241 u242 u243 u244 u245 u246 u247 u248 u249 u250 u251 u252 u253 u254 u255 u256 u257 u258 u259 u260 u261 u262 u263 u264 u265 u266 u267 u268 u269 u270 u271 u272 u273 u274 u275 u276 u277 u278 u279 u280 u281 u282 u283 : Value} {s : Nat → Stp} {lp : Int} {n bs os cap : Nat} {a : Option Addr} {en sl : Nat → Bool} {st li qy : Nat → Int} (ha : 0 < n → a = some ⟨bs, os, none⟩) (hI : In5 w2 bs os n en sl st li qy) (hs : plainS en sl st li qy = s) (hn : n ≤ 1024)
    (L0 : LS s lp n w2 w2.heap.size w3.heap.size 0 (.slice none 0 0) false false 0 0 w4)
    (hC : ∀ (v18 v19 v20 v21 v22 v49 v50 v51 v52 v53 v54 v55 v56 v57 v58 v59 v60 v61 v62 v63 v64 v65 v66 v67 v68 v69 v70 v71 v72 v73 v74 v75 v76 v77 v78 v79 v80 v81 v82 v83 v84 v85 v86 v87 v88 v89 v90 v91 v92 v93 v94 v95 v96 v97 v98 v99 v100 v101 v102 v103 v104 v105 v106 v107 v108 v109 v110 v111 v112 v113 v114 v115 v116 v117 v118 v119 v120 v121 v122 v123 v124 v125 v126 v127 v128 v129 v130 v131 v132 v133 v134 v135 v136 v137 v138 v139 v140 v141 v142 v143 v144 v145 v146 v147 v148 v149 v150 v151 v152 v153 v154 v155 v156 v157 x10 : Value) (bN sN : Bool) (mB mS : Int) (wr : World), LS s lp n w2 w2.heap.size w3.heap.size n x10 bN sN mB mS wr → Q (.exit 0) { tmps := List.toArray (.slice a n cap :: u1 :: u2 :: u3 :: u4 :: .int .i64 lp :: u6 :: u7 :: u8 :: .int .i64 n :: x10 :: .slice (some ⟨w2.heap.size, 0, none⟩) n n :: .slice (some ⟨w3.heap.size, 0, none⟩) n n :: .bool bN :: .bool sN :: .int .i64 mB :: .int .i64 mS :: .int .i64 n :: v18 :: v19 :: v20 :: v21 :: v22 :: u23 :: u24 :: u25 :: u26 :: u27 :: u28 :: u29 :: u30 :: u31 :: u32 :: u33 :: u34 :: u35 :: u36 :: u37 :: u38 :: u39 :: u40 :: u41 :: u42 :: u43 :: u44 :: u45 :: u46 :: u47 :: u48 :: v49 :: v50 :: v51 :: v52 :: v53 :: v54 :: v55 :: v56 :: v57 :: v58 :: v59 :: v60 :: v61 :: v62 :: v63 :: v64 :: v65 :: v66 :: v67 :: v68 :: v69 :: v70 :: v71 :: v72 :: v73 :: v74 :: v75 :: v76 :: v77 :: v78 :: v79 :: v80 :: v81 :: v82 :: v83 :: v84 :: v85 :: v86 :: v87 :: v88 :: v89 :: v90 :: v91 :: v92 :: v93 :: v94 :: v95 :: v96 :: v97 :: v98 :: v99 :: v100 :: v101 :: v102 :: v103 :: v104 :: v105 :: v106 :: v107 :: v108 :: v109 :: v110 :: v111 :: v112 :: v113 :: v114 :: v115 :: v116 :: v117 :: v118 :: v119 :: v120 :: v121 :: v122 :: v123 :: v124 :: v125 :: v126 :: v127 :: v128 :: v129 :: v130 :: v131 :: v132 :: v133 :: v134 :: v135 :: v136 :: v137 :: v138 :: v139 :: v140 :: v141 :: v142 :: v143 :: v144 :: v145 :: v146 :: v147 :: v148 :: v149 :: v150 :: v151 :: v152 :: v153 :: v154 :: v155 :: v156 :: v157 :: u158 :: u159 :: u160 :: u161 :: u162 :: u163 :: u164 :: u165 :: u166 :: u167 :: u168 :: u169 :: u170 :: u171 :: u172 :: u173 :: u174 :: u175 :: u176 :: u177 :: u178 :: u179 :: u180 :: u181 :: u182 :: u183 :: u184 :: u185 :: u186 :: u187 :: u188 :: u189 :: u190 :: u191 :: u192 :: u193 :: u194 :: u195 :: u196 :: u197 :: u198 :: u199 :: u200 :: u201 :: u202 :: u203 :: u204 :: u205 :: u206 :: u207 :: u208 :: u209 :: u210 :: u211 :: u212 :: u213 :: u214 :: u215 :: u216 :: u217 :: u218 :: u219 :: u220 :: u221 :: u222 :: u223 :: u224 :: u225 :: u226 :: u227 :: u228 :: u229 :: u230 :: u231 :: u232 :: u233 :: u234 :: u235 :: u236 :: u237 :: u238 :: u239 :: u240 :: u241 :: u242 :: u243 :: u244 :: u245 :: u246 :: u247 :: u248 :: u249 :: u250 :: u251 :: u252 :: u253 :: u254 :: u255 :: u256 :: u257 :: u258 :: u259 :: u260 :: u261 :: u262 :: u263 :: u264 :: u265 :: u266 :: u267 :: u268 :: u269 :: u270 :: u271 :: u272 :: u273 :: u274 :: u275 :: u276 :: u277 :: u278 :: u279 :: u280 :: u281 :: u282 :: u283 :: []), defers := [] } wr) :
    Code.wp Yba.prog (cGo [true, true, true, true, true, true, true, true, true, true, true, false, true, false] (Yba.f6.body.getD .skip)) Q { tmps := List.toArray (.slice a n cap :: u1 :: u2 :: u3 :: u4 :: .int .i64 lp :: u6 :: u7 :: u8 :: .int .i64 n :: .slice none 0 0 :: .slice (some ⟨w2.heap.size, 0, none⟩) n n :: .slice (some ⟨w3.heap.size, 0, none⟩) n n :: .bool false :: .bool false :: .int .i64 0 :: .int .i64 0 :: .int .i64 0 :: u18 :: u19 :: u20 :: u21 :: u22 :: u23 :: u24 :: u25 :: u26 :: u27 :: u28 :: u29 :: u30 :: u31 :: u32 :: u33 :: u34 :: u35 :: u36 :: u37 :: u38 :: u39 :: u40 :: u41 :: u42 :: u43 :: u44 :: u45 :: u46 :: u47 :: u48 :: u49 :: u50 :: u51 :: u52 :: u53 :: u54 :: u55 :: u56 :: u57 :: u58 :: u59 :: u60 :: u61 :: u62 :: u63 :: u64 :: u65 :: u66 :: u67 :: u68 :: u69 :: u70 :: u71 :: u72 :: u73 :: u74 :: u75 :: u76 :: u77 :: u78 :: u79 :: u80 :: u81 :: u82 :: u83 :: u84 :: u85 :: u86 :: u87 :: u88 :: u89 :: u90 :: u91 :: u92 :: u93 :: u94 :: u95 :: u96 :: u97 :: u98 :: u99 :: u100 :: u101 :: u102 :: u103 :: u104 :: u105 :: u106 :: u107 :: u108 :: u109 :: u110 :: u111 :: u112 :: u113 :: u114 :: u115 :: u116 :: u117 :: u118 :: u119 :: u120 :: u121 :: u122 :: u123 :: u124 :: u125 :: u126 :: u127 :: u128 :: u129 :: u130 :: u131 :: u132 :: u133 :: u134 :: u135 :: u136 :: u137 :: u138 :: u139 :: u140 :: u141 :: u142 :: u143 :: u144 :: u145 :: u146 :: u147 :: u148 :: u149 :: u150 :: u151 :: u152 :: u153 :: u154 :: u155 :: u156 :: u157 :: u158 :: u159 :: u160 :: u161 :: u162 :: u163 :: u164 :: u165 :: u166 :: u167 :: u168 :: u169 :: u170 :: u171 :: u172 :: u173 :: u174 :: u175 :: u176 :: u177 :: u178 :: u179 :: u180 :: u181 :: u182 :: u183 :: u184 :: u185 :: u186 :: u187 :: u188 :: u189 :: u190 :: u191 :: u192 :: u193 :: u194 :: u195 :: u196 :: u197 :: u198 :: u199 :: u200 :: u201 :: u202 :: u203 :: u204 :: u205 :: u206 :: u207 :: u208 :: u209 :: u210 :: u211 :: u212 :: u213 :: u214 :: u215 :: u216 :: u217 :: u218 :: u219 :: u220 :: u221 :: u222 :: u223 :: u224 :: u225 :: u226 :: u227 :: u228 :: u229 :: u230 :: u231 :: u232 :: u233 :: u234 :: u235 :: u236 :: u237 :: u238 :: u239 :: u240 :: u241 :: u242 :: u243 :: u244 :: u245 :: u246 :: u247 :: u248 :: u249 :: u250 :: u251 :: u252 :: u253 :: u254 :: u255 :: u256 :: u257 :: u258 :: u259 :: u260 :: u261 :: u262 :: u263 :: u264 :: u265 :: u266 :: u267 :: u268 :: u269 :: u270 :: u271 :: u272 :: u273 :: u274 :: u275 :: u276 :: u277 :: u278 :: u279 :: u280 :: u281 :: u282 :: u283 :: []), defers := [] } w4 := by
  letI : Base := ⟨⟨0⟩⟩
  dsimp only [cGo, Yba.f6, Option.getD]
  have HC := hide hC
  have HE := hide (And.intro hs hI)
  clear hC hs hI
  go_loopw [10, 13, 14, 15, 16, 17] (fun u10 v13 v14 v15 v16 v17 wr => ∃ (t : Nat) (bN sN : Bool) (mB mS : Int), t ≤ n ∧ v13 = .bool bN ∧ v14 = .bool sN ∧ v15 = .int .i64 mB ∧ v16 = .int .i64 mS ∧ v17 = .int .i64 t ∧ LS s lp n w2 w2.heap.size w3.heap.size t u10 bN sN mB mS wr) (fun _ _ _ _ _ v17 _ => n - (intOf v17).toNat)
  case atStart => exact ⟨0, _, _, _, _, by omega, rfl, rfl, rfl, rfl, rfl, L0⟩
  case round =>
    obtain ⟨t, bN, sN, mB, mS, htn, rfl, rfl, rfl, rfl, rfl, L⟩ := hrel
    clear L0
    by_cases ht : t < n
    · obtain rfl := ha (by omega)
      have hI := HE.out.2.under L.lm.below
      have d0 := hI.c0 t ht
      have d1 := hI.c1 t ht
      have d2 := hI.c2 t ht
      have d3 := hI.c3 t ht
      have d4 := hI.c4 t ht
      have r2 := hI.r2 t ht
      have r3 := hI.r3 t ht
      have r4 := hI.r4 t ht
      have HL := hide L
      have hid := fun w => cid_any (t : Int) (by omega) (by omega) w
      have hwr : IntKind.u64.wrap (t : Int) = t := by simp [IntKind.wrap, IntKind.signed, IntKind.bits]; omega
      simp only [hwr] at hid
      have HK := hide (show ∀ b, en t = b → trg s lp t = (decide (lp ≠ 0) && (if b then decide (st t % 20 + 1 ≤ lp) else decide (lp ≤ st t % 20 + 1))) from fun b hb => by rw [← HE.out.1]; simp only [trg, plainS, hb])
      have hlim := hide (show (s t).lim = li t % 21 by rw [← HE.out.1]; rfl)
      have hselE := hide (show (s t).sell = sl t by rw [← HE.out.1]; rfl)
      clear L HE hI
      by_cases hl0 : lp = 0
      · have HT := hide (show trg s lp t = false by rw [HK.out (en t) rfl]; simp [hl0])
        subst hl0
        go_wp2_with (go_at_call 99)
        go_roundw
        case rel => exact ⟨t + 1, _, _, _, _, by omega, rfl, rfl, rfl, rfl, by simp, HL.out.skip HT.out ((Below.refl _ _).alloc (Nat.le_refl _) _)⟩
        case measure => simp [intOf]; omega
      · have hb0 : (lp != 0) = true := by simp [hl0]
        cases hen : en t with
        | true =>
          rw [hen] at d0
          by_cases hsp : st t % 20 + 1 ≤ lp
          · skip
            have HT := hide (show trg s lp t = true by rw [HK.out true hen]; simp [hl0]; exact hsp)
            obtain ⟨ct, ft⟩ := HL.out.lm.cellT ht (flags_get ht)
            have zt : w2.heap.size < wr.heap.size := World.block_lt_of_cell? wr ⟨w2.heap.size, t, none⟩ ct
            clear hen
            go_wp2_with (go_at_call 99)
            rename_i K21 hK21 Kop hKop
            have HK21 := hide hK21
            clear hK21
            obtain ⟨NBX, hNBX⟩ : ∃ NBX, NBX = wr.heap.size := ⟨_, rfl⟩
            obtain ⟨w4', hw4'⟩ : ∃ w4', w4' = (wr.setCell ⟨w2.heap.size, t, none⟩ (.bool true)).alloc (.cells #[.bool true, .bool (sl t), .int .u8 (st t), .int .u8 (li t), .int .u16 (qy t)] 69) := ⟨_, rfl⟩
            have lm4 : LM w2 w2.heap.size w3.heap.size n u10 (actAll s (Tl s lp t)).2.length (evs (actAll s (Tl s lp t)).2) ((flags n (fun j => decide (j < t) && trg s lp j)).set t (.bool true)) (flags n (fun j => decide (j ∈ (actAll s (Tl s lp t)).1))) w4' := by rw [hw4']; exact (HL.out.lm.setT t (.bool true)).under ((Below.refl _ _).alloc (Nat.le_refl _) _)
            have hbx4 : w4'.heap[NBX]? = some (.cells #[.bool true, .bool (sl t), .int .u8 (st t), .int .u8 (li t), .int .u16 (qy t)] 69 (0, 0)) := by
              rw [hw4', hNBX]
              have := heap_alloc_new (wr.setCell ⟨w2.heap.size, t, none⟩ (.bool true)) (.cells #[.bool true, .bool (sl t), .int .u8 (st t), .int .u8 (li t), .int .u16 (qy t)] 69)
              simpa using this
            rw [← hw4', ← hNBX]
            clear hw4' ct ft zt d0 d1 d2 d3 d4
            refine (hid _).mono ?_
            rintro e w5 ⟨rfl, hB5⟩
            dsimp only
            have hbx : w5.heap[NBX]? = some (.cells #[.bool true, .bool (sl t), .int .u8 (st t), .int .u8 (li t), .int .u16 (qy t)] 69 (0, 0)) := (hB5.block NBX (Array.getElem?_eq_some_iff.1 hbx4).1).trans hbx4
            have hbs5 : w2.heap.size ≤ w5.heap.size := Nat.le_trans lm4.below.size hB5.size
            have H5 := hide (lm4.under hB5)
            have hNEb : (actAll s (Tl s lp t)).2.length ≤ 2048 := acts_len s lp (Nat.le_trans (Nat.le_of_lt ht) hn)
            obtain ⟨i3, hi3, hz3', hs3, hb3⟩ := info_parts info59
            clear lm4 hbx4 hB5 hNBX
            go_wp2_with ((at_builtin; refine wpList_append_lies _ rfl _ _ 40 rfl w2.heap.size 59 i3 _ 9 80 Yba.underlying40 hi3 hz3' hs3 hb3 rfl (by decide) u10 ((actAll s (Tl s lp t)).2.length) (evs (actAll s (Tl s lp t)).2) rfl (H5.out.want.alloc _) _ 1 1 (evc 5 t) rfl rfl (lit_cells' _ _ _ (by simp)) (by simp [evc, Value.oneCell']) (by omega) (by unfold maxLen; omega) (by omega) (by simp; omega) _ rfl ?_; intro g6 cap6 w6 hown6 hgrow6 hat6 hlt6; have lm6 := (H5.out.under ((Below.refl _ _).alloc (Nat.le_refl _) _)).append hgrow6 hown6; have H6 := hide lm6; obtain ⟨cR, fR⟩ := lm6.cellR ht (flags_get ht); have hbx6 := grown_keeps H5.out.want hgrow6 hbx (by decide); have b1 : w6.cell? ⟨NBX, 1, none⟩ = some (.bool (sl t)) := cell_of_row w6 NBX 1 _ 69 (0, 0) hbx6; clear hbx6; clear lm6 hown6 hgrow6 hat6 hlt6))
            refine HK21.out _ _ ?_
            clear HK21
            have HA := hide HL.out.agg
            refine dec_any ht hn HA.out hlim.out hselE.out b1 cR fR ?_ ?_ ?_
            · intro v99 v100 v101 v102 v103 v104 v105 v106 v107 v108 v109 v110 v111 v112 v113 v114 v115 v116 v117 v118 v119 v120 v121 v122 v123 v124 v125 v126 v127 v128 v129 v130 v131 v132 v133 v134 v135 v136 v137 v138 v139 v140 v141 v142 v143 v144 v145 v146 v147 v148 v149 v150 hbar
              have Hbar := hide hbar
              clear hbar hbx b1 cR fR
              go_wp2_with (go_at_call 99)
              have lm6 := H6.out
              refine (hid _).mono ?_
              rintro e w7 ⟨rfl, hB7⟩
              dsimp only
              have hbs7 : w2.heap.size ≤ w7.heap.size := Nat.le_trans lm6.below.size hB7.size
              have H7 := hide (lm6.under hB7)
              clear lm6
              go_wp2_with ((at_builtin; refine wpList_append_lies _ rfl _ _ 40 rfl w2.heap.size 59 i3 _ 9 80 Yba.underlying40 hi3 hz3' hs3 hb3 rfl (by decide) (.slice (some ⟨g6, 0, none⟩) ((actAll s (Tl s lp t)).2.length + 1) cap6) ((actAll s (Tl s lp t)).2.length + 1) (evs (actAll s (Tl s lp t)).2 ++ evc 5 t) rfl (H7.out.want.alloc _) _ 1 1 (evc 2 t) rfl rfl (lit_cells' _ _ _ (by simp)) (by simp [evc, Value.oneCell']) (by omega) (by unfold maxLen; omega) (by omega) (by simp; omega) _ rfl ?_; intro g8 cap8 w8 hown8 hgrow8 hat8 hlt8; have lm8 := (H7.out.under ((Below.refl _ _).alloc (Nat.le_refl _) _)).append hgrow8 hown8; have H8 := hide lm8;  clear lm8 hown8 hgrow8 hat8 hlt8))
              go_roundw
              case rel => exact ⟨t + 1, _, _, _, _, by omega, rfl, rfl, rfl, rfl, by simp, HL.out.bar HT.out Hbar.out H8.out⟩
              case measure => simp [intOf]; omega
            · intro v99 v100 v101 v102 v103 v104 v105 v106 v107 v108 v109 v110 v111 v112 v113 v114 v115 v116 v117 v118 v119 v120 v121 v122 v123 v124 v125 v126 v127 v128 v129 v130 v131 v132 v133 v134 v135 v136 v137 v138 v139 v140 v141 v142 v143 v144 v145 v146 v147 v148 v149 v150 hnb hz0
              have HZ := hide (And.intro hnb hz0)
              clear hnb hz0 hbx b1 cR fR
              go_wp2
              go_roundw
              case rel => exact ⟨t + 1, _, _, _, _, by omega, rfl, rfl, rfl, rfl, by simp, HL.out.zero HT.out HZ.out.1 HZ.out.2 H6.out⟩
              case measure => simp [intOf]; omega
            · intro v99 v100 v101 v102 v103 v104 v105 v106 v107 v108 v109 v110 v111 v112 v113 v114 v115 v116 v117 v118 v119 v120 v121 v122 v123 v124 v125 v126 v127 v128 v129 v130 v131 v132 v133 v134 v135 v136 v137 v138 v139 v140 v141 v142 v143 v144 v145 v146 v147 v148 v149 v150 bN' sN' mB' mS' hnb hz0 hagg
              have HZ := hide (And.intro hnb (And.intro hz0 hagg))
              clear hnb hz0 hagg hbx b1 cR fR
              go_wp2
              go_roundw
              case rel => exact ⟨t + 1, _, _, _, _, by omega, rfl, rfl, rfl, rfl, by simp, LS.rest HT.out HZ.out.1 HZ.out.2.1 (H6.out.setR t (.bool true)) HZ.out.2.2⟩
              case measure => simp [intOf]; omega
          · have HT := hide (show trg s lp t = false by rw [HK.out true hen]; simp; omega)
            clear hen
            go_wp2_with (go_at_call 99)
            go_roundw
            case rel => exact ⟨t + 1, _, _, _, _, by omega, rfl, rfl, rfl, rfl, by simp, HL.out.skip HT.out ((Below.refl _ _).alloc (Nat.le_refl _) _)⟩
            case measure => simp [intOf]; omega
        | false =>
          rw [hen] at d0
          by_cases hsp : lp ≤ st t % 20 + 1
          · skip
            have HT := hide (show trg s lp t = true by rw [HK.out false hen]; simp [hl0]; exact hsp)
            obtain ⟨ct, ft⟩ := HL.out.lm.cellT ht (flags_get ht)
            have zt : w2.heap.size < wr.heap.size := World.block_lt_of_cell? wr ⟨w2.heap.size, t, none⟩ ct
            clear hen
            go_wp2_with (go_at_call 99)
            rename_i K21 hK21 Kop hKop
            have HK21 := hide hK21
            clear hK21
            obtain ⟨NBX, hNBX⟩ : ∃ NBX, NBX = wr.heap.size := ⟨_, rfl⟩
            obtain ⟨w4', hw4'⟩ : ∃ w4', w4' = (wr.setCell ⟨w2.heap.size, t, none⟩ (.bool true)).alloc (.cells #[.bool false, .bool (sl t), .int .u8 (st t), .int .u8 (li t), .int .u16 (qy t)] 69) := ⟨_, rfl⟩
            have lm4 : LM w2 w2.heap.size w3.heap.size n u10 (actAll s (Tl s lp t)).2.length (evs (actAll s (Tl s lp t)).2) ((flags n (fun j => decide (j < t) && trg s lp j)).set t (.bool true)) (flags n (fun j => decide (j ∈ (actAll s (Tl s lp t)).1))) w4' := by rw [hw4']; exact (HL.out.lm.setT t (.bool true)).under ((Below.refl _ _).alloc (Nat.le_refl _) _)
            have hbx4 : w4'.heap[NBX]? = some (.cells #[.bool false, .bool (sl t), .int .u8 (st t), .int .u8 (li t), .int .u16 (qy t)] 69 (0, 0)) := by
              rw [hw4', hNBX]
              have := heap_alloc_new (wr.setCell ⟨w2.heap.size, t, none⟩ (.bool true)) (.cells #[.bool false, .bool (sl t), .int .u8 (st t), .int .u8 (li t), .int .u16 (qy t)] 69)
              simpa using this
            rw [← hw4', ← hNBX]
            clear hw4' ct ft zt d0 d1 d2 d3 d4
            refine (hid _).mono ?_
            rintro e w5 ⟨rfl, hB5⟩
            dsimp only
            have hbx : w5.heap[NBX]? = some (.cells #[.bool false, .bool (sl t), .int .u8 (st t), .int .u8 (li t), .int .u16 (qy t)] 69 (0, 0)) := (hB5.block NBX (Array.getElem?_eq_some_iff.1 hbx4).1).trans hbx4
            have hbs5 : w2.heap.size ≤ w5.heap.size := Nat.le_trans lm4.below.size hB5.size
            have H5 := hide (lm4.under hB5)
            have hNEb : (actAll s (Tl s lp t)).2.length ≤ 2048 := acts_len s lp (Nat.le_trans (Nat.le_of_lt ht) hn)
            obtain ⟨i3, hi3, hz3', hs3, hb3⟩ := info_parts info59
            clear lm4 hbx4 hB5 hNBX
            go_wp2_with ((at_builtin; refine wpList_append_lies _ rfl _ _ 40 rfl w2.heap.size 59 i3 _ 9 80 Yba.underlying40 hi3 hz3' hs3 hb3 rfl (by decide) u10 ((actAll s (Tl s lp t)).2.length) (evs (actAll s (Tl s lp t)).2) rfl (H5.out.want.alloc _) _ 1 1 (evc 5 t) rfl rfl (lit_cells' _ _ _ (by simp)) (by simp [evc, Value.oneCell']) (by omega) (by unfold maxLen; omega) (by omega) (by simp; omega) _ rfl ?_; intro g6 cap6 w6 hown6 hgrow6 hat6 hlt6; have lm6 := (H5.out.under ((Below.refl _ _).alloc (Nat.le_refl _) _)).append hgrow6 hown6; have H6 := hide lm6; obtain ⟨cR, fR⟩ := lm6.cellR ht (flags_get ht); have hbx6 := grown_keeps H5.out.want hgrow6 hbx (by decide); have b1 : w6.cell? ⟨NBX, 1, none⟩ = some (.bool (sl t)) := cell_of_row w6 NBX 1 _ 69 (0, 0) hbx6; clear hbx6; clear lm6 hown6 hgrow6 hat6 hlt6))
            refine HK21.out _ _ ?_
            clear HK21
            have HA := hide HL.out.agg
            refine dec_any ht hn HA.out hlim.out hselE.out b1 cR fR ?_ ?_ ?_
            · intro v99 v100 v101 v102 v103 v104 v105 v106 v107 v108 v109 v110 v111 v112 v113 v114 v115 v116 v117 v118 v119 v120 v121 v122 v123 v124 v125 v126 v127 v128 v129 v130 v131 v132 v133 v134 v135 v136 v137 v138 v139 v140 v141 v142 v143 v144 v145 v146 v147 v148 v149 v150 hbar
              have Hbar := hide hbar
              clear hbar hbx b1 cR fR
              go_wp2_with (go_at_call 99)
              have lm6 := H6.out
              refine (hid _).mono ?_
              rintro e w7 ⟨rfl, hB7⟩
              dsimp only
              have hbs7 : w2.heap.size ≤ w7.heap.size := Nat.le_trans lm6.below.size hB7.size
              have H7 := hide (lm6.under hB7)
              clear lm6
              go_wp2_with ((at_builtin; refine wpList_append_lies _ rfl _ _ 40 rfl w2.heap.size 59 i3 _ 9 80 Yba.underlying40 hi3 hz3' hs3 hb3 rfl (by decide) (.slice (some ⟨g6, 0, none⟩) ((actAll s (Tl s lp t)).2.length + 1) cap6) ((actAll s (Tl s lp t)).2.length + 1) (evs (actAll s (Tl s lp t)).2 ++ evc 5 t) rfl (H7.out.want.alloc _) _ 1 1 (evc 2 t) rfl rfl (lit_cells' _ _ _ (by simp)) (by simp [evc, Value.oneCell']) (by omega) (by unfold maxLen; omega) (by omega) (by simp; omega) _ rfl ?_; intro g8 cap8 w8 hown8 hgrow8 hat8 hlt8; have lm8 := (H7.out.under ((Below.refl _ _).alloc (Nat.le_refl _) _)).append hgrow8 hown8; have H8 := hide lm8;  clear lm8 hown8 hgrow8 hat8 hlt8))
              go_roundw
              case rel => exact ⟨t + 1, _, _, _, _, by omega, rfl, rfl, rfl, rfl, by simp, HL.out.bar HT.out Hbar.out H8.out⟩
              case measure => simp [intOf]; omega
            · intro v99 v100 v101 v102 v103 v104 v105 v106 v107 v108 v109 v110 v111 v112 v113 v114 v115 v116 v117 v118 v119 v120 v121 v122 v123 v124 v125 v126 v127 v128 v129 v130 v131 v132 v133 v134 v135 v136 v137 v138 v139 v140 v141 v142 v143 v144 v145 v146 v147 v148 v149 v150 hnb hz0
              have HZ := hide (And.intro hnb hz0)
              clear hnb hz0 hbx b1 cR fR
              go_wp2
              go_roundw
              case rel => exact ⟨t + 1, _, _, _, _, by omega, rfl, rfl, rfl, rfl, by simp, HL.out.zero HT.out HZ.out.1 HZ.out.2 H6.out⟩
              case measure => simp [intOf]; omega
            · intro v99 v100 v101 v102 v103 v104 v105 v106 v107 v108 v109 v110 v111 v112 v113 v114 v115 v116 v117 v118 v119 v120 v121 v122 v123 v124 v125 v126 v127 v128 v129 v130 v131 v132 v133 v134 v135 v136 v137 v138 v139 v140 v141 v142 v143 v144 v145 v146 v147 v148 v149 v150 bN' sN' mB' mS' hnb hz0 hagg
              have HZ := hide (And.intro hnb (And.intro hz0 hagg))
              clear hnb hz0 hagg hbx b1 cR fR
              go_wp2
              go_roundw
              case rel => exact ⟨t + 1, _, _, _, _, by omega, rfl, rfl, rfl, rfl, by simp, LS.rest HT.out HZ.out.1 HZ.out.2.1 (H6.out.setR t (.bool true)) HZ.out.2.2⟩
              case measure => simp [intOf]; omega
          · have HT := hide (show trg s lp t = false by rw [HK.out false hen]; simp; omega)
            clear hen
            go_wp2_with (go_at_call 99)
            go_roundw
            case rel => exact ⟨t + 1, _, _, _, _, by omega, rfl, rfl, rfl, rfl, by simp, HL.out.skip HT.out ((Below.refl _ _).alloc (Nat.le_refl _) _)⟩
            case measure => simp [intOf]; omega
    · obtain rfl : n = t := by omega
      have HL := hide L
      clear L
      go_wp2
      exact HC.out _ _ _ _ _ _ _ _ _ _ _ _ _ _ _ _ _ _ _ _ _ _ _ _ _ _ _ _ _ _ _ _ _ _ _ _ _ _ _ _ _ _ _ _ _ _ _ _ _ _ _ _ _ _ _ _ _ _ _ _ _ _ _ _ _ _ _ _ _ _ _ _ _ _ _ _ _ _ _ _ _ _ _ _ _ _ _ _ _ _ _ _ _ _ _ _ _ _ _ _ _ _ _ _ _ _ _ _ _ _ _ _ _ _ _ _ _ _ _ _ HL.out
end Go.Proofs.Ybulkjrk
