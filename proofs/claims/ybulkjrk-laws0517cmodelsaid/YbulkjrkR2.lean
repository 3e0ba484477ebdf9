/-
  OWN WORK: LawS0517CModel: what is rejected, what rests: the law's own decision.
-/
import Derived.Test.YbulkjrkR1
namespace Go.Proofs.Ybulkjrk
open Go.RowKit
set_option linter.unusedSimpArgs false
set_option linter.unusedVariables false
set_option linter.unusedSectionVars false
set_option maxRecDepth 100000
/-- A part of a code by its place. -/
def cGo : List Bool → Code → Code
  | [], c => c
  | true :: r, .seq _ y => cGo r y
  | false :: r, .seq x _ => cGo r x
  | _ :: r, .block _ x => cGo r x
  | _ :: r, .loop x => cGo r x
  | _ :: _, c => c
set_option maxHeartbeats 20000000 in
theorem dec_any {C : Code} {Q : Exit → Act → World → Prop} {w : World} {u0 u1 u2 u3 u4 u5 u6 u7 u8 u9 u10 u11 u19 u21 u22 u23 u24 u25 u26 u27 u28 u29 u30 u31 u32 u33 u34 u35 u36 u37 u38 u39 u40 u41 u42 u43 u44 u45 u46 u47 u48 u49 u50 u51 u52 u53 u54 u55 u56 u57 u58 u59 u60 u61 u62 u63 u64 u65 u66 u67 u68 u69 u70 u71 u72 u73 u74 u75 u76 u77 u78 u79 u80 u81 u82 u83 u84 u85 u86 u87 u88 u89 u90 u91 u92 u93 u94 u95 u96 u97 u98 u99 u100 u101 u102 u103 u104 u105 u106 u107 u108 u109 u110 u111 u112 u113 u114 u115 u116 u117 u118 u119 u120 u121 u122 u123 u124 u125 u126 u127 u128 u129 u130 u131 u132 u133 u134 u135 u136 u137 u138 u139 u140 u141 u142 u143 u144 u145 u146 u147 u148 u149 u150 u151 u152 u153 u154 u155 u156 u157 u158 u159 u160 u161 u162 u163 u164 u165 u166 u167 u168 u169 u170 u171 u172 u173 u174 u175 u176 u177 u178 u179 u180 u181 u182 u183 u184 u185 u186 u187 u188 u189 u190 u191 u192 u193 u194 u195 u196 u197 u198 u199 u200 u201 u202 u203 u204 u205 u206 u207 u208 u209 u210 u211 u212 u213 u214 u215 u216 u217 u218 u219 u220 u221 u222 u223 u224 u225 u226 u227 u228 u229 u230 u231 u232 u233 u234 u235 u236 u237 u238 u239 u240 u241 u242 u243 u244 u245 u246 u247 u248 u249 u250 u251 u252 u253 u254 u255 u256 u257 u258 u259 u260 u261 u262 u263 u264 u265 u266 u267 u268 u269 u270 u271 u272 u273 u274 u275 u276 u277 u278 u279 u280 u281 u282 u283 : Value} {s : Nat → Stp} {R : List Nat} {rb n t NB : Nat} {bN sN slt : Bool} {mB mS lim : Int} {v0 : Value} (ht : t < n) (hn : n ≤ 1024) (A : Agg s R bN sN mB mS) (hlim : (s t).lim = lim) (hsell : (s t).sell = slt)
    (b1 : w.cell? ⟨NB, 1, none⟩ = some (.bool slt)) (cR : w.cell? ⟨rb, t, none⟩ = some v0) (fR : w.frozen? ⟨rb, t, none⟩ = false)
    (hbar : ∀ (v99 v100 v101 v102 v103 v104 v105 v106 v107 v108 v109 v110 v111 v112 v113 v114 v115 v116 v117 v118 v119 v120 v121 v122 v123 v124 v125 v126 v127 v128 v129 v130 v131 v132 v133 v134 v135 v136 v137 v138 v139 v140 v141 v142 v143 v144 v145 v146 v147 v148 v149 v150 : Value), R.any (bars s t) = true → Code.wp Yba.prog C Q { tmps := List.toArray (u0 :: u1 :: u2 :: u3 :: u4 :: u5 :: u6 :: u7 :: u8 :: u9 :: u10 :: u11 :: .slice (some ⟨rb, 0, none⟩) n n :: .bool bN :: .bool sN :: .int .i64 mB :: .int .i64 mS :: .int .i64 t :: .pointer (some ⟨NB, 0, none⟩) :: u19 :: .int .i64 lim :: u21 :: .bool true :: u23 :: u24 :: u25 :: u26 :: u27 :: u28 :: u29 :: u30 :: u31 :: u32 :: u33 :: u34 :: u35 :: u36 :: u37 :: u38 :: u39 :: u40 :: u41 :: u42 :: u43 :: u44 :: u45 :: u46 :: u47 :: u48 :: u49 :: u50 :: u51 :: u52 :: u53 :: u54 :: u55 :: u56 :: u57 :: u58 :: u59 :: u60 :: u61 :: u62 :: u63 :: u64 :: u65 :: u66 :: u67 :: u68 :: u69 :: u70 :: u71 :: u72 :: u73 :: u74 :: u75 :: u76 :: u77 :: u78 :: u79 :: u80 :: u81 :: u82 :: u83 :: u84 :: u85 :: u86 :: u87 :: u88 :: u89 :: u90 :: u91 :: u92 :: u93 :: u94 :: u95 :: u96 :: u97 :: u98 :: v99 :: v100 :: v101 :: v102 :: v103 :: v104 :: v105 :: v106 :: v107 :: v108 :: v109 :: v110 :: v111 :: v112 :: v113 :: v114 :: v115 :: v116 :: v117 :: v118 :: v119 :: v120 :: v121 :: v122 :: v123 :: v124 :: v125 :: v126 :: v127 :: v128 :: v129 :: v130 :: v131 :: v132 :: v133 :: v134 :: v135 :: v136 :: v137 :: v138 :: v139 :: v140 :: v141 :: v142 :: v143 :: v144 :: v145 :: v146 :: v147 :: v148 :: v149 :: v150 :: u151 :: u152 :: u153 :: u154 :: u155 :: u156 :: u157 :: u158 :: u159 :: u160 :: u161 :: u162 :: u163 :: u164 :: u165 :: u166 :: u167 :: u168 :: u169 :: u170 :: u171 :: u172 :: u173 :: u174 :: u175 :: u176 :: u177 :: u178 :: u179 :: u180 :: u181 :: u182 :: u183 :: u184 :: u185 :: u186 :: u187 :: u188 :: u189 :: u190 :: u191 :: u192 :: u193 :: u194 :: u195 :: u196 :: u197 :: u198 :: u199 :: u200 :: u201 :: u202 :: u203 :: u204 :: u205 :: u206 :: u207 :: u208 :: u209 :: u210 :: u211 :: u212 :: u213 :: u214 :: u215 :: u216 :: u217 :: u218 :: u219 :: u220 :: u221 :: u222 :: u223 :: u224 :: u225 :: u226 :: u227 :: u228 :: u229 :: u230 :: u231 :: u232 :: u233 :: u234 :: u235 :: u236 :: u237 :: u238 :: u239 :: u240 :: u241 :: u242 :: u243 :: u244 :: u245 :: u246 :: u247 :: u248 :: u249 :: u250 :: u251 :: u252 :: u253 :: u254 :: u255 :: u256 :: u257 :: u258 :: u259 :: u260 :: u261 :: u262 :: u263 :: u264 :: u265 :: u266 :: u267 :: u268 :: u269 :: u270 :: u271 :: u272 :: u273 :: u274 :: u275 :: u276 :: u277 :: u278 :: u279 :: u280 :: u281 :: u282 :: u283 :: []), defers := [] } w)
    (hzero : ∀ (v99 v100 v101 v102 v103 v104 v105 v106 v107 v108 v109 v110 v111 v112 v113 v114 v115 v116 v117 v118 v119 v120 v121 v122 v123 v124 v125 v126 v127 v128 v129 v130 v131 v132 v133 v134 v135 v136 v137 v138 v139 v140 v141 v142 v143 v144 v145 v146 v147 v148 v149 v150 : Value), ¬ R.any (bars s t) = true → (s t).lim = 0 → Code.wp Yba.prog C Q { tmps := List.toArray (u0 :: u1 :: u2 :: u3 :: u4 :: u5 :: u6 :: u7 :: u8 :: u9 :: u10 :: u11 :: .slice (some ⟨rb, 0, none⟩) n n :: .bool bN :: .bool sN :: .int .i64 mB :: .int .i64 mS :: .int .i64 t :: .pointer (some ⟨NB, 0, none⟩) :: u19 :: .int .i64 lim :: u21 :: .bool false :: u23 :: u24 :: u25 :: u26 :: u27 :: u28 :: u29 :: u30 :: u31 :: u32 :: u33 :: u34 :: u35 :: u36 :: u37 :: u38 :: u39 :: u40 :: u41 :: u42 :: u43 :: u44 :: u45 :: u46 :: u47 :: u48 :: u49 :: u50 :: u51 :: u52 :: u53 :: u54 :: u55 :: u56 :: u57 :: u58 :: u59 :: u60 :: u61 :: u62 :: u63 :: u64 :: u65 :: u66 :: u67 :: u68 :: u69 :: u70 :: u71 :: u72 :: u73 :: u74 :: u75 :: u76 :: u77 :: u78 :: u79 :: u80 :: u81 :: u82 :: u83 :: u84 :: u85 :: u86 :: u87 :: u88 :: u89 :: u90 :: u91 :: u92 :: u93 :: u94 :: u95 :: u96 :: u97 :: u98 :: v99 :: v100 :: v101 :: v102 :: v103 :: v104 :: v105 :: v106 :: v107 :: v108 :: v109 :: v110 :: v111 :: v112 :: v113 :: v114 :: v115 :: v116 :: v117 :: v118 :: v119 :: v120 :: v121 :: v122 :: v123 :: v124 :: v125 :: v126 :: v127 :: v128 :: v129 :: v130 :: v131 :: v132 :: v133 :: v134 :: v135 :: v136 :: v137 :: v138 :: v139 :: v140 :: v141 :: v142 :: v143 :: v144 :: v145 :: v146 :: v147 :: v148 :: v149 :: v150 :: u151 :: u152 :: u153 :: u154 :: u155 :: u156 :: u157 :: u158 :: u159 :: u160 :: u161 :: u162 :: u163 :: u164 :: u165 :: u166 :: u167 :: u168 :: u169 :: u170 :: u171 :: u172 :: u173 :: u174 :: u175 :: u176 :: u177 :: u178 :: u179 :: u180 :: u181 :: u182 :: u183 :: u184 :: u185 :: u186 :: u187 :: u188 :: u189 :: u190 :: u191 :: u192 :: u193 :: u194 :: u195 :: u196 :: u197 :: u198 :: u199 :: u200 :: u201 :: u202 :: u203 :: u204 :: u205 :: u206 :: u207 :: u208 :: u209 :: u210 :: u211 :: u212 :: u213 :: u214 :: u215 :: u216 :: u217 :: u218 :: u219 :: u220 :: u221 :: u222 :: u223 :: u224 :: u225 :: u226 :: u227 :: u228 :: u229 :: u230 :: u231 :: u232 :: u233 :: u234 :: u235 :: u236 :: u237 :: u238 :: u239 :: u240 :: u241 :: u242 :: u243 :: u244 :: u245 :: u246 :: u247 :: u248 :: u249 :: u250 :: u251 :: u252 :: u253 :: u254 :: u255 :: u256 :: u257 :: u258 :: u259 :: u260 :: u261 :: u262 :: u263 :: u264 :: u265 :: u266 :: u267 :: u268 :: u269 :: u270 :: u271 :: u272 :: u273 :: u274 :: u275 :: u276 :: u277 :: u278 :: u279 :: u280 :: u281 :: u282 :: u283 :: []), defers := [] } w)
    (hrest : ∀ (v99 v100 v101 v102 v103 v104 v105 v106 v107 v108 v109 v110 v111 v112 v113 v114 v115 v116 v117 v118 v119 v120 v121 v122 v123 v124 v125 v126 v127 v128 v129 v130 v131 v132 v133 v134 v135 v136 v137 v138 v139 v140 v141 v142 v143 v144 v145 v146 v147 v148 v149 v150 : Value) (bN' sN' : Bool) (mB' mS' : Int), ¬ R.any (bars s t) = true → ¬ (s t).lim = 0 → Agg s (R ++ [t]) bN' sN' mB' mS' → Code.wp Yba.prog C Q { tmps := List.toArray (u0 :: u1 :: u2 :: u3 :: u4 :: u5 :: u6 :: u7 :: u8 :: u9 :: u10 :: u11 :: .slice (some ⟨rb, 0, none⟩) n n :: .bool bN' :: .bool sN' :: .int .i64 mB' :: .int .i64 mS' :: .int .i64 t :: .pointer (some ⟨NB, 0, none⟩) :: u19 :: .int .i64 lim :: u21 :: .bool false :: u23 :: u24 :: u25 :: u26 :: u27 :: u28 :: u29 :: u30 :: u31 :: u32 :: u33 :: u34 :: u35 :: u36 :: u37 :: u38 :: u39 :: u40 :: u41 :: u42 :: u43 :: u44 :: u45 :: u46 :: u47 :: u48 :: u49 :: u50 :: u51 :: u52 :: u53 :: u54 :: u55 :: u56 :: u57 :: u58 :: u59 :: u60 :: u61 :: u62 :: u63 :: u64 :: u65 :: u66 :: u67 :: u68 :: u69 :: u70 :: u71 :: u72 :: u73 :: u74 :: u75 :: u76 :: u77 :: u78 :: u79 :: u80 :: u81 :: u82 :: u83 :: u84 :: u85 :: u86 :: u87 :: u88 :: u89 :: u90 :: u91 :: u92 :: u93 :: u94 :: u95 :: u96 :: u97 :: u98 :: v99 :: v100 :: v101 :: v102 :: v103 :: v104 :: v105 :: v106 :: v107 :: v108 :: v109 :: v110 :: v111 :: v112 :: v113 :: v114 :: v115 :: v116 :: v117 :: v118 :: v119 :: v120 :: v121 :: v122 :: v123 :: v124 :: v125 :: v126 :: v127 :: v128 :: v129 :: v130 :: v131 :: v132 :: v133 :: v134 :: v135 :: v136 :: v137 :: v138 :: v139 :: v140 :: v141 :: v142 :: v143 :: v144 :: v145 :: v146 :: v147 :: v148 :: v149 :: v150 :: u151 :: u152 :: u153 :: u154 :: u155 :: u156 :: u157 :: u158 :: u159 :: u160 :: u161 :: u162 :: u163 :: u164 :: u165 :: u166 :: u167 :: u168 :: u169 :: u170 :: u171 :: u172 :: u173 :: u174 :: u175 :: u176 :: u177 :: u178 :: u179 :: u180 :: u181 :: u182 :: u183 :: u184 :: u185 :: u186 :: u187 :: u188 :: u189 :: u190 :: u191 :: u192 :: u193 :: u194 :: u195 :: u196 :: u197 :: u198 :: u199 :: u200 :: u201 :: u202 :: u203 :: u204 :: u205 :: u206 :: u207 :: u208 :: u209 :: u210 :: u211 :: u212 :: u213 :: u214 :: u215 :: u216 :: u217 :: u218 :: u219 :: u220 :: u221 :: u222 :: u223 :: u224 :: u225 :: u226 :: u227 :: u228 :: u229 :: u230 :: u231 :: u232 :: u233 :: u234 :: u235 :: u236 :: u237 :: u238 :: u239 :: u240 :: u241 :: u242 :: u243 :: u244 :: u245 :: u246 :: u247 :: u248 :: u249 :: u250 :: u251 :: u252 :: u253 :: u254 :: u255 :: u256 :: u257 :: u258 :: u259 :: u260 :: u261 :: u262 :: u263 :: u264 :: u265 :: u266 :: u267 :: u268 :: u269 :: u270 :: u271 :: u272 :: u273 :: u274 :: u275 :: u276 :: u277 :: u278 :: u279 :: u280 :: u281 :: u282 :: u283 :: []), defers := [] } (w.setCell ⟨rb, t, none⟩ (.bool true))) :
    Code.wp Yba.prog (Code.seq (cGo [true, true, true, true, true, true, true, true, true, true, true, false, true, false, false, true, false, false, true, true, true, true, true, true, true, false] (Yba.f6.body.getD .skip)) (Code.seq (cGo [true, true, true, true, true, true, true, true, true, true, true, false, true, false, false, true, false, false, true, true, true, true, true, true, true, true, false] (Yba.f6.body.getD .skip)) C)) Q { tmps := List.toArray (u0 :: u1 :: u2 :: u3 :: u4 :: u5 :: u6 :: u7 :: u8 :: u9 :: u10 :: u11 :: .slice (some ⟨rb, 0, none⟩) n n :: .bool bN :: .bool sN :: .int .i64 mB :: .int .i64 mS :: .int .i64 t :: .pointer (some ⟨NB, 0, none⟩) :: u19 :: .int .i64 lim :: u21 :: u22 :: u23 :: u24 :: u25 :: u26 :: u27 :: u28 :: u29 :: u30 :: u31 :: u32 :: u33 :: u34 :: u35 :: u36 :: u37 :: u38 :: u39 :: u40 :: u41 :: u42 :: u43 :: u44 :: u45 :: u46 :: u47 :: u48 :: u49 :: u50 :: u51 :: u52 :: u53 :: u54 :: u55 :: u56 :: u57 :: u58 :: u59 :: u60 :: u61 :: u62 :: u63 :: u64 :: u65 :: u66 :: u67 :: u68 :: u69 :: u70 :: u71 :: u72 :: u73 :: u74 :: u75 :: u76 :: u77 :: u78 :: u79 :: u80 :: u81 :: u82 :: u83 :: u84 :: u85 :: u86 :: u87 :: u88 :: u89 :: u90 :: u91 :: u92 :: u93 :: u94 :: u95 :: u96 :: u97 :: u98 :: u99 :: u100 :: u101 :: u102 :: u103 :: u104 :: u105 :: u106 :: u107 :: u108 :: u109 :: u110 :: u111 :: u112 :: u113 :: u114 :: u115 :: u116 :: u117 :: u118 :: u119 :: u120 :: u121 :: u122 :: u123 :: u124 :: u125 :: u126 :: u127 :: u128 :: u129 :: u130 :: u131 :: u132 :: u133 :: u134 :: u135 :: u136 :: u137 :: u138 :: u139 :: u140 :: u141 :: u142 :: u143 :: u144 :: u145 :: u146 :: u147 :: u148 :: u149 :: u150 :: u151 :: u152 :: u153 :: u154 :: u155 :: u156 :: u157 :: u158 :: u159 :: u160 :: u161 :: u162 :: u163 :: u164 :: u165 :: u166 :: u167 :: u168 :: u169 :: u170 :: u171 :: u172 :: u173 :: u174 :: u175 :: u176 :: u177 :: u178 :: u179 :: u180 :: u181 :: u182 :: u183 :: u184 :: u185 :: u186 :: u187 :: u188 :: u189 :: u190 :: u191 :: u192 :: u193 :: u194 :: u195 :: u196 :: u197 :: u198 :: u199 :: u200 :: u201 :: u202 :: u203 :: u204 :: u205 :: u206 :: u207 :: u208 :: u209 :: u210 :: u211 :: u212 :: u213 :: u214 :: u215 :: u216 :: u217 :: u218 :: u219 :: u220 :: u221 :: u222 :: u223 :: u224 :: u225 :: u226 :: u227 :: u228 :: u229 :: u230 :: u231 :: u232 :: u233 :: u234 :: u235 :: u236 :: u237 :: u238 :: u239 :: u240 :: u241 :: u242 :: u243 :: u244 :: u245 :: u246 :: u247 :: u248 :: u249 :: u250 :: u251 :: u252 :: u253 :: u254 :: u255 :: u256 :: u257 :: u258 :: u259 :: u260 :: u261 :: u262 :: u263 :: u264 :: u265 :: u266 :: u267 :: u268 :: u269 :: u270 :: u271 :: u272 :: u273 :: u274 :: u275 :: u276 :: u277 :: u278 :: u279 :: u280 :: u281 :: u282 :: u283 :: []), defers := [] } w := by
  dsimp only [cGo, Yba.f6, Option.getD]
  have HA := hide A
  have hlimH := hide hlim
  have hbarH := hide hbar
  have hzeroH := hide hzero
  have hrestH := hide hrest
  have htI : (t : Int) < (n : Int) := by omega
  clear hbar hzero hrest A hlim
  by_cases hz : lim = 0
  · have hzb : (lim == 0) = true := by simp [hz]
    cases slt with
    | false =>
      have hsellH := hide hsell
      clear hsell
      cases sN with
      | true =>
        go_wp2
        exact hbarH.out _ _ _ _ _ _ _ _ _ _ _ _ _ _ _ _ _ _ _ _ _ _ _ _ _ _ _ _ _ _ _ _ _ _ _ _ _ _ _ _ _ _ _ _ _ _ _ _ _ _ _ _ ((HA.out.zBuy (hlimH.out.trans hz) hsellH.out).2 rfl)
      | false =>
        go_wp2
        exact hzeroH.out _ _ _ _ _ _ _ _ _ _ _ _ _ _ _ _ _ _ _ _ _ _ _ _ _ _ _ _ _ _ _ _ _ _ _ _ _ _ _ _ _ _ _ _ _ _ _ _ _ _ _ _ (fun e => by cases (HA.out.zBuy (hlimH.out.trans hz) hsellH.out).1 e) (hlimH.out.trans hz)
    | true =>
      have hsellH := hide hsell
      clear hsell
      cases bN with
      | true =>
        go_wp2
        exact hbarH.out _ _ _ _ _ _ _ _ _ _ _ _ _ _ _ _ _ _ _ _ _ _ _ _ _ _ _ _ _ _ _ _ _ _ _ _ _ _ _ _ _ _ _ _ _ _ _ _ _ _ _ _ ((HA.out.zSell (hlimH.out.trans hz) hsellH.out).2 rfl)
      | false =>
        go_wp2
        exact hzeroH.out _ _ _ _ _ _ _ _ _ _ _ _ _ _ _ _ _ _ _ _ _ _ _ _ _ _ _ _ _ _ _ _ _ _ _ _ _ _ _ _ _ _ _ _ _ _ _ _ _ _ _ _ (fun e => by cases (HA.out.zSell (hlimH.out.trans hz) hsellH.out).1 e) (hlimH.out.trans hz)
  · have hzb : (lim == 0) = false := by simp [hz]
    cases slt with
    | false =>
      have hsellH := hide hsell
      clear hsell
      cases sN with
      | false =>
        cases bN with
        | false =>
          go_wp2
          exact hrestH.out _ _ _ _ _ _ _ _ _ _ _ _ _ _ _ _ _ _ _ _ _ _ _ _ _ _ _ _ _ _ _ _ _ _ _ _ _ _ _ _ _ _ _ _ _ _ _ _ _ _ _ _ _ _ _ _ (fun e => by cases ((HA.out.buy (fun e => hz (hlimH.out.symm.trans e)) hsellH.out).1 e).1) (fun e => hz (hlimH.out.symm.trans e)) (HA.out.addB hsellH.out (.inr ⟨.inl rfl, hlimH.out.symm⟩))
        | true =>
          by_cases hm : mB < lim
          · skip
            go_wp2
            exact hrestH.out _ _ _ _ _ _ _ _ _ _ _ _ _ _ _ _ _ _ _ _ _ _ _ _ _ _ _ _ _ _ _ _ _ _ _ _ _ _ _ _ _ _ _ _ _ _ _ _ _ _ _ _ _ _ _ _ (fun e => by cases ((HA.out.buy (fun e => hz (hlimH.out.symm.trans e)) hsellH.out).1 e).1) (fun e => hz (hlimH.out.symm.trans e)) (HA.out.addB hsellH.out (.inr ⟨.inr (by rw [hlimH.out]; exact hm), hlimH.out.symm⟩))
          · skip
            go_wp2
            exact hrestH.out _ _ _ _ _ _ _ _ _ _ _ _ _ _ _ _ _ _ _ _ _ _ _ _ _ _ _ _ _ _ _ _ _ _ _ _ _ _ _ _ _ _ _ _ _ _ _ _ _ _ _ _ _ _ _ _ (fun e => by cases ((HA.out.buy (fun e => hz (hlimH.out.symm.trans e)) hsellH.out).1 e).1) (fun e => hz (hlimH.out.symm.trans e)) (HA.out.addB hsellH.out (.inl ⟨rfl, by rw [hlimH.out]; omega, rfl⟩))
      | true =>
        by_cases hc : mS ≤ lim
        · skip
          go_wp2
          exact hbarH.out _ _ _ _ _ _ _ _ _ _ _ _ _ _ _ _ _ _ _ _ _ _ _ _ _ _ _ _ _ _ _ _ _ _ _ _ _ _ _ _ _ _ _ _ _ _ _ _ _ _ _ _ ((HA.out.buy (fun e => hz (hlimH.out.symm.trans e)) hsellH.out).2 ⟨rfl, by rw [hlimH.out]; exact hc⟩)
        · skip
          cases bN with
          | false =>
            go_wp2
            exact hrestH.out _ _ _ _ _ _ _ _ _ _ _ _ _ _ _ _ _ _ _ _ _ _ _ _ _ _ _ _ _ _ _ _ _ _ _ _ _ _ _ _ _ _ _ _ _ _ _ _ _ _ _ _ _ _ _ _ (fun e => by have h := ((HA.out.buy (fun e => hz (hlimH.out.symm.trans e)) hsellH.out).1 e).2; rw [hlimH.out] at h; omega) (fun e => hz (hlimH.out.symm.trans e)) (HA.out.addB hsellH.out (.inr ⟨.inl rfl, hlimH.out.symm⟩))
          | true =>
            by_cases hm : mB < lim
            · skip
              go_wp2
              exact hrestH.out _ _ _ _ _ _ _ _ _ _ _ _ _ _ _ _ _ _ _ _ _ _ _ _ _ _ _ _ _ _ _ _ _ _ _ _ _ _ _ _ _ _ _ _ _ _ _ _ _ _ _ _ _ _ _ _ (fun e => by have h := ((HA.out.buy (fun e => hz (hlimH.out.symm.trans e)) hsellH.out).1 e).2; rw [hlimH.out] at h; omega) (fun e => hz (hlimH.out.symm.trans e)) (HA.out.addB hsellH.out (.inr ⟨.inr (by rw [hlimH.out]; exact hm), hlimH.out.symm⟩))
            · skip
              go_wp2
              exact hrestH.out _ _ _ _ _ _ _ _ _ _ _ _ _ _ _ _ _ _ _ _ _ _ _ _ _ _ _ _ _ _ _ _ _ _ _ _ _ _ _ _ _ _ _ _ _ _ _ _ _ _ _ _ _ _ _ _ (fun e => by have h := ((HA.out.buy (fun e => hz (hlimH.out.symm.trans e)) hsellH.out).1 e).2; rw [hlimH.out] at h; omega) (fun e => hz (hlimH.out.symm.trans e)) (HA.out.addB hsellH.out (.inl ⟨rfl, by rw [hlimH.out]; omega, rfl⟩))
    | true =>
      have hsellH := hide hsell
      clear hsell
      cases bN with
      | false =>
        cases sN with
        | false =>
          go_wp2
          exact hrestH.out _ _ _ _ _ _ _ _ _ _ _ _ _ _ _ _ _ _ _ _ _ _ _ _ _ _ _ _ _ _ _ _ _ _ _ _ _ _ _ _ _ _ _ _ _ _ _ _ _ _ _ _ _ _ _ _ (fun e => by cases ((HA.out.sell (fun e => hz (hlimH.out.symm.trans e)) hsellH.out).1 e).1) (fun e => hz (hlimH.out.symm.trans e)) (HA.out.addS hsellH.out (.inr ⟨.inl rfl, hlimH.out.symm⟩))
        | true =>
          by_cases hm : lim < mS
          · skip
            go_wp2
            exact hrestH.out _ _ _ _ _ _ _ _ _ _ _ _ _ _ _ _ _ _ _ _ _ _ _ _ _ _ _ _ _ _ _ _ _ _ _ _ _ _ _ _ _ _ _ _ _ _ _ _ _ _ _ _ _ _ _ _ (fun e => by cases ((HA.out.sell (fun e => hz (hlimH.out.symm.trans e)) hsellH.out).1 e).1) (fun e => hz (hlimH.out.symm.trans e)) (HA.out.addS hsellH.out (.inr ⟨.inr (by rw [hlimH.out]; exact hm), hlimH.out.symm⟩))
          · skip
            go_wp2
            exact hrestH.out _ _ _ _ _ _ _ _ _ _ _ _ _ _ _ _ _ _ _ _ _ _ _ _ _ _ _ _ _ _ _ _ _ _ _ _ _ _ _ _ _ _ _ _ _ _ _ _ _ _ _ _ _ _ _ _ (fun e => by cases ((HA.out.sell (fun e => hz (hlimH.out.symm.trans e)) hsellH.out).1 e).1) (fun e => hz (hlimH.out.symm.trans e)) (HA.out.addS hsellH.out (.inl ⟨rfl, by rw [hlimH.out]; omega, rfl⟩))
      | true =>
        by_cases hc : lim ≤ mB
        · skip
          go_wp2
          exact hbarH.out _ _ _ _ _ _ _ _ _ _ _ _ _ _ _ _ _ _ _ _ _ _ _ _ _ _ _ _ _ _ _ _ _ _ _ _ _ _ _ _ _ _ _ _ _ _ _ _ _ _ _ _ ((HA.out.sell (fun e => hz (hlimH.out.symm.trans e)) hsellH.out).2 ⟨rfl, by rw [hlimH.out]; exact hc⟩)
        · skip
          cases sN with
          | false =>
            go_wp2
            exact hrestH.out _ _ _ _ _ _ _ _ _ _ _ _ _ _ _ _ _ _ _ _ _ _ _ _ _ _ _ _ _ _ _ _ _ _ _ _ _ _ _ _ _ _ _ _ _ _ _ _ _ _ _ _ _ _ _ _ (fun e => by have h := ((HA.out.sell (fun e => hz (hlimH.out.symm.trans e)) hsellH.out).1 e).2; rw [hlimH.out] at h; omega) (fun e => hz (hlimH.out.symm.trans e)) (HA.out.addS hsellH.out (.inr ⟨.inl rfl, hlimH.out.symm⟩))
          | true =>
            by_cases hm : lim < mS
            · skip
              go_wp2
              exact hrestH.out _ _ _ _ _ _ _ _ _ _ _ _ _ _ _ _ _ _ _ _ _ _ _ _ _ _ _ _ _ _ _ _ _ _ _ _ _ _ _ _ _ _ _ _ _ _ _ _ _ _ _ _ _ _ _ _ (fun e => by have h := ((HA.out.sell (fun e => hz (hlimH.out.symm.trans e)) hsellH.out).1 e).2; rw [hlimH.out] at h; omega) (fun e => hz (hlimH.out.symm.trans e)) (HA.out.addS hsellH.out (.inr ⟨.inr (by rw [hlimH.out]; exact hm), hlimH.out.symm⟩))
            · skip
              go_wp2
              exact hrestH.out _ _ _ _ _ _ _ _ _ _ _ _ _ _ _ _ _ _ _ _ _ _ _ _ _ _ _ _ _ _ _ _ _ _ _ _ _ _ _ _ _ _ _ _ _ _ _ _ _ _ _ _ _ _ _ _ (fun e => by have h := ((HA.out.sell (fun e => hz (hlimH.out.symm.trans e)) hsellH.out).1 e).2; rw [hlimH.out] at h; omega) (fun e => hz (hlimH.out.symm.trans e)) (HA.out.addS hsellH.out (.inl ⟨rfl, by rw [hlimH.out]; omega, rfl⟩))
end Go.Proofs.Ybulkjrk
