/-
  Seat b6612715aF: Scan's loop, piece C: the window is moved to the buffer's head.
-/
import Derived.Test.Qxb6612715aFmtScan1
namespace Go.Proofs.Qxb6612715aFmt.W
open Go.RowKit
open Go.Proofs.Qxb6612715aFmt.Plain
set_option linter.unusedVariables false

set_option maxRecDepth 100000 in
set_option maxHeartbeats 4000000 in
theorem pieceC1 (S : Nat) (w : World) (a : Act) (K : Act → World → Prop) (Q : Exit → Act → World → Prop) (hF : Fr S a) (bo : Option Addr) (n en : Nat) (c4 : w.cell? ⟨S, 4, none⟩ = some (.slice bo n n)) (c5 : w.cell? ⟨S, 5, none⟩ = some (.int .i64 0)) (c6 : w.cell? ⟨S, 6, none⟩ = some (.int .i64 en))
    (hK : ∀ a w', Fr S a → Mem w w' → K a w') (hQ : True) :
    Code.wp Tryf.prog (pC Tryf.f17.body) (Exit.then K Q) a w := by
  refine fr_elim (motive := fun a => Code.wp Tryf.prog _ _ a w) hF ?_
  intro u1 u2 u3 u4 u5 u6 u7 u8 u9 u10 u11 u12 u13 u14 u15 u16 u17 u18 u19 u20 u21 u22 u23 u24 u25 u26 u27 u28 u29 u30 u31 u32 u33 u34 u35 u36 u37 u38 u39 u40 u41 u42 u43 u44 u45 u46 u47 u48 u49 u50 u51 u52 u53 u54 u55 u56 u57 u58 u59 u60 u61 u62 u63 u64 u65 u66 u67 u68 u69 u70 u71 u72 u73 u74 u75 u76 u77 u78 u79 u80 u81 u82 u83 u84 u85 u86 u87 u88 u89 u90 u91 u92 u93 u94 u95 u96 u97 u98 u99 u100 u101 u102 u103 u104 u105 u106 u107 u108 u109 u110 u111 u112 u113 u114 u115 u116 u117 u118 u119 u120 u121 u122 u123 u124 u125 u126 u127 u128 u129 u130 u131 u132 u133 u134 u135 u136 u137 u138 u139 u140 u141 u142 u143 u144 u145 u146 u147 u148 u149 u150 u151 u152 u153 u154 u155 u156 u157 u158 u159 u160 u161 u162 u163 u164 u165 u166 u167 u168 u169 u170 u171 u172 u173 u174 u175 u176 u177 u178 u179 u180 u181 u182 u183 u184 u185 u186 u187 u188 u189 u190 u191 u192 u193 u194 u195 u196 u197 u198 u199 u200 u201 u202 u203 u204 u205 u206 u207 u208 u209 u210 u211 u212 u213 u214 u215 u216 u217 u218 u219 u220 u221 u222 u223 u224 u225 u226 u227 u228 u229 u230 u231 u232 u233 u234 u235 u236 u237 u238 u239 u240 u241 u242 u243 u244 u245 u246 u247 u248 u249 u250 u251 u252 u253 u254 u255 u256 u257 u258 u259 u260 u261 u262 u263 u264 u265 u266 u267 u268 u269 u270 u271 u272 u273 u274 u275 u276 u277 u278 u279 u280 u281 u282 u283 u284 u285 u286 u287 u288 u289 u290 u291 u292 u293 u294 u295 u296 u297 u298 u299 u300 u301 u302 u303 u304 u305 u306 u307 u308 u309 u310 u311 u312 u313 u314 u315 u316 u317 u318 u319 u320 u321 u322 u323 u324 u325 u326 u327 u328 u329 u330 u331 u332 u333
  have HK := Lib.hid hK
  have HQ := Lib.hid hQ
  clear hK hQ hF
  conv => arg 2; whnf
  have hd : decide ((0 : Int) < (0 : Int)) = false := by simp
  go_wp2
  go_quiet (fail)
  go_wp2
  exact HK.out _ _ ⟨rfl, _, rfl, rfl⟩ ⟨rfl, rfl, rfl, rfl⟩

set_option maxRecDepth 100000 in
set_option maxHeartbeats 4000000 in
theorem pieceC2 (S : Nat) (w : World) (a : Act) (K : Act → World → Prop) (Q : Exit → Act → World → Prop) (hF : Fr S a) (bo : Option Addr) (n st en : Nat) (h0 : 0 < st) (hne : en ≠ n) (hst : ¬ (n / 2 < st)) (hn : (n : Int) ≤ 65536) (hen : en ≤ n) (c4 : w.cell? ⟨S, 4, none⟩ = some (.slice bo n n)) (c5 : w.cell? ⟨S, 5, none⟩ = some (.int .i64 st)) (c6 : w.cell? ⟨S, 6, none⟩ = some (.int .i64 en))
    (hK : ∀ a w', Fr S a → Mem w w' → K a w') (hQ : True) :
    Code.wp Tryf.prog (pC Tryf.f17.body) (Exit.then K Q) a w := by
  refine fr_elim (motive := fun a => Code.wp Tryf.prog _ _ a w) hF ?_
  intro u1 u2 u3 u4 u5 u6 u7 u8 u9 u10 u11 u12 u13 u14 u15 u16 u17 u18 u19 u20 u21 u22 u23 u24 u25 u26 u27 u28 u29 u30 u31 u32 u33 u34 u35 u36 u37 u38 u39 u40 u41 u42 u43 u44 u45 u46 u47 u48 u49 u50 u51 u52 u53 u54 u55 u56 u57 u58 u59 u60 u61 u62 u63 u64 u65 u66 u67 u68 u69 u70 u71 u72 u73 u74 u75 u76 u77 u78 u79 u80 u81 u82 u83 u84 u85 u86 u87 u88 u89 u90 u91 u92 u93 u94 u95 u96 u97 u98 u99 u100 u101 u102 u103 u104 u105 u106 u107 u108 u109 u110 u111 u112 u113 u114 u115 u116 u117 u118 u119 u120 u121 u122 u123 u124 u125 u126 u127 u128 u129 u130 u131 u132 u133 u134 u135 u136 u137 u138 u139 u140 u141 u142 u143 u144 u145 u146 u147 u148 u149 u150 u151 u152 u153 u154 u155 u156 u157 u158 u159 u160 u161 u162 u163 u164 u165 u166 u167 u168 u169 u170 u171 u172 u173 u174 u175 u176 u177 u178 u179 u180 u181 u182 u183 u184 u185 u186 u187 u188 u189 u190 u191 u192 u193 u194 u195 u196 u197 u198 u199 u200 u201 u202 u203 u204 u205 u206 u207 u208 u209 u210 u211 u212 u213 u214 u215 u216 u217 u218 u219 u220 u221 u222 u223 u224 u225 u226 u227 u228 u229 u230 u231 u232 u233 u234 u235 u236 u237 u238 u239 u240 u241 u242 u243 u244 u245 u246 u247 u248 u249 u250 u251 u252 u253 u254 u255 u256 u257 u258 u259 u260 u261 u262 u263 u264 u265 u266 u267 u268 u269 u270 u271 u272 u273 u274 u275 u276 u277 u278 u279 u280 u281 u282 u283 u284 u285 u286 u287 u288 u289 u290 u291 u292 u293 u294 u295 u296 u297 u298 u299 u300 u301 u302 u303 u304 u305 u306 u307 u308 u309 u310 u311 u312 u313 u314 u315 u316 u317 u318 u319 u320 u321 u322 u323 u324 u325 u326 u327 u328 u329 u330 u331 u332 u333
  have HK := Lib.hid hK
  have HQ := Lib.hid hQ
  clear hK hQ hF
  conv => arg 2; whnf
  have g1 : (0 : Int) < (st : Int) := by omega
  have g2 : ((en : Int) == (n : Int)) = false := by rw [beq_eq_false_iff_ne]; omega
  have g3 : ¬ ((n : Int) / 2 < (st : Int)) := by omega
  have g4 : decide ((n : Int) / 2 < (st : Int)) = false := by simpa using g3
  have g0 : (0 : Int) ≤ (n : Int) := by omega
  go_wp2
  go_quiet (fail)
  go_wp2
  exact HK.out _ _ ⟨rfl, _, rfl, rfl⟩ ⟨rfl, rfl, rfl, rfl⟩

set_option maxRecDepth 100000 in
set_option maxHeartbeats 4000000 in
theorem pieceC3 (S : Nat) (w : World) (a : Act) (K : Act → World → Prop) (Q : Exit → Act → World → Prop) (hF : Fr S a) (B n st en : Nat) (M : Array Value) (cs : List Value) (h0 : 0 < st) (hse : st < en) (he : en = n) (hn : (n : Int) ≤ 65536) (hen : en ≤ n) (hSB : S ≠ B) (hB : w.heap[B]? = some (.cells M 5 (0, 0))) (hM : M.size = n)
    (hcs : cs.length = en - st) (hcs1 : ∀ j v, cs[j]? = some v → w.cell? ⟨B, st + j, none⟩ = some v) (hone : ∀ v ∈ cs, v.oneCell' = true) (c4 : w.cell? ⟨S, 4, none⟩ = some (.slice (some ⟨B, 0, none⟩) n n)) (c5 : w.cell? ⟨S, 5, none⟩ = some (.int .i64 st)) (c6 : w.cell? ⟨S, 6, none⟩ = some (.int .i64 en)) (cz : ∀ k, w.frozen? ⟨S, k, none⟩ = false)
    (hK : ∀ a w', Fr S a → Mem (((w.setRow B (cs ++ M.toList.drop (en - st)).toArray).setCell ⟨S, 6, none⟩ (.int .i64 ((en : Int) - (st : Int)))).setCell ⟨S, 5, none⟩ (.int .i64 0)) w' → K a w') (hQ : True) :
    Code.wp Tryf.prog (pC Tryf.f17.body) (Exit.then K Q) a w := by
  have hcp := fun (W : World) (hW : W.heap = w.heap) => run_copy_row Tryf.prog W 36 36 3 5 B 0 n n ⟨B, st, none⟩ (en - st) (n - st) M 5 cs Tryf.underlying36 size5 (by rw [hW]; exact hB) (by rw [hcs]; exact (Nat.min_eq_left (by omega)).symm)
    (fun j v hj => by
      have := hcs1 j v hj
      have e : (⟨B, st, none⟩ : Addr).add j = ⟨B, st + j, none⟩ := by unfold Addr.add; split <;> simp_all
      rw [e]
      simp only [World.cell?] at this ⊢
      rw [hW]; exact this) (by omega) hone
  rw [hcs] at hcp
  simp only [List.take_zero, List.nil_append, Nat.zero_add] at hcp
  generalize (cs ++ M.toList.drop (en - st)).toArray = Y at hcp hK
  refine fr_elim (motive := fun a => Code.wp Tryf.prog _ _ a w) hF ?_
  intro u1 u2 u3 u4 u5 u6 u7 u8 u9 u10 u11 u12 u13 u14 u15 u16 u17 u18 u19 u20 u21 u22 u23 u24 u25 u26 u27 u28 u29 u30 u31 u32 u33 u34 u35 u36 u37 u38 u39 u40 u41 u42 u43 u44 u45 u46 u47 u48 u49 u50 u51 u52 u53 u54 u55 u56 u57 u58 u59 u60 u61 u62 u63 u64 u65 u66 u67 u68 u69 u70 u71 u72 u73 u74 u75 u76 u77 u78 u79 u80 u81 u82 u83 u84 u85 u86 u87 u88 u89 u90 u91 u92 u93 u94 u95 u96 u97 u98 u99 u100 u101 u102 u103 u104 u105 u106 u107 u108 u109 u110 u111 u112 u113 u114 u115 u116 u117 u118 u119 u120 u121 u122 u123 u124 u125 u126 u127 u128 u129 u130 u131 u132 u133 u134 u135 u136 u137 u138 u139 u140 u141 u142 u143 u144 u145 u146 u147 u148 u149 u150 u151 u152 u153 u154 u155 u156 u157 u158 u159 u160 u161 u162 u163 u164 u165 u166 u167 u168 u169 u170 u171 u172 u173 u174 u175 u176 u177 u178 u179 u180 u181 u182 u183 u184 u185 u186 u187 u188 u189 u190 u191 u192 u193 u194 u195 u196 u197 u198 u199 u200 u201 u202 u203 u204 u205 u206 u207 u208 u209 u210 u211 u212 u213 u214 u215 u216 u217 u218 u219 u220 u221 u222 u223 u224 u225 u226 u227 u228 u229 u230 u231 u232 u233 u234 u235 u236 u237 u238 u239 u240 u241 u242 u243 u244 u245 u246 u247 u248 u249 u250 u251 u252 u253 u254 u255 u256 u257 u258 u259 u260 u261 u262 u263 u264 u265 u266 u267 u268 u269 u270 u271 u272 u273 u274 u275 u276 u277 u278 u279 u280 u281 u282 u283 u284 u285 u286 u287 u288 u289 u290 u291 u292 u293 u294 u295 u296 u297 u298 u299 u300 u301 u302 u303 u304 u305 u306 u307 u308 u309 u310 u311 u312 u313 u314 u315 u316 u317 u318 u319 u320 u321 u322 u323 u324 u325 u326 u327 u328 u329 u330 u331 u332 u333
  have HK := Lib.hid hK
  have HQ := Lib.hid hQ
  clear hK hQ hF
  conv => arg 2; whnf
  subst he
  have g1 : ((en : Int) == (en : Int)) = true := by simp
  have g5 : (0 : Int) ≤ (st : Int) := by omega
  have g6 : (st : Int) ≤ (en : Int) := by omega
  have g9 : ¬ en = st := by omega
  have g8 : (0 : Int) < (st : Int) := by omega
  clear hcs hcs1 hone
  go_wp2
  go_quiet (fail)
  go_wp2
  have hcp' := hcp (w.drewN (nq + 1)) rfl
  obtain ⟨W2, hW2⟩ : ∃ W2, W2 = (w.drewN (nq + 1)).setRow B Y := ⟨_, rfl⟩
  rw [← hW2] at hcp'
  have k5 : W2.cell? ⟨S, 5, none⟩ = some (.int .i64 st) := by
    have := c5
    simp only [World.cell?] at this ⊢
    rw [hW2, setRow_other _ _ _ _ hSB]; exact this
  have k6 : W2.cell? ⟨S, 6, none⟩ = some (.int .i64 en) := by
    have := c6
    simp only [World.cell?] at this ⊢
    rw [hW2, setRow_other _ _ _ _ hSB]; exact this
  have k4 : W2.cell? ⟨S, 4, none⟩ = some (.slice (some ⟨B, 0, none⟩) en en) := by
    have := c4
    simp only [World.cell?] at this ⊢
    rw [hW2, setRow_other _ _ _ _ hSB]; exact this
  have kz : ∀ k, W2.frozen? ⟨S, k, none⟩ = false := fun k => by
    have := cz k
    simp only [World.frozen?] at this ⊢
    rw [hW2, setRow_other _ _ _ _ hSB]; exact this
  have HM : Hid (Mem (w.setRow B Y) W2) := by rw [hW2]; exact ⟨rfl, rfl, rfl, rfl⟩
  clear hW2 hcp hB hM
  go_region_held3 (fun w' => w'.cell? ⟨S, 4, none⟩ = some (.slice (some ⟨B, 0, none⟩) en en) ∧ w'.cell? ⟨S, 5, none⟩ = some (.int .i64 st) ∧ w'.cell? ⟨S, 6, none⟩ = some (.int .i64 en)) (go_keep) (fail)
  clear hcp' c4 c5 c6 cz k4
  go_wp2
  go_region
  go_wp2
  exact HK.out _ _ ⟨rfl, _, rfl, rfl⟩ ((HM.out.setCell _ _).setCell _ _)

set_option maxRecDepth 100000 in
set_option maxHeartbeats 4000000 in
theorem pieceC4 (S : Nat) (w : World) (a : Act) (K : Act → World → Prop) (Q : Exit → Act → World → Prop) (hF : Fr S a) (B n st en : Nat) (M : Array Value) (cs : List Value) (h0 : 0 < st) (hse : st < en) (hne : en ≠ n) (hst : n / 2 < st) (hn : (n : Int) ≤ 65536) (hen : en ≤ n) (hSB : S ≠ B) (hB : w.heap[B]? = some (.cells M 5 (0, 0))) (hM : M.size = n)
    (hcs : cs.length = en - st) (hcs1 : ∀ j v, cs[j]? = some v → w.cell? ⟨B, st + j, none⟩ = some v) (hone : ∀ v ∈ cs, v.oneCell' = true) (c4 : w.cell? ⟨S, 4, none⟩ = some (.slice (some ⟨B, 0, none⟩) n n)) (c5 : w.cell? ⟨S, 5, none⟩ = some (.int .i64 st)) (c6 : w.cell? ⟨S, 6, none⟩ = some (.int .i64 en)) (cz : ∀ k, w.frozen? ⟨S, k, none⟩ = false)
    (hK : ∀ a w', Fr S a → Mem (((w.setRow B (cs ++ M.toList.drop (en - st)).toArray).setCell ⟨S, 6, none⟩ (.int .i64 ((en : Int) - (st : Int)))).setCell ⟨S, 5, none⟩ (.int .i64 0)) w' → K a w') (hQ : True) :
    Code.wp Tryf.prog (pC Tryf.f17.body) (Exit.then K Q) a w := by
  have hcp := fun (W : World) (hW : W.heap = w.heap) => run_copy_row Tryf.prog W 36 36 3 5 B 0 n n ⟨B, st, none⟩ (en - st) (n - st) M 5 cs Tryf.underlying36 size5 (by rw [hW]; exact hB) (by rw [hcs]; exact (Nat.min_eq_left (by omega)).symm)
    (fun j v hj => by
      have := hcs1 j v hj
      have e : (⟨B, st, none⟩ : Addr).add j = ⟨B, st + j, none⟩ := by unfold Addr.add; split <;> simp_all
      rw [e]
      simp only [World.cell?] at this ⊢
      rw [hW]; exact this) (by omega) hone
  rw [hcs] at hcp
  simp only [List.take_zero, List.nil_append, Nat.zero_add] at hcp
  generalize (cs ++ M.toList.drop (en - st)).toArray = Y at hcp hK
  refine fr_elim (motive := fun a => Code.wp Tryf.prog _ _ a w) hF ?_
  intro u1 u2 u3 u4 u5 u6 u7 u8 u9 u10 u11 u12 u13 u14 u15 u16 u17 u18 u19 u20 u21 u22 u23 u24 u25 u26 u27 u28 u29 u30 u31 u32 u33 u34 u35 u36 u37 u38 u39 u40 u41 u42 u43 u44 u45 u46 u47 u48 u49 u50 u51 u52 u53 u54 u55 u56 u57 u58 u59 u60 u61 u62 u63 u64 u65 u66 u67 u68 u69 u70 u71 u72 u73 u74 u75 u76 u77 u78 u79 u80 u81 u82 u83 u84 u85 u86 u87 u88 u89 u90 u91 u92 u93 u94 u95 u96 u97 u98 u99 u100 u101 u102 u103 u104 u105 u106 u107 u108 u109 u110 u111 u112 u113 u114 u115 u116 u117 u118 u119 u120 u121 u122 u123 u124 u125 u126 u127 u128 u129 u130 u131 u132 u133 u134 u135 u136 u137 u138 u139 u140 u141 u142 u143 u144 u145 u146 u147 u148 u149 u150 u151 u152 u153 u154 u155 u156 u157 u158 u159 u160 u161 u162 u163 u164 u165 u166 u167 u168 u169 u170 u171 u172 u173 u174 u175 u176 u177 u178 u179 u180 u181 u182 u183 u184 u185 u186 u187 u188 u189 u190 u191 u192 u193 u194 u195 u196 u197 u198 u199 u200 u201 u202 u203 u204 u205 u206 u207 u208 u209 u210 u211 u212 u213 u214 u215 u216 u217 u218 u219 u220 u221 u222 u223 u224 u225 u226 u227 u228 u229 u230 u231 u232 u233 u234 u235 u236 u237 u238 u239 u240 u241 u242 u243 u244 u245 u246 u247 u248 u249 u250 u251 u252 u253 u254 u255 u256 u257 u258 u259 u260 u261 u262 u263 u264 u265 u266 u267 u268 u269 u270 u271 u272 u273 u274 u275 u276 u277 u278 u279 u280 u281 u282 u283 u284 u285 u286 u287 u288 u289 u290 u291 u292 u293 u294 u295 u296 u297 u298 u299 u300 u301 u302 u303 u304 u305 u306 u307 u308 u309 u310 u311 u312 u313 u314 u315 u316 u317 u318 u319 u320 u321 u322 u323 u324 u325 u326 u327 u328 u329 u330 u331 u332 u333
  have HK := Lib.hid hK
  have HQ := Lib.hid hQ
  clear hK hQ hF
  conv => arg 2; whnf
  have g2 : ((en : Int) == (n : Int)) = false := by rw [beq_eq_false_iff_ne]; omega
  have g3 : (n : Int) / 2 < (st : Int) := by omega
  have g4 : decide ((n : Int) / 2 < (st : Int)) = true := by simpa using g3
  have g0 : (0 : Int) ≤ (n : Int) := by omega
  have g5 : (0 : Int) ≤ (st : Int) := by omega
  have g6 : (st : Int) ≤ (en : Int) := by omega
  have g9 : ¬ en = st := by omega
  have g7 : (en : Int) ≤ (n : Int) := by omega
  have g8 : (0 : Int) < (st : Int) := by omega
  clear hcs hcs1 hone
  go_wp2
  go_quiet (fail)
  go_wp2
  have hcp' := hcp (w.drewN (nq + 1)) rfl
  obtain ⟨W2, hW2⟩ : ∃ W2, W2 = (w.drewN (nq + 1)).setRow B Y := ⟨_, rfl⟩
  rw [← hW2] at hcp'
  have k5 : W2.cell? ⟨S, 5, none⟩ = some (.int .i64 st) := by
    have := c5
    simp only [World.cell?] at this ⊢
    rw [hW2, setRow_other _ _ _ _ hSB]; exact this
  have k6 : W2.cell? ⟨S, 6, none⟩ = some (.int .i64 en) := by
    have := c6
    simp only [World.cell?] at this ⊢
    rw [hW2, setRow_other _ _ _ _ hSB]; exact this
  have k4 : W2.cell? ⟨S, 4, none⟩ = some (.slice (some ⟨B, 0, none⟩) n n) := by
    have := c4
    simp only [World.cell?] at this ⊢
    rw [hW2, setRow_other _ _ _ _ hSB]; exact this
  have kz : ∀ k, W2.frozen? ⟨S, k, none⟩ = false := fun k => by
    have := cz k
    simp only [World.frozen?] at this ⊢
    rw [hW2, setRow_other _ _ _ _ hSB]; exact this
  have HM : Hid (Mem (w.setRow B Y) W2) := by rw [hW2]; exact ⟨rfl, rfl, rfl, rfl⟩
  clear hW2 hcp hB hM
  go_region_held3 (fun w' => w'.cell? ⟨S, 4, none⟩ = some (.slice (some ⟨B, 0, none⟩) n n) ∧ w'.cell? ⟨S, 5, none⟩ = some (.int .i64 st) ∧ w'.cell? ⟨S, 6, none⟩ = some (.int .i64 en)) (go_keep) (fail)
  clear hcp' c4 c5 c6 cz k4
  go_wp2
  go_region
  go_wp2
  exact HK.out _ _ ⟨rfl, _, rfl, rfl⟩ ((HM.out.setCell _ _).setCell _ _)

set_option maxRecDepth 100000 in
set_option maxHeartbeats 4000000 in
theorem pieceC5 (S : Nat) (w : World) (a : Act) (K : Act → World → Prop) (Q : Exit → Act → World → Prop) (hF : Fr S a) (B n st : Nat) (h0 : 0 < st) (he : st = n) (hn : (n : Int) ≤ 65536) (hen : st ≤ n) (c4 : w.cell? ⟨S, 4, none⟩ = some (.slice (some ⟨B, 0, none⟩) n n)) (c5 : w.cell? ⟨S, 5, none⟩ = some (.int .i64 st)) (c6 : w.cell? ⟨S, 6, none⟩ = some (.int .i64 st)) (cz : ∀ k, w.frozen? ⟨S, k, none⟩ = false)
    (hK : ∀ a w', Fr S a → Mem ((w.setCell ⟨S, 6, none⟩ (.int .i64 0)).setCell ⟨S, 5, none⟩ (.int .i64 0)) w' → K a w') (hQ : True) :
    Code.wp Tryf.prog (pC Tryf.f17.body) (Exit.then K Q) a w := by
  refine fr_elim (motive := fun a => Code.wp Tryf.prog _ _ a w) hF ?_
  intro u1 u2 u3 u4 u5 u6 u7 u8 u9 u10 u11 u12 u13 u14 u15 u16 u17 u18 u19 u20 u21 u22 u23 u24 u25 u26 u27 u28 u29 u30 u31 u32 u33 u34 u35 u36 u37 u38 u39 u40 u41 u42 u43 u44 u45 u46 u47 u48 u49 u50 u51 u52 u53 u54 u55 u56 u57 u58 u59 u60 u61 u62 u63 u64 u65 u66 u67 u68 u69 u70 u71 u72 u73 u74 u75 u76 u77 u78 u79 u80 u81 u82 u83 u84 u85 u86 u87 u88 u89 u90 u91 u92 u93 u94 u95 u96 u97 u98 u99 u100 u101 u102 u103 u104 u105 u106 u107 u108 u109 u110 u111 u112 u113 u114 u115 u116 u117 u118 u119 u120 u121 u122 u123 u124 u125 u126 u127 u128 u129 u130 u131 u132 u133 u134 u135 u136 u137 u138 u139 u140 u141 u142 u143 u144 u145 u146 u147 u148 u149 u150 u151 u152 u153 u154 u155 u156 u157 u158 u159 u160 u161 u162 u163 u164 u165 u166 u167 u168 u169 u170 u171 u172 u173 u174 u175 u176 u177 u178 u179 u180 u181 u182 u183 u184 u185 u186 u187 u188 u189 u190 u191 u192 u193 u194 u195 u196 u197 u198 u199 u200 u201 u202 u203 u204 u205 u206 u207 u208 u209 u210 u211 u212 u213 u214 u215 u216 u217 u218 u219 u220 u221 u222 u223 u224 u225 u226 u227 u228 u229 u230 u231 u232 u233 u234 u235 u236 u237 u238 u239 u240 u241 u242 u243 u244 u245 u246 u247 u248 u249 u250 u251 u252 u253 u254 u255 u256 u257 u258 u259 u260 u261 u262 u263 u264 u265 u266 u267 u268 u269 u270 u271 u272 u273 u274 u275 u276 u277 u278 u279 u280 u281 u282 u283 u284 u285 u286 u287 u288 u289 u290 u291 u292 u293 u294 u295 u296 u297 u298 u299 u300 u301 u302 u303 u304 u305 u306 u307 u308 u309 u310 u311 u312 u313 u314 u315 u316 u317 u318 u319 u320 u321 u322 u323 u324 u325 u326 u327 u328 u329 u330 u331 u332 u333
  have HK := Lib.hid hK
  have HQ := Lib.hid hQ
  clear hK hQ hF
  conv => arg 2; whnf
  subst he
  have g1 : ((st : Int) == (st : Int)) = true := by simp
  have g5 : (0 : Int) ≤ (st : Int) := by omega
  have g8 : (0 : Int) < (st : Int) := by omega
  have hcp : ∀ (W : World) (sp : Option Addr) (c : Nat), (Builtin.copy_ #[36, 36] 3 #[.slice (some ⟨B, 0, none⟩) st st, .slice sp 0 c]).run Tryf.prog W = .ok (goInt 0) W := fun W sp c => run_copy_none W 36 36 3 5 (some ⟨B, 0, none⟩) sp st st 0 c Tryf.underlying36 size5 (Nat.zero_min _)
  go_wp2
  go_quiet (fail)
  go_wp2
  go_region_held3 (fun w' => w'.cell? ⟨S, 4, none⟩ = some (.slice (some ⟨B, 0, none⟩) st st) ∧ w'.cell? ⟨S, 5, none⟩ = some (.int .i64 st) ∧ w'.cell? ⟨S, 6, none⟩ = some (.int .i64 st)) (go_keep) (fail)
  go_wp2
  go_region
  go_wp2
  exact HK.out _ _ ⟨rfl, _, rfl, rfl⟩ ⟨rfl, rfl, rfl, rfl⟩

set_option maxRecDepth 100000 in
set_option maxHeartbeats 4000000 in
theorem pieceC6 (S : Nat) (w : World) (a : Act) (K : Act → World → Prop) (Q : Exit → Act → World → Prop) (hF : Fr S a) (B n st : Nat) (h0 : 0 < st) (hne : st ≠ n) (hst : n / 2 < st) (hn : (n : Int) ≤ 65536) (hen : st ≤ n) (c4 : w.cell? ⟨S, 4, none⟩ = some (.slice (some ⟨B, 0, none⟩) n n)) (c5 : w.cell? ⟨S, 5, none⟩ = some (.int .i64 st)) (c6 : w.cell? ⟨S, 6, none⟩ = some (.int .i64 st)) (cz : ∀ k, w.frozen? ⟨S, k, none⟩ = false)
    (hK : ∀ a w', Fr S a → Mem ((w.setCell ⟨S, 6, none⟩ (.int .i64 0)).setCell ⟨S, 5, none⟩ (.int .i64 0)) w' → K a w') (hQ : True) :
    Code.wp Tryf.prog (pC Tryf.f17.body) (Exit.then K Q) a w := by
  refine fr_elim (motive := fun a => Code.wp Tryf.prog _ _ a w) hF ?_
  intro u1 u2 u3 u4 u5 u6 u7 u8 u9 u10 u11 u12 u13 u14 u15 u16 u17 u18 u19 u20 u21 u22 u23 u24 u25 u26 u27 u28 u29 u30 u31 u32 u33 u34 u35 u36 u37 u38 u39 u40 u41 u42 u43 u44 u45 u46 u47 u48 u49 u50 u51 u52 u53 u54 u55 u56 u57 u58 u59 u60 u61 u62 u63 u64 u65 u66 u67 u68 u69 u70 u71 u72 u73 u74 u75 u76 u77 u78 u79 u80 u81 u82 u83 u84 u85 u86 u87 u88 u89 u90 u91 u92 u93 u94 u95 u96 u97 u98 u99 u100 u101 u102 u103 u104 u105 u106 u107 u108 u109 u110 u111 u112 u113 u114 u115 u116 u117 u118 u119 u120 u121 u122 u123 u124 u125 u126 u127 u128 u129 u130 u131 u132 u133 u134 u135 u136 u137 u138 u139 u140 u141 u142 u143 u144 u145 u146 u147 u148 u149 u150 u151 u152 u153 u154 u155 u156 u157 u158 u159 u160 u161 u162 u163 u164 u165 u166 u167 u168 u169 u170 u171 u172 u173 u174 u175 u176 u177 u178 u179 u180 u181 u182 u183 u184 u185 u186 u187 u188 u189 u190 u191 u192 u193 u194 u195 u196 u197 u198 u199 u200 u201 u202 u203 u204 u205 u206 u207 u208 u209 u210 u211 u212 u213 u214 u215 u216 u217 u218 u219 u220 u221 u222 u223 u224 u225 u226 u227 u228 u229 u230 u231 u232 u233 u234 u235 u236 u237 u238 u239 u240 u241 u242 u243 u244 u245 u246 u247 u248 u249 u250 u251 u252 u253 u254 u255 u256 u257 u258 u259 u260 u261 u262 u263 u264 u265 u266 u267 u268 u269 u270 u271 u272 u273 u274 u275 u276 u277 u278 u279 u280 u281 u282 u283 u284 u285 u286 u287 u288 u289 u290 u291 u292 u293 u294 u295 u296 u297 u298 u299 u300 u301 u302 u303 u304 u305 u306 u307 u308 u309 u310 u311 u312 u313 u314 u315 u316 u317 u318 u319 u320 u321 u322 u323 u324 u325 u326 u327 u328 u329 u330 u331 u332 u333
  have HK := Lib.hid hK
  have HQ := Lib.hid hQ
  clear hK hQ hF
  conv => arg 2; whnf
  have g2 : ((st : Int) == (n : Int)) = false := by rw [beq_eq_false_iff_ne]; omega
  have g3 : (n : Int) / 2 < (st : Int) := by omega
  have g4 : decide ((n : Int) / 2 < (st : Int)) = true := by simpa using g3
  have g0 : (0 : Int) ≤ (n : Int) := by omega
  have g7 : (st : Int) ≤ (n : Int) := by omega
  have g9 : ¬ n = st := by omega
  have g5 : (0 : Int) ≤ (st : Int) := by omega
  have g8 : (0 : Int) < (st : Int) := by omega
  have hcp : ∀ (W : World) (sp : Option Addr) (c : Nat), (Builtin.copy_ #[36, 36] 3 #[.slice (some ⟨B, 0, none⟩) n n, .slice sp 0 c]).run Tryf.prog W = .ok (goInt 0) W := fun W sp c => run_copy_none W 36 36 3 5 (some ⟨B, 0, none⟩) sp n n 0 c Tryf.underlying36 size5 (Nat.zero_min _)
  go_wp2
  go_quiet (fail)
  go_wp2
  go_region_held3 (fun w' => w'.cell? ⟨S, 4, none⟩ = some (.slice (some ⟨B, 0, none⟩) n n) ∧ w'.cell? ⟨S, 5, none⟩ = some (.int .i64 st) ∧ w'.cell? ⟨S, 6, none⟩ = some (.int .i64 st)) (go_keep) (fail)
  go_wp2
  go_region
  go_wp2
  exact HK.out _ _ ⟨rfl, _, rfl, rfl⟩ ⟨rfl, rfl, rfl, rfl⟩
end Go.Proofs.Qxb6612715aFmt.W
