/-
  Seat b6612715aF: Scan's loop, piece D: a full buffer grows, or the line is too long.
-/
import Derived.Test.Qxb6612715aFmtScan1
namespace Go.Proofs.Qxb6612715aFmt.W
open Go.RowKit
open Go.Proofs.Qxb6612715aFmt.Plain
set_option linter.unusedVariables false

set_option maxRecDepth 100000 in
set_option maxHeartbeats 4000000 in
theorem pieceD0 (S : Nat) (w : World) (a : Act) (K : Act → World → Prop) (Q : Exit → Act → World → Prop) (hF : Fr S a) (bo : Option Addr) (n en : Nat) (hne : en ≠ n) (c4 : w.cell? ⟨S, 4, none⟩ = some (.slice bo n n)) (c6 : w.cell? ⟨S, 6, none⟩ = some (.int .i64 en))
    (hK : ∀ a w', Fr S a → Mem w w' → K a w') (hQ : True) :
    Code.wp Tryf.prog (pD Tryf.f17.body) (Exit.then K Q) a w := by
  refine fr_elim (motive := fun a => Code.wp Tryf.prog _ _ a w) hF ?_
  intro u1 u2 u3 u4 u5 u6 u7 u8 u9 u10 u11 u12 u13 u14 u15 u16 u17 u18 u19 u20 u21 u22 u23 u24 u25 u26 u27 u28 u29 u30 u31 u32 u33 u34 u35 u36 u37 u38 u39 u40 u41 u42 u43 u44 u45 u46 u47 u48 u49 u50 u51 u52 u53 u54 u55 u56 u57 u58 u59 u60 u61 u62 u63 u64 u65 u66 u67 u68 u69 u70 u71 u72 u73 u74 u75 u76 u77 u78 u79 u80 u81 u82 u83 u84 u85 u86 u87 u88 u89 u90 u91 u92 u93 u94 u95 u96 u97 u98 u99 u100 u101 u102 u103 u104 u105 u106 u107 u108 u109 u110 u111 u112 u113 u114 u115 u116 u117 u118 u119 u120 u121 u122 u123 u124 u125 u126 u127 u128 u129 u130 u131 u132 u133 u134 u135 u136 u137 u138 u139 u140 u141 u142 u143 u144 u145 u146 u147 u148 u149 u150 u151 u152 u153 u154 u155 u156 u157 u158 u159 u160 u161 u162 u163 u164 u165 u166 u167 u168 u169 u170 u171 u172 u173 u174 u175 u176 u177 u178 u179 u180 u181 u182 u183 u184 u185 u186 u187 u188 u189 u190 u191 u192 u193 u194 u195 u196 u197 u198 u199 u200 u201 u202 u203 u204 u205 u206 u207 u208 u209 u210 u211 u212 u213 u214 u215 u216 u217 u218 u219 u220 u221 u222 u223 u224 u225 u226 u227 u228 u229 u230 u231 u232 u233 u234 u235 u236 u237 u238 u239 u240 u241 u242 u243 u244 u245 u246 u247 u248 u249 u250 u251 u252 u253 u254 u255 u256 u257 u258 u259 u260 u261 u262 u263 u264 u265 u266 u267 u268 u269 u270 u271 u272 u273 u274 u275 u276 u277 u278 u279 u280 u281 u282 u283 u284 u285 u286 u287 u288 u289 u290 u291 u292 u293 u294 u295 u296 u297 u298 u299 u300 u301 u302 u303 u304 u305 u306 u307 u308 u309 u310 u311 u312 u313 u314 u315 u316 u317 u318 u319 u320 u321 u322 u323 u324 u325 u326 u327 u328 u329 u330 u331 u332 u333
  have HK := Lib.hid hK
  have HQ := Lib.hid hQ
  clear hK hQ hF
  conv => arg 2; whnf
  have g2 : ((en : Int) == (n : Int)) = false := by rw [beq_eq_false_iff_ne]; omega
  go_wp2
  go_quiet (fail)
  go_wp2
  exact HK.out _ _ ⟨rfl, _, rfl, rfl⟩ ⟨rfl, rfl, rfl, rfl⟩

set_option maxRecDepth 100000 in
set_option maxHeartbeats 4000000 in
theorem pieceD1 (S : Nat) (w : World) (a : Act) (K : Act → World → Prop) (Q : Exit → Act → World → Prop) (hF : Fr S a) (bo : Option Addr) (n : Nat) (a2 : Addr) (hge : (65536 : Int) ≤ (n : Int)) (hle : (n : Int) ≤ 65536) (c2 : w.cell? ⟨S, 2, none⟩ = some (.int .i64 65536)) (c4 : w.cell? ⟨S, 4, none⟩ = some (.slice bo n n)) (c6 : w.cell? ⟨S, 6, none⟩ = some (.int .i64 n)) (c7 : w.cell? ⟨S, 7, none⟩ = some .nilIface) (cz : ∀ k, w.frozen? ⟨S, k, none⟩ = false)
    (hg : w.cell? ⟨2, 0, none⟩ = some (.iface 76 (.pointer (some a2))))
    (hK : True) (hQ : ∀ a w', Fr S a → a.tmps[2]? = some (.bool false) → Mem (w.setCell ⟨S, 7, none⟩ (.iface 76 (.pointer (some a2)))) w' → Q .ret a w') :
    Code.wp Tryf.prog (pD Tryf.f17.body) (Exit.then K Q) a w := by
  refine fr_elim (motive := fun a => Code.wp Tryf.prog _ _ a w) hF ?_
  intro u1 u2 u3 u4 u5 u6 u7 u8 u9 u10 u11 u12 u13 u14 u15 u16 u17 u18 u19 u20 u21 u22 u23 u24 u25 u26 u27 u28 u29 u30 u31 u32 u33 u34 u35 u36 u37 u38 u39 u40 u41 u42 u43 u44 u45 u46 u47 u48 u49 u50 u51 u52 u53 u54 u55 u56 u57 u58 u59 u60 u61 u62 u63 u64 u65 u66 u67 u68 u69 u70 u71 u72 u73 u74 u75 u76 u77 u78 u79 u80 u81 u82 u83 u84 u85 u86 u87 u88 u89 u90 u91 u92 u93 u94 u95 u96 u97 u98 u99 u100 u101 u102 u103 u104 u105 u106 u107 u108 u109 u110 u111 u112 u113 u114 u115 u116 u117 u118 u119 u120 u121 u122 u123 u124 u125 u126 u127 u128 u129 u130 u131 u132 u133 u134 u135 u136 u137 u138 u139 u140 u141 u142 u143 u144 u145 u146 u147 u148 u149 u150 u151 u152 u153 u154 u155 u156 u157 u158 u159 u160 u161 u162 u163 u164 u165 u166 u167 u168 u169 u170 u171 u172 u173 u174 u175 u176 u177 u178 u179 u180 u181 u182 u183 u184 u185 u186 u187 u188 u189 u190 u191 u192 u193 u194 u195 u196 u197 u198 u199 u200 u201 u202 u203 u204 u205 u206 u207 u208 u209 u210 u211 u212 u213 u214 u215 u216 u217 u218 u219 u220 u221 u222 u223 u224 u225 u226 u227 u228 u229 u230 u231 u232 u233 u234 u235 u236 u237 u238 u239 u240 u241 u242 u243 u244 u245 u246 u247 u248 u249 u250 u251 u252 u253 u254 u255 u256 u257 u258 u259 u260 u261 u262 u263 u264 u265 u266 u267 u268 u269 u270 u271 u272 u273 u274 u275 u276 u277 u278 u279 u280 u281 u282 u283 u284 u285 u286 u287 u288 u289 u290 u291 u292 u293 u294 u295 u296 u297 u298 u299 u300 u301 u302 u303 u304 u305 u306 u307 u308 u309 u310 u311 u312 u313 u314 u315 u316 u317 u318 u319 u320 u321 u322 u323 u324 u325 u326 u327 u328 u329 u330 u331 u332 u333
  have HK := Lib.hid hK
  have HQ := Lib.hid hQ
  clear hK hQ hF
  conv => arg 2; whnf
  have g2 : ((n : Int) == (n : Int)) = true := by simp
  have g3 : decide ((65536 : Int) ≤ (n : Int)) = true := by simpa using hge
  go_wp2
  go_quiet (fail)
  go_wp2
  go_quiet (fail)
  go_wp2_with (go_at_call 23; refine (setErr_any S 76 (.pointer (some a2)) _ ?_ ?_).mono ?_)
  · exact c7
  · exact cz 7
  rintro e w1 ⟨rfl, k, rfl⟩
  go_wp2
  exact HQ.out _ _ ⟨rfl, _, rfl, rfl⟩ rfl ⟨rfl, rfl, rfl, rfl⟩
end Go.Proofs.Qxb6612715aFmt.W
