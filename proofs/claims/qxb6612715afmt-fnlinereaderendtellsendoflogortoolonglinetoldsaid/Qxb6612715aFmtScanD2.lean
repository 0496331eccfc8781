/-
  Seat b6612715aF: Scan's loop, piece D: a full buffer grows.
-/
import Derived.Test.Qxb6612715aFmtScan1
namespace Go.Proofs.Qxb6612715aFmt.W
open Go.RowKit
open Go.Proofs.Qxb6612715aFmt.Plain
set_option linter.unusedVariables false

def thn : Code → Code
  | .cond _ x _ => x
  | c => c
def dA (o : Option Code) : Code := seqL (pD o)
def dT (o : Option Code) : Code := thn (seqR (pD o))
def dB (o : Option Code) : Code := seqL (dT o)
def dG (o : Option Code) : Code := seqR (dT o)
def g1 (o : Option Code) : Code := seqL (dG o)
def g2 (o : Option Code) : Code := seqL (seqR (dG o))
def g3 (o : Option Code) : Code := seqL (seqR (seqR (dG o)))
def g4 (o : Option Code) : Code := seqL (seqR (seqR (seqR (dG o))))
def g5 (o : Option Code) : Code := seqL (seqR (seqR (seqR (seqR (dG o)))))
def g6 (o : Option Code) : Code := seqR (seqR (seqR (seqR (seqR (dG o)))))
theorem pD_eq : pD Tryf.f17.body = .seq (dA Tryf.f17.body) (.cond (.tmp 195) (.seq (dB Tryf.f17.body) (.seq (g1 Tryf.f17.body) (.seq (g2 Tryf.f17.body) (.seq (g3 Tryf.f17.body) (.seq (g4 Tryf.f17.body) (.seq (g5 Tryf.f17.body) (g6 Tryf.f17.body))))))) .skip) := by kernel_rfl

set_option maxRecDepth 100000 in
set_option maxHeartbeats 4000000 in
theorem pieceDA (S : Nat) (w : World) (a : Act) (K : Act → World → Prop) (Q : Exit → Act → World → Prop) (hF : Fr S a) (bo : Option Addr) (n : Nat) (c4 : w.cell? ⟨S, 4, none⟩ = some (.slice bo n n)) (c6 : w.cell? ⟨S, 6, none⟩ = some (.int .i64 n))
    (hK : ∀ a w', Fr S a → a.eval (.tmp 195) = .bool true → Mem w w' → K a w') (hQ : True) :
    Code.wp Tryf.prog (dA Tryf.f17.body) (Exit.then K Q) a w := by
  refine fr_elim (motive := fun a => Code.wp Tryf.prog _ _ a w) hF ?_
  intro u1 u2 u3 u4 u5 u6 u7 u8 u9 u10 u11 u12 u13 u14 u15 u16 u17 u18 u19 u20 u21 u22 u23 u24 u25 u26 u27 u28 u29 u30 u31 u32 u33 u34 u35 u36 u37 u38 u39 u40 u41 u42 u43 u44 u45 u46 u47 u48 u49 u50 u51 u52 u53 u54 u55 u56 u57 u58 u59 u60 u61 u62 u63 u64 u65 u66 u67 u68 u69 u70 u71 u72 u73 u74 u75 u76 u77 u78 u79 u80 u81 u82 u83 u84 u85 u86 u87 u88 u89 u90 u91 u92 u93 u94 u95 u96 u97 u98 u99 u100 u101 u102 u103 u104 u105 u106 u107 u108 u109 u110 u111 u112 u113 u114 u115 u116 u117 u118 u119 u120 u121 u122 u123 u124 u125 u126 u127 u128 u129 u130 u131 u132 u133 u134 u135 u136 u137 u138 u139 u140 u141 u142 u143 u144 u145 u146 u147 u148 u149 u150 u151 u152 u153 u154 u155 u156 u157 u158 u159 u160 u161 u162 u163 u164 u165 u166 u167 u168 u169 u170 u171 u172 u173 u174 u175 u176 u177 u178 u179 u180 u181 u182 u183 u184 u185 u186 u187 u188 u189 u190 u191 u192 u193 u194 u195 u196 u197 u198 u199 u200 u201 u202 u203 u204 u205 u206 u207 u208 u209 u210 u211 u212 u213 u214 u215 u216 u217 u218 u219 u220 u221 u222 u223 u224 u225 u226 u227 u228 u229 u230 u231 u232 u233 u234 u235 u236 u237 u238 u239 u240 u241 u242 u243 u244 u245 u246 u247 u248 u249 u250 u251 u252 u253 u254 u255 u256 u257 u258 u259 u260 u261 u262 u263 u264 u265 u266 u267 u268 u269 u270 u271 u272 u273 u274 u275 u276 u277 u278 u279 u280 u281 u282 u283 u284 u285 u286 u287 u288 u289 u290 u291 u292 u293 u294 u295 u296 u297 u298 u299 u300 u301 u302 u303 u304 u305 u306 u307 u308 u309 u310 u311 u312 u313 u314 u315 u316 u317 u318 u319 u320 u321 u322 u323 u324 u325 u326 u327 u328 u329 u330 u331 u332 u333
  have HK := Lib.hid hK
  have HQ := Lib.hid hQ
  clear hK hQ hF
  conv => arg 2; whnf
  have g2 : ((n : Int) == (n : Int)) = true := by simp
  go_wp2
  go_quiet (fail)
  exact HK.out _ _ ⟨rfl, _, rfl, rfl⟩ rfl ⟨rfl, rfl, rfl, rfl⟩

set_option maxRecDepth 100000 in
set_option maxHeartbeats 4000000 in
theorem pieceDB (S : Nat) (w : World) (a : Act) (K : Act → World → Prop) (Q : Exit → Act → World → Prop) (hF : Fr S a) (bo : Option Addr) (n : Nat) (mx : Int) (hlt : decide (mx ≤ (n : Int)) = false) (g4 : decide ((4611686018427387903 : Int) < (n : Int)) = false)
    (c2 : w.cell? ⟨S, 2, none⟩ = some (.int .i64 mx)) (c4 : w.cell? ⟨S, 4, none⟩ = some (.slice bo n n))
    (hK : ∀ a w', Fr S a → Mem w w' → K a w') (hQ : True) :
    Code.wp Tryf.prog (dB Tryf.f17.body) (Exit.then K Q) a w := by
  refine fr_elim (motive := fun a => Code.wp Tryf.prog _ _ a w) hF ?_
  intro u1 u2 u3 u4 u5 u6 u7 u8 u9 u10 u11 u12 u13 u14 u15 u16 u17 u18 u19 u20 u21 u22 u23 u24 u25 u26 u27 u28 u29 u30 u31 u32 u33 u34 u35 u36 u37 u38 u39 u40 u41 u42 u43 u44 u45 u46 u47 u48 u49 u50 u51 u52 u53 u54 u55 u56 u57 u58 u59 u60 u61 u62 u63 u64 u65 u66 u67 u68 u69 u70 u71 u72 u73 u74 u75 u76 u77 u78 u79 u80 u81 u82 u83 u84 u85 u86 u87 u88 u89 u90 u91 u92 u93 u94 u95 u96 u97 u98 u99 u100 u101 u102 u103 u104 u105 u106 u107 u108 u109 u110 u111 u112 u113 u114 u115 u116 u117 u118 u119 u120 u121 u122 u123 u124 u125 u126 u127 u128 u129 u130 u131 u132 u133 u134 u135 u136 u137 u138 u139 u140 u141 u142 u143 u144 u145 u146 u147 u148 u149 u150 u151 u152 u153 u154 u155 u156 u157 u158 u159 u160 u161 u162 u163 u164 u165 u166 u167 u168 u169 u170 u171 u172 u173 u174 u175 u176 u177 u178 u179 u180 u181 u182 u183 u184 u185 u186 u187 u188 u189 u190 u191 u192 u193 u194 u195 u196 u197 u198 u199 u200 u201 u202 u203 u204 u205 u206 u207 u208 u209 u210 u211 u212 u213 u214 u215 u216 u217 u218 u219 u220 u221 u222 u223 u224 u225 u226 u227 u228 u229 u230 u231 u232 u233 u234 u235 u236 u237 u238 u239 u240 u241 u242 u243 u244 u245 u246 u247 u248 u249 u250 u251 u252 u253 u254 u255 u256 u257 u258 u259 u260 u261 u262 u263 u264 u265 u266 u267 u268 u269 u270 u271 u272 u273 u274 u275 u276 u277 u278 u279 u280 u281 u282 u283 u284 u285 u286 u287 u288 u289 u290 u291 u292 u293 u294 u295 u296 u297 u298 u299 u300 u301 u302 u303 u304 u305 u306 u307 u308 u309 u310 u311 u312 u313 u314 u315 u316 u317 u318 u319 u320 u321 u322 u323 u324 u325 u326 u327 u328 u329 u330 u331 u332 u333
  have HK := Lib.hid hK
  have HQ := Lib.hid hQ
  clear hK hQ hF
  conv => arg 2; whnf
  go_wp2
  go_quiet (fail)
  go_wp2
  exact HK.out _ _ ⟨rfl, _, rfl, rfl⟩ ⟨rfl, rfl, rfl, rfl⟩

set_option maxRecDepth 100000 in
set_option maxHeartbeats 4000000 in
theorem pieceG1 (S : Nat) (w : World) (a : Act) (K : Act → World → Prop) (Q : Exit → Act → World → Prop) (hF : Fr S a) (bo : Option Addr) (n : Nat) (n2 : Int) (hw : IntKind.i64.wrap ((n : Int) * 2) = n2)
    (c4 : w.cell? ⟨S, 4, none⟩ = some (.slice bo n n))
    (hK : ∀ a w', Fr S a → a.tmps[6]? = some (.int .i64 n2) → Mem w w' → K a w') (hQ : True) :
    Code.wp Tryf.prog (g1 Tryf.f17.body) (Exit.then K Q) a w := by
  refine fr_elim (motive := fun a => Code.wp Tryf.prog _ _ a w) hF ?_
  intro u1 u2 u3 u4 u5 u6 u7 u8 u9 u10 u11 u12 u13 u14 u15 u16 u17 u18 u19 u20 u21 u22 u23 u24 u25 u26 u27 u28 u29 u30 u31 u32 u33 u34 u35 u36 u37 u38 u39 u40 u41 u42 u43 u44 u45 u46 u47 u48 u49 u50 u51 u52 u53 u54 u55 u56 u57 u58 u59 u60 u61 u62 u63 u64 u65 u66 u67 u68 u69 u70 u71 u72 u73 u74 u75 u76 u77 u78 u79 u80 u81 u82 u83 u84 u85 u86 u87 u88 u89 u90 u91 u92 u93 u94 u95 u96 u97 u98 u99 u100 u101 u102 u103 u104 u105 u106 u107 u108 u109 u110 u111 u112 u113 u114 u115 u116 u117 u118 u119 u120 u121 u122 u123 u124 u125 u126 u127 u128 u129 u130 u131 u132 u133 u134 u135 u136 u137 u138 u139 u140 u141 u142 u143 u144 u145 u146 u147 u148 u149 u150 u151 u152 u153 u154 u155 u156 u157 u158 u159 u160 u161 u162 u163 u164 u165 u166 u167 u168 u169 u170 u171 u172 u173 u174 u175 u176 u177 u178 u179 u180 u181 u182 u183 u184 u185 u186 u187 u188 u189 u190 u191 u192 u193 u194 u195 u196 u197 u198 u199 u200 u201 u202 u203 u204 u205 u206 u207 u208 u209 u210 u211 u212 u213 u214 u215 u216 u217 u218 u219 u220 u221 u222 u223 u224 u225 u226 u227 u228 u229 u230 u231 u232 u233 u234 u235 u236 u237 u238 u239 u240 u241 u242 u243 u244 u245 u246 u247 u248 u249 u250 u251 u252 u253 u254 u255 u256 u257 u258 u259 u260 u261 u262 u263 u264 u265 u266 u267 u268 u269 u270 u271 u272 u273 u274 u275 u276 u277 u278 u279 u280 u281 u282 u283 u284 u285 u286 u287 u288 u289 u290 u291 u292 u293 u294 u295 u296 u297 u298 u299 u300 u301 u302 u303 u304 u305 u306 u307 u308 u309 u310 u311 u312 u313 u314 u315 u316 u317 u318 u319 u320 u321 u322 u323 u324 u325 u326 u327 u328 u329 u330 u331 u332 u333
  have HK := Lib.hid hK
  have HQ := Lib.hid hQ
  clear hK hQ hF
  conv => arg 2; whnf
  go_wp2
  exact HK.out _ _ ⟨rfl, _, rfl, rfl⟩ rfl ⟨rfl, rfl, rfl, rfl⟩

set_option maxRecDepth 100000 in
set_option maxHeartbeats 4000000 in
theorem pieceG2 (S : Nat) (w : World) (a : Act) (K : Act → World → Prop) (Q : Exit → Act → World → Prop) (hF : Fr S a) (n2 : Int) (hz : (n2 == 0) = false) (hk : a.tmps[6]? = some (.int .i64 n2))
    (hK : ∀ a w', Fr S a → a.tmps[6]? = some (.int .i64 n2) → Mem w w' → K a w') (hQ : True) :
    Code.wp Tryf.prog (g2 Tryf.f17.body) (Exit.then K Q) a w := by
  refine fr_elim (motive := fun a => a.tmps[6]? = _ → Code.wp Tryf.prog _ _ a w) hF ?_ hk
  intro u1 u2 u3 u4 u5 u6 u7 u8 u9 u10 u11 u12 u13 u14 u15 u16 u17 u18 u19 u20 u21 u22 u23 u24 u25 u26 u27 u28 u29 u30 u31 u32 u33 u34 u35 u36 u37 u38 u39 u40 u41 u42 u43 u44 u45 u46 u47 u48 u49 u50 u51 u52 u53 u54 u55 u56 u57 u58 u59 u60 u61 u62 u63 u64 u65 u66 u67 u68 u69 u70 u71 u72 u73 u74 u75 u76 u77 u78 u79 u80 u81 u82 u83 u84 u85 u86 u87 u88 u89 u90 u91 u92 u93 u94 u95 u96 u97 u98 u99 u100 u101 u102 u103 u104 u105 u106 u107 u108 u109 u110 u111 u112 u113 u114 u115 u116 u117 u118 u119 u120 u121 u122 u123 u124 u125 u126 u127 u128 u129 u130 u131 u132 u133 u134 u135 u136 u137 u138 u139 u140 u141 u142 u143 u144 u145 u146 u147 u148 u149 u150 u151 u152 u153 u154 u155 u156 u157 u158 u159 u160 u161 u162 u163 u164 u165 u166 u167 u168 u169 u170 u171 u172 u173 u174 u175 u176 u177 u178 u179 u180 u181 u182 u183 u184 u185 u186 u187 u188 u189 u190 u191 u192 u193 u194 u195 u196 u197 u198 u199 u200 u201 u202 u203 u204 u205 u206 u207 u208 u209 u210 u211 u212 u213 u214 u215 u216 u217 u218 u219 u220 u221 u222 u223 u224 u225 u226 u227 u228 u229 u230 u231 u232 u233 u234 u235 u236 u237 u238 u239 u240 u241 u242 u243 u244 u245 u246 u247 u248 u249 u250 u251 u252 u253 u254 u255 u256 u257 u258 u259 u260 u261 u262 u263 u264 u265 u266 u267 u268 u269 u270 u271 u272 u273 u274 u275 u276 u277 u278 u279 u280 u281 u282 u283 u284 u285 u286 u287 u288 u289 u290 u291 u292 u293 u294 u295 u296 u297 u298 u299 u300 u301 u302 u303 u304 u305 u306 u307 u308 u309 u310 u311 u312 u313 u314 u315 u316 u317 u318 u319 u320 u321 u322 u323 u324 u325 u326 u327 u328 u329 u330 u331 u332 u333 hk
  have hk' : u6 = _ := Option.some.inj hk
  subst hk'
  clear hk
  have HK := Lib.hid hK
  have HQ := Lib.hid hQ
  clear hK hQ hF
  conv => arg 2; whnf
  go_wp2
  exact HK.out _ _ ⟨rfl, _, rfl, rfl⟩ rfl ⟨rfl, rfl, rfl, rfl⟩

set_option maxRecDepth 100000 in
set_option maxHeartbeats 4000000 in
theorem pieceG2z (S : Nat) (w : World) (a : Act) (K : Act → World → Prop) (Q : Exit → Act → World → Prop) (hF : Fr S a) (hk : a.tmps[6]? = some (.int .i64 0))
    (hK : ∀ a w', Fr S a → a.tmps[6]? = some (.int .i64 4096) → Mem w w' → K a w') (hQ : True) :
    Code.wp Tryf.prog (g2 Tryf.f17.body) (Exit.then K Q) a w := by
  refine fr_elim (motive := fun a => a.tmps[6]? = _ → Code.wp Tryf.prog _ _ a w) hF ?_ hk
  intro u1 u2 u3 u4 u5 u6 u7 u8 u9 u10 u11 u12 u13 u14 u15 u16 u17 u18 u19 u20 u21 u22 u23 u24 u25 u26 u27 u28 u29 u30 u31 u32 u33 u34 u35 u36 u37 u38 u39 u40 u41 u42 u43 u44 u45 u46 u47 u48 u49 u50 u51 u52 u53 u54 u55 u56 u57 u58 u59 u60 u61 u62 u63 u64 u65 u66 u67 u68 u69 u70 u71 u72 u73 u74 u75 u76 u77 u78 u79 u80 u81 u82 u83 u84 u85 u86 u87 u88 u89 u90 u91 u92 u93 u94 u95 u96 u97 u98 u99 u100 u101 u102 u103 u104 u105 u106 u107 u108 u109 u110 u111 u112 u113 u114 u115 u116 u117 u118 u119 u120 u121 u122 u123 u124 u125 u126 u127 u128 u129 u130 u131 u132 u133 u134 u135 u136 u137 u138 u139 u140 u141 u142 u143 u144 u145 u146 u147 u148 u149 u150 u151 u152 u153 u154 u155 u156 u157 u158 u159 u160 u161 u162 u163 u164 u165 u166 u167 u168 u169 u170 u171 u172 u173 u174 u175 u176 u177 u178 u179 u180 u181 u182 u183 u184 u185 u186 u187 u188 u189 u190 u191 u192 u193 u194 u195 u196 u197 u198 u199 u200 u201 u202 u203 u204 u205 u206 u207 u208 u209 u210 u211 u212 u213 u214 u215 u216 u217 u218 u219 u220 u221 u222 u223 u224 u225 u226 u227 u228 u229 u230 u231 u232 u233 u234 u235 u236 u237 u238 u239 u240 u241 u242 u243 u244 u245 u246 u247 u248 u249 u250 u251 u252 u253 u254 u255 u256 u257 u258 u259 u260 u261 u262 u263 u264 u265 u266 u267 u268 u269 u270 u271 u272 u273 u274 u275 u276 u277 u278 u279 u280 u281 u282 u283 u284 u285 u286 u287 u288 u289 u290 u291 u292 u293 u294 u295 u296 u297 u298 u299 u300 u301 u302 u303 u304 u305 u306 u307 u308 u309 u310 u311 u312 u313 u314 u315 u316 u317 u318 u319 u320 u321 u322 u323 u324 u325 u326 u327 u328 u329 u330 u331 u332 u333 hk
  have hk' : u6 = _ := Option.some.inj hk
  subst hk'
  clear hk
  have HK := Lib.hid hK
  have HQ := Lib.hid hQ
  clear hK hQ hF
  conv => arg 2; whnf
  go_wp2
  exact HK.out _ _ ⟨rfl, _, rfl, rfl⟩ rfl ⟨rfl, rfl, rfl, rfl⟩

set_option maxRecDepth 100000 in
set_option maxHeartbeats 4000000 in
theorem pieceG3 (S : Nat) (w : World) (a : Act) (K : Act → World → Prop) (Q : Exit → Act → World → Prop) (hF : Fr S a) (n2 mx ns : Int) (hm : (if mx < n2 then mx else n2) = ns) (hk : a.tmps[6]? = some (.int .i64 n2)) (c2 : w.cell? ⟨S, 2, none⟩ = some (.int .i64 mx))
    (hK : ∀ a w', Fr S a → a.tmps[6]? = some (.int .i64 ns) → Mem w w' → K a w') (hQ : True) :
    Code.wp Tryf.prog (g3 Tryf.f17.body) (Exit.then K Q) a w := by
  refine fr_elim (motive := fun a => a.tmps[6]? = _ → Code.wp Tryf.prog _ _ a w) hF ?_ hk
  intro u1 u2 u3 u4 u5 u6 u7 u8 u9 u10 u11 u12 u13 u14 u15 u16 u17 u18 u19 u20 u21 u22 u23 u24 u25 u26 u27 u28 u29 u30 u31 u32 u33 u34 u35 u36 u37 u38 u39 u40 u41 u42 u43 u44 u45 u46 u47 u48 u49 u50 u51 u52 u53 u54 u55 u56 u57 u58 u59 u60 u61 u62 u63 u64 u65 u66 u67 u68 u69 u70 u71 u72 u73 u74 u75 u76 u77 u78 u79 u80 u81 u82 u83 u84 u85 u86 u87 u88 u89 u90 u91 u92 u93 u94 u95 u96 u97 u98 u99 u100 u101 u102 u103 u104 u105 u106 u107 u108 u109 u110 u111 u112 u113 u114 u115 u116 u117 u118 u119 u120 u121 u122 u123 u124 u125 u126 u127 u128 u129 u130 u131 u132 u133 u134 u135 u136 u137 u138 u139 u140 u141 u142 u143 u144 u145 u146 u147 u148 u149 u150 u151 u152 u153 u154 u155 u156 u157 u158 u159 u160 u161 u162 u163 u164 u165 u166 u167 u168 u169 u170 u171 u172 u173 u174 u175 u176 u177 u178 u179 u180 u181 u182 u183 u184 u185 u186 u187 u188 u189 u190 u191 u192 u193 u194 u195 u196 u197 u198 u199 u200 u201 u202 u203 u204 u205 u206 u207 u208 u209 u210 u211 u212 u213 u214 u215 u216 u217 u218 u219 u220 u221 u222 u223 u224 u225 u226 u227 u228 u229 u230 u231 u232 u233 u234 u235 u236 u237 u238 u239 u240 u241 u242 u243 u244 u245 u246 u247 u248 u249 u250 u251 u252 u253 u254 u255 u256 u257 u258 u259 u260 u261 u262 u263 u264 u265 u266 u267 u268 u269 u270 u271 u272 u273 u274 u275 u276 u277 u278 u279 u280 u281 u282 u283 u284 u285 u286 u287 u288 u289 u290 u291 u292 u293 u294 u295 u296 u297 u298 u299 u300 u301 u302 u303 u304 u305 u306 u307 u308 u309 u310 u311 u312 u313 u314 u315 u316 u317 u318 u319 u320 u321 u322 u323 u324 u325 u326 u327 u328 u329 u330 u331 u332 u333 hk
  have hk' : u6 = _ := Option.some.inj hk
  subst hk'
  clear hk
  have HK := Lib.hid hK
  have HQ := Lib.hid hQ
  clear hK hQ hF
  conv => arg 2; whnf
  go_wp2
  exact HK.out _ _ ⟨rfl, _, rfl, rfl⟩ rfl ⟨rfl, rfl, rfl, rfl⟩

set_option maxRecDepth 100000 in
set_option maxHeartbeats 4000000 in
theorem pieceG4 (S : Nat) (w : World) (a : Act) (K : Act → World → Prop) (Q : Exit → Act → World → Prop) (hF : Fr S a) (ns : Nat) (X : Array Value) (hmk : ∀ W : World, (Instr.makeSlice 36 (.int .i64 (ns : Int)) (.int .i64 (ns : Int))).run Tryf.prog W = .ok (.slice (some ⟨W.heap.size, 0, none⟩) ns ns) (W.alloc (.cells X 5))) (hk : a.tmps[6]? = some (.int .i64 (ns : Int)))
    (hK : ∀ a w', Fr S a → a.tmps[7]? = some (.slice (some ⟨w.heap.size, 0, none⟩) ns ns) → Mem (w.alloc (.cells X 5)) w' → K a w') (hQ : True) :
    Code.wp Tryf.prog (g4 Tryf.f17.body) (Exit.then K Q) a w := by
  refine fr_elim (motive := fun a => a.tmps[6]? = _ → Code.wp Tryf.prog _ _ a w) hF ?_ hk
  intro u1 u2 u3 u4 u5 u6 u7 u8 u9 u10 u11 u12 u13 u14 u15 u16 u17 u18 u19 u20 u21 u22 u23 u24 u25 u26 u27 u28 u29 u30 u31 u32 u33 u34 u35 u36 u37 u38 u39 u40 u41 u42 u43 u44 u45 u46 u47 u48 u49 u50 u51 u52 u53 u54 u55 u56 u57 u58 u59 u60 u61 u62 u63 u64 u65 u66 u67 u68 u69 u70 u71 u72 u73 u74 u75 u76 u77 u78 u79 u80 u81 u82 u83 u84 u85 u86 u87 u88 u89 u90 u91 u92 u93 u94 u95 u96 u97 u98 u99 u100 u101 u102 u103 u104 u105 u106 u107 u108 u109 u110 u111 u112 u113 u114 u115 u116 u117 u118 u119 u120 u121 u122 u123 u124 u125 u126 u127 u128 u129 u130 u131 u132 u133 u134 u135 u136 u137 u138 u139 u140 u141 u142 u143 u144 u145 u146 u147 u148 u149 u150 u151 u152 u153 u154 u155 u156 u157 u158 u159 u160 u161 u162 u163 u164 u165 u166 u167 u168 u169 u170 u171 u172 u173 u174 u175 u176 u177 u178 u179 u180 u181 u182 u183 u184 u185 u186 u187 u188 u189 u190 u191 u192 u193 u194 u195 u196 u197 u198 u199 u200 u201 u202 u203 u204 u205 u206 u207 u208 u209 u210 u211 u212 u213 u214 u215 u216 u217 u218 u219 u220 u221 u222 u223 u224 u225 u226 u227 u228 u229 u230 u231 u232 u233 u234 u235 u236 u237 u238 u239 u240 u241 u242 u243 u244 u245 u246 u247 u248 u249 u250 u251 u252 u253 u254 u255 u256 u257 u258 u259 u260 u261 u262 u263 u264 u265 u266 u267 u268 u269 u270 u271 u272 u273 u274 u275 u276 u277 u278 u279 u280 u281 u282 u283 u284 u285 u286 u287 u288 u289 u290 u291 u292 u293 u294 u295 u296 u297 u298 u299 u300 u301 u302 u303 u304 u305 u306 u307 u308 u309 u310 u311 u312 u313 u314 u315 u316 u317 u318 u319 u320 u321 u322 u323 u324 u325 u326 u327 u328 u329 u330 u331 u332 u333 hk
  have hk' : u6 = _ := Option.some.inj hk
  subst hk'
  clear hk
  have HK := Lib.hid hK
  have HQ := Lib.hid hQ
  clear hK hQ hF
  conv => arg 2; whnf
  go_wp2
  exact HK.out _ _ ⟨rfl, _, rfl, rfl⟩ rfl ⟨rfl, rfl, rfl, rfl⟩

set_option maxRecDepth 100000 in
set_option maxHeartbeats 4000000 in
theorem pieceG5 (S : Nat) (w : World) (a : Act) (K : Act → World → Prop) (Q : Exit → Act → World → Prop) (hF : Fr S a) (B C n ns : Nat) (Y : Array Value) (hSC : S ≠ C)
    (hcp : ∀ W : World, W.heap = w.heap → (Builtin.copy_ #[36, 36] 3 #[.slice (some ⟨C, 0, none⟩) ns ns, .slice (some ⟨B, 0, none⟩) n n]).run Tryf.prog W = .ok (goInt n) (W.setRow C Y))
    (c4 : w.cell? ⟨S, 4, none⟩ = some (.slice (some ⟨B, 0, none⟩) n n)) (c5 : w.cell? ⟨S, 5, none⟩ = some (.int .i64 0)) (c6 : w.cell? ⟨S, 6, none⟩ = some (.int .i64 n))
    (hk : a.tmps[7]? = some (.slice (some ⟨C, 0, none⟩) ns ns))
    (hK : ∀ a w', Fr S a → a.tmps[7]? = some (.slice (some ⟨C, 0, none⟩) ns ns) → Mem (w.setRow C Y) w' → K a w') (hQ : True) :
    Code.wp Tryf.prog (g5 Tryf.f17.body) (Exit.then K Q) a w := by
  refine fr_elim (motive := fun a => a.tmps[7]? = _ → Code.wp Tryf.prog _ _ a w) hF ?_ hk
  intro u1 u2 u3 u4 u5 u6 u7 u8 u9 u10 u11 u12 u13 u14 u15 u16 u17 u18 u19 u20 u21 u22 u23 u24 u25 u26 u27 u28 u29 u30 u31 u32 u33 u34 u35 u36 u37 u38 u39 u40 u41 u42 u43 u44 u45 u46 u47 u48 u49 u50 u51 u52 u53 u54 u55 u56 u57 u58 u59 u60 u61 u62 u63 u64 u65 u66 u67 u68 u69 u70 u71 u72 u73 u74 u75 u76 u77 u78 u79 u80 u81 u82 u83 u84 u85 u86 u87 u88 u89 u90 u91 u92 u93 u94 u95 u96 u97 u98 u99 u100 u101 u102 u103 u104 u105 u106 u107 u108 u109 u110 u111 u112 u113 u114 u115 u116 u117 u118 u119 u120 u121 u122 u123 u124 u125 u126 u127 u128 u129 u130 u131 u132 u133 u134 u135 u136 u137 u138 u139 u140 u141 u142 u143 u144 u145 u146 u147 u148 u149 u150 u151 u152 u153 u154 u155 u156 u157 u158 u159 u160 u161 u162 u163 u164 u165 u166 u167 u168 u169 u170 u171 u172 u173 u174 u175 u176 u177 u178 u179 u180 u181 u182 u183 u184 u185 u186 u187 u188 u189 u190 u191 u192 u193 u194 u195 u196 u197 u198 u199 u200 u201 u202 u203 u204 u205 u206 u207 u208 u209 u210 u211 u212 u213 u214 u215 u216 u217 u218 u219 u220 u221 u222 u223 u224 u225 u226 u227 u228 u229 u230 u231 u232 u233 u234 u235 u236 u237 u238 u239 u240 u241 u242 u243 u244 u245 u246 u247 u248 u249 u250 u251 u252 u253 u254 u255 u256 u257 u258 u259 u260 u261 u262 u263 u264 u265 u266 u267 u268 u269 u270 u271 u272 u273 u274 u275 u276 u277 u278 u279 u280 u281 u282 u283 u284 u285 u286 u287 u288 u289 u290 u291 u292 u293 u294 u295 u296 u297 u298 u299 u300 u301 u302 u303 u304 u305 u306 u307 u308 u309 u310 u311 u312 u313 u314 u315 u316 u317 u318 u319 u320 u321 u322 u323 u324 u325 u326 u327 u328 u329 u330 u331 u332 u333 hk
  have hk' : u7 = _ := Option.some.inj hk
  subst hk'
  clear hk
  have HK := Lib.hid hK
  have HQ := Lib.hid hQ
  clear hK hQ hF
  conv => arg 2; whnf
  have q1 : (0 : Int) ≤ (n : Int) := by omega
  have hcp' := hcp w.drew rfl
  obtain ⟨W2, hW2⟩ : ∃ W2, W2 = w.drew.setRow C Y := ⟨_, rfl⟩
  rw [← hW2] at hcp'
  have k5 : W2.cell? ⟨S, 5, none⟩ = some (.int .i64 0) := by
    have := c5
    simp only [World.cell?] at this ⊢
    rw [hW2, setRow_other _ _ _ _ hSC]; exact this
  have k6 : W2.cell? ⟨S, 6, none⟩ = some (.int .i64 n) := by
    have := c6
    simp only [World.cell?] at this ⊢
    rw [hW2, setRow_other _ _ _ _ hSC]; exact this
  have k4 : W2.cell? ⟨S, 4, none⟩ = some (.slice (some ⟨B, 0, none⟩) n n) := by
    have := c4
    simp only [World.cell?] at this ⊢
    rw [hW2, setRow_other _ _ _ _ hSC]; exact this
  have HM : Hid (Mem (w.setRow C Y) W2) := by rw [hW2]; exact ⟨rfl, rfl, rfl, rfl⟩
  clear hW2 hcp
  go_wp2
  go_region_held3 (fun w' => w'.cell? ⟨S, 4, none⟩ = some (.slice (some ⟨B, 0, none⟩) n n) ∧ w'.cell? ⟨S, 5, none⟩ = some (.int .i64 0) ∧ w'.cell? ⟨S, 6, none⟩ = some (.int .i64 n)) (go_keep) (fail)
  exact HK.out _ _ ⟨rfl, _, rfl, rfl⟩ rfl HM.out.drew

set_option maxRecDepth 100000 in
set_option maxHeartbeats 4000000 in
theorem pieceG5z (S : Nat) (w : World) (a : Act) (K : Act → World → Prop) (Q : Exit → Act → World → Prop) (hF : Fr S a) (C ns : Nat)
    (hcp' : ∀ W : World, (Builtin.copy_ #[36, 36] 3 #[.slice (some ⟨C, 0, none⟩) ns ns, .slice none 0 0]).run Tryf.prog W = .ok (goInt 0) W)
    (c4 : w.cell? ⟨S, 4, none⟩ = some (.slice none 0 0)) (c5 : w.cell? ⟨S, 5, none⟩ = some (.int .i64 0)) (c6 : w.cell? ⟨S, 6, none⟩ = some (.int .i64 0))
    (hk : a.tmps[7]? = some (.slice (some ⟨C, 0, none⟩) ns ns))
    (hK : ∀ a w', Fr S a → a.tmps[7]? = some (.slice (some ⟨C, 0, none⟩) ns ns) → Mem w w' → K a w') (hQ : True) :
    Code.wp Tryf.prog (g5 Tryf.f17.body) (Exit.then K Q) a w := by
  refine fr_elim (motive := fun a => a.tmps[7]? = _ → Code.wp Tryf.prog _ _ a w) hF ?_ hk
  intro u1 u2 u3 u4 u5 u6 u7 u8 u9 u10 u11 u12 u13 u14 u15 u16 u17 u18 u19 u20 u21 u22 u23 u24 u25 u26 u27 u28 u29 u30 u31 u32 u33 u34 u35 u36 u37 u38 u39 u40 u41 u42 u43 u44 u45 u46 u47 u48 u49 u50 u51 u52 u53 u54 u55 u56 u57 u58 u59 u60 u61 u62 u63 u64 u65 u66 u67 u68 u69 u70 u71 u72 u73 u74 u75 u76 u77 u78 u79 u80 u81 u82 u83 u84 u85 u86 u87 u88 u89 u90 u91 u92 u93 u94 u95 u96 u97 u98 u99 u100 u101 u102 u103 u104 u105 u106 u107 u108 u109 u110 u111 u112 u113 u114 u115 u116 u117 u118 u119 u120 u121 u122 u123 u124 u125 u126 u127 u128 u129 u130 u131 u132 u133 u134 u135 u136 u137 u138 u139 u140 u141 u142 u143 u144 u145 u146 u147 u148 u149 u150 u151 u152 u153 u154 u155 u156 u157 u158 u159 u160 u161 u162 u163 u164 u165 u166 u167 u168 u169 u170 u171 u172 u173 u174 u175 u176 u177 u178 u179 u180 u181 u182 u183 u184 u185 u186 u187 u188 u189 u190 u191 u192 u193 u194 u195 u196 u197 u198 u199 u200 u201 u202 u203 u204 u205 u206 u207 u208 u209 u210 u211 u212 u213 u214 u215 u216 u217 u218 u219 u220 u221 u222 u223 u224 u225 u226 u227 u228 u229 u230 u231 u232 u233 u234 u235 u236 u237 u238 u239 u240 u241 u242 u243 u244 u245 u246 u247 u248 u249 u250 u251 u252 u253 u254 u255 u256 u257 u258 u259 u260 u261 u262 u263 u264 u265 u266 u267 u268 u269 u270 u271 u272 u273 u274 u275 u276 u277 u278 u279 u280 u281 u282 u283 u284 u285 u286 u287 u288 u289 u290 u291 u292 u293 u294 u295 u296 u297 u298 u299 u300 u301 u302 u303 u304 u305 u306 u307 u308 u309 u310 u311 u312 u313 u314 u315 u316 u317 u318 u319 u320 u321 u322 u323 u324 u325 u326 u327 u328 u329 u330 u331 u332 u333 hk
  have hk' : u7 = _ := Option.some.inj hk
  subst hk'
  clear hk
  have HK := Lib.hid hK
  have HQ := Lib.hid hQ
  clear hK hQ hF
  conv => arg 2; whnf
  go_wp2
  go_region_held3 (fun w' => w'.cell? ⟨S, 4, none⟩ = some (.slice none 0 0) ∧ w'.cell? ⟨S, 5, none⟩ = some (.int .i64 0) ∧ w'.cell? ⟨S, 6, none⟩ = some (.int .i64 0)) (go_keep) (fail)
  exact HK.out _ _ ⟨rfl, _, rfl, rfl⟩ rfl ⟨rfl, rfl, rfl, rfl⟩

set_option maxRecDepth 100000 in
set_option maxHeartbeats 4000000 in
theorem pieceG6 (S : Nat) (w : World) (a : Act) (K : Act → World → Prop) (Q : Exit → Act → World → Prop) (hF : Fr S a) (v4 : Value) (v : Option Addr) (ns : Nat) (n : Int) (c4 : w.cell? ⟨S, 4, none⟩ = some v4) (c5 : w.cell? ⟨S, 5, none⟩ = some (.int .i64 0)) (c6 : w.cell? ⟨S, 6, none⟩ = some (.int .i64 n)) (cz : ∀ k, w.frozen? ⟨S, k, none⟩ = false)
    (hn : IntKind.i64.wrap n = n) (hk : a.tmps[7]? = some (.slice v ns ns))
    (hK : ∀ a w', Fr S a → Mem (((w.setCell ⟨S, 4, none⟩ (.slice v ns ns)).setCell ⟨S, 6, none⟩ (.int .i64 n)).setCell ⟨S, 5, none⟩ (.int .i64 0)) w' → K a w') (hQ : True) :
    Code.wp Tryf.prog (g6 Tryf.f17.body) (Exit.then K Q) a w := by
  refine fr_elim (motive := fun a => a.tmps[7]? = _ → Code.wp Tryf.prog _ _ a w) hF ?_ hk
  intro u1 u2 u3 u4 u5 u6 u7 u8 u9 u10 u11 u12 u13 u14 u15 u16 u17 u18 u19 u20 u21 u22 u23 u24 u25 u26 u27 u28 u29 u30 u31 u32 u33 u34 u35 u36 u37 u38 u39 u40 u41 u42 u43 u44 u45 u46 u47 u48 u49 u50 u51 u52 u53 u54 u55 u56 u57 u58 u59 u60 u61 u62 u63 u64 u65 u66 u67 u68 u69 u70 u71 u72 u73 u74 u75 u76 u77 u78 u79 u80 u81 u82 u83 u84 u85 u86 u87 u88 u89 u90 u91 u92 u93 u94 u95 u96 u97 u98 u99 u100 u101 u102 u103 u104 u105 u106 u107 u108 u109 u110 u111 u112 u113 u114 u115 u116 u117 u118 u119 u120 u121 u122 u123 u124 u125 u126 u127 u128 u129 u130 u131 u132 u133 u134 u135 u136 u137 u138 u139 u140 u141 u142 u143 u144 u145 u146 u147 u148 u149 u150 u151 u152 u153 u154 u155 u156 u157 u158 u159 u160 u161 u162 u163 u164 u165 u166 u167 u168 u169 u170 u171 u172 u173 u174 u175 u176 u177 u178 u179 u180 u181 u182 u183 u184 u185 u186 u187 u188 u189 u190 u191 u192 u193 u194 u195 u196 u197 u198 u199 u200 u201 u202 u203 u204 u205 u206 u207 u208 u209 u210 u211 u212 u213 u214 u215 u216 u217 u218 u219 u220 u221 u222 u223 u224 u225 u226 u227 u228 u229 u230 u231 u232 u233 u234 u235 u236 u237 u238 u239 u240 u241 u242 u243 u244 u245 u246 u247 u248 u249 u250 u251 u252 u253 u254 u255 u256 u257 u258 u259 u260 u261 u262 u263 u264 u265 u266 u267 u268 u269 u270 u271 u272 u273 u274 u275 u276 u277 u278 u279 u280 u281 u282 u283 u284 u285 u286 u287 u288 u289 u290 u291 u292 u293 u294 u295 u296 u297 u298 u299 u300 u301 u302 u303 u304 u305 u306 u307 u308 u309 u310 u311 u312 u313 u314 u315 u316 u317 u318 u319 u320 u321 u322 u323 u324 u325 u326 u327 u328 u329 u330 u331 u332 u333 hk
  have hk' : u7 = _ := Option.some.inj hk
  subst hk'
  clear hk
  have HK := Lib.hid hK
  have HQ := Lib.hid hQ
  clear hK hQ hF
  conv => arg 2; whnf
  have hm : IntKind.i64.wrap (n - 0) = n := by rw [Int.sub_zero]; exact hn
  go_wp2
  go_region
  go_wp2
  exact HK.out _ _ ⟨rfl, _, rfl, rfl⟩ ⟨rfl, rfl, rfl, rfl⟩
end Go.Proofs.Qxb6612715aFmt.W
