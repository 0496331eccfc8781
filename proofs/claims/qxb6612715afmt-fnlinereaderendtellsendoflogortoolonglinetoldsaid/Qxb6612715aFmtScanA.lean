/-
  Seat b6612715aF: Scan's loop, piece A: the split of what is held.
-/
import Derived.Test.Qxb6612715aFmtScan1
namespace Go.Proofs.Qxb6612715aFmt.W
open Go.RowKit
open Go.Proofs.Qxb6612715aFmt.Plain
set_option linter.unusedVariables false

set_option maxRecDepth 100000 in
set_option maxHeartbeats 4000000 in
theorem pieceA1 (S : Nat) (w : World) (a : Act) (K : Act → World → Prop) (Q : Exit → Act → World → Prop) (hF : Fr S a) (st : Nat) (h5 : w.cell? ⟨S, 5, none⟩ = some (.int .i64 st)) (h6 : w.cell? ⟨S, 6, none⟩ = some (.int .i64 st)) (h7 : w.cell? ⟨S, 7, none⟩ = some .nilIface)
    (hK : ∀ a w', Fr S a → Mem w w' → K a w') (hQ : True) :
    Code.wp Tryf.prog (pA Tryf.f17.body) (Exit.then K Q) a w := by
  refine fr_elim (motive := fun a => Code.wp Tryf.prog _ _ a w) hF ?_
  intro u1 u2 u3 u4 u5 u6 u7 u8 u9 u10 u11 u12 u13 u14 u15 u16 u17 u18 u19 u20 u21 u22 u23 u24 u25 u26 u27 u28 u29 u30 u31 u32 u33 u34 u35 u36 u37 u38 u39 u40 u41 u42 u43 u44 u45 u46 u47 u48 u49 u50 u51 u52 u53 u54 u55 u56 u57 u58 u59 u60 u61 u62 u63 u64 u65 u66 u67 u68 u69 u70 u71 u72 u73 u74 u75 u76 u77 u78 u79 u80 u81 u82 u83 u84 u85 u86 u87 u88 u89 u90 u91 u92 u93 u94 u95 u96 u97 u98 u99 u100 u101 u102 u103 u104 u105 u106 u107 u108 u109 u110 u111 u112 u113 u114 u115 u116 u117 u118 u119 u120 u121 u122 u123 u124 u125 u126 u127 u128 u129 u130 u131 u132 u133 u134 u135 u136 u137 u138 u139 u140 u141 u142 u143 u144 u145 u146 u147 u148 u149 u150 u151 u152 u153 u154 u155 u156 u157 u158 u159 u160 u161 u162 u163 u164 u165 u166 u167 u168 u169 u170 u171 u172 u173 u174 u175 u176 u177 u178 u179 u180 u181 u182 u183 u184 u185 u186 u187 u188 u189 u190 u191 u192 u193 u194 u195 u196 u197 u198 u199 u200 u201 u202 u203 u204 u205 u206 u207 u208 u209 u210 u211 u212 u213 u214 u215 u216 u217 u218 u219 u220 u221 u222 u223 u224 u225 u226 u227 u228 u229 u230 u231 u232 u233 u234 u235 u236 u237 u238 u239 u240 u241 u242 u243 u244 u245 u246 u247 u248 u249 u250 u251 u252 u253 u254 u255 u256 u257 u258 u259 u260 u261 u262 u263 u264 u265 u266 u267 u268 u269 u270 u271 u272 u273 u274 u275 u276 u277 u278 u279 u280 u281 u282 u283 u284 u285 u286 u287 u288 u289 u290 u291 u292 u293 u294 u295 u296 u297 u298 u299 u300 u301 u302 u303 u304 u305 u306 u307 u308 u309 u310 u311 u312 u313 u314 u315 u316 u317 u318 u319 u320 u321 u322 u323 u324 u325 u326 u327 u328 u329 u330 u331 u332 u333
  have HK := Lib.hid hK
  have HQ := Lib.hid hQ
  clear hK hQ hF
  conv => arg 2; whnf
  have hd : decide ((st : Int) < (st : Int)) = false := by simp
  go_wp2
  go_quiet (fail)
  go_wp2
  exact HK.out _ _ ⟨rfl, _, rfl, rfl⟩ ⟨rfl, rfl, rfl, rfl⟩

set_option maxRecDepth 100000 in
set_option maxHeartbeats 4000000 in
theorem pieceA2 (S : Nat) (w : World) (a : Act) (K : Act → World → Prop) (Q : Exit → Act → World → Prop) (hF : Fr S a) (B st en n i : Nat) (ps : List UInt8)  (hlt : st < en) (hen : en ≤ n) (hn : (n : Int) ≤ 65536) (hps : ps.length = en - st) (hi : Lib.indexByte ps 10 = i) (hil : i < en - st) (hl : Lies w B st ps) (c1 : w.cell? ⟨S, 1, none⟩ = some (.func (Fn.func 22) #[] #[]))
    (c4 : w.cell? ⟨S, 4, none⟩ = some (.slice (some ⟨B, 0, none⟩) n n)) (c5 : w.cell? ⟨S, 5, none⟩ = some (.int .i64 st)) (c6 : w.cell? ⟨S, 6, none⟩ = some (.int .i64 en)) (c7 : w.cell? ⟨S, 7, none⟩ = some .nilIface)
    (v3 v8 : Value) (c3 : w.cell? ⟨S, 3, none⟩ = some v3) (c8 : w.cell? ⟨S, 8, none⟩ = some v8) (cz : ∀ k, w.frozen? ⟨S, k, none⟩ = false)
    (hK : True) (hQ : ∀ a w' tok, Fr S a → a.tmps[2]? = some (.bool true) → Mem (((w.setCell ⟨S, 5, none⟩ (.int .i64 ((st : Int) + ((i : Int) + 1)))).setCell ⟨S, 3, none⟩ tok).setCell ⟨S, 8, none⟩ (.int .i64 0)) w' → Q .ret a w') :
    Code.wp Tryf.prog (pA Tryf.f17.body) (Exit.then K Q) a w := by
  refine fr_elim (motive := fun a => Code.wp Tryf.prog _ _ a w) hF ?_
  intro u1 u2 u3 u4 u5 u6 u7 u8 u9 u10 u11 u12 u13 u14 u15 u16 u17 u18 u19 u20 u21 u22 u23 u24 u25 u26 u27 u28 u29 u30 u31 u32 u33 u34 u35 u36 u37 u38 u39 u40 u41 u42 u43 u44 u45 u46 u47 u48 u49 u50 u51 u52 u53 u54 u55 u56 u57 u58 u59 u60 u61 u62 u63 u64 u65 u66 u67 u68 u69 u70 u71 u72 u73 u74 u75 u76 u77 u78 u79 u80 u81 u82 u83 u84 u85 u86 u87 u88 u89 u90 u91 u92 u93 u94 u95 u96 u97 u98 u99 u100 u101 u102 u103 u104 u105 u106 u107 u108 u109 u110 u111 u112 u113 u114 u115 u116 u117 u118 u119 u120 u121 u122 u123 u124 u125 u126 u127 u128 u129 u130 u131 u132 u133 u134 u135 u136 u137 u138 u139 u140 u141 u142 u143 u144 u145 u146 u147 u148 u149 u150 u151 u152 u153 u154 u155 u156 u157 u158 u159 u160 u161 u162 u163 u164 u165 u166 u167 u168 u169 u170 u171 u172 u173 u174 u175 u176 u177 u178 u179 u180 u181 u182 u183 u184 u185 u186 u187 u188 u189 u190 u191 u192 u193 u194 u195 u196 u197 u198 u199 u200 u201 u202 u203 u204 u205 u206 u207 u208 u209 u210 u211 u212 u213 u214 u215 u216 u217 u218 u219 u220 u221 u222 u223 u224 u225 u226 u227 u228 u229 u230 u231 u232 u233 u234 u235 u236 u237 u238 u239 u240 u241 u242 u243 u244 u245 u246 u247 u248 u249 u250 u251 u252 u253 u254 u255 u256 u257 u258 u259 u260 u261 u262 u263 u264 u265 u266 u267 u268 u269 u270 u271 u272 u273 u274 u275 u276 u277 u278 u279 u280 u281 u282 u283 u284 u285 u286 u287 u288 u289 u290 u291 u292 u293 u294 u295 u296 u297 u298 u299 u300 u301 u302 u303 u304 u305 u306 u307 u308 u309 u310 u311 u312 u313 u314 u315 u316 u317 u318 u319 u320 u321 u322 u323 u324 u325 u326 u327 u328 u329 u330 u331 u332 u333
  have HK := Lib.hid hK
  have HQ := Lib.hid hQ
  clear hK hQ hF
  conv => arg 2; whnf
  have hsp := fun W (hW : W.heap = w.heap) => split_hit B st (n - st) (en - st) i ps false W hps (fun j x hj => by have := hl j x hj; simp only [World.cell?] at this ⊢; rw [hW]; exact this) hi hil (by omega) (by omega)
  generalize crLen (ps.take i) = cl at hsp
  clear hl hi hps
  have qn : ∀ (W : World) (a : Option Addr) (l c : Nat), (binOp .neq 36 (.slice a l c) (.slice none 0 0)).run Tryf.prog W = .ok (.bool (!a.isNone)) W := fun W a l c => run_neq_slice_nil_any W 36 5 a l c 0 0 Tryf.underlying36
  have g1 : (st : Int) < (en : Int) := by omega
  have g2 : (en : Int) ≤ (n : Int) := by omega
  have g3 : (0 : Int) ≤ (st : Int) := by omega
  have g5 : (en : Int) ≤ 1048576 := by omega
  have g4 : (st : Int) + ((i : Int) + 1) ≤ (en : Int) := by omega
  have g6 : (0 : Int) ≤ (i : Int) + 1 := by omega
  have g7 : (0 : Int) < (i : Int) + 1 := by omega
  go_wp2
  go_quiet (fail)
  go_wp2
  go_quiet ((go_at_call 22; refine (hsp _ (by rfl)).mono ?_; rintro e w1 ⟨rfl, rfl⟩; exact ⟨rfl, _, rfl⟩))
  go_wp2_with (go_at_call 24; refine (advance_any S st en _ _ g6 g4 g5 ?_ ?_ ?_).mono ?_)
  · exact c5
  · exact c6
  · exact cz 5
  rintro e w1 ⟨rfl, k, rfl⟩
  go_wp2
  exact HQ.out _ _ _ ⟨rfl, _, rfl, rfl⟩ rfl ⟨rfl, rfl, rfl, rfl⟩

set_option maxRecDepth 100000 in
set_option maxHeartbeats 4000000 in
theorem pieceA4 (S : Nat) (w : World) (a : Act) (K : Act → World → Prop) (Q : Exit → Act → World → Prop) (hF : Fr S a) (B st en n i : Nat) (ps : List UInt8) (a1 : Addr) (hlt : st < en) (hen : en ≤ n) (hn : (n : Int) ≤ 65536) (hps : ps.length = en - st) (hi : Lib.indexByte ps 10 = i) (hil : i < en - st) (hl : Lies w B st ps) (c1 : w.cell? ⟨S, 1, none⟩ = some (.func (Fn.func 22) #[] #[]))
    (c4 : w.cell? ⟨S, 4, none⟩ = some (.slice (some ⟨B, 0, none⟩) n n)) (c5 : w.cell? ⟨S, 5, none⟩ = some (.int .i64 st)) (c6 : w.cell? ⟨S, 6, none⟩ = some (.int .i64 en)) (c7 : w.cell? ⟨S, 7, none⟩ = some (.iface 76 (.pointer (some a1))))
    (v3 v8 : Value) (c3 : w.cell? ⟨S, 3, none⟩ = some v3) (c8 : w.cell? ⟨S, 8, none⟩ = some v8) (cz : ∀ k, w.frozen? ⟨S, k, none⟩ = false)
    (hK : True) (hQ : ∀ a w' tok, Fr S a → a.tmps[2]? = some (.bool true) → Mem (((w.setCell ⟨S, 5, none⟩ (.int .i64 ((st : Int) + ((i : Int) + 1)))).setCell ⟨S, 3, none⟩ tok).setCell ⟨S, 8, none⟩ (.int .i64 0)) w' → Q .ret a w') :
    Code.wp Tryf.prog (pA Tryf.f17.body) (Exit.then K Q) a w := by
  refine fr_elim (motive := fun a => Code.wp Tryf.prog _ _ a w) hF ?_
  intro u1 u2 u3 u4 u5 u6 u7 u8 u9 u10 u11 u12 u13 u14 u15 u16 u17 u18 u19 u20 u21 u22 u23 u24 u25 u26 u27 u28 u29 u30 u31 u32 u33 u34 u35 u36 u37 u38 u39 u40 u41 u42 u43 u44 u45 u46 u47 u48 u49 u50 u51 u52 u53 u54 u55 u56 u57 u58 u59 u60 u61 u62 u63 u64 u65 u66 u67 u68 u69 u70 u71 u72 u73 u74 u75 u76 u77 u78 u79 u80 u81 u82 u83 u84 u85 u86 u87 u88 u89 u90 u91 u92 u93 u94 u95 u96 u97 u98 u99 u100 u101 u102 u103 u104 u105 u106 u107 u108 u109 u110 u111 u112 u113 u114 u115 u116 u117 u118 u119 u120 u121 u122 u123 u124 u125 u126 u127 u128 u129 u130 u131 u132 u133 u134 u135 u136 u137 u138 u139 u140 u141 u142 u143 u144 u145 u146 u147 u148 u149 u150 u151 u152 u153 u154 u155 u156 u157 u158 u159 u160 u161 u162 u163 u164 u165 u166 u167 u168 u169 u170 u171 u172 u173 u174 u175 u176 u177 u178 u179 u180 u181 u182 u183 u184 u185 u186 u187 u188 u189 u190 u191 u192 u193 u194 u195 u196 u197 u198 u199 u200 u201 u202 u203 u204 u205 u206 u207 u208 u209 u210 u211 u212 u213 u214 u215 u216 u217 u218 u219 u220 u221 u222 u223 u224 u225 u226 u227 u228 u229 u230 u231 u232 u233 u234 u235 u236 u237 u238 u239 u240 u241 u242 u243 u244 u245 u246 u247 u248 u249 u250 u251 u252 u253 u254 u255 u256 u257 u258 u259 u260 u261 u262 u263 u264 u265 u266 u267 u268 u269 u270 u271 u272 u273 u274 u275 u276 u277 u278 u279 u280 u281 u282 u283 u284 u285 u286 u287 u288 u289 u290 u291 u292 u293 u294 u295 u296 u297 u298 u299 u300 u301 u302 u303 u304 u305 u306 u307 u308 u309 u310 u311 u312 u313 u314 u315 u316 u317 u318 u319 u320 u321 u322 u323 u324 u325 u326 u327 u328 u329 u330 u331 u332 u333
  have HK := Lib.hid hK
  have HQ := Lib.hid hQ
  clear hK hQ hF
  conv => arg 2; whnf
  have hsp := fun W (hW : W.heap = w.heap) => split_hit B st (n - st) (en - st) i ps true W hps (fun j x hj => by have := hl j x hj; simp only [World.cell?] at this ⊢; rw [hW]; exact this) hi hil (by omega) (by omega)
  generalize crLen (ps.take i) = cl at hsp
  clear hl hi hps
  have qn : ∀ (W : World) (a : Option Addr) (l c : Nat), (binOp .neq 36 (.slice a l c) (.slice none 0 0)).run Tryf.prog W = .ok (.bool (!a.isNone)) W := fun W a l c => run_neq_slice_nil_any W 36 5 a l c 0 0 Tryf.underlying36
  have g1 : (st : Int) < (en : Int) := by omega
  have g2 : (en : Int) ≤ (n : Int) := by omega
  have g3 : (0 : Int) ≤ (st : Int) := by omega
  have g5 : (en : Int) ≤ 1048576 := by omega
  have g4 : (st : Int) + ((i : Int) + 1) ≤ (en : Int) := by omega
  have g6 : (0 : Int) ≤ (i : Int) + 1 := by omega
  have g7 : (0 : Int) < (i : Int) + 1 := by omega
  go_wp2
  go_quiet (fail)
  go_wp2
  go_quiet ((go_at_call 22; refine (hsp _ (by rfl)).mono ?_; rintro e w1 ⟨rfl, rfl⟩; exact ⟨rfl, _, rfl⟩))
  go_wp2_with (go_at_call 24; refine (advance_any S st en _ _ g6 g4 g5 ?_ ?_ ?_).mono ?_)
  · exact c5
  · exact c6
  · exact cz 5
  rintro e w1 ⟨rfl, k, rfl⟩
  go_wp2
  exact HQ.out _ _ _ ⟨rfl, _, rfl, rfl⟩ rfl ⟨rfl, rfl, rfl, rfl⟩

set_option maxRecDepth 100000 in
set_option maxHeartbeats 4000000 in
theorem pieceA3 (S : Nat) (w : World) (a : Act) (K : Act → World → Prop) (Q : Exit → Act → World → Prop) (hF : Fr S a) (B st en n : Nat) (ps : List UInt8) (hlt : st < en) (hen : en ≤ n) (hn : (n : Int) ≤ 65536) (hps : ps.length = en - st) (hi : Lib.indexByte ps 10 = -1) (hl : Lies w B st ps) (c1 : w.cell? ⟨S, 1, none⟩ = some (.func (Fn.func 22) #[] #[]))
    (c4 : w.cell? ⟨S, 4, none⟩ = some (.slice (some ⟨B, 0, none⟩) n n)) (c5 : w.cell? ⟨S, 5, none⟩ = some (.int .i64 st)) (c6 : w.cell? ⟨S, 6, none⟩ = some (.int .i64 en)) (c7 : w.cell? ⟨S, 7, none⟩ = some .nilIface)
    (v3 v8 : Value) (c3 : w.cell? ⟨S, 3, none⟩ = some v3) (c8 : w.cell? ⟨S, 8, none⟩ = some v8) (cz : ∀ k, w.frozen? ⟨S, k, none⟩ = false)
    (hK : ∀ a w', Fr S a → Mem ((w.setCell ⟨S, 5, none⟩ (.int .i64 (st : Int))).setCell ⟨S, 3, none⟩ (.slice none 0 0)) w' → K a w') (hQ : True) :
    Code.wp Tryf.prog (pA Tryf.f17.body) (Exit.then K Q) a w := by
  refine fr_elim (motive := fun a => Code.wp Tryf.prog _ _ a w) hF ?_
  intro u1 u2 u3 u4 u5 u6 u7 u8 u9 u10 u11 u12 u13 u14 u15 u16 u17 u18 u19 u20 u21 u22 u23 u24 u25 u26 u27 u28 u29 u30 u31 u32 u33 u34 u35 u36 u37 u38 u39 u40 u41 u42 u43 u44 u45 u46 u47 u48 u49 u50 u51 u52 u53 u54 u55 u56 u57 u58 u59 u60 u61 u62 u63 u64 u65 u66 u67 u68 u69 u70 u71 u72 u73 u74 u75 u76 u77 u78 u79 u80 u81 u82 u83 u84 u85 u86 u87 u88 u89 u90 u91 u92 u93 u94 u95 u96 u97 u98 u99 u100 u101 u102 u103 u104 u105 u106 u107 u108 u109 u110 u111 u112 u113 u114 u115 u116 u117 u118 u119 u120 u121 u122 u123 u124 u125 u126 u127 u128 u129 u130 u131 u132 u133 u134 u135 u136 u137 u138 u139 u140 u141 u142 u143 u144 u145 u146 u147 u148 u149 u150 u151 u152 u153 u154 u155 u156 u157 u158 u159 u160 u161 u162 u163 u164 u165 u166 u167 u168 u169 u170 u171 u172 u173 u174 u175 u176 u177 u178 u179 u180 u181 u182 u183 u184 u185 u186 u187 u188 u189 u190 u191 u192 u193 u194 u195 u196 u197 u198 u199 u200 u201 u202 u203 u204 u205 u206 u207 u208 u209 u210 u211 u212 u213 u214 u215 u216 u217 u218 u219 u220 u221 u222 u223 u224 u225 u226 u227 u228 u229 u230 u231 u232 u233 u234 u235 u236 u237 u238 u239 u240 u241 u242 u243 u244 u245 u246 u247 u248 u249 u250 u251 u252 u253 u254 u255 u256 u257 u258 u259 u260 u261 u262 u263 u264 u265 u266 u267 u268 u269 u270 u271 u272 u273 u274 u275 u276 u277 u278 u279 u280 u281 u282 u283 u284 u285 u286 u287 u288 u289 u290 u291 u292 u293 u294 u295 u296 u297 u298 u299 u300 u301 u302 u303 u304 u305 u306 u307 u308 u309 u310 u311 u312 u313 u314 u315 u316 u317 u318 u319 u320 u321 u322 u323 u324 u325 u326 u327 u328 u329 u330 u331 u332 u333
  have HK := Lib.hid hK
  have HQ := Lib.hid hQ
  clear hK hQ hF
  conv => arg 2; whnf
  have hsp := fun W (hW : W.heap = w.heap) => split_miss B st (n - st) (en - st) ps W hps (fun j x hj => by have := hl j x hj; simp only [World.cell?] at this ⊢; rw [hW]; exact this) hi
  clear hl hi hps
  have qn : ∀ (W : World) (a : Option Addr) (l c : Nat), (binOp .neq 36 (.slice a l c) (.slice none 0 0)).run Tryf.prog W = .ok (.bool (!a.isNone)) W := fun W a l c => run_neq_slice_nil_any W 36 5 a l c 0 0 Tryf.underlying36
  have g1 : (st : Int) < (en : Int) := by omega
  have g2 : (en : Int) ≤ (n : Int) := by omega
  have g3 : (0 : Int) ≤ (st : Int) := by omega
  have g5 : (en : Int) ≤ 1048576 := by omega
  have g4 : (st : Int) + 0 ≤ (en : Int) := by omega
  have g6 : (0 : Int) ≤ 0 := by omega
  go_wp2
  go_quiet (fail)
  go_wp2
  go_quiet ((go_at_call 22; refine (hsp _ (by rfl)).mono ?_; rintro e w1 ⟨rfl, rfl⟩; exact ⟨rfl, _, rfl⟩))
  go_wp2_with (go_at_call 24; refine (advance_any S st en _ _ g6 g4 g5 ?_ ?_ ?_).mono ?_)
  · exact c5
  · exact c6
  · exact cz 5
  rintro e w1 ⟨rfl, k, rfl⟩
  go_wp2
  exact HK.out _ _ ⟨rfl, _, rfl, rfl⟩ ⟨rfl, rfl, rfl, rfl⟩

set_option maxRecDepth 100000 in
set_option maxHeartbeats 4000000 in
theorem pieceA5 (S : Nat) (w : World) (a : Act) (K : Act → World → Prop) (Q : Exit → Act → World → Prop) (hF : Fr S a) (B st en n : Nat) (ps : List UInt8) (a1 : Addr) (hlt : st < en) (hen : en ≤ n) (hn : (n : Int) ≤ 65536) (hps : ps.length = en - st) (hi : Lib.indexByte ps 10 = -1) (hl : Lies w B st ps) (c1 : w.cell? ⟨S, 1, none⟩ = some (.func (Fn.func 22) #[] #[]))
    (c4 : w.cell? ⟨S, 4, none⟩ = some (.slice (some ⟨B, 0, none⟩) n n)) (c5 : w.cell? ⟨S, 5, none⟩ = some (.int .i64 st)) (c6 : w.cell? ⟨S, 6, none⟩ = some (.int .i64 en)) (c7 : w.cell? ⟨S, 7, none⟩ = some (.iface 76 (.pointer (some a1))))
    (v3 v8 : Value) (c3 : w.cell? ⟨S, 3, none⟩ = some v3) (c8 : w.cell? ⟨S, 8, none⟩ = some v8) (cz : ∀ k, w.frozen? ⟨S, k, none⟩ = false)
    (hK : True) (hQ : ∀ a w' tok, Fr S a → a.tmps[2]? = some (.bool true) → Mem (((w.setCell ⟨S, 5, none⟩ (.int .i64 ((st : Int) + ((en - st : Nat) : Int)))).setCell ⟨S, 3, none⟩ tok).setCell ⟨S, 8, none⟩ (.int .i64 0)) w' → Q .ret a w') :
    Code.wp Tryf.prog (pA Tryf.f17.body) (Exit.then K Q) a w := by
  refine fr_elim (motive := fun a => Code.wp Tryf.prog _ _ a w) hF ?_
  intro u1 u2 u3 u4 u5 u6 u7 u8 u9 u10 u11 u12 u13 u14 u15 u16 u17 u18 u19 u20 u21 u22 u23 u24 u25 u26 u27 u28 u29 u30 u31 u32 u33 u34 u35 u36 u37 u38 u39 u40 u41 u42 u43 u44 u45 u46 u47 u48 u49 u50 u51 u52 u53 u54 u55 u56 u57 u58 u59 u60 u61 u62 u63 u64 u65 u66 u67 u68 u69 u70 u71 u72 u73 u74 u75 u76 u77 u78 u79 u80 u81 u82 u83 u84 u85 u86 u87 u88 u89 u90 u91 u92 u93 u94 u95 u96 u97 u98 u99 u100 u101 u102 u103 u104 u105 u106 u107 u108 u109 u110 u111 u112 u113 u114 u115 u116 u117 u118 u119 u120 u121 u122 u123 u124 u125 u126 u127 u128 u129 u130 u131 u132 u133 u134 u135 u136 u137 u138 u139 u140 u141 u142 u143 u144 u145 u146 u147 u148 u149 u150 u151 u152 u153 u154 u155 u156 u157 u158 u159 u160 u161 u162 u163 u164 u165 u166 u167 u168 u169 u170 u171 u172 u173 u174 u175 u176 u177 u178 u179 u180 u181 u182 u183 u184 u185 u186 u187 u188 u189 u190 u191 u192 u193 u194 u195 u196 u197 u198 u199 u200 u201 u202 u203 u204 u205 u206 u207 u208 u209 u210 u211 u212 u213 u214 u215 u216 u217 u218 u219 u220 u221 u222 u223 u224 u225 u226 u227 u228 u229 u230 u231 u232 u233 u234 u235 u236 u237 u238 u239 u240 u241 u242 u243 u244 u245 u246 u247 u248 u249 u250 u251 u252 u253 u254 u255 u256 u257 u258 u259 u260 u261 u262 u263 u264 u265 u266 u267 u268 u269 u270 u271 u272 u273 u274 u275 u276 u277 u278 u279 u280 u281 u282 u283 u284 u285 u286 u287 u288 u289 u290 u291 u292 u293 u294 u295 u296 u297 u298 u299 u300 u301 u302 u303 u304 u305 u306 u307 u308 u309 u310 u311 u312 u313 u314 u315 u316 u317 u318 u319 u320 u321 u322 u323 u324 u325 u326 u327 u328 u329 u330 u331 u332 u333
  have HK := Lib.hid hK
  have HQ := Lib.hid hQ
  clear hK hQ hF
  conv => arg 2; whnf
  have hsp := fun W (hW : W.heap = w.heap) => split_last B st (n - st) (en - st) ps W hps (fun j x hj => by have := hl j x hj; simp only [World.cell?] at this ⊢; rw [hW]; exact this) hi (by omega) (by omega) (by omega)
  generalize crLen ps = cl at hsp
  clear hl hi hps
  have qn : ∀ (W : World) (a : Option Addr) (l c : Nat), (binOp .neq 36 (.slice a l c) (.slice none 0 0)).run Tryf.prog W = .ok (.bool (!a.isNone)) W := fun W a l c => run_neq_slice_nil_any W 36 5 a l c 0 0 Tryf.underlying36
  have g1 : (st : Int) < (en : Int) := by omega
  have g2 : (en : Int) ≤ (n : Int) := by omega
  have g3 : (0 : Int) ≤ (st : Int) := by omega
  have g5 : (en : Int) ≤ 1048576 := by omega
  have g4 : (st : Int) + ((en - st : Nat) : Int) ≤ (en : Int) := by omega
  have g6 : (0 : Int) ≤ ((en - st : Nat) : Int) := by omega
  have g7 : (0 : Int) < ((en - st : Nat) : Int) := by omega
  obtain ⟨m, hm⟩ : ∃ m, m = en - st := ⟨_, rfl⟩
  rw [← hm] at hsp g4 g6 g7 HQ
  have Hm := Lib.hid hm
  clear hm
  have hse : (en - st) = m := Hm.out.symm
  go_wp2
  go_quiet (fail)
  go_wp2
  go_quiet ((go_at_call 22; refine (hsp _ (by rfl)).mono ?_; rintro e w1 ⟨rfl, rfl⟩; exact ⟨rfl, _, rfl⟩))
  go_wp2_with (go_at_call 24; refine (advance_any S st en _ _ g6 g4 g5 ?_ ?_ ?_).mono ?_)
  · exact c5
  · exact c6
  · exact cz 5
  rintro e w1 ⟨rfl, k, rfl⟩
  go_wp2
  refine HQ.out _ _ (.slice (some ⟨B, st, none⟩) cl (n - st)) ?_ ?_ ?_
  · exact ⟨rfl, _, rfl, rfl⟩
  · rfl
  · exact ⟨rfl, rfl, rfl, rfl⟩

set_option maxRecDepth 100000 in
set_option maxHeartbeats 4000000 in
theorem pieceA6 (S : Nat) (w : World) (a : Act) (K : Act → World → Prop) (Q : Exit → Act → World → Prop) (hF : Fr S a) (B st n : Nat) (a1 : Addr) (hen : st < n) (hn : (n : Int) ≤ 65536) (c1 : w.cell? ⟨S, 1, none⟩ = some (.func (Fn.func 22) #[] #[]))
    (c4 : w.cell? ⟨S, 4, none⟩ = some (.slice (some ⟨B, 0, none⟩) n n)) (c5 : w.cell? ⟨S, 5, none⟩ = some (.int .i64 st)) (c6 : w.cell? ⟨S, 6, none⟩ = some (.int .i64 st)) (c7 : w.cell? ⟨S, 7, none⟩ = some (.iface 76 (.pointer (some a1))))
    (v3 v8 : Value) (c3 : w.cell? ⟨S, 3, none⟩ = some v3) (c8 : w.cell? ⟨S, 8, none⟩ = some v8) (cz : ∀ k, w.frozen? ⟨S, k, none⟩ = false)
    (hK : ∀ a w', Fr S a → Mem ((w.setCell ⟨S, 5, none⟩ (.int .i64 (st : Int))).setCell ⟨S, 3, none⟩ (.slice none 0 0)) w' → K a w') (hQ : True) :
    Code.wp Tryf.prog (pA Tryf.f17.body) (Exit.then K Q) a w := by
  refine fr_elim (motive := fun a => Code.wp Tryf.prog _ _ a w) hF ?_
  intro u1 u2 u3 u4 u5 u6 u7 u8 u9 u10 u11 u12 u13 u14 u15 u16 u17 u18 u19 u20 u21 u22 u23 u24 u25 u26 u27 u28 u29 u30 u31 u32 u33 u34 u35 u36 u37 u38 u39 u40 u41 u42 u43 u44 u45 u46 u47 u48 u49 u50 u51 u52 u53 u54 u55 u56 u57 u58 u59 u60 u61 u62 u63 u64 u65 u66 u67 u68 u69 u70 u71 u72 u73 u74 u75 u76 u77 u78 u79 u80 u81 u82 u83 u84 u85 u86 u87 u88 u89 u90 u91 u92 u93 u94 u95 u96 u97 u98 u99 u100 u101 u102 u103 u104 u105 u106 u107 u108 u109 u110 u111 u112 u113 u114 u115 u116 u117 u118 u119 u120 u121 u122 u123 u124 u125 u126 u127 u128 u129 u130 u131 u132 u133 u134 u135 u136 u137 u138 u139 u140 u141 u142 u143 u144 u145 u146 u147 u148 u149 u150 u151 u152 u153 u154 u155 u156 u157 u158 u159 u160 u161 u162 u163 u164 u165 u166 u167 u168 u169 u170 u171 u172 u173 u174 u175 u176 u177 u178 u179 u180 u181 u182 u183 u184 u185 u186 u187 u188 u189 u190 u191 u192 u193 u194 u195 u196 u197 u198 u199 u200 u201 u202 u203 u204 u205 u206 u207 u208 u209 u210 u211 u212 u213 u214 u215 u216 u217 u218 u219 u220 u221 u222 u223 u224 u225 u226 u227 u228 u229 u230 u231 u232 u233 u234 u235 u236 u237 u238 u239 u240 u241 u242 u243 u244 u245 u246 u247 u248 u249 u250 u251 u252 u253 u254 u255 u256 u257 u258 u259 u260 u261 u262 u263 u264 u265 u266 u267 u268 u269 u270 u271 u272 u273 u274 u275 u276 u277 u278 u279 u280 u281 u282 u283 u284 u285 u286 u287 u288 u289 u290 u291 u292 u293 u294 u295 u296 u297 u298 u299 u300 u301 u302 u303 u304 u305 u306 u307 u308 u309 u310 u311 u312 u313 u314 u315 u316 u317 u318 u319 u320 u321 u322 u323 u324 u325 u326 u327 u328 u329 u330 u331 u332 u333
  have HK := Lib.hid hK
  have HQ := Lib.hid hQ
  clear hK hQ hF
  conv => arg 2; whnf
  have hsp := split_end
  have qn : ∀ (W : World) (a : Option Addr) (l c : Nat), (binOp .neq 36 (.slice a l c) (.slice none 0 0)).run Tryf.prog W = .ok (.bool (!a.isNone)) W := fun W a l c => run_neq_slice_nil_any W 36 5 a l c 0 0 Tryf.underlying36
  have hd : decide ((st : Int) < (st : Int)) = false := by simp
  have g2 : (st : Int) < (n : Int) := by omega
  have g9 : ¬ n = st := by omega
  have g3 : (0 : Int) ≤ (st : Int) := by omega
  have g5 : (st : Int) ≤ 1048576 := by omega
  have g4 : (st : Int) + 0 ≤ (st : Int) := by omega
  have g6 : (0 : Int) ≤ 0 := by omega
  go_wp2
  go_quiet (fail)
  go_wp2
  go_quiet ((go_at_call 22; refine (hsp _ _ _).mono ?_; rintro e w1 ⟨rfl, rfl⟩; exact ⟨rfl, _, rfl⟩))
  go_wp2_with (go_at_call 24; refine (advance_any S st st _ _ g6 g4 g5 ?_ ?_ ?_).mono ?_)
  · exact c5
  · exact c6
  · exact cz 5
  rintro e w1 ⟨rfl, k, rfl⟩
  go_wp2
  exact HK.out _ _ ⟨rfl, _, rfl, rfl⟩ ⟨rfl, rfl, rfl, rfl⟩

set_option maxRecDepth 100000 in
set_option maxHeartbeats 4000000 in
theorem pieceB1 (S : Nat) (w : World) (a : Act) (K : Act → World → Prop) (Q : Exit → Act → World → Prop) (hF : Fr S a) (h7 : w.cell? ⟨S, 7, none⟩ = some .nilIface) (hK : ∀ a w', Fr S a → Mem w w' → K a w') (hQ : True) :
    Code.wp Tryf.prog (pB Tryf.f17.body) (Exit.then K Q) a w := by
  refine fr_elim (motive := fun a => Code.wp Tryf.prog _ _ a w) hF ?_
  intro u1 u2 u3 u4 u5 u6 u7 u8 u9 u10 u11 u12 u13 u14 u15 u16 u17 u18 u19 u20 u21 u22 u23 u24 u25 u26 u27 u28 u29 u30 u31 u32 u33 u34 u35 u36 u37 u38 u39 u40 u41 u42 u43 u44 u45 u46 u47 u48 u49 u50 u51 u52 u53 u54 u55 u56 u57 u58 u59 u60 u61 u62 u63 u64 u65 u66 u67 u68 u69 u70 u71 u72 u73 u74 u75 u76 u77 u78 u79 u80 u81 u82 u83 u84 u85 u86 u87 u88 u89 u90 u91 u92 u93 u94 u95 u96 u97 u98 u99 u100 u101 u102 u103 u104 u105 u106 u107 u108 u109 u110 u111 u112 u113 u114 u115 u116 u117 u118 u119 u120 u121 u122 u123 u124 u125 u126 u127 u128 u129 u130 u131 u132 u133 u134 u135 u136 u137 u138 u139 u140 u141 u142 u143 u144 u145 u146 u147 u148 u149 u150 u151 u152 u153 u154 u155 u156 u157 u158 u159 u160 u161 u162 u163 u164 u165 u166 u167 u168 u169 u170 u171 u172 u173 u174 u175 u176 u177 u178 u179 u180 u181 u182 u183 u184 u185 u186 u187 u188 u189 u190 u191 u192 u193 u194 u195 u196 u197 u198 u199 u200 u201 u202 u203 u204 u205 u206 u207 u208 u209 u210 u211 u212 u213 u214 u215 u216 u217 u218 u219 u220 u221 u222 u223 u224 u225 u226 u227 u228 u229 u230 u231 u232 u233 u234 u235 u236 u237 u238 u239 u240 u241 u242 u243 u244 u245 u246 u247 u248 u249 u250 u251 u252 u253 u254 u255 u256 u257 u258 u259 u260 u261 u262 u263 u264 u265 u266 u267 u268 u269 u270 u271 u272 u273 u274 u275 u276 u277 u278 u279 u280 u281 u282 u283 u284 u285 u286 u287 u288 u289 u290 u291 u292 u293 u294 u295 u296 u297 u298 u299 u300 u301 u302 u303 u304 u305 u306 u307 u308 u309 u310 u311 u312 u313 u314 u315 u316 u317 u318 u319 u320 u321 u322 u323 u324 u325 u326 u327 u328 u329 u330 u331 u332 u333
  have HK := Lib.hid hK
  have HQ := Lib.hid hQ
  clear hK hQ hF
  conv => arg 2; whnf
  go_wp2
  exact HK.out _ _ ⟨rfl, _, rfl, rfl⟩ ⟨rfl, rfl, rfl, rfl⟩

set_option maxRecDepth 100000 in
set_option maxHeartbeats 4000000 in
theorem pieceB2 (S : Nat) (w : World) (a : Act) (K : Act → World → Prop) (Q : Exit → Act → World → Prop) (hF : Fr S a) (te : TypeId) (pe : Value) (v5 v6 : Value) (h7 : w.cell? ⟨S, 7, none⟩ = some (.iface te pe)) (h5 : w.cell? ⟨S, 5, none⟩ = some v5) (h6 : w.cell? ⟨S, 6, none⟩ = some v6) (cz : ∀ k, w.frozen? ⟨S, k, none⟩ = false)
    (hK : True) (hQ : ∀ a w', Fr S a → a.tmps[2]? = some (.bool false) → Mem ((w.setCell ⟨S, 5, none⟩ (.int .i64 0)).setCell ⟨S, 6, none⟩ (.int .i64 0)) w' → Q .ret a w') :
    Code.wp Tryf.prog (pB Tryf.f17.body) (Exit.then K Q) a w := by
  refine fr_elim (motive := fun a => Code.wp Tryf.prog _ _ a w) hF ?_
  intro u1 u2 u3 u4 u5 u6 u7 u8 u9 u10 u11 u12 u13 u14 u15 u16 u17 u18 u19 u20 u21 u22 u23 u24 u25 u26 u27 u28 u29 u30 u31 u32 u33 u34 u35 u36 u37 u38 u39 u40 u41 u42 u43 u44 u45 u46 u47 u48 u49 u50 u51 u52 u53 u54 u55 u56 u57 u58 u59 u60 u61 u62 u63 u64 u65 u66 u67 u68 u69 u70 u71 u72 u73 u74 u75 u76 u77 u78 u79 u80 u81 u82 u83 u84 u85 u86 u87 u88 u89 u90 u91 u92 u93 u94 u95 u96 u97 u98 u99 u100 u101 u102 u103 u104 u105 u106 u107 u108 u109 u110 u111 u112 u113 u114 u115 u116 u117 u118 u119 u120 u121 u122 u123 u124 u125 u126 u127 u128 u129 u130 u131 u132 u133 u134 u135 u136 u137 u138 u139 u140 u141 u142 u143 u144 u145 u146 u147 u148 u149 u150 u151 u152 u153 u154 u155 u156 u157 u158 u159 u160 u161 u162 u163 u164 u165 u166 u167 u168 u169 u170 u171 u172 u173 u174 u175 u176 u177 u178 u179 u180 u181 u182 u183 u184 u185 u186 u187 u188 u189 u190 u191 u192 u193 u194 u195 u196 u197 u198 u199 u200 u201 u202 u203 u204 u205 u206 u207 u208 u209 u210 u211 u212 u213 u214 u215 u216 u217 u218 u219 u220 u221 u222 u223 u224 u225 u226 u227 u228 u229 u230 u231 u232 u233 u234 u235 u236 u237 u238 u239 u240 u241 u242 u243 u244 u245 u246 u247 u248 u249 u250 u251 u252 u253 u254 u255 u256 u257 u258 u259 u260 u261 u262 u263 u264 u265 u266 u267 u268 u269 u270 u271 u272 u273 u274 u275 u276 u277 u278 u279 u280 u281 u282 u283 u284 u285 u286 u287 u288 u289 u290 u291 u292 u293 u294 u295 u296 u297 u298 u299 u300 u301 u302 u303 u304 u305 u306 u307 u308 u309 u310 u311 u312 u313 u314 u315 u316 u317 u318 u319 u320 u321 u322 u323 u324 u325 u326 u327 u328 u329 u330 u331 u332 u333
  have HK := Lib.hid hK
  have HQ := Lib.hid hQ
  clear hK hQ hF
  conv => arg 2; whnf
  go_wp2
  exact HQ.out _ _ ⟨rfl, _, rfl, rfl⟩ rfl ⟨rfl, rfl, rfl, rfl⟩
end Go.Proofs.Qxb6612715aFmt.W
