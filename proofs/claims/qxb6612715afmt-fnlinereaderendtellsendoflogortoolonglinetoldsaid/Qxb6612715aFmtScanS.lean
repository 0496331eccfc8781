/-
  Seat b6612715aF: (*bufio.Scanner).Scan as a whole.
-/
import Derived.Test.Qxb6612715aFmtRound
namespace Go.Proofs.Qxb6612715aFmt.W
open Go.RowKit
open Go.Proofs.Qxb6612715aFmt.Plain
set_option linter.unusedVariables false

def q0 (o : Option Code) : Code := seqL (o.getD .skip)
def q1 (o : Option Code) : Code := seqL (seqR (o.getD .skip))
def q3 (o : Option Code) : Code := seqL (seqR (seqR (o.getD .skip)))
theorem f17_eq : Tryf.f17.body = some (.seq (q0 Tryf.f17.body) (.seq (q1 Tryf.f17.body) (.seq (q3 Tryf.f17.body) (.block 0 (.loop ((Tryf.f17.body.bind firstLoop).getD .skip)))))) := by kernel_rfl

set_option maxRecDepth 100000 in
set_option maxHeartbeats 4000000 in
theorem pieceQ0 (S : Nat) (w : World) (a : Act) (K : Act → World → Prop) (Q : Exit → Act → World → Prop) (hF : Fr S a)
    (hK : ∀ a w', Fr S a → Mem w w' → K a w') (hQ : True) :
    Code.wp Tryf.prog (q0 Tryf.f17.body) (Exit.then K Q) a w := by
  refine fr_elim (motive := fun a => Code.wp Tryf.prog _ _ a w) hF ?_
  intro u1 u2 u3 u4 u5 u6 u7 u8 u9 u10 u11 u12 u13 u14 u15 u16 u17 u18 u19 u20 u21 u22 u23 u24 u25 u26 u27 u28 u29 u30 u31 u32 u33 u34 u35 u36 u37 u38 u39 u40 u41 u42 u43 u44 u45 u46 u47 u48 u49 u50 u51 u52 u53 u54 u55 u56 u57 u58 u59 u60 u61 u62 u63 u64 u65 u66 u67 u68 u69 u70 u71 u72 u73 u74 u75 u76 u77 u78 u79 u80 u81 u82 u83 u84 u85 u86 u87 u88 u89 u90 u91 u92 u93 u94 u95 u96 u97 u98 u99 u100 u101 u102 u103 u104 u105 u106 u107 u108 u109 u110 u111 u112 u113 u114 u115 u116 u117 u118 u119 u120 u121 u122 u123 u124 u125 u126 u127 u128 u129 u130 u131 u132 u133 u134 u135 u136 u137 u138 u139 u140 u141 u142 u143 u144 u145 u146 u147 u148 u149 u150 u151 u152 u153 u154 u155 u156 u157 u158 u159 u160 u161 u162 u163 u164 u165 u166 u167 u168 u169 u170 u171 u172 u173 u174 u175 u176 u177 u178 u179 u180 u181 u182 u183 u184 u185 u186 u187 u188 u189 u190 u191 u192 u193 u194 u195 u196 u197 u198 u199 u200 u201 u202 u203 u204 u205 u206 u207 u208 u209 u210 u211 u212 u213 u214 u215 u216 u217 u218 u219 u220 u221 u222 u223 u224 u225 u226 u227 u228 u229 u230 u231 u232 u233 u234 u235 u236 u237 u238 u239 u240 u241 u242 u243 u244 u245 u246 u247 u248 u249 u250 u251 u252 u253 u254 u255 u256 u257 u258 u259 u260 u261 u262 u263 u264 u265 u266 u267 u268 u269 u270 u271 u272 u273 u274 u275 u276 u277 u278 u279 u280 u281 u282 u283 u284 u285 u286 u287 u288 u289 u290 u291 u292 u293 u294 u295 u296 u297 u298 u299 u300 u301 u302 u303 u304 u305 u306 u307 u308 u309 u310 u311 u312 u313 u314 u315 u316 u317 u318 u319 u320 u321 u322 u323 u324 u325 u326 u327 u328 u329 u330 u331 u332 u333
  have HK := Lib.hid hK
  have HQ := Lib.hid hQ
  clear hK hQ hF
  conv => arg 2; whnf
  go_wp2
  exact HK.out _ _ ⟨rfl, _, rfl, rfl⟩ ⟨rfl, rfl, rfl, rfl⟩

set_option maxRecDepth 100000 in
set_option maxHeartbeats 4000000 in
theorem pieceQ1 (S : Nat) (w : World) (a : Act) (K : Act → World → Prop) (Q : Exit → Act → World → Prop) (hF : Fr S a) (c10 : w.cell? ⟨S, 10, none⟩ = some (.bool false))
    (hK : ∀ a w', Fr S a → Mem w w' → K a w') (hQ : True) :
    Code.wp Tryf.prog (q1 Tryf.f17.body) (Exit.then K Q) a w := by
  refine fr_elim (motive := fun a => Code.wp Tryf.prog _ _ a w) hF ?_
  intro u1 u2 u3 u4 u5 u6 u7 u8 u9 u10 u11 u12 u13 u14 u15 u16 u17 u18 u19 u20 u21 u22 u23 u24 u25 u26 u27 u28 u29 u30 u31 u32 u33 u34 u35 u36 u37 u38 u39 u40 u41 u42 u43 u44 u45 u46 u47 u48 u49 u50 u51 u52 u53 u54 u55 u56 u57 u58 u59 u60 u61 u62 u63 u64 u65 u66 u67 u68 u69 u70 u71 u72 u73 u74 u75 u76 u77 u78 u79 u80 u81 u82 u83 u84 u85 u86 u87 u88 u89 u90 u91 u92 u93 u94 u95 u96 u97 u98 u99 u100 u101 u102 u103 u104 u105 u106 u107 u108 u109 u110 u111 u112 u113 u114 u115 u116 u117 u118 u119 u120 u121 u122 u123 u124 u125 u126 u127 u128 u129 u130 u131 u132 u133 u134 u135 u136 u137 u138 u139 u140 u141 u142 u143 u144 u145 u146 u147 u148 u149 u150 u151 u152 u153 u154 u155 u156 u157 u158 u159 u160 u161 u162 u163 u164 u165 u166 u167 u168 u169 u170 u171 u172 u173 u174 u175 u176 u177 u178 u179 u180 u181 u182 u183 u184 u185 u186 u187 u188 u189 u190 u191 u192 u193 u194 u195 u196 u197 u198 u199 u200 u201 u202 u203 u204 u205 u206 u207 u208 u209 u210 u211 u212 u213 u214 u215 u216 u217 u218 u219 u220 u221 u222 u223 u224 u225 u226 u227 u228 u229 u230 u231 u232 u233 u234 u235 u236 u237 u238 u239 u240 u241 u242 u243 u244 u245 u246 u247 u248 u249 u250 u251 u252 u253 u254 u255 u256 u257 u258 u259 u260 u261 u262 u263 u264 u265 u266 u267 u268 u269 u270 u271 u272 u273 u274 u275 u276 u277 u278 u279 u280 u281 u282 u283 u284 u285 u286 u287 u288 u289 u290 u291 u292 u293 u294 u295 u296 u297 u298 u299 u300 u301 u302 u303 u304 u305 u306 u307 u308 u309 u310 u311 u312 u313 u314 u315 u316 u317 u318 u319 u320 u321 u322 u323 u324 u325 u326 u327 u328 u329 u330 u331 u332 u333
  have HK := Lib.hid hK
  have HQ := Lib.hid hQ
  clear hK hQ hF
  conv => arg 2; whnf
  go_wp2
  exact HK.out _ _ ⟨rfl, _, rfl, rfl⟩ ⟨rfl, rfl, rfl, rfl⟩

set_option maxRecDepth 100000 in
set_option maxHeartbeats 4000000 in
theorem pieceQ3 (S : Nat) (w : World) (a : Act) (K : Act → World → Prop) (Q : Exit → Act → World → Prop) (hF : Fr S a) (v9 : Value) (c9 : w.cell? ⟨S, 9, none⟩ = some v9) (cz : ∀ k, w.frozen? ⟨S, k, none⟩ = false)
    (hK : ∀ a w', Fr S a → Mem (w.setCell ⟨S, 9, none⟩ (.bool true)) w' → K a w') (hQ : True) :
    Code.wp Tryf.prog (q3 Tryf.f17.body) (Exit.then K Q) a w := by
  refine fr_elim (motive := fun a => Code.wp Tryf.prog _ _ a w) hF ?_
  intro u1 u2 u3 u4 u5 u6 u7 u8 u9 u10 u11 u12 u13 u14 u15 u16 u17 u18 u19 u20 u21 u22 u23 u24 u25 u26 u27 u28 u29 u30 u31 u32 u33 u34 u35 u36 u37 u38 u39 u40 u41 u42 u43 u44 u45 u46 u47 u48 u49 u50 u51 u52 u53 u54 u55 u56 u57 u58 u59 u60 u61 u62 u63 u64 u65 u66 u67 u68 u69 u70 u71 u72 u73 u74 u75 u76 u77 u78 u79 u80 u81 u82 u83 u84 u85 u86 u87 u88 u89 u90 u91 u92 u93 u94 u95 u96 u97 u98 u99 u100 u101 u102 u103 u104 u105 u106 u107 u108 u109 u110 u111 u112 u113 u114 u115 u116 u117 u118 u119 u120 u121 u122 u123 u124 u125 u126 u127 u128 u129 u130 u131 u132 u133 u134 u135 u136 u137 u138 u139 u140 u141 u142 u143 u144 u145 u146 u147 u148 u149 u150 u151 u152 u153 u154 u155 u156 u157 u158 u159 u160 u161 u162 u163 u164 u165 u166 u167 u168 u169 u170 u171 u172 u173 u174 u175 u176 u177 u178 u179 u180 u181 u182 u183 u184 u185 u186 u187 u188 u189 u190 u191 u192 u193 u194 u195 u196 u197 u198 u199 u200 u201 u202 u203 u204 u205 u206 u207 u208 u209 u210 u211 u212 u213 u214 u215 u216 u217 u218 u219 u220 u221 u222 u223 u224 u225 u226 u227 u228 u229 u230 u231 u232 u233 u234 u235 u236 u237 u238 u239 u240 u241 u242 u243 u244 u245 u246 u247 u248 u249 u250 u251 u252 u253 u254 u255 u256 u257 u258 u259 u260 u261 u262 u263 u264 u265 u266 u267 u268 u269 u270 u271 u272 u273 u274 u275 u276 u277 u278 u279 u280 u281 u282 u283 u284 u285 u286 u287 u288 u289 u290 u291 u292 u293 u294 u295 u296 u297 u298 u299 u300 u301 u302 u303 u304 u305 u306 u307 u308 u309 u310 u311 u312 u313 u314 u315 u316 u317 u318 u319 u320 u321 u322 u323 u324 u325 u326 u327 u328 u329 u330 u331 u332 u333
  have HK := Lib.hid hK
  have HQ := Lib.hid hQ
  clear hK hQ hF
  conv => arg 2; whnf
  go_wp2
  exact HK.out _ _ ⟨rfl, _, rfl, rfl⟩ ⟨rfl, rfl, rfl, rfl⟩

theorem start_fr (S : Nat) : Fr S { tmps := #[.pointer (some ⟨S, 0, none⟩)] ++ Array.replicate (Tryf.f17.ntmps - #[Value.pointer (some ⟨S, 0, none⟩)].size) undef, defers := [] } := by
  refine ⟨rfl, List.replicate 333 undef, List.length_replicate, ?_⟩
  rw [Tryf.ntmps17]
  apply Array.ext'
  simp only [Array.toList_append, Array.toList_replicate, List.size_toArray, List.length_cons, List.length_nil]
  rfl

theorem scan_any {w0 w : World} {t : ByteArray} {line : Int} {p ri st en n : Nat} {err : Value} {a0 a1 a2 : Addr} {t2 : ByteArray} (hs : t.size ≤ 1048576) (sn : Sents w0 a0 a1 a2 t2) (h : St w0 w t line p ri st en n err) (ho : ErrOk err a1 t ri en n) :
    Calls Tryf.prog 17 #[.pointer (some ⟨w0.heap.size + 1, 0, none⟩)] w (Scanned w0 t line p a1 a2) := by
  refine calls_of_wp Tryf.func17 f17_eq ?_
  refine wp_seq (pieceQ0 _ w _ _ _ (start_fr _) (fun b1 w1 f1 m1 => ?_) trivial)
  obtain ⟨⟨tok, buf, emp, sc, hm, hb⟩, hwin, l1, l2, l3, hmax, hlong⟩ := h
  obtain ⟨c0, c1, c2, c3, c4, c5, c6, c7, c8, c9, c10, cz⟩ := sc_cells (hm.mem m1).hS
  refine wp_seq (pieceQ1 _ w1 b1 _ _ f1 c10 (fun b2 w2 f2 m2 => ?_) trivial)
  have m12 := m1.trans m2
  obtain ⟨d0, d1, d2, d3, d4, d5, d6, d7, d8, d9, d10, dz⟩ := sc_cells (hm.mem m12).hS
  refine wp_seq (pieceQ3 _ w2 b2 _ _ f2 _ d9 dz (fun b3 w3 f3 m3 => ?_) trivial)
  refine wp_block ?_
  obtain ⟨k, hk⟩ : ∃ k, Ms t ri err k := by
    by_cases e : err = .nilIface
    · exact ⟨_, .inl ⟨e, rfl⟩⟩
    · exact ⟨_, .inr ⟨e, rfl⟩⟩
  refine wp_loop_ghost (Inv w0 t line p a1) k ⟨f3, ri, st, en, n, err, ⟨⟨tok, buf, emp, true, ((hm.mem m12).setS 9 (.bool true) rfl).mem m3, ((hb.mem m12).setS _ 9 _ (by omega)).mem m3⟩, hwin, l1, l2, l3, hmax, hlong⟩, ho, hk⟩ (fun k a w hI => ?_)
  refine wp_mono (round hs sn k hI (J := fun a' w' => ∃ n', n' < k ∧ Inv w0 t line p a1 n' a' w') (fun a w' k' hk' hI' => ⟨k', hk', hI'⟩)) ?_
  intro e a w hq
  cases e with
  | normal => exact hq
  | ret =>
    obtain ⟨_, f, b, hb, hsc⟩ := (show Done w0 t line p a1 a2 .ret a w from hq)
    show bodyPost Tryf.prog Tryf.f17 (Scanned w0 t line p a1 a2) .ret a w
    refine bodyPost_ret (results_tmp rfl _ _ _) f.1 ?_
    rw [Array.getD_eq_getD_getElem?, hb]
    exact hsc
  | _ => exact absurd (show Done w0 t line p a1 a2 _ a w from hq).1 (by simp)
end Go.Proofs.Qxb6612715aFmt.W
