/-
  Seat b6612715aF: the state of a line reader in memory, and the walk of (*bufio.Scanner).Scan.
-/
import Derived.Test.Qxb6612715aFmtRead
import Derived.Deep.LoopGhost
import Derived.Deep.DeepCutAuto
import Derived.Deep.RegionHeld3
import Derived.Deep.Light
namespace Go.Proofs.Qxb6612715aFmt.W
open Go.RowKit
open Go.Proofs.Qxb6612715aFmt.Plain
set_option linter.unusedVariables false

/-- The three blocks of a line reader over the base world w0 (N its number of blocks): the strings.Reader N, the Scanner N+1, the lineReader N+2. -/
structure Mm (w0 w : World) (t : ByteArray) (line : Int) (ri : Nat) (tok buf : Value) (st en : Nat) (err : Value) (emp : Int) (sc : Bool) : Prop where
  below : Below w0.heap.size w0 w
  hR : ∃ pr : Int, w.heap[w0.heap.size]? = some (.cells #[.string t, .int .i64 ri, .int .i64 pr] 55 (0, 0))
  hS : w.heap[w0.heap.size + 1]? = some (.cells (scanCells w0.heap.size tok buf st en err emp sc) 53 (0, 0))
  hL : w.heap[w0.heap.size + 2]? = some (.cells #[.pointer (some ⟨w0.heap.size + 1, 0, none⟩), .int .i64 line, .slice none 0 0, .bool false, .bool false, .bool false] 38 (0, 0))

/-- The window's bytes lie in the buffer's block B. -/
def Win (w : World) (t : ByteArray) (B p st en n : Nat) : Prop :=
  ∃ M : Array Value, w.heap[B]? = some (.cells M 5 (0, 0)) ∧ M.size = n ∧ ∀ j, st ≤ j → j < en → ∃ x, t.data.toList[p + (j - st)]? = some x ∧ M[j]? = some (.int .u8 x.toNat)

/-- The buffer: none yet, or n cells in a block of its own. -/
def Buf (w0 w : World) (t : ByteArray) (buf : Value) (p st en n : Nat) : Prop :=
  (n = 0 ∧ buf = .slice none 0 0) ∨ ∃ B, w0.heap.size + 3 ≤ B ∧ buf = .slice (some ⟨B, 0, none⟩) n n ∧ 0 < n ∧ Win w t B p st en n

/-- A scanner's whole state: p: the text's place of the window's first byte. -/
structure St (w0 w : World) (t : ByteArray) (line : Int) (p ri st en n : Nat) (err : Value) : Prop where
  mm : ∃ tok buf emp sc, Mm w0 w t line ri tok buf st en err emp sc ∧ Buf w0 w t buf p st en n
  win : p + (en - st) = ri
  le1 : st ≤ en
  le2 : en ≤ n
  le3 : ri ≤ t.size
  max : n ≤ 65536
  long : longFrom 0 t.data.toList = longFrom 0 (t.data.toList.drop p)

/-- What the error may be while Scan may still be called. -/
def ErrOk (err : Value) (a1 : Addr) (t : ByteArray) (ri en n : Nat) : Prop := err = .nilIface ∨ (err = .iface 76 (.pointer (some a1)) ∧ en < n ∧ ri = t.size)

/-- How Scan ends. -/
def Scanned (w0 : World) (t : ByteArray) (line : Int) (p : Nat) (a1 a2 : Addr) (e : Ending) (w : World) : Prop :=
  (e = .returned (.bool true) ∧ ∃ p' ri st en n err, p < p' ∧ p' ≤ t.size ∧ St w0 w t line p' ri st en n err ∧ ErrOk err a1 t ri en n) ∨
  (e = .returned (.bool false) ∧ ∃ ri tok buf st en err emp sc, Mm w0 w t line ri tok buf st en err emp sc ∧
    ((err = .iface 76 (.pointer (some a1)) ∧ longFrom 0 t.data.toList = false) ∨ (err = .iface 76 (.pointer (some a2)) ∧ longFrom 0 t.data.toList = true)))

theorem sc_cells {w : World} {S N : Nat} {tok buf : Value} {st en : Int} {err : Value} {emp : Int} {sc : Bool} (h : w.heap[S]? = some (.cells (scanCells N tok buf st en err emp sc) 53 (0, 0))) :
    w.cell? ⟨S, 0, none⟩ = some (.iface 40 (.pointer (some ⟨N, 0, none⟩))) ∧ w.cell? ⟨S, 1, none⟩ = some (.func (Fn.func 22) #[] #[]) ∧ w.cell? ⟨S, 2, none⟩ = some (.int .i64 65536) ∧
    w.cell? ⟨S, 3, none⟩ = some tok ∧ w.cell? ⟨S, 4, none⟩ = some buf ∧ w.cell? ⟨S, 5, none⟩ = some (.int .i64 st) ∧ w.cell? ⟨S, 6, none⟩ = some (.int .i64 en) ∧ w.cell? ⟨S, 7, none⟩ = some err ∧
    w.cell? ⟨S, 8, none⟩ = some (.int .i64 emp) ∧ w.cell? ⟨S, 9, none⟩ = some (.bool sc) ∧ w.cell? ⟨S, 10, none⟩ = some (.bool false) ∧ ∀ k, w.frozen? ⟨S, k, none⟩ = false := by
  refine ⟨?_, ?_, ?_, ?_, ?_, ?_, ?_, ?_, ?_, ?_, ?_, fun k => froz_at h⟩ <;> (rw [cell_at h]; rfl)

/-- A frame of Scan: the receiver in slot 0. -/
def Fr (S : Nat) (a : Act) : Prop := a.defers = [] ∧ ∃ l : List Value, l.length = 333 ∧ a.tmps = (.pointer (some ⟨S, 0, none⟩) :: l).toArray

theorem len_cons {l : List Value} {n : Nat} (h : l.length = n + 1) : ∃ u r, l = u :: r ∧ r.length = n := by
  cases l with
  | nil => cases h
  | cons u r => exact ⟨u, r, rfl, by simpa using h⟩

/-- The loop's body, and its parts. -/
def firstLoop : Code → Option Code
  | .loop c => some c
  | .seq a b => match firstLoop a with
    | some c => some c
    | none => firstLoop b
  | .block _ c => firstLoop c
  | .scope c => firstLoop c
  | .cond _ a b => match firstLoop a with
    | some c => some c
    | none => firstLoop b
  | _ => none
def seqL : Code → Code
  | .seq a _ => a
  | c => c
def seqR : Code → Code
  | .seq _ b => b
  | c => c
def blk : Code → Code
  | .block _ c => c
  | c => c

def pI (o : Option Code) : Code := blk ((o.bind firstLoop).getD .skip)
def pA (o : Option Code) : Code := seqL (pI o)
def pB (o : Option Code) : Code := seqL (seqR (pI o))
def pC (o : Option Code) : Code := seqL (seqR (seqR (pI o)))
def pD (o : Option Code) : Code := seqL (seqR (seqR (seqR (pI o))))
def pE (o : Option Code) : Code := seqR (seqR (seqR (seqR (pI o))))
theorem body_eq : ((Tryf.f17.body.bind firstLoop).getD .skip) = .block 1 (.seq (pA Tryf.f17.body) (.seq (pB Tryf.f17.body) (.seq (pC Tryf.f17.body) (.seq (pD Tryf.f17.body) (pE Tryf.f17.body))))) := by kernel_rfl

set_option maxRecDepth 100000 in
set_option maxHeartbeats 4000000 in
/-- A frame, its letters written out. -/
theorem fr_elim {S : Nat} {a : Act} {motive : Act → Prop} (hF : Fr S a) (h : ∀ u1 u2 u3 u4 u5 u6 u7 u8 u9 u10 u11 u12 u13 u14 u15 u16 u17 u18 u19 u20 u21 u22 u23 u24 u25 u26 u27 u28 u29 u30 u31 u32 u33 u34 u35 u36 u37 u38 u39 u40 u41 u42 u43 u44 u45 u46 u47 u48 u49 u50 u51 u52 u53 u54 u55 u56 u57 u58 u59 u60 u61 u62 u63 u64 u65 u66 u67 u68 u69 u70 u71 u72 u73 u74 u75 u76 u77 u78 u79 u80 u81 u82 u83 u84 u85 u86 u87 u88 u89 u90 u91 u92 u93 u94 u95 u96 u97 u98 u99 u100 u101 u102 u103 u104 u105 u106 u107 u108 u109 u110 u111 u112 u113 u114 u115 u116 u117 u118 u119 u120 u121 u122 u123 u124 u125 u126 u127 u128 u129 u130 u131 u132 u133 u134 u135 u136 u137 u138 u139 u140 u141 u142 u143 u144 u145 u146 u147 u148 u149 u150 u151 u152 u153 u154 u155 u156 u157 u158 u159 u160 u161 u162 u163 u164 u165 u166 u167 u168 u169 u170 u171 u172 u173 u174 u175 u176 u177 u178 u179 u180 u181 u182 u183 u184 u185 u186 u187 u188 u189 u190 u191 u192 u193 u194 u195 u196 u197 u198 u199 u200 u201 u202 u203 u204 u205 u206 u207 u208 u209 u210 u211 u212 u213 u214 u215 u216 u217 u218 u219 u220 u221 u222 u223 u224 u225 u226 u227 u228 u229 u230 u231 u232 u233 u234 u235 u236 u237 u238 u239 u240 u241 u242 u243 u244 u245 u246 u247 u248 u249 u250 u251 u252 u253 u254 u255 u256 u257 u258 u259 u260 u261 u262 u263 u264 u265 u266 u267 u268 u269 u270 u271 u272 u273 u274 u275 u276 u277 u278 u279 u280 u281 u282 u283 u284 u285 u286 u287 u288 u289 u290 u291 u292 u293 u294 u295 u296 u297 u298 u299 u300 u301 u302 u303 u304 u305 u306 u307 u308 u309 u310 u311 u312 u313 u314 u315 u316 u317 u318 u319 u320 u321 u322 u323 u324 u325 u326 u327 u328 u329 u330 u331 u332 u333 : Value, motive ⟨#[.pointer (some ⟨S, 0, none⟩), u1, u2, u3, u4, u5, u6, u7, u8, u9, u10, u11, u12, u13, u14, u15, u16, u17, u18, u19, u20, u21, u22, u23, u24, u25, u26, u27, u28, u29, u30, u31, u32, u33, u34, u35, u36, u37, u38, u39, u40, u41, u42, u43, u44, u45, u46, u47, u48, u49, u50, u51, u52, u53, u54, u55, u56, u57, u58, u59, u60, u61, u62, u63, u64, u65, u66, u67, u68, u69, u70, u71, u72, u73, u74, u75, u76, u77, u78, u79, u80, u81, u82, u83, u84, u85, u86, u87, u88, u89, u90, u91, u92, u93, u94, u95, u96, u97, u98, u99, u100, u101, u102, u103, u104, u105, u106, u107, u108, u109, u110, u111, u112, u113, u114, u115, u116, u117, u118, u119, u120, u121, u122, u123, u124, u125, u126, u127, u128, u129, u130, u131, u132, u133, u134, u135, u136, u137, u138, u139, u140, u141, u142, u143, u144, u145, u146, u147, u148, u149, u150, u151, u152, u153, u154, u155, u156, u157, u158, u159, u160, u161, u162, u163, u164, u165, u166, u167, u168, u169, u170, u171, u172, u173, u174, u175, u176, u177, u178, u179, u180, u181, u182, u183, u184, u185, u186, u187, u188, u189, u190, u191, u192, u193, u194, u195, u196, u197, u198, u199, u200, u201, u202, u203, u204, u205, u206, u207, u208, u209, u210, u211, u212, u213, u214, u215, u216, u217, u218, u219, u220, u221, u222, u223, u224, u225, u226, u227, u228, u229, u230, u231, u232, u233, u234, u235, u236, u237, u238, u239, u240, u241, u242, u243, u244, u245, u246, u247, u248, u249, u250, u251, u252, u253, u254, u255, u256, u257, u258, u259, u260, u261, u262, u263, u264, u265, u266, u267, u268, u269, u270, u271, u272, u273, u274, u275, u276, u277, u278, u279, u280, u281, u282, u283, u284, u285, u286, u287, u288, u289, u290, u291, u292, u293, u294, u295, u296, u297, u298, u299, u300, u301, u302, u303, u304, u305, u306, u307, u308, u309, u310, u311, u312, u313, u314, u315, u316, u317, u318, u319, u320, u321, u322, u323, u324, u325, u326, u327, u328, u329, u330, u331, u332, u333], []⟩) : motive a := by
  obtain ⟨df, l0, g0, hd⟩ := hF
  obtain ⟨tmps, defers⟩ := a
  simp only at df hd
  subst df
  subst hd
  obtain ⟨u1, l1, rfl, g1⟩ := len_cons g0; clear g0
  obtain ⟨u2, l2, rfl, g2⟩ := len_cons g1; clear g1
  obtain ⟨u3, l3, rfl, g3⟩ := len_cons g2; clear g2
  obtain ⟨u4, l4, rfl, g4⟩ := len_cons g3; clear g3
  obtain ⟨u5, l5, rfl, g5⟩ := len_cons g4; clear g4
  obtain ⟨u6, l6, rfl, g6⟩ := len_cons g5; clear g5
  obtain ⟨u7, l7, rfl, g7⟩ := len_cons g6; clear g6
  obtain ⟨u8, l8, rfl, g8⟩ := len_cons g7; clear g7
  obtain ⟨u9, l9, rfl, g9⟩ := len_cons g8; clear g8
  obtain ⟨u10, l10, rfl, g10⟩ := len_cons g9; clear g9
  obtain ⟨u11, l11, rfl, g11⟩ := len_cons g10; clear g10
  obtain ⟨u12, l12, rfl, g12⟩ := len_cons g11; clear g11
  obtain ⟨u13, l13, rfl, g13⟩ := len_cons g12; clear g12
  obtain ⟨u14, l14, rfl, g14⟩ := len_cons g13; clear g13
  obtain ⟨u15, l15, rfl, g15⟩ := len_cons g14; clear g14
  obtain ⟨u16, l16, rfl, g16⟩ := len_cons g15; clear g15
  obtain ⟨u17, l17, rfl, g17⟩ := len_cons g16; clear g16
  obtain ⟨u18, l18, rfl, g18⟩ := len_cons g17; clear g17
  obtain ⟨u19, l19, rfl, g19⟩ := len_cons g18; clear g18
  obtain ⟨u20, l20, rfl, g20⟩ := len_cons g19; clear g19
  obtain ⟨u21, l21, rfl, g21⟩ := len_cons g20; clear g20
  obtain ⟨u22, l22, rfl, g22⟩ := len_cons g21; clear g21
  obtain ⟨u23, l23, rfl, g23⟩ := len_cons g22; clear g22
  obtain ⟨u24, l24, rfl, g24⟩ := len_cons g23; clear g23
  obtain ⟨u25, l25, rfl, g25⟩ := len_cons g24; clear g24
  obtain ⟨u26, l26, rfl, g26⟩ := len_cons g25; clear g25
  obtain ⟨u27, l27, rfl, g27⟩ := len_cons g26; clear g26
  obtain ⟨u28, l28, rfl, g28⟩ := len_cons g27; clear g27
  obtain ⟨u29, l29, rfl, g29⟩ := len_cons g28; clear g28
  obtain ⟨u30, l30, rfl, g30⟩ := len_cons g29; clear g29
  obtain ⟨u31, l31, rfl, g31⟩ := len_cons g30; clear g30
  obtain ⟨u32, l32, rfl, g32⟩ := len_cons g31; clear g31
  obtain ⟨u33, l33, rfl, g33⟩ := len_cons g32; clear g32
  obtain ⟨u34, l34, rfl, g34⟩ := len_cons g33; clear g33
  obtain ⟨u35, l35, rfl, g35⟩ := len_cons g34; clear g34
  obtain ⟨u36, l36, rfl, g36⟩ := len_cons g35; clear g35
  obtain ⟨u37, l37, rfl, g37⟩ := len_cons g36; clear g36
  obtain ⟨u38, l38, rfl, g38⟩ := len_cons g37; clear g37
  obtain ⟨u39, l39, rfl, g39⟩ := len_cons g38; clear g38
  obtain ⟨u40, l40, rfl, g40⟩ := len_cons g39; clear g39
  obtain ⟨u41, l41, rfl, g41⟩ := len_cons g40; clear g40
  obtain ⟨u42, l42, rfl, g42⟩ := len_cons g41; clear g41
  obtain ⟨u43, l43, rfl, g43⟩ := len_cons g42; clear g42
  obtain ⟨u44, l44, rfl, g44⟩ := len_cons g43; clear g43
  obtain ⟨u45, l45, rfl, g45⟩ := len_cons g44; clear g44
  obtain ⟨u46, l46, rfl, g46⟩ := len_cons g45; clear g45
  obtain ⟨u47, l47, rfl, g47⟩ := len_cons g46; clear g46
  obtain ⟨u48, l48, rfl, g48⟩ := len_cons g47; clear g47
  obtain ⟨u49, l49, rfl, g49⟩ := len_cons g48; clear g48
  obtain ⟨u50, l50, rfl, g50⟩ := len_cons g49; clear g49
  obtain ⟨u51, l51, rfl, g51⟩ := len_cons g50; clear g50
  obtain ⟨u52, l52, rfl, g52⟩ := len_cons g51; clear g51
  obtain ⟨u53, l53, rfl, g53⟩ := len_cons g52; clear g52
  obtain ⟨u54, l54, rfl, g54⟩ := len_cons g53; clear g53
  obtain ⟨u55, l55, rfl, g55⟩ := len_cons g54; clear g54
  obtain ⟨u56, l56, rfl, g56⟩ := len_cons g55; clear g55
  obtain ⟨u57, l57, rfl, g57⟩ := len_cons g56; clear g56
  obtain ⟨u58, l58, rfl, g58⟩ := len_cons g57; clear g57
  obtain ⟨u59, l59, rfl, g59⟩ := len_cons g58; clear g58
  obtain ⟨u60, l60, rfl, g60⟩ := len_cons g59; clear g59
  obtain ⟨u61, l61, rfl, g61⟩ := len_cons g60; clear g60
  obtain ⟨u62, l62, rfl, g62⟩ := len_cons g61; clear g61
  obtain ⟨u63, l63, rfl, g63⟩ := len_cons g62; clear g62
  obtain ⟨u64, l64, rfl, g64⟩ := len_cons g63; clear g63
  obtain ⟨u65, l65, rfl, g65⟩ := len_cons g64; clear g64
  obtain ⟨u66, l66, rfl, g66⟩ := len_cons g65; clear g65
  obtain ⟨u67, l67, rfl, g67⟩ := len_cons g66; clear g66
  obtain ⟨u68, l68, rfl, g68⟩ := len_cons g67; clear g67
  obtain ⟨u69, l69, rfl, g69⟩ := len_cons g68; clear g68
  obtain ⟨u70, l70, rfl, g70⟩ := len_cons g69; clear g69
  obtain ⟨u71, l71, rfl, g71⟩ := len_cons g70; clear g70
  obtain ⟨u72, l72, rfl, g72⟩ := len_cons g71; clear g71
  obtain ⟨u73, l73, rfl, g73⟩ := len_cons g72; clear g72
  obtain ⟨u74, l74, rfl, g74⟩ := len_cons g73; clear g73
  obtain ⟨u75, l75, rfl, g75⟩ := len_cons g74; clear g74
  obtain ⟨u76, l76, rfl, g76⟩ := len_cons g75; clear g75
  obtain ⟨u77, l77, rfl, g77⟩ := len_cons g76; clear g76
  obtain ⟨u78, l78, rfl, g78⟩ := len_cons g77; clear g77
  obtain ⟨u79, l79, rfl, g79⟩ := len_cons g78; clear g78
  obtain ⟨u80, l80, rfl, g80⟩ := len_cons g79; clear g79
  obtain ⟨u81, l81, rfl, g81⟩ := len_cons g80; clear g80
  obtain ⟨u82, l82, rfl, g82⟩ := len_cons g81; clear g81
  obtain ⟨u83, l83, rfl, g83⟩ := len_cons g82; clear g82
  obtain ⟨u84, l84, rfl, g84⟩ := len_cons g83; clear g83
  obtain ⟨u85, l85, rfl, g85⟩ := len_cons g84; clear g84
  obtain ⟨u86, l86, rfl, g86⟩ := len_cons g85; clear g85
  obtain ⟨u87, l87, rfl, g87⟩ := len_cons g86; clear g86
  obtain ⟨u88, l88, rfl, g88⟩ := len_cons g87; clear g87
  obtain ⟨u89, l89, rfl, g89⟩ := len_cons g88; clear g88
  obtain ⟨u90, l90, rfl, g90⟩ := len_cons g89; clear g89
  obtain ⟨u91, l91, rfl, g91⟩ := len_cons g90; clear g90
  obtain ⟨u92, l92, rfl, g92⟩ := len_cons g91; clear g91
  obtain ⟨u93, l93, rfl, g93⟩ := len_cons g92; clear g92
  obtain ⟨u94, l94, rfl, g94⟩ := len_cons g93; clear g93
  obtain ⟨u95, l95, rfl, g95⟩ := len_cons g94; clear g94
  obtain ⟨u96, l96, rfl, g96⟩ := len_cons g95; clear g95
  obtain ⟨u97, l97, rfl, g97⟩ := len_cons g96; clear g96
  obtain ⟨u98, l98, rfl, g98⟩ := len_cons g97; clear g97
  obtain ⟨u99, l99, rfl, g99⟩ := len_cons g98; clear g98
  obtain ⟨u100, l100, rfl, g100⟩ := len_cons g99; clear g99
  obtain ⟨u101, l101, rfl, g101⟩ := len_cons g100; clear g100
  obtain ⟨u102, l102, rfl, g102⟩ := len_cons g101; clear g101
  obtain ⟨u103, l103, rfl, g103⟩ := len_cons g102; clear g102
  obtain ⟨u104, l104, rfl, g104⟩ := len_cons g103; clear g103
  obtain ⟨u105, l105, rfl, g105⟩ := len_cons g104; clear g104
  obtain ⟨u106, l106, rfl, g106⟩ := len_cons g105; clear g105
  obtain ⟨u107, l107, rfl, g107⟩ := len_cons g106; clear g106
  obtain ⟨u108, l108, rfl, g108⟩ := len_cons g107; clear g107
  obtain ⟨u109, l109, rfl, g109⟩ := len_cons g108; clear g108
  obtain ⟨u110, l110, rfl, g110⟩ := len_cons g109; clear g109
  obtain ⟨u111, l111, rfl, g111⟩ := len_cons g110; clear g110
  obtain ⟨u112, l112, rfl, g112⟩ := len_cons g111; clear g111
  obtain ⟨u113, l113, rfl, g113⟩ := len_cons g112; clear g112
  obtain ⟨u114, l114, rfl, g114⟩ := len_cons g113; clear g113
  obtain ⟨u115, l115, rfl, g115⟩ := len_cons g114; clear g114
  obtain ⟨u116, l116, rfl, g116⟩ := len_cons g115; clear g115
  obtain ⟨u117, l117, rfl, g117⟩ := len_cons g116; clear g116
  obtain ⟨u118, l118, rfl, g118⟩ := len_cons g117; clear g117
  obtain ⟨u119, l119, rfl, g119⟩ := len_cons g118; clear g118
  obtain ⟨u120, l120, rfl, g120⟩ := len_cons g119; clear g119
  obtain ⟨u121, l121, rfl, g121⟩ := len_cons g120; clear g120
  obtain ⟨u122, l122, rfl, g122⟩ := len_cons g121; clear g121
  obtain ⟨u123, l123, rfl, g123⟩ := len_cons g122; clear g122
  obtain ⟨u124, l124, rfl, g124⟩ := len_cons g123; clear g123
  obtain ⟨u125, l125, rfl, g125⟩ := len_cons g124; clear g124
  obtain ⟨u126, l126, rfl, g126⟩ := len_cons g125; clear g125
  obtain ⟨u127, l127, rfl, g127⟩ := len_cons g126; clear g126
  obtain ⟨u128, l128, rfl, g128⟩ := len_cons g127; clear g127
  obtain ⟨u129, l129, rfl, g129⟩ := len_cons g128; clear g128
  obtain ⟨u130, l130, rfl, g130⟩ := len_cons g129; clear g129
  obtain ⟨u131, l131, rfl, g131⟩ := len_cons g130; clear g130
  obtain ⟨u132, l132, rfl, g132⟩ := len_cons g131; clear g131
  obtain ⟨u133, l133, rfl, g133⟩ := len_cons g132; clear g132
  obtain ⟨u134, l134, rfl, g134⟩ := len_cons g133; clear g133
  obtain ⟨u135, l135, rfl, g135⟩ := len_cons g134; clear g134
  obtain ⟨u136, l136, rfl, g136⟩ := len_cons g135; clear g135
  obtain ⟨u137, l137, rfl, g137⟩ := len_cons g136; clear g136
  obtain ⟨u138, l138, rfl, g138⟩ := len_cons g137; clear g137
  obtain ⟨u139, l139, rfl, g139⟩ := len_cons g138; clear g138
  obtain ⟨u140, l140, rfl, g140⟩ := len_cons g139; clear g139
  obtain ⟨u141, l141, rfl, g141⟩ := len_cons g140; clear g140
  obtain ⟨u142, l142, rfl, g142⟩ := len_cons g141; clear g141
  obtain ⟨u143, l143, rfl, g143⟩ := len_cons g142; clear g142
  obtain ⟨u144, l144, rfl, g144⟩ := len_cons g143; clear g143
  obtain ⟨u145, l145, rfl, g145⟩ := len_cons g144; clear g144
  obtain ⟨u146, l146, rfl, g146⟩ := len_cons g145; clear g145
  obtain ⟨u147, l147, rfl, g147⟩ := len_cons g146; clear g146
  obtain ⟨u148, l148, rfl, g148⟩ := len_cons g147; clear g147
  obtain ⟨u149, l149, rfl, g149⟩ := len_cons g148; clear g148
  obtain ⟨u150, l150, rfl, g150⟩ := len_cons g149; clear g149
  obtain ⟨u151, l151, rfl, g151⟩ := len_cons g150; clear g150
  obtain ⟨u152, l152, rfl, g152⟩ := len_cons g151; clear g151
  obtain ⟨u153, l153, rfl, g153⟩ := len_cons g152; clear g152
  obtain ⟨u154, l154, rfl, g154⟩ := len_cons g153; clear g153
  obtain ⟨u155, l155, rfl, g155⟩ := len_cons g154; clear g154
  obtain ⟨u156, l156, rfl, g156⟩ := len_cons g155; clear g155
  obtain ⟨u157, l157, rfl, g157⟩ := len_cons g156; clear g156
  obtain ⟨u158, l158, rfl, g158⟩ := len_cons g157; clear g157
  obtain ⟨u159, l159, rfl, g159⟩ := len_cons g158; clear g158
  obtain ⟨u160, l160, rfl, g160⟩ := len_cons g159; clear g159
  obtain ⟨u161, l161, rfl, g161⟩ := len_cons g160; clear g160
  obtain ⟨u162, l162, rfl, g162⟩ := len_cons g161; clear g161
  obtain ⟨u163, l163, rfl, g163⟩ := len_cons g162; clear g162
  obtain ⟨u164, l164, rfl, g164⟩ := len_cons g163; clear g163
  obtain ⟨u165, l165, rfl, g165⟩ := len_cons g164; clear g164
  obtain ⟨u166, l166, rfl, g166⟩ := len_cons g165; clear g165
  obtain ⟨u167, l167, rfl, g167⟩ := len_cons g166; clear g166
  obtain ⟨u168, l168, rfl, g168⟩ := len_cons g167; clear g167
  obtain ⟨u169, l169, rfl, g169⟩ := len_cons g168; clear g168
  obtain ⟨u170, l170, rfl, g170⟩ := len_cons g169; clear g169
  obtain ⟨u171, l171, rfl, g171⟩ := len_cons g170; clear g170
  obtain ⟨u172, l172, rfl, g172⟩ := len_cons g171; clear g171
  obtain ⟨u173, l173, rfl, g173⟩ := len_cons g172; clear g172
  obtain ⟨u174, l174, rfl, g174⟩ := len_cons g173; clear g173
  obtain ⟨u175, l175, rfl, g175⟩ := len_cons g174; clear g174
  obtain ⟨u176, l176, rfl, g176⟩ := len_cons g175; clear g175
  obtain ⟨u177, l177, rfl, g177⟩ := len_cons g176; clear g176
  obtain ⟨u178, l178, rfl, g178⟩ := len_cons g177; clear g177
  obtain ⟨u179, l179, rfl, g179⟩ := len_cons g178; clear g178
  obtain ⟨u180, l180, rfl, g180⟩ := len_cons g179; clear g179
  obtain ⟨u181, l181, rfl, g181⟩ := len_cons g180; clear g180
  obtain ⟨u182, l182, rfl, g182⟩ := len_cons g181; clear g181
  obtain ⟨u183, l183, rfl, g183⟩ := len_cons g182; clear g182
  obtain ⟨u184, l184, rfl, g184⟩ := len_cons g183; clear g183
  obtain ⟨u185, l185, rfl, g185⟩ := len_cons g184; clear g184
  obtain ⟨u186, l186, rfl, g186⟩ := len_cons g185; clear g185
  obtain ⟨u187, l187, rfl, g187⟩ := len_cons g186; clear g186
  obtain ⟨u188, l188, rfl, g188⟩ := len_cons g187; clear g187
  obtain ⟨u189, l189, rfl, g189⟩ := len_cons g188; clear g188
  obtain ⟨u190, l190, rfl, g190⟩ := len_cons g189; clear g189
  obtain ⟨u191, l191, rfl, g191⟩ := len_cons g190; clear g190
  obtain ⟨u192, l192, rfl, g192⟩ := len_cons g191; clear g191
  obtain ⟨u193, l193, rfl, g193⟩ := len_cons g192; clear g192
  obtain ⟨u194, l194, rfl, g194⟩ := len_cons g193; clear g193
  obtain ⟨u195, l195, rfl, g195⟩ := len_cons g194; clear g194
  obtain ⟨u196, l196, rfl, g196⟩ := len_cons g195; clear g195
  obtain ⟨u197, l197, rfl, g197⟩ := len_cons g196; clear g196
  obtain ⟨u198, l198, rfl, g198⟩ := len_cons g197; clear g197
  obtain ⟨u199, l199, rfl, g199⟩ := len_cons g198; clear g198
  obtain ⟨u200, l200, rfl, g200⟩ := len_cons g199; clear g199
  obtain ⟨u201, l201, rfl, g201⟩ := len_cons g200; clear g200
  obtain ⟨u202, l202, rfl, g202⟩ := len_cons g201; clear g201
  obtain ⟨u203, l203, rfl, g203⟩ := len_cons g202; clear g202
  obtain ⟨u204, l204, rfl, g204⟩ := len_cons g203; clear g203
  obtain ⟨u205, l205, rfl, g205⟩ := len_cons g204; clear g204
  obtain ⟨u206, l206, rfl, g206⟩ := len_cons g205; clear g205
  obtain ⟨u207, l207, rfl, g207⟩ := len_cons g206; clear g206
  obtain ⟨u208, l208, rfl, g208⟩ := len_cons g207; clear g207
  obtain ⟨u209, l209, rfl, g209⟩ := len_cons g208; clear g208
  obtain ⟨u210, l210, rfl, g210⟩ := len_cons g209; clear g209
  obtain ⟨u211, l211, rfl, g211⟩ := len_cons g210; clear g210
  obtain ⟨u212, l212, rfl, g212⟩ := len_cons g211; clear g211
  obtain ⟨u213, l213, rfl, g213⟩ := len_cons g212; clear g212
  obtain ⟨u214, l214, rfl, g214⟩ := len_cons g213; clear g213
  obtain ⟨u215, l215, rfl, g215⟩ := len_cons g214; clear g214
  obtain ⟨u216, l216, rfl, g216⟩ := len_cons g215; clear g215
  obtain ⟨u217, l217, rfl, g217⟩ := len_cons g216; clear g216
  obtain ⟨u218, l218, rfl, g218⟩ := len_cons g217; clear g217
  obtain ⟨u219, l219, rfl, g219⟩ := len_cons g218; clear g218
  obtain ⟨u220, l220, rfl, g220⟩ := len_cons g219; clear g219
  obtain ⟨u221, l221, rfl, g221⟩ := len_cons g220; clear g220
  obtain ⟨u222, l222, rfl, g222⟩ := len_cons g221; clear g221
  obtain ⟨u223, l223, rfl, g223⟩ := len_cons g222; clear g222
  obtain ⟨u224, l224, rfl, g224⟩ := len_cons g223; clear g223
  obtain ⟨u225, l225, rfl, g225⟩ := len_cons g224; clear g224
  obtain ⟨u226, l226, rfl, g226⟩ := len_cons g225; clear g225
  obtain ⟨u227, l227, rfl, g227⟩ := len_cons g226; clear g226
  obtain ⟨u228, l228, rfl, g228⟩ := len_cons g227; clear g227
  obtain ⟨u229, l229, rfl, g229⟩ := len_cons g228; clear g228
  obtain ⟨u230, l230, rfl, g230⟩ := len_cons g229; clear g229
  obtain ⟨u231, l231, rfl, g231⟩ := len_cons g230; clear g230
  obtain ⟨u232, l232, rfl, g232⟩ := len_cons g231; clear g231
  obtain ⟨u233, l233, rfl, g233⟩ := len_cons g232; clear g232
  obtain ⟨u234, l234, rfl, g234⟩ := len_cons g233; clear g233
  obtain ⟨u235, l235, rfl, g235⟩ := len_cons g234; clear g234
  obtain ⟨u236, l236, rfl, g236⟩ := len_cons g235; clear g235
  obtain ⟨u237, l237, rfl, g237⟩ := len_cons g236; clear g236
  obtain ⟨u238, l238, rfl, g238⟩ := len_cons g237; clear g237
  obtain ⟨u239, l239, rfl, g239⟩ := len_cons g238; clear g238
  obtain ⟨u240, l240, rfl, g240⟩ := len_cons g239; clear g239
  obtain ⟨u241, l241, rfl, g241⟩ := len_cons g240; clear g240
  obtain ⟨u242, l242, rfl, g242⟩ := len_cons g241; clear g241
  obtain ⟨u243, l243, rfl, g243⟩ := len_cons g242; clear g242
  obtain ⟨u244, l244, rfl, g244⟩ := len_cons g243; clear g243
  obtain ⟨u245, l245, rfl, g245⟩ := len_cons g244; clear g244
  obtain ⟨u246, l246, rfl, g246⟩ := len_cons g245; clear g245
  obtain ⟨u247, l247, rfl, g247⟩ := len_cons g246; clear g246
  obtain ⟨u248, l248, rfl, g248⟩ := len_cons g247; clear g247
  obtain ⟨u249, l249, rfl, g249⟩ := len_cons g248; clear g248
  obtain ⟨u250, l250, rfl, g250⟩ := len_cons g249; clear g249
  obtain ⟨u251, l251, rfl, g251⟩ := len_cons g250; clear g250
  obtain ⟨u252, l252, rfl, g252⟩ := len_cons g251; clear g251
  obtain ⟨u253, l253, rfl, g253⟩ := len_cons g252; clear g252
  obtain ⟨u254, l254, rfl, g254⟩ := len_cons g253; clear g253
  obtain ⟨u255, l255, rfl, g255⟩ := len_cons g254; clear g254
  obtain ⟨u256, l256, rfl, g256⟩ := len_cons g255; clear g255
  obtain ⟨u257, l257, rfl, g257⟩ := len_cons g256; clear g256
  obtain ⟨u258, l258, rfl, g258⟩ := len_cons g257; clear g257
  obtain ⟨u259, l259, rfl, g259⟩ := len_cons g258; clear g258
  obtain ⟨u260, l260, rfl, g260⟩ := len_cons g259; clear g259
  obtain ⟨u261, l261, rfl, g261⟩ := len_cons g260; clear g260
  obtain ⟨u262, l262, rfl, g262⟩ := len_cons g261; clear g261
  obtain ⟨u263, l263, rfl, g263⟩ := len_cons g262; clear g262
  obtain ⟨u264, l264, rfl, g264⟩ := len_cons g263; clear g263
  obtain ⟨u265, l265, rfl, g265⟩ := len_cons g264; clear g264
  obtain ⟨u266, l266, rfl, g266⟩ := len_cons g265; clear g265
  obtain ⟨u267, l267, rfl, g267⟩ := len_cons g266; clear g266
  obtain ⟨u268, l268, rfl, g268⟩ := len_cons g267; clear g267
  obtain ⟨u269, l269, rfl, g269⟩ := len_cons g268; clear g268
  obtain ⟨u270, l270, rfl, g270⟩ := len_cons g269; clear g269
  obtain ⟨u271, l271, rfl, g271⟩ := len_cons g270; clear g270
  obtain ⟨u272, l272, rfl, g272⟩ := len_cons g271; clear g271
  obtain ⟨u273, l273, rfl, g273⟩ := len_cons g272; clear g272
  obtain ⟨u274, l274, rfl, g274⟩ := len_cons g273; clear g273
  obtain ⟨u275, l275, rfl, g275⟩ := len_cons g274; clear g274
  obtain ⟨u276, l276, rfl, g276⟩ := len_cons g275; clear g275
  obtain ⟨u277, l277, rfl, g277⟩ := len_cons g276; clear g276
  obtain ⟨u278, l278, rfl, g278⟩ := len_cons g277; clear g277
  obtain ⟨u279, l279, rfl, g279⟩ := len_cons g278; clear g278
  obtain ⟨u280, l280, rfl, g280⟩ := len_cons g279; clear g279
  obtain ⟨u281, l281, rfl, g281⟩ := len_cons g280; clear g280
  obtain ⟨u282, l282, rfl, g282⟩ := len_cons g281; clear g281
  obtain ⟨u283, l283, rfl, g283⟩ := len_cons g282; clear g282
  obtain ⟨u284, l284, rfl, g284⟩ := len_cons g283; clear g283
  obtain ⟨u285, l285, rfl, g285⟩ := len_cons g284; clear g284
  obtain ⟨u286, l286, rfl, g286⟩ := len_cons g285; clear g285
  obtain ⟨u287, l287, rfl, g287⟩ := len_cons g286; clear g286
  obtain ⟨u288, l288, rfl, g288⟩ := len_cons g287; clear g287
  obtain ⟨u289, l289, rfl, g289⟩ := len_cons g288; clear g288
  obtain ⟨u290, l290, rfl, g290⟩ := len_cons g289; clear g289
  obtain ⟨u291, l291, rfl, g291⟩ := len_cons g290; clear g290
  obtain ⟨u292, l292, rfl, g292⟩ := len_cons g291; clear g291
  obtain ⟨u293, l293, rfl, g293⟩ := len_cons g292; clear g292
  obtain ⟨u294, l294, rfl, g294⟩ := len_cons g293; clear g293
  obtain ⟨u295, l295, rfl, g295⟩ := len_cons g294; clear g294
  obtain ⟨u296, l296, rfl, g296⟩ := len_cons g295; clear g295
  obtain ⟨u297, l297, rfl, g297⟩ := len_cons g296; clear g296
  obtain ⟨u298, l298, rfl, g298⟩ := len_cons g297; clear g297
  obtain ⟨u299, l299, rfl, g299⟩ := len_cons g298; clear g298
  obtain ⟨u300, l300, rfl, g300⟩ := len_cons g299; clear g299
  obtain ⟨u301, l301, rfl, g301⟩ := len_cons g300; clear g300
  obtain ⟨u302, l302, rfl, g302⟩ := len_cons g301; clear g301
  obtain ⟨u303, l303, rfl, g303⟩ := len_cons g302; clear g302
  obtain ⟨u304, l304, rfl, g304⟩ := len_cons g303; clear g303
  obtain ⟨u305, l305, rfl, g305⟩ := len_cons g304; clear g304
  obtain ⟨u306, l306, rfl, g306⟩ := len_cons g305; clear g305
  obtain ⟨u307, l307, rfl, g307⟩ := len_cons g306; clear g306
  obtain ⟨u308, l308, rfl, g308⟩ := len_cons g307; clear g307
  obtain ⟨u309, l309, rfl, g309⟩ := len_cons g308; clear g308
  obtain ⟨u310, l310, rfl, g310⟩ := len_cons g309; clear g309
  obtain ⟨u311, l311, rfl, g311⟩ := len_cons g310; clear g310
  obtain ⟨u312, l312, rfl, g312⟩ := len_cons g311; clear g311
  obtain ⟨u313, l313, rfl, g313⟩ := len_cons g312; clear g312
  obtain ⟨u314, l314, rfl, g314⟩ := len_cons g313; clear g313
  obtain ⟨u315, l315, rfl, g315⟩ := len_cons g314; clear g314
  obtain ⟨u316, l316, rfl, g316⟩ := len_cons g315; clear g315
  obtain ⟨u317, l317, rfl, g317⟩ := len_cons g316; clear g316
  obtain ⟨u318, l318, rfl, g318⟩ := len_cons g317; clear g317
  obtain ⟨u319, l319, rfl, g319⟩ := len_cons g318; clear g318
  obtain ⟨u320, l320, rfl, g320⟩ := len_cons g319; clear g319
  obtain ⟨u321, l321, rfl, g321⟩ := len_cons g320; clear g320
  obtain ⟨u322, l322, rfl, g322⟩ := len_cons g321; clear g321
  obtain ⟨u323, l323, rfl, g323⟩ := len_cons g322; clear g322
  obtain ⟨u324, l324, rfl, g324⟩ := len_cons g323; clear g323
  obtain ⟨u325, l325, rfl, g325⟩ := len_cons g324; clear g324
  obtain ⟨u326, l326, rfl, g326⟩ := len_cons g325; clear g325
  obtain ⟨u327, l327, rfl, g327⟩ := len_cons g326; clear g326
  obtain ⟨u328, l328, rfl, g328⟩ := len_cons g327; clear g327
  obtain ⟨u329, l329, rfl, g329⟩ := len_cons g328; clear g328
  obtain ⟨u330, l330, rfl, g330⟩ := len_cons g329; clear g329
  obtain ⟨u331, l331, rfl, g331⟩ := len_cons g330; clear g330
  obtain ⟨u332, l332, rfl, g332⟩ := len_cons g331; clear g331
  obtain ⟨u333, l333, rfl, g333⟩ := len_cons g332; clear g332
  obtain rfl := List.eq_nil_of_length_eq_zero g333
  exact h _ _ _ _ _ _ _ _ _ _ _ _ _ _ _ _ _ _ _ _ _ _ _ _ _ _ _ _ _ _ _ _ _ _ _ _ _ _ _ _ _ _ _ _ _ _ _ _ _ _ _ _ _ _ _ _ _ _ _ _ _ _ _ _ _ _ _ _ _ _ _ _ _ _ _ _ _ _ _ _ _ _ _ _ _ _ _ _ _ _ _ _ _ _ _ _ _ _ _ _ _ _ _ _ _ _ _ _ _ _ _ _ _ _ _ _ _ _ _ _ _ _ _ _ _ _ _ _ _ _ _ _ _ _ _ _ _ _ _ _ _ _ _ _ _ _ _ _ _ _ _ _ _ _ _ _ _ _ _ _ _ _ _ _ _ _ _ _ _ _ _ _ _ _ _ _ _ _ _ _ _ _ _ _ _ _ _ _ _ _ _ _ _ _ _ _ _ _ _ _ _ _ _ _ _ _ _ _ _ _ _ _ _ _ _ _ _ _ _ _ _ _ _ _ _ _ _ _ _ _ _ _ _ _ _ _ _ _ _ _ _ _ _ _ _ _ _ _ _ _ _ _ _ _ _ _ _ _ _ _ _ _ _ _ _ _ _ _ _ _ _ _ _ _ _ _ _ _ _ _ _ _ _ _ _ _ _ _ _ _ _ _ _ _ _ _ _ _ _ _ _ _ _ _ _ _ _ _ _ _ _ _ _ _ _ _ _ _ _ _ _ _ _ _ _ _ _ _ _ _ _ _ _
end Go.Proofs.Qxb6612715aFmt.W
