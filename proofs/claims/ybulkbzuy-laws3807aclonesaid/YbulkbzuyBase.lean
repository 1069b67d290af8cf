import Derived.Test.YbulkbzuyEq
import Derived.Deep.QuietTactic
import Derived.BigQuiet
import Derived.Deep.DeepCutAuto
namespace Go.Proofs.Ybulkbzuy
open Go.RowKit
set_option linter.unusedVariables false
set_option maxRecDepth 1000000

/-- What the rest of the law asks of memory, once the clone is made. -/
structure Facts (a0 a1 a2 a3 a7 a8 : Int) (x4 x5 x6 b4 b5 b6 : Option Addr) (n4 c4 n5 c5 n6 c6 d4 d5 d6 gt ge gc g1 g2 g3 : Nat) (p6 p7 p8 p9 : Addr) (z4 z6 : List Int) (w w4 : World) : Prop where
  m4 : n4 ≤ 1024
  m5 : n5 ≤ 1024
  m6 : n6 ≤ 1024
  bel : Below w.heap.size w w4
  evc : IsEv w4 gc (.int .i64 a0) (.int .i64 a1) (.int .i64 a2) (.int .i64 a3) (.int .i64 0) (.int .i64 0) (.iface 35 (.pointer (some p6))) (.iface 38 (.pointer (some p7))) (.iface 41 (.pointer (some p8))) (.pointer (some p9)) (.slice b6 n6 d6) (.slice (some ⟨g1, 0, none⟩) n4 n4) (.slice (some ⟨g2, 0, none⟩) n4 n4) (.slice (some ⟨g3, 0, none⟩) n4 n4) (.int .i64 a7)
  eve : IsEv w4 ge (.int .i64 a0) (.int .i64 a1) (.int .i64 a2) (.int .i64 a3) (.int .i64 0) (.int .i64 0) (.iface 35 (.pointer (some p6))) (.iface 38 (.pointer (some p7))) (.iface 41 (.pointer (some p8))) (.pointer (some p9)) (.slice b6 n6 d6) (.slice b4 n4 d4) (.slice b5 n5 d5) (.slice (some ⟨gt, 0, none⟩) n4 n4) (.int .i64 a7)
  z1 : w4.heap[g1]? = some (.cells (madeCells #[.int .i64 0] n4) 2)
  z2 : w4.heap[g2]? = some (.cells (madeCells #[.float .f64 0] n4) 27)
  z3 : w4.heap[g3]? = some (.cells (madeCells #[.slice none 0 0] n4) 30)
  tx : ∃ cur, w4.heap[gt]? = some (.cells cur 30)
  g3t : g3 ≠ gt
  len4 : z4.length = n4
  num : n4 = 0 ∨ ∃ g cur, b4 = some ⟨g, 0, none⟩ ∧ w4.heap[g]? = some (.cells cur 2) ∧ g1 ≠ g
  numc : n4 = 0 ∨ ∃ b off, b4 = some ⟨b, off, none⟩ ∧ ∀ j, j < n4 → w4.cell? ⟨b, off + j, none⟩ = some (.int .i64 (z4.getD j 0))
  inn : n4 = 0 ∨ ∃ b off, x4 = some ⟨b, off, none⟩ ∧ ∀ j, j < n4 → w4.cell? ⟨b, off + j, none⟩ = some (.int .i64 (z4.getD j 0))
  gce : gc ≠ ge
  len6 : z6.length = n6
  colc : n6 = 0 ∨ ∃ b off, b6 = some ⟨b, off, none⟩ ∧ ∀ j, j < n6 → w4.cell? ⟨b, off + j, none⟩ = some (.int .i64 (z6.getD j 0))
  inc : n6 = 0 ∨ ∃ b off, x6 = some ⟨b, off, none⟩ ∧ ∀ j, j < n6 → w4.cell? ⟨b, off + j, none⟩ = some (.int .i64 (z6.getD j 0))
  flt : n5 = 0 ∨ ∃ g, b5 = some ⟨g, 0, none⟩

/-- The code behind the n-th statement. -/
def rights : Nat → Code → Code
  | 0, c => c
  | n + 1, .seq _ b => rights n b
  | _, c => c
def lawBody (f : Func) : Code := (f.body).getD .skip

/-- The n-th statement. -/
def stmt (n : Nat) (c : Code) : Code := match rights n c with
  | .seq a _ => a
  | c => c

/-- What follows a check, from whatever the scratch slots hold and however many draws there were. -/
def KH (a0 a1 a2 a3 a7 a8 : Int) (x4 x5 x6 b4 b5 b6 : Option Addr) (n4 c4 n5 c5 n6 c6 d4 d5 d6 gt ge gc g1 g2 g3 : Nat) (p6 p7 p8 p9 : Addr) (z4 z6 : List Int) (w w4 : World) (K : Act → World → Prop) : Prop :=
  ∀ (nq : Nat) (u18 u24 u31 u32 u33 u34 u35 u36 u37 u38 u39 u40 u41 u42 u43 u44 u45 u46 u47 u48 u49 u50 u51 u52 u53 u54 u55 u56 u57 u58 u59 u60 u61 u62 u63 u64 u65 u66 u67 u68 u69 u70 u71 u72 u73 u74 u75 u76 u77 u78 u79 u80 u81 u82 u83 u84 u85 u86 u87 u88 u89 u90 u91 u92 u93 u94 u95 u96 u97 u98 u99 u100 u101 u102 u103 u104 u105 u106 u107 u108 u109 u110 u111 u112 u113 u114 u115 u116 u117 u118 u119 u120 u121 u122 u123 u124 u125 u126 u127 u128 u129 u130 u131 u132 u133 u134 u135 u136 u137 u138 u139 u140 u141 u142 u143 u144 u145 u146 u147 u148 u149 u150 u151 u152 u153 u154 u155 u156 u157 u158 u159 u160 u161 u162 u163 u164 u165 u166 u167 u168 u169 u170 u171 u172 u173 u174 u175 u176 u177 u178 u179 u180 u181 u182 u183 u184 u185 u186 u187 u188 u189 u190 u191 u192 u193 u194 u195 u196 u197 u198 u199 u200 u201 u202 u203 u204 u205 u206 u207 u208 u209 u210 u211 u212 u213 u214 u215 u216 u217 u218 u219 u220 u221 u222 u223 u224 u225 u226 u227 u228 u229 u230 u231 u232 u233 u234 u235 u236 u237 u238 u239 u240 u241 u242 u243 u244 u245 u246 u247 u248 u249 u250 u251 u252 u253 u254 u255 u256 u257 u258 u259 u260 u261 u262 u263 u264 u265 u266 u267 u268 u269 u270 u271 u272 u273 u274 u275 u276 u277 u278 u279 u280 u281 u282 u283 u284 u285 u286 u287 u288 u289 u290 u291 u292 u293 u294 u295 u296 u297 u298 u299 u300 u301 u302 u303 u304 u305 u306 u307 u308 u309 u310 u311 u312 u313 u314 u315 u316 u317 u318 u319 u320 u321 u322 u323 u324 u325 u326 u327 u328 u329 u330 u331 u332 u333 u334 u335 u336 u337 u338 u339 u340 u341 u342 u343 u344 u345 u346 u347 u348 u349 u350 u351 u352 u353 u354 u355 u356 u357 u358 u359 u360 u361 u362 u363 u364 u365 u366 u367 u368 u369 u370 u371 u372 u373 u374 u375 u376 u377 u378 u379 u380 u381 u382 u383 u384 u385 u386 u387 u388 u389 u390 u391 u392 u393 u394 u395 u396 u397 u398 u399 u400 u401 u402 u403 u404 u405 u406 u407 u408 u409 u410 u411 u412 u413 u414 u415 u416 u417 u418 u419 u420 u421 u422 : Value), K ⟨List.toArray (.int .i64 a0 :: .int .i64 a1 :: .int .i64 a2 :: .int .i64 a3 :: .slice x4 n4 c4 :: .slice x5 n5 c5 :: .slice x6 n6 c6 :: .int .i64 a7 :: .int .u8 a8 :: undef :: undef :: undef :: undef :: undef :: undef :: undef :: undef :: undef :: u18 :: .slice b4 n4 d4 :: .slice b5 n5 d5 :: .slice b6 n6 d6 :: .int .i64 (n4 : Int) :: .slice (some ⟨gt, 0, none⟩) n4 n4 :: u24 :: .pointer (some p9) :: .pointer (some p6) :: .pointer (some p7) :: .pointer (some p8) :: .pointer (some ⟨ge, 0, none⟩) :: .pointer (some ⟨gc, 0, none⟩) :: u31 :: u32 :: u33 :: u34 :: u35 :: u36 :: u37 :: u38 :: u39 :: u40 :: u41 :: u42 :: u43 :: u44 :: u45 :: u46 :: u47 :: u48 :: u49 :: u50 :: u51 :: u52 :: u53 :: u54 :: u55 :: u56 :: u57 :: u58 :: u59 :: u60 :: u61 :: u62 :: u63 :: u64 :: u65 :: u66 :: u67 :: u68 :: u69 :: u70 :: u71 :: u72 :: u73 :: u74 :: u75 :: u76 :: u77 :: u78 :: u79 :: u80 :: u81 :: u82 :: u83 :: u84 :: u85 :: u86 :: u87 :: u88 :: u89 :: u90 :: u91 :: u92 :: u93 :: u94 :: u95 :: u96 :: u97 :: u98 :: u99 :: u100 :: u101 :: u102 :: u103 :: u104 :: u105 :: u106 :: u107 :: u108 :: u109 :: u110 :: u111 :: u112 :: u113 :: u114 :: u115 :: u116 :: u117 :: u118 :: u119 :: u120 :: u121 :: u122 :: u123 :: u124 :: u125 :: u126 :: u127 :: u128 :: u129 :: u130 :: u131 :: u132 :: u133 :: u134 :: u135 :: u136 :: u137 :: u138 :: u139 :: u140 :: u141 :: u142 :: u143 :: u144 :: u145 :: u146 :: u147 :: u148 :: u149 :: u150 :: u151 :: u152 :: u153 :: u154 :: u155 :: u156 :: u157 :: u158 :: u159 :: u160 :: u161 :: u162 :: u163 :: u164 :: u165 :: u166 :: u167 :: u168 :: u169 :: u170 :: u171 :: u172 :: u173 :: u174 :: u175 :: u176 :: u177 :: u178 :: u179 :: u180 :: u181 :: u182 :: u183 :: u184 :: u185 :: u186 :: u187 :: u188 :: u189 :: u190 :: u191 :: u192 :: u193 :: u194 :: u195 :: u196 :: u197 :: u198 :: u199 :: u200 :: u201 :: u202 :: u203 :: u204 :: u205 :: u206 :: u207 :: u208 :: u209 :: u210 :: u211 :: u212 :: u213 :: u214 :: u215 :: u216 :: u217 :: u218 :: u219 :: u220 :: u221 :: u222 :: u223 :: u224 :: u225 :: u226 :: u227 :: u228 :: u229 :: u230 :: u231 :: u232 :: u233 :: u234 :: u235 :: u236 :: u237 :: u238 :: u239 :: u240 :: u241 :: u242 :: u243 :: u244 :: u245 :: u246 :: u247 :: u248 :: u249 :: u250 :: u251 :: u252 :: u253 :: u254 :: u255 :: u256 :: u257 :: u258 :: u259 :: u260 :: u261 :: u262 :: u263 :: u264 :: u265 :: u266 :: u267 :: u268 :: u269 :: u270 :: u271 :: u272 :: u273 :: u274 :: u275 :: u276 :: u277 :: u278 :: u279 :: u280 :: u281 :: u282 :: u283 :: u284 :: u285 :: u286 :: u287 :: u288 :: u289 :: u290 :: u291 :: u292 :: u293 :: u294 :: u295 :: u296 :: u297 :: u298 :: u299 :: u300 :: u301 :: u302 :: u303 :: u304 :: u305 :: u306 :: u307 :: u308 :: u309 :: u310 :: u311 :: u312 :: u313 :: u314 :: u315 :: u316 :: u317 :: u318 :: u319 :: u320 :: u321 :: u322 :: u323 :: u324 :: u325 :: u326 :: u327 :: u328 :: u329 :: u330 :: u331 :: u332 :: u333 :: u334 :: u335 :: u336 :: u337 :: u338 :: u339 :: u340 :: u341 :: u342 :: u343 :: u344 :: u345 :: u346 :: u347 :: u348 :: u349 :: u350 :: u351 :: u352 :: u353 :: u354 :: u355 :: u356 :: u357 :: u358 :: u359 :: u360 :: u361 :: u362 :: u363 :: u364 :: u365 :: u366 :: u367 :: u368 :: u369 :: u370 :: u371 :: u372 :: u373 :: u374 :: u375 :: u376 :: u377 :: u378 :: u379 :: u380 :: u381 :: u382 :: u383 :: u384 :: u385 :: u386 :: u387 :: u388 :: u389 :: u390 :: u391 :: u392 :: u393 :: u394 :: u395 :: u396 :: u397 :: u398 :: u399 :: u400 :: u401 :: u402 :: u403 :: u404 :: u405 :: u406 :: u407 :: u408 :: u409 :: u410 :: u411 :: u412 :: u413 :: u414 :: u415 :: u416 :: u417 :: u418 :: u419 :: u420 :: u421 :: u422 :: []), []⟩ (w4.drewN nq)

theorem lt_of {w : World} {g m : Nat} {o : Obj} (h : w.heap[g]? = some o) (hm : w.heap.size ≤ m) : g < m :=
  Nat.lt_of_lt_of_le (Array.getElem?_eq_some_iff.1 h).1 hm

theorem made_cell {w : World} {g n j : Nat} {t : TypeId} {z : Value} (h : w.heap[g]? = some (.cells (madeCells #[z] n) t)) (_hz : z.cells = #[z]) (hj : j < n) : w.cell? ⟨g, j, none⟩ = some z := by
  simp [World.cell?, h, madeCells, hj, Nat.mod_one]
end Go.Proofs.Ybulkbzuy
