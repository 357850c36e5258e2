import Derived.Test.Qxb6606006aDoorZ
namespace Go.Proofs.Qxb6606006aDoor.Ix
open Go.RowKit
set_option linter.unusedVariables false
set_option linter.unusedSimpArgs false
attribute [local go_sem ↓] Go.wp_at_zero Go.wp_at_succ

theorem ownsRow_below {w w' : World} {base : Nat} {e : TypeId} {size : Nat} {v : Value} {n : Nat} {xs : List Value} (h : w.ownsRow base e size v n xs) (hb : Below w.heap.size w w') : w'.ownsRow base e size v n xs := by
  refine ⟨h.1, ?_⟩
  rcases h.2 with hn | ⟨g, cap, cur, hv, hbg, hgg, rest⟩
  · exact .inl hn
  · exact .inr ⟨g, cap, cur, hv, hbg, by rw [hb.block g (Array.getElem?_eq_some_iff.1 hgg).1]; exact hgg, rest⟩

theorem hp_old (w : World) (o : Obj) (i : Nat) (h : i < w.heap.size) : (w.alloc o).heap[i]? = w.heap[i]? := by
  show (w.heap.push o)[i]? = w.heap[i]?
  rw [Array.getElem?_push, if_neg (Nat.ne_of_lt h)]
theorem hp_new (w : World) (o : Obj) : (w.alloc o).heap[w.heap.size]? = some o := by
  show (w.heap.push o)[w.heap.size]? = some o
  simp

theorem LS.grown {w wx wy : World} {I g N : Nat} {f : Nat → Int} {V : Nat → Value} {Of : Nat → Int} {row : Option Nat} (h : LS w wx I g w.heap.size (w.heap.size + 1 + 1) N f V Of) (k : wx.grownBy wy row) (hrow : ∀ b, row = some b → w.heap.size + 3 ≤ b) :
    LS w wy I g w.heap.size (w.heap.size + 1 + 1) N f V Of := by
  have bl : ∀ i, i < w.heap.size + 3 → i < wx.heap.size → wy.heap[i]? = wx.heap[i]? := fun i hi hx => k.block i hx (fun e => by have := hrow i e.symm; omega)
  have hI := h.hI
  have hg := h.hg
  exact ⟨⟨k.os.trans h.gr.os, k.tape.trans h.gr.tape, k.output.trans h.gr.output, Nat.le_trans h.gr.size k.size, fun i hi hn => (bl i (by omega) (Nat.lt_of_lt_of_le hi h.gr.size)).trans (h.gr.block i hi hn)⟩,
    h.ix.of_block (bl _ (by omega) h.ix.lt), h.dv.of_block (bl _ (by omega) h.dv.lt), h.ov.of_block (bl _ (by omega) h.ov.lt), h.dat.of_block (bl _ (by omega) h.dat.lt), h.hI, h.hg, h.hD, h.hO, h.ne⟩

theorem ownsRow_setCell {w : World} {base : Nat} {e : TypeId} {size : Nat} {v : Value} {n : Nat} {xs : List Value} {I : Nat} (h : w.ownsRow base e size v n xs) (hI : v.ownBlock = some I → False) (k : Nat) (u : Value) : (w.setCell ⟨I, k, none⟩ u).ownsRow base e size v n xs := by
  refine ⟨h.1, ?_⟩
  rcases h.2 with hn | ⟨g, cap, cur, hv, hbg, hgg, rest⟩
  · exact .inl hn
  · exact .inr ⟨g, cap, cur, hv, hbg, by rw [Below.heap_setCell _ _ _ _ (by show g ≠ I; exact fun e => hI (by rw [hv, ← e]; rfl))]; exact hgg, rest⟩

theorem wp_hidden {P : Program} {o : Oper} {a : Act} {w : World} {K : Act → World → Prop} {Q : Exit → Act → World → Prop} (h : ∀ K' : Act → World → Prop, Hid (∀ a w, K a w → K' a w) → o.wp P a w K' Q) : o.wp P a w K Q :=
  h K (fun _ _ h => h)

theorem info39 : (Tryd.prog.info? 39).map (fun i => (i.zero, i.size, i.bytes)) = some (some (.agg #[.string ⟨#[]⟩, .string ⟨#[]⟩, .string ⟨#[]⟩, .pointer none, .int .i64 0, .int .i64 0]), 6, 72) := by kernel_rfl

theorem conv_if (w : World) (g p : Nat) (A B : Addr) (c : Prop) [Decidable c] (s : ByteArray) (n cap : Nat) (hn : n = s.size) (hcell : ∀ j, j < s.size → w.cell? ⟨g, p + j, none⟩ = some (.int .u8 (byteAt s j))) (hB : 0 < s.size → B = ⟨g, p, none⟩) (hA : c → s.size = 0) (hAs : A.spot = none) (hBs : B.spot = none) :
    (convert 23 9 (.slice (if c then some A else some B) n cap)).run Tryd.prog w = .ok (.string s) w := by
  subst hn
  by_cases h : c
  · rw [if_pos h]
    exact conv_any w g p A s cap hcell (fun h0 => by have := hA h; omega) hAs
  · rw [if_neg h]
    exact conv_any w g p B s cap hcell hB hBs

set_option pp.deepTerms true in
set_option pp.maxSteps 1000000 in
set_option maxHeartbeats 4000000 in
set_option maxRecDepth 1000000 in
theorem loop4 (I g SS SE FE RE N T n : Nat) (f : Nat → Int) (S0 S1 S2 : Nat → ByteArray) (K : Nat → Int) (oS oF oR : Nat) (V6 : Nat → Value) (w w8 : World)
    (hN : N ≤ 1048576) (hN14 : 78 ≤ N) (o1 : 14 ≤ SE) (o2 : SE ≤ FE) (o3 : FE ≤ RE) (o4 : RE + 64 ≤ N) (o5 : N ≤ RE + 64)
    (p1 : SE ≤ 14 + SS) (p2 : 14 + SS ≤ SE) (p3 : FE ≤ SE + 40 * T) (p4 : SE + 40 * T ≤ FE) (p5 : RE ≤ FE + 48 * n) (p6 : FE + 48 * n ≤ RE)
    (hrecs : ∀ r, r < n → Rec f S0 S1 S2 K FE r) (q1 : sumS S0 S1 S2 n ≤ SS) (q2 : SS ≤ sumS S0 S1 S2 n) (q3 : sumK K n ≤ T) (q4 : T ≤ sumK K n) (hK : ∀ i, i < n → 0 ≤ K i ∧ K i ≤ 255)
    (HS2 : Hid (0 < SS → oS = 14)) (HR2 : Hid (0 < n → oR = FE))
    (hL8 : LS w w8 I g w.heap.size (w.heap.size + 1 + 1) N f V6 (fun j => if j < 8 then (offs SE FE RE j : Nat) else 0)) (v61 : V6 1 = .slice (some ⟨g, oS, none⟩) SS SS) (v62 : V6 2 = .slice (some ⟨g, oF, none⟩) (40 * T) (40 * T)) (hown0 : w8.ownsRow (w.heap.size + 3) 39 6 (V6 3) 0 (repCells I S0 S1 S2 K 0))
    (c1 c2 c3 c4 c5 c6 c7 c9 c10 c11 c12 c15 c16 c17 c18 c19 c20 c21 c22 c23 c24 c25 c26 c27 c28 c29 c30 c31 c32 c33 c34 c35 c36 c37 c38 c39 c40 c41 c42 c43 c44 c45 c46 c47 c48 c49 c50 c51 c52 c53 c54 c55 c56 c57 c58 c59 c60 c61 c62 c63 c64 c65 c66 c67 c68 c69 c70 c71 c72 c73 c74 c75 c76 c77 c78 c79 c80 c81 c82 c83 c84 c85 c86 c87 c88 c89 c90 c91 c92 c93 c94 c95 c96 c97 c98 c99 c100 c101 c102 c103 c104 c105 c106 c107 c108 c109 c110 c111 c112 c113 c114 c115 c116 c117 c118 c119 c120 c121 c122 c123 c124 c125 c126 c127 c128 c129 c130 c131 c132 c133 c134 c135 c136 c137 c138 c139 c140 c141 c142 c143 c144 c145 c146 c147 c148 c149 c150 c151 c152 c153 c154 c155 c156 c157 c158 c159 c160 c161 c162 c163 c164 c165 c166 c167 c168 c169 c170 c171 c172 c173 c174 c175 c176 c177 c178 c179 c180 c181 c182 c183 c184 c185 c186 c187 c188 c189 c190 c191 c192 c193 c194 c195 c196 c197 c198 c199 c200 c201 c202 c203 c204 c205 c206 c207 c208 c209 c210 c211 c212 c213 c214 c215 c216 c217 c218 c219 c220 c221 c222 c223 c224 c225 c226 c227 c228 c229 c230 c231 c232 c233 c234 c235 c236 c237 c238 c239 c240 c241 c242 c243 c244 c245 c246 c247 c248 c249 c250 c251 c252 c253 c254 c255 c256 c257 c258 c259 c260 c261 c262 c263 c264 c265 c266 c267 c268 c269 c270 c271 c272 c273 c274 c275 c276 c277 c278 c279 c280 c281 c282 c283 c284 c285 c286 c287 c288 c289 c290 c291 c292 c293 c294 c295 c296 c297 c298 c299 c300 c301 c302 c303 c304 c305 c306 c307 : Value) (B : Code) (hB : B = ((Tryd.f19.body.map loopsOf).getD []).getD 3 .skip) (Q0 : Exit → Act → World → Prop)
    (hexit : ∀ (u1 u2 u3 u4 u5 u6 u7 u8 u9 u10 u11 u12 u14 u15 u16 u17 u18 u19 u20 u21 u22 u23 u24 u25 u26 u27 u28 u29 u30 u31 u32 u33 u34 u35 u36 u37 u38 u39 u40 u41 u42 u43 u44 u45 u46 u47 u48 u49 u50 u51 u52 u53 u54 u55 u56 u57 u58 u59 u60 u61 u62 u63 u64 u65 u66 u67 u68 u69 u70 u71 u72 u73 u74 u75 u76 u77 u78 u79 u80 u81 u82 u83 u84 u85 u86 u87 u88 u89 u90 u91 u92 u93 u94 u95 u96 u97 u98 u99 u100 u101 u102 u103 u104 u105 u106 u107 u108 u109 u110 u111 u112 u113 u114 u115 u116 u117 u118 u119 u120 u121 u122 u123 u124 u125 u126 u127 u128 u129 u130 u131 u132 u133 u134 u135 u136 u137 u138 u139 u140 u141 u142 u143 u144 u145 u146 u147 u148 u149 u150 u151 u152 u153 u154 u155 u156 u157 u158 u159 u160 u161 u162 u163 u164 u165 u166 u167 u168 u169 u170 u171 u172 u173 u174 u175 u176 u177 u178 u179 u180 u181 u182 u183 u184 u185 u186 u187 u188 u189 u190 u191 u192 u193 u194 u195 u196 u197 u198 u199 u200 u201 u202 u203 u204 u205 u206 u207 u208 u209 u210 u211 u212 u213 u214 u215 u216 u217 u218 u219 u220 u221 u222 u223 u224 u225 u226 u227 u228 u229 u230 u231 u232 u233 u234 u235 u236 u237 u238 u239 u240 u241 u242 u243 u244 u245 u246 u247 u248 u249 u250 u251 u252 u253 u254 u255 u256 u257 u258 u259 u260 u261 u262 u263 u264 u265 u266 u267 u268 u269 u270 u271 u272 u273 u274 u275 u276 u277 u278 u279 u280 u281 u282 u283 u284 u285 u286 u287 u288 u289 u290 u291 u292 u293 u294 u295 u296 u297 u298 u299 u300 u301 u302 u303 u304 u305 u306 u307 : Value) (wy : World), Done4 w wy I g N SS T SE FE RE n f S0 S1 S2 K oS oF → Q0 (.exit 6) ⟨(Value.pointer (some ⟨I, 0, none⟩) :: u1 :: u2 :: u3 :: u4 :: u5 :: u6 :: u7 :: u8 :: u9 :: u10 :: u11 :: u12 :: Value.int .i64 (sumK K n : Nat) :: u14 :: u15 :: u16 :: u17 :: u18 :: u19 :: u20 :: u21 :: u22 :: u23 :: u24 :: u25 :: u26 :: u27 :: u28 :: u29 :: u30 :: u31 :: u32 :: u33 :: u34 :: u35 :: u36 :: u37 :: u38 :: u39 :: u40 :: u41 :: u42 :: u43 :: u44 :: u45 :: u46 :: u47 :: u48 :: u49 :: u50 :: u51 :: u52 :: u53 :: u54 :: u55 :: u56 :: u57 :: u58 :: u59 :: u60 :: u61 :: u62 :: u63 :: u64 :: u65 :: u66 :: u67 :: u68 :: u69 :: u70 :: u71 :: u72 :: u73 :: u74 :: u75 :: u76 :: u77 :: u78 :: u79 :: u80 :: u81 :: u82 :: u83 :: u84 :: u85 :: u86 :: u87 :: u88 :: u89 :: u90 :: u91 :: u92 :: u93 :: u94 :: u95 :: u96 :: u97 :: u98 :: u99 :: u100 :: u101 :: u102 :: u103 :: u104 :: u105 :: u106 :: u107 :: u108 :: u109 :: u110 :: u111 :: u112 :: u113 :: u114 :: u115 :: u116 :: u117 :: u118 :: u119 :: u120 :: u121 :: u122 :: u123 :: u124 :: u125 :: u126 :: u127 :: u128 :: u129 :: u130 :: u131 :: u132 :: u133 :: u134 :: u135 :: u136 :: u137 :: u138 :: u139 :: u140 :: u141 :: u142 :: u143 :: u144 :: u145 :: u146 :: u147 :: u148 :: u149 :: u150 :: u151 :: u152 :: u153 :: u154 :: u155 :: u156 :: u157 :: u158 :: u159 :: u160 :: u161 :: u162 :: u163 :: u164 :: u165 :: u166 :: u167 :: u168 :: u169 :: u170 :: u171 :: u172 :: u173 :: u174 :: u175 :: u176 :: u177 :: u178 :: u179 :: u180 :: u181 :: u182 :: u183 :: u184 :: u185 :: u186 :: u187 :: u188 :: u189 :: u190 :: u191 :: u192 :: u193 :: u194 :: u195 :: u196 :: u197 :: u198 :: u199 :: u200 :: u201 :: u202 :: u203 :: u204 :: u205 :: u206 :: u207 :: u208 :: u209 :: u210 :: u211 :: u212 :: u213 :: u214 :: u215 :: u216 :: u217 :: u218 :: u219 :: u220 :: u221 :: u222 :: u223 :: u224 :: u225 :: u226 :: u227 :: u228 :: u229 :: u230 :: u231 :: u232 :: u233 :: u234 :: u235 :: u236 :: u237 :: u238 :: u239 :: u240 :: u241 :: u242 :: u243 :: u244 :: u245 :: u246 :: u247 :: u248 :: u249 :: u250 :: u251 :: u252 :: u253 :: u254 :: u255 :: u256 :: u257 :: u258 :: u259 :: u260 :: u261 :: u262 :: u263 :: u264 :: u265 :: u266 :: u267 :: u268 :: u269 :: u270 :: u271 :: u272 :: u273 :: u274 :: u275 :: u276 :: u277 :: u278 :: u279 :: u280 :: u281 :: u282 :: u283 :: u284 :: u285 :: u286 :: u287 :: u288 :: u289 :: u290 :: u291 :: u292 :: u293 :: u294 :: u295 :: u296 :: u297 :: u298 :: u299 :: u300 :: u301 :: u302 :: u303 :: u304 :: u305 :: u306 :: u307 :: []).toArray, []⟩ wy) :
    Code.wp Tryd.prog (Code.loop B) Q0 ⟨(Value.pointer (some ⟨I, 0, none⟩) :: c1 :: c2 :: c3 :: c4 :: c5 :: c6 :: c7 :: Value.slice (some ⟨g, oR, none⟩) (48 * n) (48 * n) :: c9 :: c10 :: c11 :: c12 :: Value.int .i64 0 :: Value.int .i64 0 :: c15 :: c16 :: c17 :: c18 :: c19 :: c20 :: c21 :: c22 :: c23 :: c24 :: c25 :: c26 :: c27 :: c28 :: c29 :: c30 :: c31 :: c32 :: c33 :: c34 :: c35 :: c36 :: c37 :: c38 :: c39 :: c40 :: c41 :: c42 :: c43 :: c44 :: c45 :: c46 :: c47 :: c48 :: c49 :: c50 :: c51 :: c52 :: c53 :: c54 :: c55 :: c56 :: c57 :: c58 :: c59 :: c60 :: c61 :: c62 :: c63 :: c64 :: c65 :: c66 :: c67 :: c68 :: c69 :: c70 :: c71 :: c72 :: c73 :: c74 :: c75 :: c76 :: c77 :: c78 :: c79 :: c80 :: c81 :: c82 :: c83 :: c84 :: c85 :: c86 :: c87 :: c88 :: c89 :: c90 :: c91 :: c92 :: c93 :: c94 :: c95 :: c96 :: c97 :: c98 :: c99 :: c100 :: c101 :: c102 :: c103 :: c104 :: c105 :: c106 :: c107 :: c108 :: c109 :: c110 :: c111 :: c112 :: c113 :: c114 :: c115 :: c116 :: c117 :: c118 :: c119 :: c120 :: c121 :: c122 :: c123 :: c124 :: c125 :: c126 :: c127 :: c128 :: c129 :: c130 :: c131 :: c132 :: c133 :: c134 :: c135 :: c136 :: c137 :: c138 :: c139 :: c140 :: c141 :: c142 :: c143 :: c144 :: c145 :: c146 :: c147 :: c148 :: c149 :: c150 :: c151 :: c152 :: c153 :: c154 :: c155 :: c156 :: c157 :: c158 :: c159 :: c160 :: c161 :: c162 :: c163 :: c164 :: c165 :: c166 :: c167 :: c168 :: c169 :: c170 :: c171 :: c172 :: c173 :: c174 :: c175 :: c176 :: c177 :: c178 :: c179 :: c180 :: c181 :: c182 :: c183 :: c184 :: c185 :: c186 :: c187 :: c188 :: c189 :: c190 :: c191 :: c192 :: c193 :: c194 :: c195 :: c196 :: c197 :: c198 :: c199 :: c200 :: c201 :: c202 :: c203 :: c204 :: c205 :: c206 :: c207 :: c208 :: c209 :: c210 :: c211 :: c212 :: c213 :: c214 :: c215 :: c216 :: c217 :: c218 :: c219 :: c220 :: c221 :: c222 :: c223 :: c224 :: c225 :: c226 :: c227 :: c228 :: c229 :: c230 :: c231 :: c232 :: c233 :: c234 :: c235 :: c236 :: c237 :: c238 :: c239 :: c240 :: c241 :: c242 :: c243 :: c244 :: c245 :: c246 :: c247 :: c248 :: c249 :: c250 :: c251 :: c252 :: c253 :: c254 :: c255 :: c256 :: c257 :: c258 :: c259 :: c260 :: c261 :: c262 :: c263 :: c264 :: c265 :: c266 :: c267 :: c268 :: c269 :: c270 :: c271 :: c272 :: c273 :: c274 :: c275 :: c276 :: c277 :: c278 :: c279 :: c280 :: c281 :: c282 :: c283 :: c284 :: c285 :: c286 :: c287 :: c288 :: c289 :: c290 :: c291 :: c292 :: c293 :: c294 :: c295 :: c296 :: c297 :: c298 :: c299 :: c300 :: c301 :: c302 :: c303 :: c304 :: c305 :: c306 :: c307 :: []).toArray, []⟩ w8 := by
  subst hB
  conv => arg 2; arg 1; whnf
  -- ████ THE REPOSITORIES
  go_loopg [13, 14] n (fun m nx i wr => ∃ (k : Nat) (V7 : Nat → Value), k ≤ n ∧ m = n - k ∧ i = .int .i64 (48 * (k : Int)) ∧ nx = .int .i64 (sumK K k : Nat) ∧ LS w wr I g w.heap.size (w.heap.size + 1 + 1) N f V7 (fun j => if j < 8 then (offs SE FE RE j : Nat) else 0) ∧ V7 1 = .slice (some ⟨g, oS, none⟩) SS SS ∧ V7 2 = .slice (some ⟨g, oF, none⟩) (40 * T) (40 * T) ∧ wr.ownsRow (w.heap.size + 3) 39 6 (V7 3) k (repCells I S0 S1 S2 K k))
  case atStart => exact ⟨0, V6, Nat.zero_le _, rfl, rfl, rfl, hL8, v61, v62, hown0⟩
  case round =>
    obtain ⟨k, V7, hk, rfl, rfl, rfl, hL9, v1, v2, hown⟩ := hrel
    clear hL8 hown0 v61 v62
    by_cases hkn : k < n
    · have hkz : 48 * (k : Int) < 48 * (n : Int) := by omega
      obtain rfl := HR2.out (by omega)
      have R := hrecs k hkn
      have m1 := sumS_mono S0 S1 S2 (show k + 1 ≤ n by omega)
      rw [sumS] at m1
      have m2 := sumK_mono K (show k + 1 ≤ n by omega)
      rw [sumK] at m2
      obtain ⟨l3, l4⟩ := hK k hkn
      have HC : Hid (∀ p, p < N → wr.cell? ⟨g, p, none⟩ = some (.int .u8 (f p))) := fun p hp => hL9.dat.cell hp
      go_wp2_with fail
      refine wp_region_quiet_below (by kernel_rfl) (by kernel_rfl) ?_
      repeat (go_big_quiet_step (first | (go_at_call 27; exact Calls.regrown_of (number_any f g _ _ _ _ _ (by omega) (fun j hj => cell_regrown (HC.out _ (by omega)) _ _) R.r1 (by omega) (by omega))) | (go_at_call 27; exact Calls.regrown_of (number_any f g _ _ _ _ _ (by omega) (fun j hj => cell_regrown (HC.out _ (by omega)) _ _) R.r2 (by omega) (by omega))) | (go_at_call 27; exact Calls.regrown_of (number_any f g _ _ _ _ _ (by omega) (fun j hj => cell_regrown (HC.out _ (by omega)) _ _) R.r3 (by omega) (by omega)))))
      refine wpQuiet_nil ?_
      intro _ hw'
      obtain ⟨⟨dq, osq⟩, hw''⟩ := hw'
      subst hw''
      have hb := below_regrown wr dq osq
      have hown := ownsRow_below hown hb
      have hL9 := hL9.below hb
      generalize Sort.grow (redrawn wr dq) osq = w1 at hL9 hown ⊢
      clear hb HC
      go_wp2_with fail
      have HC : Hid (∀ p, p < N → w1.cell? ⟨g, p, none⟩ = some (.int .u8 (f p))) := fun p hp => hL9.dat.cell hp
      refine wp_region_quiet_below (by kernel_rfl) (by kernel_rfl) ?_
      repeat (go_big_quiet_step (first | (go_at_call 27; exact Calls.regrown_of (number_any f g _ _ _ _ _ (by omega) (fun j hj => cell_regrown (HC.out _ (by omega)) _ _) R.r4 (by omega) (by omega))) | (go_at_call 27; exact Calls.regrown_of (number_any f g _ _ _ _ _ (by omega) (fun j hj => cell_regrown (HC.out _ (by omega)) _ _) R.r5 (by omega) (by omega)))))
      refine wpQuiet_nil ?_
      intro _ hw'
      obtain ⟨⟨dq, osq⟩, hw''⟩ := hw'
      subst hw''
      have hb := below_regrown w1 dq osq
      have hown := ownsRow_below hown hb
      have hL9 := hL9.below hb
      generalize Sort.grow (redrawn w1 dq) osq = w2 at hL9 hown ⊢
      clear hb HC
      have e1 : w2.cell? ⟨I, 1, none⟩ = some (.slice (some ⟨g, oS, none⟩) SS SS) := by rw [hL9.ix.cell (by omega), v1]
      go_wp2_with fail
      have HC : Hid (∀ p, p < N → w2.cell? ⟨g, p, none⟩ = some (.int .u8 (f p))) := fun p hp => hL9.dat.cell hp
      have k1 := cell_regrown e1
      have HE : Hid (w2.cell? ⟨I, 2, none⟩ = some (.slice (some ⟨g, oF, none⟩) (40 * T) (40 * T))) := by
        show w2.cell? ⟨I, 2, none⟩ = _
        rw [hL9.ix.cell (by omega), v2]
      clear e1
      have g1 : decide ((SS : Int) < ((S0 k).size : Int)) = false := decide_eq_false (by omega)
      have g2 : decide ((SS : Int) < ((S1 k).size : Int)) = false := decide_eq_false (by omega)
      have g3 : decide ((SS : Int) < ((S2 k).size : Int)) = false := decide_eq_false (by omega)
      have g1' : decide (SS < (S0 k).size) = false := decide_eq_false (by omega)
      have g2' : decide (SS < (S1 k).size) = false := decide_eq_false (by omega)
      have g3' : decide (SS < (S2 k).size) = false := decide_eq_false (by omega)
      have g4 : decide ((T : Int) - (sumK K k : Int) < K k) = false := decide_eq_false (by omega)
      refine wp_region_quiet_below (by kernel_rfl) (by kernel_rfl) ?_
      repeat (go_big_quiet_step (first | (go_at_call 27; exact Calls.regrown_of (number_any f g _ _ _ _ _ (by omega) (fun j hj => cell_regrown (HC.out _ (by omega)) _ _) R.r0 (by omega) (by omega))) | (go_at_call 26; exact Calls.regrown_same (within_any _ _ _ _ _ _ (by omega) (by omega) (by omega) (by omega))) | (go_at_call 25; exact Calls.regrown_same (numFiles_any I _ T _ _ (by omega) (cell_regrown HE.out _ _)))))
      refine wpQuiet_nil ?_
      intro _ hw'
      obtain ⟨⟨dq, osq⟩, hw''⟩ := hw'
      subst hw''
      have hb := below_regrown w2 dq osq
      have hown := ownsRow_below hown hb
      have hL9 := hL9.below hb
      generalize Sort.grow (redrawn w2 dq) osq = w3 at hL9 hown ⊢
      clear hb HC k1 HE
      go_wp2_with fail
      clear g1 g2 g3 g1' g2' g3' g4
      have HC : Hid (∀ p, p < N → w3.cell? ⟨g, p, none⟩ = some (.int .u8 (f p))) := fun p hp => hL9.dat.cell hp
      have e1 : w3.cell? ⟨I, 1, none⟩ = some (.slice (some ⟨g, oS, none⟩) SS SS) := by rw [hL9.ix.cell (by omega), v1]
      have k1 := cell_regrown e1
      generalize hA : (Act.mk _ _) = A
      refine wp_region_cut (fun a' w' => ∃ (y252 y253 y254 y255 y256 y257 y258 y259 y260 y261 y262 y263 y264 y265 : Value) (ga oa cq lq : Nat), lq = (S0 k).size + (S1 k).size + (S2 k).size ∧ (0 < (S0 k).size + (S1 k).size + (S2 k).size → ga = g ∧ oa = 14 + sumS S0 S1 S2 k) ∧ (S0 k).size + (S1 k).size + (S2 k).size ≤ cq ∧ cq ≤ 1048576 ∧ LS w w' I g w.heap.size (w.heap.size + 1 + 1) N f V7 (fun j => if j < 8 then (offs SE oR RE j : Nat) else 0) ∧ w'.ownsRow (w.heap.size + 3) 39 6 (V7 3) k (repCells I S0 S1 S2 K k) ∧ a' = (((((((((((((((A.put (some 252) y252).put (some 253) y253).put (some 254) y254).put (some 255) y255).put (some 256) y256).put (some 257) y257).put (some 258) y258).put (some 259) y259).put (some 260) y260).put (some 261) y261).put (some 262) y262).put (some 263) y263).put (some 264) y264).put (some 265) y265).put (some 22) (.slice (some ⟨ga, oa, none⟩) lq cq))) ?_ ?_
      · subst hA
        by_cases hoff : sumS S0 S1 S2 k = SS
        · have a0 : (S0 k).size = 0 := by omega
          have a1 : (S1 k).size = 0 := by omega
          have a2 : (S2 k).size = 0 := by omega
          have b1 : ((sumS S0 S1 S2 k : Nat) : Int) ≤ (SS : Int) := by omega
          refine wp_region_quiet_below (by kernel_rfl) (by kernel_rfl) ?_
          repeat (go_big_quiet_step (first | (go_at_call 27; exact Calls.regrown_of (number_any f g _ _ _ _ _ (by omega) (fun j hj => cell_regrown (HC.out _ (by omega)) _ _) R.r0 (by omega) (by omega)))))
          refine wpQuiet_nil ?_
          intro _ hw'
          obtain ⟨⟨dq, osq⟩, hw''⟩ := hw'
          subst hw''
          have hb := below_regrown w3 dq osq
          refine ⟨rfl, .pointer (some ⟨I, 0, none⟩), .pointer (some ⟨I, 0, none⟩), .pointer (some ⟨I, 1, none⟩), .slice (some ⟨g, oS, none⟩) SS SS, .slice (some ⟨g, oR + 48 * k, none⟩) (48 * n - 48 * k) (48 * n - 48 * k), .slice (some ⟨g, oR + 48 * k, none⟩) (48 * n - 48 * k) (48 * n - 48 * k), .int .u64 (sumS S0 S1 S2 k : Nat), .slice (some ⟨g, oS, none⟩) 0 0, .int .u64 ((S0 k).size : Int), .int .u64 ((S1 k).size : Int), .int .u64 (((S0 k).size : Int) + ((S1 k).size : Int)), .int .u64 ((S2 k).size : Int), .int .u64 (((S0 k).size : Int) + ((S1 k).size : Int) + ((S2 k).size : Int)), .slice (some ⟨g, oS, none⟩) 0 0, g, oS, 0, 0, by omega, fun h0 => (by omega), by omega, by omega, hL9.below hb, ownsRow_below hown hb, ?_⟩
          simp only [Act.put, List.setIfInBounds_toArray, List.set_cons_succ, List.set_cons_zero, List.getElem_toArray, List.getElem_cons_succ, List.getElem_cons_zero]
          simp [a0, a1, a2]
        · have hofl : sumS S0 S1 S2 k < SS := by omega
          obtain rfl := HS2.out (by omega)
          have b1 : ((sumS S0 S1 S2 k : Nat) : Int) ≤ (SS : Int) := by omega
          have b2 : ((S0 k).size : Int) + ((S1 k).size : Int) + ((S2 k).size : Int) ≤ ((SS - sumS S0 S1 S2 k : Nat) : Int) := by omega
          have b3 : ¬ SS = sumS S0 S1 S2 k := by omega
          refine wp_region_quiet_below (by kernel_rfl) (by kernel_rfl) ?_
          repeat (go_big_quiet_step (first | (go_at_call 27; exact Calls.regrown_of (number_any f g _ _ _ _ _ (by omega) (fun j hj => cell_regrown (HC.out _ (by omega)) _ _) R.r0 (by omega) (by omega)))))
          refine wpQuiet_nil ?_
          intro _ hw'
          obtain ⟨⟨dq, osq⟩, hw''⟩ := hw'
          subst hw''
          have hb := below_regrown w3 dq osq
          refine ⟨rfl, .pointer (some ⟨I, 0, none⟩), .pointer (some ⟨I, 0, none⟩), .pointer (some ⟨I, 1, none⟩), .slice (some ⟨g, 14, none⟩) SS SS, .slice (some ⟨g, oR + 48 * k, none⟩) (48 * n - 48 * k) (48 * n - 48 * k), .slice (some ⟨g, oR + 48 * k, none⟩) (48 * n - 48 * k) (48 * n - 48 * k), .int .u64 (sumS S0 S1 S2 k : Nat), .slice (some ⟨g, 14 + sumS S0 S1 S2 k, none⟩) (SS - sumS S0 S1 S2 k) (SS - sumS S0 S1 S2 k), .int .u64 ((S0 k).size : Int), .int .u64 ((S1 k).size : Int), .int .u64 (((S0 k).size : Int) + ((S1 k).size : Int)), .int .u64 ((S2 k).size : Int), .int .u64 (((S0 k).size : Int) + ((S1 k).size : Int) + ((S2 k).size : Int)), .slice (some ⟨g, 14 + sumS S0 S1 S2 k, none⟩) ((S0 k).size + (S1 k).size + (S2 k).size) (SS - sumS S0 S1 S2 k), g, 14 + sumS S0 S1 S2 k, SS - sumS S0 S1 S2 k, _, rfl, fun _ => ⟨rfl, rfl⟩, by omega, by omega, hL9.below hb, ownsRow_below hown hb, ?_⟩
          simp only [Act.put, List.setIfInBounds_toArray, List.set_cons_succ, List.set_cons_zero, List.getElem_toArray, List.getElem_cons_succ, List.getElem_cons_zero]
      subst hA
      rintro _ w4 ⟨y252, y253, y254, y255, y256, y257, y258, y259, y260, y261, y262, y263, y264, y265, ga, oa, cq, _, rfl, HA, hcq, hcq2, hL9, hown, rfl⟩
      simp only [Act.put, List.setIfInBounds_toArray, List.set_cons_succ, List.set_cons_zero, List.getElem_toArray, List.getElem_cons_succ, List.getElem_cons_zero]
      clear HC k1 e1
      go_wp2_with fail
      have hLd := hL9.below ((Below.refl _ _).drew)
      have hod := hown.drew
      obtain ⟨ao, cp, hV3⟩ : ∃ ao cp, V7 3 = .slice ao k cp := by
        rcases hown.2 with ⟨h, h0⟩ | ⟨g, cap, cur, h, _⟩
        · exact ⟨none, 0, by rw [h, h0]⟩
        · exact ⟨_, _, h⟩
      have hI3 : w4.cell? ⟨I, 3, none⟩ = some (.slice ao k cp) := by rw [hL9.ix.cell (by omega), hV3]
      have hdat := hL9.dat
      have ne : Nonempty (Cls (fun x : World => x.heap[I]? = w4.heap[I]? ∧ x.heap[g]? = w4.heap[g]?)) := ⟨⟨w4, rfl, rfl⟩⟩
      have e3 : ∀ p : Cls (fun x : World => x.heap[I]? = w4.heap[I]? ∧ x.heap[g]? = w4.heap[g]?), p.val.cell? ⟨I, 3, none⟩ = some (.slice ao k cp) := fun p => by rw [World.cell?_of_block (a := ⟨I, 3, none⟩) p.ok.1]; exact hI3
      have ed : ∀ p : Cls (fun x : World => x.heap[I]? = w4.heap[I]? ∧ x.heap[g]? = w4.heap[g]?), ∀ q, q < N → p.val.cell? ⟨g, q, none⟩ = some (.int .u8 (f q)) := fun p q hq => by rw [World.cell?_of_block (a := ⟨g, q, none⟩) p.ok.2]; exact hdat.cell hq
      have b4 : ((S0 k).size : Int) ≤ (cq : Int) := by omega
      have b5 : ((S0 k).size : Int) + ((S1 k).size : Int) ≤ (cq : Int) := by omega
      have b6 : ((S0 k).size : Int) + ((S1 k).size : Int) + ((S2 k).size : Int) ≤ (cq : Int) := by omega
      have kv0 : ∀ p : Cls (fun x : World => x.heap[I]? = w4.heap[I]? ∧ x.heap[g]? = w4.heap[g]?), ∀ cap : Nat, (convert 23 9 (.slice (some ⟨ga, oa, none⟩) (S0 k).size cap)).run Tryd.prog p.val = .ok (.string (S0 k)) p.val := fun p cap => conv_any p.val g (14 + sumS S0 S1 S2 k) ⟨ga, oa, none⟩ (S0 k) cap (fun j hj => by rw [ed p _ (by omega), R.s0 j hj]) (fun h0 => by obtain ⟨h1, h2⟩ := HA (by omega); rw [h1, h2]) rfl
      have kv1 : ∀ (p : Cls (fun x : World => x.heap[I]? = w4.heap[I]? ∧ x.heap[g]? = w4.heap[g]?)) (cap : Nat), (convert 23 9 (.slice (if cq = (S0 k).size then some ⟨ga, oa, none⟩ else some ⟨ga, oa + (S0 k).size, none⟩) (S1 k).size cap)).run Tryd.prog p.val = .ok (.string (S1 k)) p.val := fun p cap => conv_if p.val g (14 + sumS S0 S1 S2 k + (S0 k).size) _ _ _ (S1 k) _ _ rfl (fun j hj => by rw [ed p _ (by omega), R.s1 j hj]) (fun h0 => by obtain ⟨h1, h2⟩ := HA (by omega); rw [h1, h2]) (fun h => by omega) rfl rfl
      have kv2 : ∀ (p : Cls (fun x : World => x.heap[I]? = w4.heap[I]? ∧ x.heap[g]? = w4.heap[g]?)) (cap : Nat), (convert 23 9 (.slice (if cq = (S0 k).size + (S1 k).size then some ⟨ga, oa, none⟩ else some ⟨ga, oa + ((S0 k).size + (S1 k).size), none⟩) (S2 k).size cap)).run Tryd.prog p.val = .ok (.string (S2 k)) p.val := fun p cap => conv_if p.val g (14 + sumS S0 S1 S2 k + ((S0 k).size + (S1 k).size)) _ _ _ (S2 k) _ _ rfl (fun j hj => by rw [ed p _ (by omega), show 14 + sumS S0 S1 S2 k + ((S0 k).size + (S1 k).size) = 14 + sumS S0 S1 S2 k + (S0 k).size + (S1 k).size by omega, R.s2 j hj]) (fun h0 => by obtain ⟨h1, h2⟩ := HA (by omega); rw [h1, h2]) (fun h => by omega) rfl rfl
      have ED : Hid (∀ p : Cls (fun x : World => x.heap[I]? = w4.heap[I]? ∧ x.heap[g]? = w4.heap[g]?), ∀ q, q < N → p.val.cell? ⟨g, q, none⟩ = some (.int .u8 (f q))) := ed
      clear ed
      generalize hA : (Act.mk _ _) = A
      refine wp_region_cut (fun a' w' => ∃ (V8 : Nat → Value) (x266 x267 x268 x269 x270 x271 x272 x273 x274 x275 x276 x277 x278 x279 x280 x281 x282 x283 x284 x285 x286 x287 x288 x289 x290 x291 x292 x293 x294 x295 x296 x297 x298 : Value), LS w w' I g w.heap.size (w.heap.size + 1 + 1) N f V8 (fun j => if j < 8 then (offs SE oR RE j : Nat) else 0) ∧ V8 1 = .slice (some ⟨g, oS, none⟩) SS SS ∧ V8 2 = .slice (some ⟨g, oF, none⟩) (40 * T) (40 * T) ∧ w'.ownsRow (w.heap.size + 3) 39 6 (V8 3) (k + 1) (repCells I S0 S1 S2 K (k + 1)) ∧ a' = (((((((((((((((((((((((((((((((((A.put (some 266) x266).put (some 267) x267).put (some 268) x268).put (some 269) x269).put (some 270) x270).put (some 271) x271).put (some 272) x272).put (some 273) x273).put (some 274) x274).put (some 275) x275).put (some 276) x276).put (some 277) x277).put (some 278) x278).put (some 279) x279).put (some 280) x280).put (some 281) x281).put (some 282) x282).put (some 283) x283).put (some 284) x284).put (some 285) x285).put (some 286) x286).put (some 287) x287).put (some 288) x288).put (some 289) x289).put (some 290) x290).put (some 291) x291).put (some 292) x292).put (some 293) x293).put (some 294) x294).put (some 295) x295).put (some 296) x296).put (some 297) x297).put (some 298) x298)) ?_ ?_
      · subst hA
        refine wp_region_head (S := fun w' => ∃ p : Cls (fun x : World => x.heap[I]? = w4.heap[I]? ∧ x.heap[g]? = w4.heap[g]?), w' = p.val) (Z := fun j => j == 33) 29 (by kernel_rfl) (by kernel_rfl) (by decide) (by kernel_rfl) (fun _ _ _ _ _ h => absurd h.1 (by simp)) (fun j h => by have := eq_of_beq h; subst this; decide) ⟨⟨w4.drew, rfl, rfl⟩, rfl⟩ ?_
        simp only [List.take_succ_cons, List.take_zero]
        repeat (go_big_quiet_step (fail))
        refine wpQuiet_nil ?_
        refine wpAnyZ_one (t := 29) (by kernel_rfl) rfl rfl ?_
        refine wp_hidden (fun KK hKK => ?_)
        clear kv0 kv1 kv2 e3 b4 b5 b6
        go_simp
        have hwd : w4.drew.heap.size = w4.heap.size := rfl
        have hlt := hLd.lts
        obtain ⟨hIl, hgl, _, hOl⟩ := hlt
        have x1I : (w4.drew.alloc (.cells #[.string (S0 k), .string (S1 k), .string (S2 k), .pointer (some ⟨I, 0, none⟩), .int .i64 (sumK K k : Nat), .int .i64 ((sumK K k : Nat) + K k)] 39)).heap[I]? = w4.heap[I]? := hp_old _ _ _ hIl
        have x1g : (w4.drew.alloc (.cells #[.string (S0 k), .string (S1 k), .string (S2 k), .pointer (some ⟨I, 0, none⟩), .int .i64 (sumK K k : Nat), .int .i64 ((sumK K k : Nat) + K k)] 39)).heap[g]? = w4.heap[g]? := hp_old _ _ _ hgl
        refine hKK.out _ _ ⟨fun _ => ⟨⟨_, x1I, x1g⟩, rfl⟩, ?_⟩
        clear hKK KK
        refine wpAnyZ_one (t := 30) (by kernel_rfl) rfl rfl ?_
        obtain ⟨i39, hi39, hzz⟩ := Option.map_eq_some_iff.1 info39
        simp only [Prod.mk.injEq] at hzz
        obtain ⟨hz39, hs39, hb39⟩ := hzz
        have hL1 := hLd.below ((Below.refl _ _).alloc (Nat.le_refl _) (.cells #[.string (S0 k), .string (S1 k), .string (S2 k), .pointer (some ⟨I, 0, none⟩), .int .i64 (sumK K k : Nat), .int .i64 ((sumK K k : Nat) + K k)] 39))
        have ho1 := ownsRow_below hod ((Below.refl _ _).alloc (Nat.le_refl _) (.cells #[.string (S0 k), .string (S1 k), .string (S2 k), .pointer (some ⟨I, 0, none⟩), .int .i64 (sumK K k : Nat), .int .i64 ((sumK K k : Nat) + K k)] 39))
        rw [hV3] at ho1
        refine wp_append_lies _ (.tmp 270) (.tmp 295) 34 rfl (w.heap.size + 3) 39 i39 _ 6 72 Tryd.underlying34 hi39 hz39 hs39 hb39 rfl (by decide) (.slice ao k cp) k _ rfl ho1 ⟨w4.heap.size, 0, none⟩ 1 1 [.string (S0 k), .string (S1 k), .string (S2 k), .pointer (some ⟨I, 0, none⟩), .int .i64 (sumK K k : Nat), .int .i64 ((sumK K k : Nat) + K k)] rfl rfl (World.news_of_block (hp_new w4.drew _)) (by intro u hu; simp at hu; rcases hu with rfl | rfl | rfl | rfl | rfl | rfl <;> rfl) (by decide) (by unfold maxLen; omega) (by omega) (by simp; omega) _ rfl ?_
        intro gq capq w5 hown5 hgr5 _ _
        simp only [Act.put, List.setIfInBounds_toArray, List.set_cons_succ, List.set_cons_zero, List.getElem_toArray, List.getElem_cons_succ, List.getElem_cons_zero]
        have hL5 := hL1.grown hgr5 (fun b hb => (ho1.lt b hb).1)
        have y1 : w5.heap[I]? = w4.heap[I]? := (hgr5.block I (by simpa using Nat.lt_succ_of_lt hIl) (fun e => by have := (ho1.lt I e.symm).1; have := hL1.hI; omega)).trans x1I
        have y2 : w5.heap[g]? = w4.heap[g]? := (hgr5.block g (by simpa using Nat.lt_succ_of_lt hgl) (fun e => by have := (ho1.lt g e.symm).1; have := hL1.hg; omega)).trans x1g
        have z3 : w5.cell? ⟨I, 3, none⟩ = some (V7 3) := hL5.ix.cell (by omega)
        have f3 : w5.frozen? ⟨I, 3, none⟩ = false := hL5.ix.frozen 3
        refine ⟨fun _ => ⟨⟨_, y1, y2⟩, rfl⟩, ?_⟩
        refine wpAnyZ_one (t := 31) (by kernel_rfl) rfl rfl ?_
        refine wp_hidden (fun KK hKK => ?_)
        go_simp
        refine hKK.out _ _ ⟨fun _ => ⟨⟨_, y1, y2⟩, rfl⟩, ?_⟩
        clear hKK KK
        refine wpAnyZ_one (t := 32) (by kernel_rfl) rfl rfl ?_
        refine wp_hidden (fun KK hKK => ?_)
        go_simp
        refine hKK.out _ _ ⟨fun _ => ⟨⟨_, y1, y2⟩, rfl⟩, ?_⟩
        clear hKK KK
        refine wpAnyZ_one (t := 33) (by kernel_rfl) rfl rfl ?_
        refine wp_hidden (fun KK hKK => ?_)
        go_simp
        refine hKK.out _ _ ⟨fun h => (by cases h), ?_⟩
        clear hKK KK
        refine wpAnyZ_done (by kernel_rfl) ⟨rfl, _, .pointer (some ⟨I, 0, none⟩), .pointer (some ⟨I, 0, none⟩), .pointer (some ⟨I, 0, none⟩), .pointer (some ⟨I, 3, none⟩), .slice ao k cp, .slice (some ⟨ga, oa, none⟩) ((S0 k).size + (S1 k).size + (S2 k).size) cq, .int .u64 ((S0 k).size : Int), .slice (some ⟨ga, oa, none⟩) (S0 k).size cq, .string (S0 k), .slice (some ⟨ga, oa, none⟩) ((S0 k).size + (S1 k).size + (S2 k).size) cq, .int .u64 ((S0 k).size : Int), .int .u64 ((S0 k).size : Int), .int .u64 ((S1 k).size : Int), .int .u64 (((S0 k).size : Int) + ((S1 k).size : Int)), .slice (if cq = (S0 k).size then some ⟨ga, oa, none⟩ else some ⟨ga, oa + (S0 k).size, none⟩) ((S0 k).size + (S1 k).size - (S0 k).size) (cq - (S0 k).size), .string (S1 k), .slice (some ⟨ga, oa, none⟩) ((S0 k).size + (S1 k).size + (S2 k).size) cq, .int .u64 ((S0 k).size : Int), .int .u64 ((S1 k).size : Int), .int .u64 (((S0 k).size : Int) + ((S1 k).size : Int)), .slice (if cq = (S0 k).size + (S1 k).size then some ⟨ga, oa, none⟩ else some ⟨ga, oa + ((S0 k).size + (S1 k).size), none⟩) ((S0 k).size + (S1 k).size + (S2 k).size - ((S0 k).size + (S1 k).size)) (cq - ((S0 k).size + (S1 k).size)), .string (S2 k), .pointer (some ⟨I, 0, none⟩), .int .i64 (sumK K k : Nat), .int .i64 (sumK K k : Nat), .int .u64 (K k), .int .i64 (K k), .int .i64 ((sumK K k : Nat) + K k), .agg #[.string (S0 k), .string (S1 k), .string (S2 k), .pointer (some ⟨I, 0, none⟩), .int .i64 (sumK K k : Nat), .int .i64 ((sumK K k : Nat) + K k)], .slice (some ⟨w4.heap.size, 0, none⟩) 1 1, .slice (some ⟨gq, 0, none⟩) (k + 1) capq, .pointer (some ⟨I, 0, none⟩), .pointer (some ⟨I, 3, none⟩), hL5.setI 3 (.slice (some ⟨gq, 0, none⟩) (k + 1) capq), v1, v2, ownsRow_setCell hown5 (fun e => by have := (hown5.lt I e).1; have := hL1.hI; omega) 3 _, ?_⟩ _
        simp
      · subst hA
        rintro _ w6 ⟨V8, x266, x267, x268, x269, x270, x271, x272, x273, x274, x275, x276, x277, x278, x279, x280, x281, x282, x283, x284, x285, x286, x287, x288, x289, x290, x291, x292, x293, x294, x295, x296, x297, x298, hL6, v81, v82, hown6, rfl⟩
        simp only [Act.put, List.setIfInBounds_toArray, List.set_cons_succ, List.set_cons_zero, List.getElem_toArray, List.getElem_cons_succ, List.getElem_cons_zero]
        go_wp2
        go_roundg (n - (k + 1))
        case measure => omega
        case rel =>
          refine ⟨k + 1, V8, by omega, rfl, ?_, ?_, hL6, v81, v82, hown6⟩
          · go_num
          · go_light
            rw [sumK]
            congr 1
            omega
    · have hkz : ¬ 48 * (k : Int) < 48 * (n : Int) := by omega
      obtain rfl : n = k := by omega
      go_wp2_with fail
      exact ⟨V7, hL9, v1, v2, hown⟩

end Go.Proofs.Qxb6606006aDoor.Ix
