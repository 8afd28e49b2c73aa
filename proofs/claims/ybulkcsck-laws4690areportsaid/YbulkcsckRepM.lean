/-
  OWN TEXT. LawS4690AReport: the law, behind the replica's making.
-/
import Derived.Test.YbulkcsckRepL
import Derived.Deep.CutRange
namespace Go.Proofs.Ybulkcsck
open Go.RowKit

theorem alike_refl (s : St) : SAlike s s := ⟨rfl, rfl, rfl, rfl, rfl, rfl, rfl, rfl, rfl, ⟨rfl, rfl, rfl, rfl, rfl⟩, rfl, ⟨rfl, rfl, rfl, rfl, rfl⟩, rfl⟩
theorem neqNil {a : Act} {x : Operand} (w : World) (hx : a.eval x = .pointer none := by kernel_rfl) : (do eqGuard .neq 68 x (.const (.pointer none)) (a.eval x) (a.eval (.const (.pointer none))); binOp .neq 68 (a.eval x) (a.eval (.const (.pointer none))) : Sem Value).run Yba.prog w = .ok (.bool false) w := by
  rw [hx, BigFrame.eval_const]
  simp [go_sem]
theorem eqNil {a : Act} {x : Operand} (sb : Nat) (w : World) (hx : a.eval x = .pointer (some ⟨sb, 0, none⟩) := by kernel_rfl) : (do eqGuard .eql 68 x (.const (.pointer none)) (a.eval x) (a.eval (.const (.pointer none))); binOp .eql 68 (a.eval x) (a.eval (.const (.pointer none))) : Sem Value).run Yba.prog w = .ok (.bool false) w := by
  rw [hx, BigFrame.eval_const]
  simp [go_sem]
theorem same_self (s : St) : sameB s s = true := by
  simp [sameB, namesB_eq]

set_option maxRecDepth 100000 in
set_option maxHeartbeats 1000000 in
theorem tail_yes (d : Dt) (m : Int) (w0 w : World) (n kb rb tb : Nat) (rep : St) (hrep : rep.Ok) (u7 : Value) (u12 u13 u14 u15 u16 u17 u18 u19 u20 u21 u22 u23 u24 u25 u26 u27 u28 u29 u30 u31 u32 u33 u34 u35 u36 u37 u38 u39 u40 u41 u42 u43 u44 u45 u46 u47 u48 u49 u50 u51 u52 u53 u54 u55 u56 u57 u58 u59 u60 u61 u62 u63 u64 u65 u66 u67 u68 u69 u70 u71 u72 u73 u74 u75 u76 u77 u78 u79 u80 u81 u82 u83 u84 u85 u86 u87 u88 u89 u90 u91 u92 u93 u94 u95 u96 u97 u98 u99 u100 u101 u102 u103 u104 u105 u106 u107 u108 u109 u110 u111 u112 u113 u114 u115 u116 u117 u118 u119 u120 u121 u122 u123 u124 u125 u126 u127 u128 u129 u130 u131 u132 u133 u134 u135 u136 u137 u138 u139 u140 u141 u142 u143 u144 u145 u146 u147 u148 u149 u150 u151 u152 u153 u154 u155 u156 u157 u158 u159 u160 u161 u162 u163 u164 u165 u166 u167 u168 u169 u170 u171 u172 u173 u174 u175 u176 u177 u178 u179 u180 u181 u182 u183 u184 u185 u186 u187 u188 u189 u190 u191 u192 u193 u194 u195 u196 u197 u198 u199 u200 u201 u202 u203 u204 u205 u206 u207 u208 u209 u210 u211 u212 u213 u214 u215 u216 u217 u218 u219 u220 u221 u222 u223 u224 u225 u226 u227 u228 u229 u230 u231 u232 u233 u234 u235 u236 u237 u238 u239 u240 u241 u242 u243 u244 u245 u246 u247 u248 u249 u250 u251 u252 u253 u254 u255 u256 u257 u258 u259 u260 u261 u262 u263 u264 u265 u266 u267 u268 u269 u270 u271 u272 u273 u274 u275 u276 u277 u278 u279 u280 u281 u282 u283 u284 u285 u286 u287 u288 u289 u290 u291 u292 u293 u294 u295 u296 u297 u298 u299 u300 : Value) (hW : wantB m = true) (hsame : sameB (repS d m 0) rep = true) (hL : Lay w0 n kb d m rep rep rb tb w) :
    Code.wp Yba.prog (dropS 25 (Yba.f3.body.getD .skip)) (bodyPost Yba.prog Yba.f3 fun e w' => e = .returned (.bool true) ∧ Below n w0 w') { tmps := #[.agg d.L.toArray, .int .u32 m, .pointer (some ⟨n, 0, none⟩), undef, .bool false, .pointer (some ⟨n + 1, 0, none⟩), .pointer (some ⟨n + 1 + 1, 0, none⟩), u7, .pointer (some ⟨kb, 0, none⟩), .pointer (some ⟨rb, 0, none⟩), undef, undef, u12, u13, u14, u15, u16, u17, u18, u19, u20, u21, u22, u23, u24, u25, u26, u27, u28, u29, u30, u31, u32, u33, u34, u35, u36, u37, u38, u39, u40, u41, u42, u43, u44, u45, u46, u47, u48, u49, u50, u51, u52, u53, u54, u55, u56, u57, u58, u59, u60, u61, u62, u63, u64, u65, u66, u67, u68, u69, u70, u71, u72, u73, u74, u75, u76, u77, u78, u79, u80, u81, u82, u83, u84, u85, u86, u87, u88, u89, u90, u91, u92, u93, u94, u95, u96, u97, u98, u99, u100, u101, u102, u103, u104, u105, u106, u107, u108, u109, u110, u111, u112, u113, u114, u115, u116, u117, u118, u119, u120, u121, u122, u123, u124, u125, u126, u127, u128, u129, u130, u131, u132, u133, u134, u135, u136, u137, u138, u139, u140, u141, u142, u143, u144, u145, u146, u147, u148, u149, u150, u151, u152, u153, u154, u155, u156, u157, u158, u159, u160, u161, u162, u163, u164, u165, u166, u167, u168, u169, u170, u171, u172, u173, u174, u175, u176, u177, u178, u179, u180, u181, u182, u183, u184, u185, u186, u187, u188, u189, u190, u191, u192, u193, u194, u195, u196, u197, u198, u199, u200, u201, u202, u203, u204, u205, u206, u207, u208, u209, u210, u211, u212, u213, u214, u215, u216, u217, u218, u219, u220, u221, u222, u223, u224, u225, u226, u227, u228, u229, u230, u231, u232, u233, u234, u235, u236, u237, u238, u239, u240, u241, u242, u243, u244, u245, u246, u247, u248, u249, u250, u251, u252, u253, u254, u255, u256, u257, u258, u259, u260, u261, u262, u263, u264, u265, u266, u267, u268, u269, u270, u271, u272, u273, u274, u275, u276, u277, u278, u279, u280, u281, u282, u283, u284, u285, u286, u287, u288, u289, u290, u291, u292, u293, u294, u295, u296, u297, u298, u299, u300], defers := [] } w := by
  have hE := repS_ok d m 0
  have kW : (bits .and .u32 m 262143 == 0) = true := hW
  have HL : Hid (Lay w0 n kb d m rep rep rb tb w) := hL
  have HSM : Hid (sameB (repS d m 0) rep = true) := hsame
  clear hL hW hsame
  generalize hQ : bodyPost Yba.prog Yba.f3 (fun e w' => e = .returned (.bool true) ∧ Below n w0 w') = QQ
  simp only [Yba.f3, dropS, Option.getD_some]
  subst hQ
  go_upto_region 51 with ((with_reducible refine (report_any rb tb (repS d m 0) rep _ hE hrep (rp_at HL.out.rp HL.out.tp) (rp_range HL.out.rp) HL.out.th HL.out.rb2 HL.out.tb2).mono ?_); rintro e w1 ⟨hyes, _⟩; obtain ⟨rfl, hb1⟩ := hyes HSM.out; clear hyes)
  have L1 : Hid (Lay w0 n kb d m rep rep rb tb w1) := HL.out.below hb1
  clear hb1 HL
  refine Rt.regionL (Lay w0 n kb d m rep rep rb tb) [some (.pointer none), some (.bool false), some (.bool false), some (.pointer (some ⟨rb, 0, none⟩)), some (.pointer (some ⟨rb, 0, none⟩)), some (.pointer (some ⟨rb, 115, none⟩)), some (.agg rep.L.toArray), some (.agg rep.L.toArray), none, none, none] 3
    (by kernel_rfl) (by kernel_rfl) (by kernel_rfl) (by kernel_rfl) (by kernel_rfl) (L1.out.below ((Below.refl _ _).drew)) ?_ ?_
  · skip
    refine Rt.yc ?_ ?_
    · exact Rt.y_move (Rt.wn rfl) rfl (by kernel_rfl)
    refine Rt.yc ?_ ?_
    · exact Rt.y_bin (Rt.wn rfl) rfl neqNil
    refine Rt.yc ?_ ?_
    · exact Rt.y_move (Rt.wn rfl) rfl (by kernel_rfl)
    refine Rt.yc ?_ ?_
    · exact Rt.y_move (by kernel_rfl) rfl (by kernel_rfl)
    refine Rt.yc ?_ ?_
    · exact Rt.y_nil (by kernel_rfl) rfl (by kernel_rfl)
    refine Rt.yc ?_ ?_
    · exact Rt.y_field 113 0 (by kernel_rfl) rfl (by kernel_rfl) Yba.underlying72 rfl (by kernel_rfl) rfl
    refine Rt.yc ?_ ?_
    · exact Rt.y_loadm rb 115 (by kernel_rfl) rfl (by kernel_rfl) (fun w h => rp_range h.rp) Yba.underlying34 rfl (sz34 hrep)
    refine Rt.yc ?_ ?_
    · exact Rt.y_loadm kb 0 (by kernel_rfl) rfl (by kernel_rfl) (fun w h => h.mid.rk) Yba.underlying34 rfl (sz34 hrep)
    refine Rt.yn ?_
    refine Rt.yn ?_
    refine Rt.yn ?_
    exact Rt.ye
  refine Rt.oneL 8 (by kernel_rfl) rfl (by kernel_rfl) ?_
  with_reducible refine Rt.wp_call (vs := #[.agg rep.L.toArray, .agg rep.L.toArray]) rfl ?_ (Yba.call9 _) ?_
  · kernel_rfl
  refine (aeq_yes rep rep _ hrep hrep (alike_refl rep)).mono ?_
  rintro e w2 ⟨rfl, hb2⟩
  have L2 : Hid (Lay w0 n kb d m rep rep rb tb w2) := (L1.out.below ((Below.refl _ _).drew)).below hb2
  clear hb2 L1
  refine ⟨_, rfl, L2.out, ?_⟩
  refine Rt.moreL [none, none, none, none, none, none, none, none, none, some (.bool false), some (.bool false)] 0 (by kernel_rfl) (by kernel_rfl) (by kernel_rfl) (by kernel_rfl) L2.out ?_ ?_
  · skip
    refine Rt.yn ?_
    refine Rt.yn ?_
    refine Rt.yn ?_
    refine Rt.yn ?_
    refine Rt.yn ?_
    refine Rt.yn ?_
    refine Rt.yn ?_
    refine Rt.yn ?_
    refine Rt.yn ?_
    refine Rt.yc ?_ ?_
    · exact Rt.y_not (t := true) (by kernel_rfl) rfl (by kernel_rfl)
    refine Rt.yc ?_ ?_
    · exact Rt.y_pick false (by kernel_rfl) rfl (by kernel_rfl) (by kernel_rfl)
    exact Rt.ye
  with_reducible refine Rt.done ?_ ?_ 0
  · kernel_rfl
  simp only [Rt.putL, Act.put, List.setIfInBounds_toArray, List.set_cons_succ, List.set_cons_zero]
  go_upto_region 58 with ((with_reducible refine (report_any rb tb (repS d m 0) rep _ hE hrep (rp_at L2.out.rp L2.out.tp) (rp_range L2.out.rp) L2.out.th L2.out.rb2 L2.out.tb2).mono ?_); rintro e w3 ⟨hyes, _⟩; obtain ⟨rfl, hb3⟩ := hyes HSM.out; clear hyes)
  have L3 : Hid (Lay w0 n kb d m rep rep rb tb w3) := L2.out.below hb3
  clear hb3 L2
  refine Rt.regionL (Lay w0 n kb d m rep rep rb tb) [some (.pointer (some ⟨rb, 0, none⟩)), some (.pointer (some ⟨rb, 0, none⟩)), some (.pointer (some ⟨rb, 115, none⟩)), some (.agg rep.L.toArray), some (.agg rep.L.toArray), none, none] 2
    (by kernel_rfl) (by kernel_rfl) (by kernel_rfl) (by kernel_rfl) (by kernel_rfl) (L3.out.below ((Below.refl _ _).drew)) ?_ ?_
  · skip
    refine Rt.yc ?_ ?_
    · exact Rt.y_move (Rt.wn rfl) rfl (by kernel_rfl)
    refine Rt.yc ?_ ?_
    · exact Rt.y_nil (Rt.wn rfl) rfl (by kernel_rfl)
    refine Rt.yc ?_ ?_
    · exact Rt.y_field 113 0 (Rt.wn rfl) rfl (by kernel_rfl) Yba.underlying72 rfl (by kernel_rfl) rfl
    refine Rt.yc ?_ ?_
    · exact Rt.y_loadm rb 115 (Rt.wn rfl) rfl (by kernel_rfl) (fun w h => rp_range h.rp) Yba.underlying34 rfl (sz34 hrep)
    refine Rt.yc ?_ ?_
    · exact Rt.y_loadm kb 0 (Rt.wn rfl) rfl (by kernel_rfl) (fun w h => h.mid.rk) Yba.underlying34 rfl (sz34 hrep)
    refine Rt.yn ?_
    refine Rt.yn ?_
    exact Rt.ye
  refine Rt.oneL 5 (by kernel_rfl) rfl (Rt.wn rfl) ?_
  with_reducible refine Rt.wp_call (vs := #[.agg rep.L.toArray, .agg rep.L.toArray]) rfl ?_ (Yba.call9 _) ?_
  · kernel_rfl
  refine (aeq_yes rep rep _ hrep hrep (alike_refl rep)).mono ?_
  rintro e w4 ⟨rfl, hb4⟩
  have L4 : Hid (Lay w0 n kb d m rep rep rb tb w4) := (L3.out.below ((Below.refl _ _).drew)).below hb4
  clear hb4 L3
  refine ⟨_, rfl, L4.out, ?_⟩
  refine Rt.moreL [none, none, none, none, none, none, some (.bool true)] 0 (by kernel_rfl) (by kernel_rfl) (by kernel_rfl) (by kernel_rfl) L4.out ?_ ?_
  · skip
    refine Rt.yn ?_
    refine Rt.yn ?_
    refine Rt.yn ?_
    refine Rt.yn ?_
    refine Rt.yn ?_
    refine Rt.yn ?_
    refine Rt.yc ?_ ?_
    · exact Rt.y_assign (Rt.wn rfl) rfl (by kernel_rfl)
    exact Rt.ye
  with_reducible refine Rt.done ?_ ?_ 0
  · kernel_rfl
  simp only [Rt.putL, Act.put, List.setIfInBounds_toArray, List.set_cons_succ, List.set_cons_zero]
  go_wp2
  go_ret
  exact ⟨rfl, L4.out.mid.bl⟩

/-- .. and what 'report' has handed back -/
def Lay2 (w0 : World) (n kb : Nat) (d : Dt) (m : Int) (rep : St) (rb tb sb : Nat) (w : World) : Prop :=
  Lay w0 n kb d m rep (repS d m 0) rb tb w ∧ w.rangeAt sb 0 (repS d m 0).L ∧ sb < w.heap.size
theorem Lay2.below {w0 : World} {n kb : Nat} {d : Dt} {m : Int} {rep : St} {rb tb sb : Nat} {w w' : World} (h : Lay2 w0 n kb d m rep rb tb sb w) (hb : Below w.heap.size w w') : Lay2 w0 n kb d m rep rb tb sb w' :=
  ⟨h.1.below hb, rangeAt_below hb h.2.2 h.2.1, Nat.lt_of_lt_of_le h.2.2 hb.size⟩

theorem news_lay {w0 : World} {n kb : Nat} {d : Dt} {m : Int} {rep : St} {rb tb : Nat} {w w1 : World} {e : Ending} (h : Lay w0 n kb d m rep rep rb tb w) (hn : News w rb (repS d m 0) e w1) :
    ∃ sb, e = .returned (.pointer (some ⟨sb, 0, none⟩)) ∧ Hid (Lay2 w0 n kb d m rep rb tb sb w1) := by
  obtain ⟨sb, W, rfl, hs1, hs2, hb1, hs3, rfl⟩ := hn
  have h1 := (h.below hb1).store (repS d m 0) (repS_ok d m 0)
  have hrs : rb ≠ sb := by have := h.rb2; omega
  refine ⟨sb, rfl, h1, World.rangeAt_setCells_apart hs3 _ _ _ (.inl hrs.symm), ?_⟩
  have hsz : ∀ (l : List Value) (o : Nat) (w : World), (w.setCells rb o l).heap.size = w.heap.size := by
    intro l
    induction l with
    | nil => intro o w; rfl
    | cons v l ih => intro o w; rw [World.setCells, ih]; simp [World.setCell]
  rw [hsz]; exact hs2

set_option maxRecDepth 100000 in
set_option maxHeartbeats 1000000 in
theorem tail_no (d : Dt) (m : Int) (w0 w : World) (n kb rb tb : Nat) (rep : St) (hrep : rep.Ok) (u7 : Value) (u12 u13 u14 u15 u16 u17 u18 u19 u20 u21 u22 u23 u24 u25 u26 u27 u28 u29 u30 u31 u32 u33 u34 u35 u36 u37 u38 u39 u40 u41 u42 u43 u44 u45 u46 u47 u48 u49 u50 u51 u52 u53 u54 u55 u56 u57 u58 u59 u60 u61 u62 u63 u64 u65 u66 u67 u68 u69 u70 u71 u72 u73 u74 u75 u76 u77 u78 u79 u80 u81 u82 u83 u84 u85 u86 u87 u88 u89 u90 u91 u92 u93 u94 u95 u96 u97 u98 u99 u100 u101 u102 u103 u104 u105 u106 u107 u108 u109 u110 u111 u112 u113 u114 u115 u116 u117 u118 u119 u120 u121 u122 u123 u124 u125 u126 u127 u128 u129 u130 u131 u132 u133 u134 u135 u136 u137 u138 u139 u140 u141 u142 u143 u144 u145 u146 u147 u148 u149 u150 u151 u152 u153 u154 u155 u156 u157 u158 u159 u160 u161 u162 u163 u164 u165 u166 u167 u168 u169 u170 u171 u172 u173 u174 u175 u176 u177 u178 u179 u180 u181 u182 u183 u184 u185 u186 u187 u188 u189 u190 u191 u192 u193 u194 u195 u196 u197 u198 u199 u200 u201 u202 u203 u204 u205 u206 u207 u208 u209 u210 u211 u212 u213 u214 u215 u216 u217 u218 u219 u220 u221 u222 u223 u224 u225 u226 u227 u228 u229 u230 u231 u232 u233 u234 u235 u236 u237 u238 u239 u240 u241 u242 u243 u244 u245 u246 u247 u248 u249 u250 u251 u252 u253 u254 u255 u256 u257 u258 u259 u260 u261 u262 u263 u264 u265 u266 u267 u268 u269 u270 u271 u272 u273 u274 u275 u276 u277 u278 u279 u280 u281 u282 u283 u284 u285 u286 u287 u288 u289 u290 u291 u292 u293 u294 u295 u296 u297 u298 u299 u300 : Value) (hW : wantB m = false) (hsame : sameB (repS d m 0) rep = false) (hL : Lay w0 n kb d m rep rep rb tb w) :
    Code.wp Yba.prog (dropS 25 (Yba.f3.body.getD .skip)) (bodyPost Yba.prog Yba.f3 fun e w' => e = .returned (.bool true) ∧ Below n w0 w') { tmps := #[.agg d.L.toArray, .int .u32 m, .pointer (some ⟨n, 0, none⟩), undef, .bool false, .pointer (some ⟨n + 1, 0, none⟩), .pointer (some ⟨n + 1 + 1, 0, none⟩), u7, .pointer (some ⟨kb, 0, none⟩), .pointer (some ⟨rb, 0, none⟩), undef, undef, u12, u13, u14, u15, u16, u17, u18, u19, u20, u21, u22, u23, u24, u25, u26, u27, u28, u29, u30, u31, u32, u33, u34, u35, u36, u37, u38, u39, u40, u41, u42, u43, u44, u45, u46, u47, u48, u49, u50, u51, u52, u53, u54, u55, u56, u57, u58, u59, u60, u61, u62, u63, u64, u65, u66, u67, u68, u69, u70, u71, u72, u73, u74, u75, u76, u77, u78, u79, u80, u81, u82, u83, u84, u85, u86, u87, u88, u89, u90, u91, u92, u93, u94, u95, u96, u97, u98, u99, u100, u101, u102, u103, u104, u105, u106, u107, u108, u109, u110, u111, u112, u113, u114, u115, u116, u117, u118, u119, u120, u121, u122, u123, u124, u125, u126, u127, u128, u129, u130, u131, u132, u133, u134, u135, u136, u137, u138, u139, u140, u141, u142, u143, u144, u145, u146, u147, u148, u149, u150, u151, u152, u153, u154, u155, u156, u157, u158, u159, u160, u161, u162, u163, u164, u165, u166, u167, u168, u169, u170, u171, u172, u173, u174, u175, u176, u177, u178, u179, u180, u181, u182, u183, u184, u185, u186, u187, u188, u189, u190, u191, u192, u193, u194, u195, u196, u197, u198, u199, u200, u201, u202, u203, u204, u205, u206, u207, u208, u209, u210, u211, u212, u213, u214, u215, u216, u217, u218, u219, u220, u221, u222, u223, u224, u225, u226, u227, u228, u229, u230, u231, u232, u233, u234, u235, u236, u237, u238, u239, u240, u241, u242, u243, u244, u245, u246, u247, u248, u249, u250, u251, u252, u253, u254, u255, u256, u257, u258, u259, u260, u261, u262, u263, u264, u265, u266, u267, u268, u269, u270, u271, u272, u273, u274, u275, u276, u277, u278, u279, u280, u281, u282, u283, u284, u285, u286, u287, u288, u289, u290, u291, u292, u293, u294, u295, u296, u297, u298, u299, u300], defers := [] } w := by
  have hE := repS_ok d m 0
  have kW : (bits .and .u32 m 262143 == 0) = false := hW
  have HL : Hid (Lay w0 n kb d m rep rep rb tb w) := hL
  have HSM : Hid (sameB (repS d m 0) rep = false) := hsame
  clear hL hW hsame
  generalize hQ : bodyPost Yba.prog Yba.f3 (fun e w' => e = .returned (.bool true) ∧ Below n w0 w') = QQ
  simp only [Yba.f3, dropS, Option.getD_some]
  subst hQ
  go_upto_region 53 with ((with_reducible refine (report_any rb tb (repS d m 0) rep _ hE hrep (rp_at HL.out.rp HL.out.tp) (rp_range HL.out.rp) HL.out.th HL.out.rb2 HL.out.tb2).mono ?_); rintro e w1 ⟨_, hno⟩; obtain ⟨sb, rfl, L1⟩ := news_lay HL.out (hno HSM.out); clear hno)
  clear HL
  refine Rt.regionL (Lay2 w0 n kb d m rep rb tb sb) [some (.pointer (some ⟨sb, 0, none⟩)), some (.bool false), some (.bool false), some (.pointer (some ⟨sb, 0, none⟩)), some (.pointer (some ⟨sb, 0, none⟩)), some (.agg (repS d m 0).L.toArray), some (.agg (repS d m 0).L.toArray), none, none, none, none, none, none, none, none, none, none, none, none] 12
    (by kernel_rfl) (by kernel_rfl) (by kernel_rfl) (by kernel_rfl) (by kernel_rfl) (L1.out.below ((Below.refl _ _).drew)) ?_ ?_
  · skip
    refine Rt.yc ?_ ?_
    · exact Rt.y_move (Rt.wn rfl) rfl (by kernel_rfl)
    refine Rt.yc ?_ ?_
    · exact Rt.y_bin (Rt.wn rfl) rfl (eqNil sb)
    refine Rt.yc ?_ ?_
    · exact Rt.y_move (Rt.wn rfl) rfl (by kernel_rfl)
    refine Rt.yc ?_ ?_
    · exact Rt.y_move (by kernel_rfl) rfl (by kernel_rfl)
    refine Rt.yc ?_ ?_
    · exact Rt.y_nil (by kernel_rfl) rfl (by kernel_rfl)
    refine Rt.yc ?_ ?_
    · exact Rt.y_loadm sb 0 (by kernel_rfl) rfl (by kernel_rfl) (fun w h => h.2.1) Yba.underlying34 rfl (sz34 hE)
    refine Rt.yc ?_ ?_
    · exact Rt.y_loadm (n + 1) 0 (by kernel_rfl) rfl (by kernel_rfl) (fun w h => h.1.mid.re) Yba.underlying34 rfl (sz34 hE)
    refine Rt.yn ?_
    refine Rt.yn ?_
    refine Rt.yn ?_
    refine Rt.yn ?_
    refine Rt.yn ?_
    refine Rt.yn ?_
    refine Rt.yn ?_
    refine Rt.yn ?_
    refine Rt.yn ?_
    refine Rt.yn ?_
    refine Rt.yn ?_
    refine Rt.yn ?_
    exact Rt.ye
  refine Rt.oneL 7 (by kernel_rfl) rfl (by kernel_rfl) ?_
  with_reducible refine Rt.wp_call (vs := #[.agg (repS d m 0).L.toArray, .agg (repS d m 0).L.toArray]) rfl ?_ (Yba.call9 _) ?_
  · kernel_rfl
  refine (aeq_yes (repS d m 0) (repS d m 0) _ hE hE (alike_refl _)).mono ?_
  rintro e w2 ⟨rfl, hb2⟩
  have L2 : Hid (Lay2 w0 n kb d m rep rb tb sb w2) := (L1.out.below ((Below.refl _ _).drew)).below hb2
  clear hb2 L1
  refine ⟨_, rfl, L2.out, ?_⟩
  refine Rt.moreL [none, none, none, none, none, none, none, none, some (.bool false), some (.bool false), some (.bool false), some (.pointer (some ⟨rb, 0, none⟩)), some (.pointer (some ⟨rb, 0, none⟩)), some (.pointer (some ⟨rb, 115, none⟩)), some (.agg (repS d m 0).L.toArray), some (.agg (repS d m 0).L.toArray)] 3 (by kernel_rfl) (by kernel_rfl) (by kernel_rfl) (by kernel_rfl) L2.out ?_ ?_
  · skip
    refine Rt.yn ?_
    refine Rt.yn ?_
    refine Rt.yn ?_
    refine Rt.yn ?_
    refine Rt.yn ?_
    refine Rt.yn ?_
    refine Rt.yn ?_
    refine Rt.yn ?_
    refine Rt.yc ?_ ?_
    · exact Rt.y_not (t := true) (by kernel_rfl) rfl (by kernel_rfl)
    refine Rt.yc ?_ ?_
    · exact Rt.y_pick false (by kernel_rfl) rfl (by kernel_rfl) (by kernel_rfl)
    refine Rt.yc ?_ ?_
    · exact Rt.y_move (by kernel_rfl) rfl (by kernel_rfl)
    refine Rt.yc ?_ ?_
    · exact Rt.y_move (by kernel_rfl) rfl (by kernel_rfl)
    refine Rt.yc ?_ ?_
    · exact Rt.y_nil (by kernel_rfl) rfl (by kernel_rfl)
    refine Rt.yc ?_ ?_
    · exact Rt.y_field 113 0 (by kernel_rfl) rfl (by kernel_rfl) Yba.underlying72 rfl (by kernel_rfl) rfl
    refine Rt.yc ?_ ?_
    · exact Rt.y_loadm rb 115 (by kernel_rfl) rfl (by kernel_rfl) (fun w h => rp_range h.1.rp) Yba.underlying34 rfl (sz34 hE)
    refine Rt.yc ?_ ?_
    · exact Rt.y_loadm (n + 1) 0 (by kernel_rfl) rfl (by kernel_rfl) (fun w h => h.1.mid.re) Yba.underlying34 rfl (sz34 hE)
    exact Rt.ye
  refine Rt.oneL 16 (by kernel_rfl) rfl (by kernel_rfl) ?_
  with_reducible refine Rt.wp_call (vs := #[.agg (repS d m 0).L.toArray, .agg (repS d m 0).L.toArray]) rfl ?_ (Yba.call9 _) ?_
  · kernel_rfl
  refine (aeq_yes (repS d m 0) (repS d m 0) _ hE hE (alike_refl _)).mono ?_
  rintro e w3 ⟨rfl, hb3⟩
  have L3 : Hid (Lay2 w0 n kb d m rep rb tb sb w3) := L2.out.below hb3
  clear hb3 L2
  refine ⟨_, rfl, L3.out, ?_⟩
  refine Rt.moreL [none, none, none, none, none, none, none, none, none, none, none, none, none, none, none, none, none, some (.bool false), some (.bool false)] 0 (by kernel_rfl) (by kernel_rfl) (by kernel_rfl) (by kernel_rfl) L3.out ?_ ?_
  · skip
    refine Rt.yn ?_
    refine Rt.yn ?_
    refine Rt.yn ?_
    refine Rt.yn ?_
    refine Rt.yn ?_
    refine Rt.yn ?_
    refine Rt.yn ?_
    refine Rt.yn ?_
    refine Rt.yn ?_
    refine Rt.yn ?_
    refine Rt.yn ?_
    refine Rt.yn ?_
    refine Rt.yn ?_
    refine Rt.yn ?_
    refine Rt.yn ?_
    refine Rt.yn ?_
    refine Rt.yn ?_
    refine Rt.yc ?_ ?_
    · exact Rt.y_not (t := true) (by kernel_rfl) rfl (by kernel_rfl)
    refine Rt.yc ?_ ?_
    · exact Rt.y_pick false (by kernel_rfl) rfl (by kernel_rfl) (by kernel_rfl)
    exact Rt.ye
  with_reducible refine Rt.done ?_ ?_ 0
  · kernel_rfl
  simp only [Rt.putL, Act.put, List.setIfInBounds_toArray, List.set_cons_succ, List.set_cons_zero]
  have L4 : Hid (Lay w0 n kb d m rep (repS d m 0) rb tb w3) := L3.out.1
  clear L3
  go_upto_region 59 with ((with_reducible refine (report_any rb tb (repS d m 0) (repS d m 0) _ hE hE (rp_at L4.out.rp L4.out.tp) (rp_range L4.out.rp) L4.out.th L4.out.rb2 L4.out.tb2).mono ?_); rintro e w5 ⟨hyes, _⟩; obtain ⟨rfl, hb5⟩ := hyes (same_self _); clear hyes)
  have L5 : Hid (Lay w0 n kb d m rep (repS d m 0) rb tb w5) := L4.out.below hb5
  clear hb5 L4
  refine Rt.regionL (Lay w0 n kb d m rep (repS d m 0) rb tb) [some (.pointer (some ⟨rb, 0, none⟩)), some (.pointer (some ⟨rb, 0, none⟩)), some (.pointer (some ⟨rb, 115, none⟩)), some (.agg (repS d m 0).L.toArray), some (.agg (repS d m 0).L.toArray), none, none] 2
    (by kernel_rfl) (by kernel_rfl) (by kernel_rfl) (by kernel_rfl) (by kernel_rfl) (L5.out.below ((Below.refl _ _).drew)) ?_ ?_
  · skip
    refine Rt.yc ?_ ?_
    · exact Rt.y_move (Rt.wn rfl) rfl (by kernel_rfl)
    refine Rt.yc ?_ ?_
    · exact Rt.y_nil (Rt.wn rfl) rfl (by kernel_rfl)
    refine Rt.yc ?_ ?_
    · exact Rt.y_field 113 0 (Rt.wn rfl) rfl (by kernel_rfl) Yba.underlying72 rfl (by kernel_rfl) rfl
    refine Rt.yc ?_ ?_
    · exact Rt.y_loadm rb 115 (Rt.wn rfl) rfl (by kernel_rfl) (fun w h => rp_range h.rp) Yba.underlying34 rfl (sz34 hE)
    refine Rt.yc ?_ ?_
    · exact Rt.y_loadm (n + 1) 0 (Rt.wn rfl) rfl (by kernel_rfl) (fun w h => h.mid.re) Yba.underlying34 rfl (sz34 hE)
    refine Rt.yn ?_
    refine Rt.yn ?_
    exact Rt.ye
  refine Rt.oneL 5 (by kernel_rfl) rfl (Rt.wn rfl) ?_
  with_reducible refine Rt.wp_call (vs := #[.agg (repS d m 0).L.toArray, .agg (repS d m 0).L.toArray]) rfl ?_ (Yba.call9 _) ?_
  · kernel_rfl
  refine (aeq_yes (repS d m 0) (repS d m 0) _ hE hE (alike_refl _)).mono ?_
  rintro e w6 ⟨rfl, hb6⟩
  have L6 : Hid (Lay w0 n kb d m rep (repS d m 0) rb tb w6) := (L5.out.below ((Below.refl _ _).drew)).below hb6
  clear hb6 L5
  refine ⟨_, rfl, L6.out, ?_⟩
  refine Rt.moreL [none, none, none, none, none, none, some (.bool true)] 0 (by kernel_rfl) (by kernel_rfl) (by kernel_rfl) (by kernel_rfl) L6.out ?_ ?_
  · skip
    refine Rt.yn ?_
    refine Rt.yn ?_
    refine Rt.yn ?_
    refine Rt.yn ?_
    refine Rt.yn ?_
    refine Rt.yn ?_
    refine Rt.yc ?_ ?_
    · exact Rt.y_assign (Rt.wn rfl) rfl (by kernel_rfl)
    exact Rt.ye
  with_reducible refine Rt.done ?_ ?_ 0
  · kernel_rfl
  simp only [Rt.putL, Act.put, List.setIfInBounds_toArray, List.set_cons_succ, List.set_cons_zero]
  go_wp2
  go_ret
  exact ⟨rfl, L6.out.mid.bl⟩
end Go.Proofs.Ybulkcsck
