/-
  OWN TEXT. LawS4690AReport: the law, from 'keep := rep' on.
-/
import Derived.Test.YbulkcsckRepM
namespace Go.Proofs.Ybulkcsck
open Go.RowKit

set_option maxRecDepth 100000 in
set_option maxHeartbeats 1000000 in
theorem law_rest (d : Dt) (m : Int) (w0 w : World) (n : Nat) (sa : Option Addr) (sn sc : Nat) (u7 : Value) (u12 u13 u14 u15 u16 u17 u18 u19 u20 u21 u22 u23 u24 u25 u26 u27 u28 u29 u30 u31 u32 u33 u34 u35 u36 u37 u38 u39 u40 u41 u42 u43 u44 u45 u46 u47 u48 u49 u50 u51 u52 u53 u54 u55 u56 u57 u58 u59 u60 u61 u62 u63 u64 u65 u66 u67 u68 u69 u70 u71 u72 u73 u74 u75 u76 u77 u78 u79 u80 u81 u82 u83 u84 u85 u86 u87 u88 u89 u90 u91 u92 u93 u94 u95 u96 u97 u98 u99 u100 u101 u102 u103 u104 u105 u106 u107 u108 u109 u110 u111 u112 u113 u114 u115 u116 u117 u118 u119 u120 u121 u122 u123 u124 u125 u126 u127 u128 u129 u130 u131 u132 u133 u134 u135 u136 u137 u138 u139 u140 u141 u142 u143 u144 u145 u146 u147 u148 u149 u150 u151 u152 u153 u154 u155 u156 u157 u158 u159 u160 u161 u162 u163 u164 u165 u166 u167 u168 u169 u170 u171 u172 u173 u174 u175 u176 u177 u178 u179 u180 u181 u182 u183 u184 u185 u186 u187 u188 u189 u190 u191 u192 u193 u194 u195 u196 u197 u198 u199 u200 u201 u202 u203 u204 u205 u206 u207 u208 u209 u210 u211 u212 u213 u214 u215 u216 u217 u218 u219 u220 u221 u222 u223 u224 u225 u226 u227 u228 u229 u230 u231 u232 u233 u234 u235 u236 u237 u238 u239 u240 u241 u242 u243 u244 u245 u246 u247 u248 u249 u250 u251 u252 u253 u254 u255 u256 u257 u258 u259 u260 u261 u262 u263 u264 u265 u266 u267 u268 u269 u270 u271 u272 u273 u274 u275 u276 u277 u278 u279 u280 u281 u282 u283 u284 u285 u286 u287 u288 u289 u290 u291 u292 u293 u294 u295 u296 u297 u298 u299 u300 : Value) (h0 : 0 ≤ m) (h1 : m < 4294967296)
    (rd : w.rangeAt n 0 d.L) (re : w.rangeAt (n + 1) 0 (repS d m 0).L) (rr : w.rangeAt (n + 1 + 1) 0 (repF d m sa sn sc).L) (sz : n + 3 ≤ w.heap.size) (bl : Below n w0 w) :
    Code.wp Yba.prog (dropS 23 (Yba.f3.body.getD .skip)) (bodyPost Yba.prog Yba.f3 fun e w' => e = .returned (.bool true) ∧ Below n w0 w') { tmps := #[.agg d.L.toArray, .int .u32 m, .pointer (some ⟨n, 0, none⟩), undef, .bool false, .pointer (some ⟨n + 1, 0, none⟩), .pointer (some ⟨n + 1 + 1, 0, none⟩), u7, undef, undef, undef, undef, u12, u13, u14, u15, u16, u17, u18, u19, u20, u21, u22, u23, u24, u25, u26, u27, u28, u29, u30, u31, u32, u33, u34, u35, u36, u37, u38, u39, u40, u41, u42, u43, u44, u45, u46, u47, u48, u49, u50, u51, u52, u53, u54, u55, u56, u57, u58, u59, u60, u61, u62, u63, u64, u65, u66, u67, u68, u69, u70, u71, u72, u73, u74, u75, u76, u77, u78, u79, u80, u81, u82, u83, u84, u85, u86, u87, u88, u89, u90, u91, u92, u93, u94, u95, u96, u97, u98, u99, u100, u101, u102, u103, u104, u105, u106, u107, u108, u109, u110, u111, u112, u113, u114, u115, u116, u117, u118, u119, u120, u121, u122, u123, u124, u125, u126, u127, u128, u129, u130, u131, u132, u133, u134, u135, u136, u137, u138, u139, u140, u141, u142, u143, u144, u145, u146, u147, u148, u149, u150, u151, u152, u153, u154, u155, u156, u157, u158, u159, u160, u161, u162, u163, u164, u165, u166, u167, u168, u169, u170, u171, u172, u173, u174, u175, u176, u177, u178, u179, u180, u181, u182, u183, u184, u185, u186, u187, u188, u189, u190, u191, u192, u193, u194, u195, u196, u197, u198, u199, u200, u201, u202, u203, u204, u205, u206, u207, u208, u209, u210, u211, u212, u213, u214, u215, u216, u217, u218, u219, u220, u221, u222, u223, u224, u225, u226, u227, u228, u229, u230, u231, u232, u233, u234, u235, u236, u237, u238, u239, u240, u241, u242, u243, u244, u245, u246, u247, u248, u249, u250, u251, u252, u253, u254, u255, u256, u257, u258, u259, u260, u261, u262, u263, u264, u265, u266, u267, u268, u269, u270, u271, u272, u273, u274, u275, u276, u277, u278, u279, u280, u281, u282, u283, u284, u285, u286, u287, u288, u289, u290, u291, u292, u293, u294, u295, u296, u297, u298, u299, u300], defers := [] } w := by
  obtain ⟨z34, hzs, hz⟩ := zero34
  obtain ⟨rep, hrp⟩ : ∃ rep, rep = repF d m sa sn sc := ⟨_, rfl⟩
  have hrep : rep.Ok := hrp ▸ repF_ok d m sa sn sc
  rw [← hrp] at rr
  have HRP : Hid (rep = repF d m sa sn sc) := hrp
  clear hrp
  have hzs' : Hid (z34.size = rep.L.length) := by unfold Hid; rw [hzs, St.len _ hrep]
  have M0 : Hid (Mid w0 n w.heap.size d m rep (w.alloc (.cells rep.L.toArray 34))) := by
    have hb : Below w.heap.size w (w.alloc (.cells rep.L.toArray 34)) := (Below.refl _ _).alloc (Nat.le_refl _) _
    exact ⟨rangeAt_below hb (by omega) rd, rangeAt_below hb (by omega) re, rangeAt_below hb (by omega) rr, rangeAt_new w rep.L 34, by simp, by simp; omega, bl.alloc (by omega) _⟩
  have RR : Hid (w.rangeAt (n + 1 + 1) 0 rep.L) := rr
  clear rd re rr hzs
  have BL : Hid (Below n w0 w) := bl
  clear bl
  generalize hQ : bodyPost Yba.prog Yba.f3 (fun e w' => e = .returned (.bool true) ∧ Below n w0 w') = QQ
  simp only [Yba.f3, dropS, Option.getD_some]
  subst hQ
  go_upto_region 47 with (first
    | ((with_reducible refine st_new rep.L z34 ?_ ?_ ?_ ?_ ?_ ?_); rfl; rfl; exact sz34 hrep; exact hzs'.out; exact St.one _)
    | ((with_reducible refine ld34 rep hrep (n + 1 + 1) 0 ?_ ?_ ?_ ?_); rfl; rfl; exact RR.out))
  go_cut [9] from 212 to 248 (fun s9 wc => ∃ rb tb, s9 = .pointer (some ⟨rb, 0, none⟩) ∧ Lay w0 n w.heap.size d m rep rep rb tb wc)
  case first =>
    refine Rt.regionL (Mid w0 n w.heap.size d m rep) [some (.pointer (some ⟨n, 0, none⟩)), some (.int .i64 d.ep), some (.pointer (some ⟨n, 1, none⟩)), some (.int .i64 d.ece), some (.agg #[.int .i64 d.ece, .slice none 0 0]), some (.pointer (some ⟨n, 2, none⟩)), some (.int .i64 d.vw), some (.pointer (some ⟨n, 3, none⟩)), some (.int .i64 d.ws), some (.pointer (some ⟨n, 4, none⟩)), some (.bool d.lv), some (.int .u32 m), none, some (.pointer (some ⟨n, 5, none⟩)), some (.pointer (some ⟨n, 5, none⟩)), some (.bool d.v0), some (.pointer (some ⟨n, 5, none⟩)), some (.pointer (some ⟨n, 6, none⟩)), some (.bool d.v1), some (.pointer (some ⟨n, 5, none⟩)), some (.pointer (some ⟨n, 7, none⟩)), some (.bool d.v2), none, some (.pointer (some ⟨(n + 1), 9, none⟩)), some (.agg (repS d m 0).lk.L.toArray), some (.pointer (some ⟨n, 12, none⟩)), some (.bool d.ld), some (.pointer (some ⟨(n + 1), 46, none⟩)), some (.agg (repS d m 0).hq.L.toArray), some (.pointer (some ⟨n, 17, none⟩)), some (.int .u8 d.tp), some (.agg (bytesV (d.tp :: z31)).toArray), some (.agg (tipL d.tp).toArray), none, some (.agg rep.L.toArray), none, none, none] 6
      (by kernel_rfl) (by kernel_rfl) (by kernel_rfl) (by kernel_rfl) (by kernel_rfl) (M0.out.below ((Below.refl _ _).drew)) ?_ ?_
    · skip
      refine Rt.yc ?_ ?_
      · exact Rt.y_field 0 0 (Rt.wn rfl) rfl (by kernel_rfl) Yba.underlying24 rfl (by kernel_rfl) rfl
      refine Rt.yc ?_ ?_
      · exact Rt.y_load n 0 (Rt.wn rfl) rfl (by kernel_rfl) Yba.isAgg3 (fun w h => h.rd 0 _ rfl)
      refine Rt.yc ?_ ?_
      · exact Rt.y_field 0 0 (Rt.wn rfl) rfl (by kernel_rfl) Yba.underlying24 rfl (by kernel_rfl) rfl
      refine Rt.yc ?_ ?_
      · exact Rt.y_load n 1 (Rt.wn rfl) rfl (by kernel_rfl) Yba.isAgg3 (fun w h => h.rd 1 _ rfl)
      refine Rt.yc ?_ ?_
      · exact Rt.y_build (bu28 d.ece) (Rt.wn rfl) rfl (by kernel_rfl)
      refine Rt.yc ?_ ?_
      · exact Rt.y_field 0 0 (Rt.wn rfl) rfl (by kernel_rfl) Yba.underlying24 rfl (by kernel_rfl) rfl
      refine Rt.yc ?_ ?_
      · exact Rt.y_load n 2 (Rt.wn rfl) rfl (by kernel_rfl) Yba.isAgg3 (fun w h => h.rd 2 _ rfl)
      refine Rt.yc ?_ ?_
      · exact Rt.y_field 0 0 (Rt.wn rfl) rfl (by kernel_rfl) Yba.underlying24 rfl (by kernel_rfl) rfl
      refine Rt.yc ?_ ?_
      · exact Rt.y_load n 3 (Rt.wn rfl) rfl (by kernel_rfl) Yba.isAgg3 (fun w h => h.rd 3 _ rfl)
      refine Rt.yc ?_ ?_
      · exact Rt.y_field 0 0 (Rt.wn rfl) rfl (by kernel_rfl) Yba.underlying24 rfl (by kernel_rfl) rfl
      refine Rt.yc ?_ ?_
      · exact Rt.y_load n 4 (Rt.wn rfl) rfl (by kernel_rfl) Yba.isAgg4 (fun w h => h.rd 4 _ rfl)
      refine Rt.yc ?_ ?_
      · exact Rt.y_move (Rt.wn rfl) rfl (by kernel_rfl)
      refine Rt.yn ?_
      refine Rt.yc ?_ ?_
      · exact Rt.y_field 2 0 (Rt.wn rfl) rfl (by kernel_rfl) Yba.underlying24 rfl (by kernel_rfl) rfl
      refine Rt.yc ?_ ?_
      · exact Rt.y_index 0 (Rt.wn rfl) rfl (by kernel_rfl) Yba.underlying22 Yba.sizeOf4 (by decide) rfl
      refine Rt.yc ?_ ?_
      · exact Rt.y_load n 5 (Rt.wn rfl) rfl (by kernel_rfl) Yba.isAgg4 (fun w h => h.rd 5 _ rfl)
      refine Rt.yc ?_ ?_
      · exact Rt.y_field 2 0 (Rt.wn rfl) rfl (by kernel_rfl) Yba.underlying24 rfl (by kernel_rfl) rfl
      refine Rt.yc ?_ ?_
      · exact Rt.y_index 1 (Rt.wn rfl) rfl (by kernel_rfl) Yba.underlying22 Yba.sizeOf4 (by decide) rfl
      refine Rt.yc ?_ ?_
      · exact Rt.y_load n 6 (Rt.wn rfl) rfl (by kernel_rfl) Yba.isAgg4 (fun w h => h.rd 6 _ rfl)
      refine Rt.yc ?_ ?_
      · exact Rt.y_field 2 0 (Rt.wn rfl) rfl (by kernel_rfl) Yba.underlying24 rfl (by kernel_rfl) rfl
      refine Rt.yc ?_ ?_
      · exact Rt.y_index 2 (Rt.wn rfl) rfl (by kernel_rfl) Yba.underlying22 Yba.sizeOf4 (by decide) rfl
      refine Rt.yc ?_ ?_
      · exact Rt.y_load n 7 (Rt.wn rfl) rfl (by kernel_rfl) Yba.isAgg4 (fun w h => h.rd 7 _ rfl)
      refine Rt.yn ?_
      refine Rt.yc ?_ ?_
      · exact Rt.y_field 35 0 (Rt.wn rfl) rfl (by kernel_rfl) Yba.underlying34 rfl (by kernel_rfl) rfl
      refine Rt.yc ?_ ?_
      · exact Rt.y_loadm (n + 1) 9 (Rt.wn rfl) rfl (by kernel_rfl) (fun w h => h.elk) Yba.underlying32 rfl (sz32 rfl)
      refine Rt.yc ?_ ?_
      · exact Rt.y_field 0 0 (Rt.wn rfl) rfl (by kernel_rfl) Yba.underlying24 rfl (by kernel_rfl) rfl
      refine Rt.yc ?_ ?_
      · exact Rt.y_load n 12 (Rt.wn rfl) rfl (by kernel_rfl) Yba.isAgg4 (fun w h => h.rd 12 _ rfl)
      refine Rt.yc ?_ ?_
      · exact Rt.y_field 35 0 (Rt.wn rfl) rfl (by kernel_rfl) Yba.underlying34 rfl (by kernel_rfl) rfl
      refine Rt.yc ?_ ?_
      · exact Rt.y_loadm (n + 1) 46 (Rt.wn rfl) rfl (by kernel_rfl) (fun w h => h.ehq) Yba.underlying32 rfl (sz32 rfl)
      refine Rt.yc ?_ ?_
      · exact Rt.y_field 0 0 (Rt.wn rfl) rfl (by kernel_rfl) Yba.underlying24 rfl (by kernel_rfl) rfl
      refine Rt.yc ?_ ?_
      · exact Rt.y_load n 17 (Rt.wn rfl) rfl (by kernel_rfl) Yba.isAgg5 (fun w h => h.rd 17 _ rfl)
      refine Rt.yc ?_ ?_
      · exact Rt.y_build (bu30 d.tp) (Rt.wn rfl) rfl (by kernel_rfl)
      refine Rt.yc ?_ ?_
      · exact Rt.y_build (bu44 d.tp) (Rt.wn rfl) rfl (by kernel_rfl)
      refine Rt.yn ?_
      refine Rt.yc ?_ ?_
      · exact Rt.y_loadm (n + 1 + 1) 0 (Rt.wn rfl) rfl (by kernel_rfl) (fun w h => h.rr) Yba.underlying34 rfl (sz34 hrep)
      refine Rt.yn ?_
      refine Rt.yn ?_
      refine Rt.yn ?_
      exact Rt.ye
    have Md : Mid w0 n w.heap.size d m rep (w.alloc (.cells rep.L.toArray 34)).drew := M0.out.below ((Below.refl _ _).drew)
    generalize (w.alloc (Obj.cells rep.L.toArray 34)).drew = wk at Md ⊢
    have hb1 : Below wk.heap.size wk (wk.alloc (.cells (tipL d.tp).toArray 44)) := (Below.refl _ _).alloc (Nat.le_refl _) _
    have Lf : Lay w0 n w.heap.size d m rep rep (wk.alloc (.cells (tipL d.tp).toArray 44)).heap.size wk.heap.size ((wk.alloc (.cells (tipL d.tp).toArray 44)).alloc (.cells (rpL d m wk.heap.size (bitB m 20) rep).toArray 72)) := by
      rw [World.size_alloc]; exact Lay.start Md hrep
    have B72 : Yba.prog.built 72 [(4, .int .i64 d.ep), (5, .agg #[.int .i64 d.ece, .slice none 0 0]), (6, .int .i64 d.vw), (7, .int .i64 d.ws), (8, .bool d.lv), (18, .agg #[.bool (bitB m 20), .bool d.v0, .bool d.v1, .bool d.v2]),
      (13, .agg (repS d m 0).lk.L.toArray), (14, .bool d.ld), (12, .agg (repS d m 0).hq.L.toArray), (16, .pointer (some ⟨wk.heap.size, 0, none⟩)), (30, .agg rep.L.toArray)] = some (rpL d m wk.heap.size (bitB m 20) rep).toArray := by
      rw [HRP.out]; exact bu72 d m wk.heap.size (bitB m 20) sa sn sc
    refine Rt.twoL 12 33 (by kernel_rfl) rfl rfl (Rt.wn rfl) (Rt.wn rfl) ?_ ?_
    · with_reducible refine Rt.wp_call (vs := #[.int .u32 m, .int .u64 20]) rfl ?_ (Yba.call7 _) ?_
      · kernel_rfl
      refine (bit_at m 20 20 rfl (by decide) _).mono ?_
      rintro e w1 ⟨rfl, hw1⟩
      rw [hw1]
      clear hw1
      refine ⟨_, rfl, Md, ?_⟩
      refine Rt.moreL [none, none, none, none, none, none, none, none, none, none, none, none, none, none, none, none, none, none, none, none, none, none, some (.agg #[.bool (bitB m 20), .bool d.v0, .bool d.v1, .bool d.v2])] 4 (by kernel_rfl) (by kernel_rfl) (by kernel_rfl) (by kernel_rfl) Md ?_ ?_
      · refine Rt.yn ?_
        refine Rt.yn ?_
        refine Rt.yn ?_
        refine Rt.yn ?_
        refine Rt.yn ?_
        refine Rt.yn ?_
        refine Rt.yn ?_
        refine Rt.yn ?_
        refine Rt.yn ?_
        refine Rt.yn ?_
        refine Rt.yn ?_
        refine Rt.yn ?_
        refine Rt.yn ?_
        refine Rt.yn ?_
        refine Rt.yn ?_
        refine Rt.yn ?_
        refine Rt.yn ?_
        refine Rt.yn ?_
        refine Rt.yn ?_
        refine Rt.yn ?_
        refine Rt.yn ?_
        refine Rt.yn ?_
        refine Rt.yc ?_ ?_
        · exact Rt.y_build (bu41 (bitB m 20) d.v0 d.v1 d.v2) (Rt.wn rfl) rfl (by kernel_rfl)
        exact Rt.ye
      refine Rt.oneL 33 (by kernel_rfl) rfl (Rt.wn rfl) ?_
      with_reducible refine Rt.wp_box (c := (tipL d.tp).toArray) rfl ?_ ?_
      · kernel_rfl
      refine ⟨Md.below hb1, ?_⟩
      refine Rt.moreL [none, none, none, none, none, none, none, none, none, none, none, none, none, none, none, none, none, none, none, none, none, none, none, none, none, none, none, none, none, none, none, none, none, none, none, some (.agg (rpL d m wk.heap.size (bitB m 20) rep).toArray)] 2 (by kernel_rfl) (by kernel_rfl) (by kernel_rfl) (by kernel_rfl) (Md.below hb1) ?_ ?_
      · refine Rt.yn ?_
        refine Rt.yn ?_
        refine Rt.yn ?_
        refine Rt.yn ?_
        refine Rt.yn ?_
        refine Rt.yn ?_
        refine Rt.yn ?_
        refine Rt.yn ?_
        refine Rt.yn ?_
        refine Rt.yn ?_
        refine Rt.yn ?_
        refine Rt.yn ?_
        refine Rt.yn ?_
        refine Rt.yn ?_
        refine Rt.yn ?_
        refine Rt.yn ?_
        refine Rt.yn ?_
        refine Rt.yn ?_
        refine Rt.yn ?_
        refine Rt.yn ?_
        refine Rt.yn ?_
        refine Rt.yn ?_
        refine Rt.yn ?_
        refine Rt.yn ?_
        refine Rt.yn ?_
        refine Rt.yn ?_
        refine Rt.yn ?_
        refine Rt.yn ?_
        refine Rt.yn ?_
        refine Rt.yn ?_
        refine Rt.yn ?_
        refine Rt.yn ?_
        refine Rt.yn ?_
        refine Rt.yn ?_
        refine Rt.yn ?_
        refine Rt.yc ?_ ?_
        · exact Rt.y_build B72 (Rt.wn rfl) rfl (by kernel_rfl)
        exact Rt.ye
      refine Rt.oneL 36 (by kernel_rfl) rfl (Rt.wn rfl) ?_
      with_reducible refine Rt.wp_box (c := (rpL d m wk.heap.size (bitB m 20) rep).toArray) rfl ?_ ?_
      · kernel_rfl
      refine ⟨Lf.mid, ?_⟩
      refine Rt.moreL [none, none, none, none, none, none, none, none, none, none, none, none, none, none, none, none, none, none, none, none, none, none, none, none, none, none, none, none, none, none, none, none, none, none, none, none, none, some (.pointer (some ⟨(wk.alloc (.cells (tipL d.tp).toArray 44)).heap.size, 0, none⟩))] 0 (by kernel_rfl) (by kernel_rfl) (by kernel_rfl) (by kernel_rfl) Lf.mid ?_ ?_
      · refine Rt.yn ?_
        refine Rt.yn ?_
        refine Rt.yn ?_
        refine Rt.yn ?_
        refine Rt.yn ?_
        refine Rt.yn ?_
        refine Rt.yn ?_
        refine Rt.yn ?_
        refine Rt.yn ?_
        refine Rt.yn ?_
        refine Rt.yn ?_
        refine Rt.yn ?_
        refine Rt.yn ?_
        refine Rt.yn ?_
        refine Rt.yn ?_
        refine Rt.yn ?_
        refine Rt.yn ?_
        refine Rt.yn ?_
        refine Rt.yn ?_
        refine Rt.yn ?_
        refine Rt.yn ?_
        refine Rt.yn ?_
        refine Rt.yn ?_
        refine Rt.yn ?_
        refine Rt.yn ?_
        refine Rt.yn ?_
        refine Rt.yn ?_
        refine Rt.yn ?_
        refine Rt.yn ?_
        refine Rt.yn ?_
        refine Rt.yn ?_
        refine Rt.yn ?_
        refine Rt.yn ?_
        refine Rt.yn ?_
        refine Rt.yn ?_
        refine Rt.yn ?_
        refine Rt.yn ?_
        refine Rt.yc ?_ ?_
        · exact Rt.y_assign (Rt.wn rfl) rfl (by kernel_rfl)
        exact Rt.ye
      with_reducible refine Rt.done ?_ ?_ 0
      · kernel_rfl
      simp only [Rt.putL, Act.put, List.setIfInBounds_toArray, List.set_cons_succ, List.set_cons_zero]
      go_wp2_with fail
      go_meet
      case rel => exact ⟨_, _, rfl, Lf⟩
    · with_reducible refine Rt.wp_box (c := (tipL d.tp).toArray) rfl ?_ ?_
      · kernel_rfl
      refine ⟨Md.below hb1, ?_⟩
      refine Rt.oneL 12 (by kernel_rfl) rfl (Rt.wn rfl) ?_
      with_reducible refine Rt.wp_call (vs := #[.int .u32 m, .int .u64 20]) rfl ?_ (Yba.call7 _) ?_
      · kernel_rfl
      refine (bit_at m 20 20 rfl (by decide) _).mono ?_
      rintro e w1 ⟨rfl, hw1⟩
      rw [hw1]
      clear hw1
      refine ⟨_, rfl, Md.below hb1, ?_⟩
      refine Rt.moreL [none, none, none, none, none, none, none, none, none, none, none, none, none, none, none, none, none, none, none, none, none, none, some (.agg #[.bool (bitB m 20), .bool d.v0, .bool d.v1, .bool d.v2])] 3 (by kernel_rfl) (by kernel_rfl) (by kernel_rfl) (by kernel_rfl) (Md.below hb1) ?_ ?_
      · refine Rt.yn ?_
        refine Rt.yn ?_
        refine Rt.yn ?_
        refine Rt.yn ?_
        refine Rt.yn ?_
        refine Rt.yn ?_
        refine Rt.yn ?_
        refine Rt.yn ?_
        refine Rt.yn ?_
        refine Rt.yn ?_
        refine Rt.yn ?_
        refine Rt.yn ?_
        refine Rt.yn ?_
        refine Rt.yn ?_
        refine Rt.yn ?_
        refine Rt.yn ?_
        refine Rt.yn ?_
        refine Rt.yn ?_
        refine Rt.yn ?_
        refine Rt.yn ?_
        refine Rt.yn ?_
        refine Rt.yn ?_
        refine Rt.yc ?_ ?_
        · exact Rt.y_build (bu41 (bitB m 20) d.v0 d.v1 d.v2) (Rt.wn rfl) rfl (by kernel_rfl)
        exact Rt.ye
      refine Rt.moreL [none, none, none, none, none, none, none, none, none, none, none, none, none, none, none, none, none, none, none, none, none, none, none, none, none, none, none, none, none, none, none, none, none, none, none, some (.agg (rpL d m wk.heap.size (bitB m 20) rep).toArray)] 2 (by kernel_rfl) (by kernel_rfl) (by kernel_rfl) (by kernel_rfl) (Md.below hb1) ?_ ?_
      · refine Rt.yn ?_
        refine Rt.yn ?_
        refine Rt.yn ?_
        refine Rt.yn ?_
        refine Rt.yn ?_
        refine Rt.yn ?_
        refine Rt.yn ?_
        refine Rt.yn ?_
        refine Rt.yn ?_
        refine Rt.yn ?_
        refine Rt.yn ?_
        refine Rt.yn ?_
        refine Rt.yn ?_
        refine Rt.yn ?_
        refine Rt.yn ?_
        refine Rt.yn ?_
        refine Rt.yn ?_
        refine Rt.yn ?_
        refine Rt.yn ?_
        refine Rt.yn ?_
        refine Rt.yn ?_
        refine Rt.yn ?_
        refine Rt.yn ?_
        refine Rt.yn ?_
        refine Rt.yn ?_
        refine Rt.yn ?_
        refine Rt.yn ?_
        refine Rt.yn ?_
        refine Rt.yn ?_
        refine Rt.yn ?_
        refine Rt.yn ?_
        refine Rt.yn ?_
        refine Rt.yn ?_
        refine Rt.yn ?_
        refine Rt.yn ?_
        refine Rt.yc ?_ ?_
        · exact Rt.y_build B72 (Rt.wn rfl) rfl (by kernel_rfl)
        exact Rt.ye
      refine Rt.oneL 36 (by kernel_rfl) rfl (Rt.wn rfl) ?_
      with_reducible refine Rt.wp_box (c := (rpL d m wk.heap.size (bitB m 20) rep).toArray) rfl ?_ ?_
      · kernel_rfl
      refine ⟨Lf.mid, ?_⟩
      refine Rt.moreL [none, none, none, none, none, none, none, none, none, none, none, none, none, none, none, none, none, none, none, none, none, none, none, none, none, none, none, none, none, none, none, none, none, none, none, none, none, some (.pointer (some ⟨(wk.alloc (.cells (tipL d.tp).toArray 44)).heap.size, 0, none⟩))] 0 (by kernel_rfl) (by kernel_rfl) (by kernel_rfl) (by kernel_rfl) Lf.mid ?_ ?_
      · refine Rt.yn ?_
        refine Rt.yn ?_
        refine Rt.yn ?_
        refine Rt.yn ?_
        refine Rt.yn ?_
        refine Rt.yn ?_
        refine Rt.yn ?_
        refine Rt.yn ?_
        refine Rt.yn ?_
        refine Rt.yn ?_
        refine Rt.yn ?_
        refine Rt.yn ?_
        refine Rt.yn ?_
        refine Rt.yn ?_
        refine Rt.yn ?_
        refine Rt.yn ?_
        refine Rt.yn ?_
        refine Rt.yn ?_
        refine Rt.yn ?_
        refine Rt.yn ?_
        refine Rt.yn ?_
        refine Rt.yn ?_
        refine Rt.yn ?_
        refine Rt.yn ?_
        refine Rt.yn ?_
        refine Rt.yn ?_
        refine Rt.yn ?_
        refine Rt.yn ?_
        refine Rt.yn ?_
        refine Rt.yn ?_
        refine Rt.yn ?_
        refine Rt.yn ?_
        refine Rt.yn ?_
        refine Rt.yn ?_
        refine Rt.yn ?_
        refine Rt.yn ?_
        refine Rt.yn ?_
        refine Rt.yc ?_ ?_
        · exact Rt.y_assign (Rt.wn rfl) rfl (by kernel_rfl)
        exact Rt.ye
      with_reducible refine Rt.done ?_ ?_ 0
      · kernel_rfl
      simp only [Rt.putL, Act.put, List.setIfInBounds_toArray, List.set_cons_succ, List.set_cons_zero]
      go_wp2_with fail
      go_meet
      case rel => exact ⟨_, _, rfl, Lf⟩

  obtain ⟨rb, tb, rfl, hL⟩ := hcut
  go_step
  by_cases hW : wantB m = true
  · exact tail_yes d m w0 wc n w.heap.size rb tb rep hrep _ _ _ _ _ _ _ _ _ _ _ _ _ _ _ _ _ _ _ _ _ _ _ _ _ _ _ _ _ _ _ _ _ _ _ _ _ _ _ _ _ _ _ _ _ _ _ _ _ _ _ _ _ _ _ _ _ _ _ _ _ _ _ _ _ _ _ _ _ _ _ _ _ _ _ _ _ _ _ _ _ _ _ _ _ _ _ _ _ _ _ _ _ _ _ _ _ _ _ _ _ _ _ _ _ _ _ _ _ _ _ _ _ _ _ _ _ _ _ _ _ _ _ _ _ _ _ _ _ _ _ _ _ _ _ _ _ _ _ _ _ _ _ _ _ _ _ _ _ _ _ _ _ _ _ _ _ _ _ _ _ _ _ _ _ _ _ _ _ _ _ _ _ _ _ _ _ _ _ _ _ _ _ _ _ _ _ _ _ _ _ _ _ _ _ _ _ _ _ _ _ _ _ _ _ _ _ _ _ _ _ _ _ _ _ _ _ _ _ _ _ _ _ _ _ _ _ _ _ _ _ _ _ _ _ _ _ _ _ _ _ _ _ _ _ _ _ _ _ _ _ _ _ _ _ _ _ _ _ _ _ _ _ _ _ _ _ _ _ _ _ _ _ _ _ _ _ _ _ _ _ _ _ _ _ _ _ _ _ _ hW (by rw [HRP.out, same_want d m sa sn sc h0 h1, hW]) hL
  · have hW : wantB m = false := by simpa using hW
    exact tail_no d m w0 wc n w.heap.size rb tb rep hrep _ _ _ _ _ _ _ _ _ _ _ _ _ _ _ _ _ _ _ _ _ _ _ _ _ _ _ _ _ _ _ _ _ _ _ _ _ _ _ _ _ _ _ _ _ _ _ _ _ _ _ _ _ _ _ _ _ _ _ _ _ _ _ _ _ _ _ _ _ _ _ _ _ _ _ _ _ _ _ _ _ _ _ _ _ _ _ _ _ _ _ _ _ _ _ _ _ _ _ _ _ _ _ _ _ _ _ _ _ _ _ _ _ _ _ _ _ _ _ _ _ _ _ _ _ _ _ _ _ _ _ _ _ _ _ _ _ _ _ _ _ _ _ _ _ _ _ _ _ _ _ _ _ _ _ _ _ _ _ _ _ _ _ _ _ _ _ _ _ _ _ _ _ _ _ _ _ _ _ _ _ _ _ _ _ _ _ _ _ _ _ _ _ _ _ _ _ _ _ _ _ _ _ _ _ _ _ _ _ _ _ _ _ _ _ _ _ _ _ _ _ _ _ _ _ _ _ _ _ _ _ _ _ _ _ _ _ _ _ _ _ _ _ _ _ _ _ _ _ _ _ _ _ _ _ _ _ _ _ _ _ _ _ _ _ _ _ _ _ _ _ _ _ _ _ _ _ _ _ _ _ _ _ _ _ _ _ _ _ _ hW (by rw [HRP.out, same_want d m sa sn sc h0 h1, hW]) hL
end Go.Proofs.Ybulkcsck
