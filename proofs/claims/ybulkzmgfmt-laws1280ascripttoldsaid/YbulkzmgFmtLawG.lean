import Derived.Test.YbulkzmgFmtLawF
import Derived.Deep.CutRange
namespace Go.Proofs.YbulkzmgFmt.Sc
open Go.RowKit Go.Extern.Stop Go.Stop Go.Extern
set_option linter.unusedVariables false
set_option linter.unusedSimpArgs false
theorem okN_iff (ka : Nat → Nat) : ∀ n, okN ka n = true ↔ ∀ j, j < n → ka j < 7
  | 0 => by simp [okN]
  | n + 1 => by
    rw [okN, Bool.and_eq_true, okN_iff ka n, decide_eq_true_eq]
    constructor
    · rintro ⟨h1, h2⟩ j hj
      by_cases e : j = n
      · subst e; exact h2
      · exact h1 j (by omega)
    · exact fun h => ⟨fun j hj => h j (by omega), h n (by omega)⟩
theorem sc_q : ∀ s : Fin 5, ((!((scN s.val).toList == []) && !((scN s.val).toList == [109, 121, 32, 115, 99, 104, 101, 109, 97])) = decide (s.val < 3)) := by decide +kernel
theorem nm_q : ∀ m : Fin 3, (!((nmN m.val).toList == [104, 1])) = decide (m.val < 2) := by decide +kernel
theorem sc_size : ∀ s : Fin 5, (scN s.val).size ≤ 10 := by decide +kernel
theorem nm_size : ∀ m : Fin 3, (nmN m.val).size ≤ 2 := by decide +kernel
theorem ok_good {s m al r : Nat} {ka : Nat → Nat} (hs : s < 5) (hm : m < 3) {q1 q2 q3 : Bool} (h1 : ((scN s).toList == []) = q1) (h2 : ((scN s).toList == [109, 121, 32, 115, 99, 104, 101, 109, 97]) = q2) (h3 : ((nmN m).toList == [104, 1]) = q3) :
    ((!q1 && !q2 && !q3 && decide ((al : Int) ≤ 100) && decide ((r : Int) < 7)) && okN ka al) = true ↔ Good s m al ka r := by
  have e1 := sc_q ⟨s, hs⟩
  have e2 := nm_q ⟨m, hm⟩
  subst h1 h2 h3
  simp only [Bool.and_eq_true, decide_eq_true_eq, okN_iff] at *
  rw [Bool.eq_iff_iff] at e1 e2
  simp only [Bool.and_eq_true, decide_eq_true_eq] at e1 e2
  unfold Good
  constructor
  · rintro ⟨⟨⟨⟨h1, h2⟩, h3⟩, h4⟩, h5⟩
    exact ⟨e1.1 h1, e2.1 h2, by omega, by omega, h5⟩
  · rintro ⟨h1, h2, h3, h4, h5⟩
    exact ⟨⟨⟨⟨e1.2 h1, e2.2 h2⟩, by omega⟩, by omega⟩, h5⟩
theorem cell26 {w : World} {b : Nat} (h : w.heap[b]? = some A26) {i : Nat} (hi : i < 5) : w.cell? ⟨b, i, none⟩ = some (.string (scN i)) := by
  have t : ∀ i : Fin 5, ∃ cs t, A26 = .cells cs t ∧ cs[i.val]? = some (.string (scN i.val)) := by
    intro i
    refine ⟨_, _, rfl, ?_⟩
    have : i.val = 0 ∨ i.val = 1 ∨ i.val = 2 ∨ i.val = 3 ∨ i.val = 4 := by omega
    rcases this with h | h | h | h | h <;> rw [h] <;> rfl
  obtain ⟨cs, t, e, hc⟩ := t ⟨i, hi⟩
  rw [e] at h
  rw [cell_of_row w b i cs t (0, 0) h]
  exact hc
theorem cell27 {w : World} {b : Nat} (h : w.heap[b]? = some A27) {i : Nat} (hi : i < 3) : w.cell? ⟨b, i, none⟩ = some (.string (nmN i)) := by
  have t : ∀ i : Fin 3, ∃ cs t, A27 = .cells cs t ∧ cs[i.val]? = some (.string (nmN i.val)) := by
    intro i
    refine ⟨_, _, rfl, ?_⟩
    have : i.val = 0 ∨ i.val = 1 ∨ i.val = 2 := by omega
    rcases this with h | h | h <;> rw [h] <;> rfl
  obtain ⟨cs, t, e, hc⟩ := t ⟨i, hi⟩
  rw [e] at h
  rw [cell_of_row w b i cs t (0, 0) h]
  exact hc

/-- A step's copy, its args, its types. -/
theorem mk3 (wr : World) (s m sl r : Value) (al : Nat) : ∃ w3, ((wr.alloc (.cells #[s, m, sl, r] 25)).alloc (.cells (madeCells #[.string ⟨#[]⟩] al) 9)).alloc (.cells (madeCells #[.pointer none] al) 34) = w3 ∧ KC nob wr w3 ∧ w3.heap.size = wr.heap.size + 3 ∧ w3.cell? ⟨wr.heap.size, 2, none⟩ = some sl ∧ Sh w3 (wr.heap.size + 1) 9 al ∧ Sh w3 (wr.heap.size + 1 + 1) 34 al := by
  have k2 : KC nob (wr.alloc (.cells #[s, m, sl, r] 25)) (((wr.alloc (.cells #[s, m, sl, r] 25)).alloc (.cells (madeCells #[.string ⟨#[]⟩] al) 9)).alloc (.cells (madeCells #[.pointer none] al) 34)) := (KC.alloc1 _ _).alloc _
  have k3 : KC nob ((wr.alloc (.cells #[s, m, sl, r] 25)).alloc (.cells (madeCells #[.string ⟨#[]⟩] al) 9)) (((wr.alloc (.cells #[s, m, sl, r] 25)).alloc (.cells (madeCells #[.string ⟨#[]⟩] al) 9)).alloc (.cells (madeCells #[.pointer none] al) 34)) := KC.alloc1 _ _
  refine ⟨_, rfl, ((KC.alloc1 wr _).alloc _).alloc _, by simp, ?_, ?_, ?_⟩
  · exact k2.cell _ _ _ id (cell_of_row _ _ 2 _ _ _ (heap_alloc_new _ _))
  · have := sh_made (wr.alloc (.cells #[s, m, sl, r] 25)) #[.string ⟨#[]⟩] al 9
    rw [show (wr.alloc (.cells #[s, m, sl, r] 25)).heap.size = wr.heap.size + 1 by simp] at this
    exact k3.shape _ _ _ this
  · have := sh_made ((wr.alloc (.cells #[s, m, sl, r] 25)).alloc (.cells (madeCells #[.string ⟨#[]⟩] al) 9)) #[.pointer none] al 34
    rw [show ((wr.alloc (.cells #[s, m, sl, r] 25)).alloc (.cells (madeCells #[.string ⟨#[]⟩] al) 9)).heap.size = wr.heap.size + 1 + 1 by simp] at this
    exact this
theorem info34' : (Ybaf.prog.info? 34).map (fun i => (i.zero, i.size, i.bytes)) = some (some (.pointer none), 1, 8) := by kernel_rfl
set_option maxRecDepth 1000000 in
set_option maxHeartbeats 6400000 in
theorem round1 (F : Interp) (w0 wr : World) (b o cap n p i : Nat) (S : StepD) (g : Gh) (b3 : Bool) (a12 : Option Addr) (cap12 : Nat) (v13 v14 v15 v16 : Value) (tb : Nat → Nat) (x0 x1 x2 x3 x4 x10 x11 x18 x19 x20 x21 x22 x23 x24 x25 x26 x27 x28 x29 x30 x31 x32 x33 x34 x35 x36 x37 x38 x39 x40 x41 x42 x43 x44 x45 x46 x47 x48 x49 x50 x51 x52 x53 x54 x55 x56 x57 x58 x59 x60 x61 x62 x63 x64 x65 x66 x67 x68 x69 x70 x71 x72 x73 x74 x75 x76 x77 x78 x79 x80 x81 x82 x83 x84 x85 x86 x87 x88 x89 x93 x94 x95 x96 x97 x98 x99 x100 x101 x102 x103 x104 x105 x106 x107 x108 x109 x110 x111 x112 x113 x114 x115 x116 x117 x118 x119 x120 x121 x122 x123 x124 x125 x126 x127 x128 x129 x130 x131 x132 x133 x134 x135 x136 x137 x138 x139 x140 x141 x142 x143 x144 x145 x146 x147 x148 x149 x150 x151 x152 x153 x154 x155 x156 x157 x158 x159 x160 x161 x162 x163 x164 x165 x166 x167 x168 x169 x170 x171 x172 x173 x174 x175 x176 x177 x178 x179 x180 x181 x182 x183 x184 x185 x186 x187 x188 x189 x190 x191 x192 x193 x194 x195 x196 x197 x198 x199 x200 x201 x202 x203 x204 x205 x206 x207 x208 x209 x210 x211 x212 x213 x214 x215 x216 x217 x218 x219 x220 x221 x222 x223 x224 x225 x226 x227 x228 x229 x230 x231 x232 x233 x234 x235 x236 x237 x238 x239 x240 x241 x242 x243 x244 x245 x246 x247 x248 x249 x250 x251 x252 x253 x254 x255 x256 x257 x258 x259 x260 x261 x262 x263 x264 x265 x266 x267 x268 x269 x270 x271 x272 x273 x274 x275 x276 x277 x278 x279 x280 x281 x282 x283 x284 x285 x286 x287 x288 x289 x290 x291 x292 x293 x294 x295 x296 x297 x298 x299 x300 x301 x302 x303 x304 x305 x306 x307 x308 x309 x310 x311 x312 x313 x314 x315 x316 x317 x318 x319 x320 x321 x322 x323 x324 x325 x326 x327 x328 x329 x330 x331 x332 x333 x334 x335 x336 x337 x338 x339 x340 x341 x342 x343 x344 x345 x346 x347 x348 x349 x350 x351 x352 x353 x354 x355 x356 x357 x358 x359 x360 x361 x362 x363 x364 x365 x366 x367 x368 x369 x370 x371 x372 x373 x374 x375 x376 x377 : Value) (Q : Exit → Act → World → Prop)
    (hF : F.answers w0.tape) (hP : PT w0) (L : LI w0 p i wr g b3 (.slice a12 g.fs.length cap12) v13 v14 v15 v16 tb) (hi : i < n) (hi2 : i ≤ 255) (sA : StepAt wr b (o + i * 4) S) (hal : S.al ≤ 256)
    (hB : ∀ (y19 y27 y28 y29 y93 y94 y95 y96 y97 y98 y99 y100 y101 y102 y103 y104 y105 y106 y107 y108 y109 y110 y111 y112 y113 y114 y115 y116 y117 y118 y119 y120 y121 y122 y123 y124 y125 y126 y127 y128 y129 y130 y131 y132 y133 y134 y135 y136 y137 y138 y139 y140 y141 y142 y143 y144 y145 y146 y147 y148 y149 y150 y151 y152 y153 y154 y155 y156 y157 y158 y159 y160 y161 y162 y163 y164 y165 y166 y167 y168 y169 y170 y171 y172 y173 y174 y175 y176 y177 y178 y179 y180 y181 y182 y183 y184 y185 y186 y187 y188 y189 y190 y191 y192 y193 y194 y195 y196 y197 y20 y21 y22 y23 y24 y26 y30 : Value) (t : TypeId) (a : Addr) (g' : Gh) (w' : World), LR w0 p w' g' b3 (.slice a12 g.fs.length cap12) v13 v14 v15 v16 g.fs g.ks g.fs g.fs g.fs tb → g'.fs = g.fs → g'.ks = g.ks → Code.wp Ybaf.prog (drops 12 (b5 Ybaf.f3.body)) Q ⟨#[x0, x1, x2, x3, x4, .pointer (some ⟨p, 0, none⟩), .pointer (some ⟨p + 1, 0, none⟩), .pointer (some ⟨p + 1 + 1, 0, none⟩), .pointer (some ⟨p + 7, 0, none⟩), .pointer (some ⟨p + 7 + 1, 0, none⟩), x10, x11, .slice a12 g.fs.length cap12, v13, v14, v15, v16, .int .i64 (g.fs.length : Nat), x18, y19, y20, y21, y22, y23, y24, .bool false, y26, y27, y28, y29, y30, .pointer none, .iface t (.pointer (some a)), x33, x34, x35, x36, x37, x38, x39, x40, x41, x42, x43, x44, x45, x46, x47, x48, x49, x50, x51, x52, x53, x54, x55, x56, x57, x58, x59, x60, x61, x62, x63, x64, x65, x66, x67, x68, x69, x70, x71, x72, x73, x74, x75, x76, x77, x78, x79, x80, x81, x82, x83, x84, x85, x86, x87, x88, x89, .slice (some ⟨b, o, none⟩) n cap, .int .i64 (n : Nat), .int .i64 (i : Nat), y93, y94, y95, y96, y97, y98, y99, y100, y101, y102, y103, y104, y105, y106, y107, y108, y109, y110, y111, y112, y113, y114, y115, y116, y117, y118, y119, y120, y121, y122, y123, y124, y125, y126, y127, y128, y129, y130, y131, y132, y133, y134, y135, y136, y137, y138, y139, y140, y141, y142, y143, y144, y145, y146, y147, y148, y149, y150, y151, y152, y153, y154, y155, y156, y157, y158, y159, y160, y161, y162, y163, y164, y165, y166, y167, y168, y169, y170, y171, y172, y173, y174, y175, y176, y177, y178, y179, y180, y181, y182, y183, y184, y185, y186, y187, y188, y189, y190, y191, y192, y193, y194, y195, y196, y197, x198, x199, x200, x201, x202, x203, x204, x205, x206, x207, x208, x209, x210, x211, x212, x213, x214, x215, x216, x217, x218, x219, x220, x221, x222, x223, x224, x225, x226, x227, x228, x229, x230, x231, x232, x233, x234, x235, x236, x237, x238, x239, x240, x241, x242, x243, x244, x245, x246, x247, x248, x249, x250, x251, x252, x253, x254, x255, x256, x257, x258, x259, x260, x261, x262, x263, x264, x265, x266, x267, x268, x269, x270, x271, x272, x273, x274, x275, x276, x277, x278, x279, x280, x281, x282, x283, x284, x285, x286, x287, x288, x289, x290, x291, x292, x293, x294, x295, x296, x297, x298, x299, x300, x301, x302, x303, x304, x305, x306, x307, x308, x309, x310, x311, x312, x313, x314, x315, x316, x317, x318, x319, x320, x321, x322, x323, x324, x325, x326, x327, x328, x329, x330, x331, x332, x333, x334, x335, x336, x337, x338, x339, x340, x341, x342, x343, x344, x345, x346, x347, x348, x349, x350, x351, x352, x353, x354, x355, x356, x357, x358, x359, x360, x361, x362, x363, x364, x365, x366, x367, x368, x369, x370, x371, x372, x373, x374, x375, x376, x377], []⟩ w')
    (hG : ∀ (y19 y27 y28 y29 y93 y94 y95 y96 y97 y98 y99 y100 y101 y102 y103 y104 y105 y106 y107 y108 y109 y110 y111 y112 y113 y114 y115 y116 y117 y118 y119 y120 y121 y122 y123 y124 y125 y126 y127 y128 y129 y130 y131 y132 y133 y134 y135 y136 y137 y138 y139 y140 y141 y142 y143 y144 y145 y146 y147 y148 y149 y150 y151 y152 y153 y154 y155 y156 y157 y158 y159 y160 y161 y162 y163 y164 y165 y166 y167 y168 y169 y170 y171 y172 y173 y174 y175 y176 y177 y178 y179 y180 y181 y182 y183 y184 y185 y186 y187 y188 y189 y190 y191 y192 y193 y194 y195 y196 y197 : Value) (ka : Nat → Nat) (φ : Fn) (g' : Gh) (b3' : Bool) (w' : World), LR w0 p w' g' b3' (.slice a12 g.fs.length cap12) v13 v14 v15 v16 g.fs g.ks g.fs g.fs g.fs tb → g'.fs = g.fs ++ [φ] → (φ.s = S.s % 5 ∧ φ.m = S.m % 3 ∧ φ.n = S.al ∧ φ.ka = ka ∧ φ.r = S.r % 8) →
      (((∃ j, j < g.ks.length ∧ g.key j = (S.m % 3, S.al)) ∧ g'.ks = g.ks) ∨ ((∀ j, j < g.ks.length → g.key j ≠ (S.m % 3, S.al)) ∧ g'.ks = g.ks ++ [(S.m % 3, S.al)])) → (S.s % 5 = 2 → b3' = true) → Good (S.s % 5) (S.m % 3) S.al ka (S.r % 8) →
      (Sh w' (wr.heap.size + 1 + 1) 34 S.al ∧ g'.kd (wr.heap.size + 1 + 1) = 0 ∧ ∀ q, q < S.al → w'.cell? ⟨wr.heap.size + 1 + 1, q, none⟩ = some (.pointer (some ⟨p + 9 + ka q, 0, none⟩))) → Code.wp Ybaf.prog (drops 12 (b5 Ybaf.f3.body)) Q ⟨#[x0, x1, x2, x3, x4, .pointer (some ⟨p, 0, none⟩), .pointer (some ⟨p + 1, 0, none⟩), .pointer (some ⟨p + 1 + 1, 0, none⟩), .pointer (some ⟨p + 7, 0, none⟩), .pointer (some ⟨p + 7 + 1, 0, none⟩), x10, x11, .slice a12 g.fs.length cap12, v13, v14, v15, v16, .int .i64 (g.fs.length : Nat), x18, y19, .string (scN (S.s % 5)), .string (nmN (S.m % 3)), .int .i64 ((S.r % 8 : Nat) : Int), .slice (some ⟨wr.heap.size + 1, 0, none⟩) S.al S.al, .slice (some ⟨wr.heap.size + 1 + 1, 0, none⟩) S.al S.al, .bool true, .string (jn ka S.al), y27, y28, y29, (.string (keyS' (scN (S.s % 5)) (nmN (S.m % 3)) (jn ka S.al))), .pointer (some φ.ad), .nilIface, x33, x34, x35, x36, x37, x38, x39, x40, x41, x42, x43, x44, x45, x46, x47, x48, x49, x50, x51, x52, x53, x54, x55, x56, x57, x58, x59, x60, x61, x62, x63, x64, x65, x66, x67, x68, x69, x70, x71, x72, x73, x74, x75, x76, x77, x78, x79, x80, x81, x82, x83, x84, x85, x86, x87, x88, x89, .slice (some ⟨b, o, none⟩) n cap, .int .i64 (n : Nat), .int .i64 (i : Nat), y93, y94, y95, y96, y97, y98, y99, y100, y101, y102, y103, y104, y105, y106, y107, y108, y109, y110, y111, y112, y113, y114, y115, y116, y117, y118, y119, y120, y121, y122, y123, y124, y125, y126, y127, y128, y129, y130, y131, y132, y133, y134, y135, y136, y137, y138, y139, y140, y141, y142, y143, y144, y145, y146, y147, y148, y149, y150, y151, y152, y153, y154, y155, y156, y157, y158, y159, y160, y161, y162, y163, y164, y165, y166, y167, y168, y169, y170, y171, y172, y173, y174, y175, y176, y177, y178, y179, y180, y181, y182, y183, y184, y185, y186, y187, y188, y189, y190, y191, y192, y193, y194, y195, y196, y197, x198, x199, x200, x201, x202, x203, x204, x205, x206, x207, x208, x209, x210, x211, x212, x213, x214, x215, x216, x217, x218, x219, x220, x221, x222, x223, x224, x225, x226, x227, x228, x229, x230, x231, x232, x233, x234, x235, x236, x237, x238, x239, x240, x241, x242, x243, x244, x245, x246, x247, x248, x249, x250, x251, x252, x253, x254, x255, x256, x257, x258, x259, x260, x261, x262, x263, x264, x265, x266, x267, x268, x269, x270, x271, x272, x273, x274, x275, x276, x277, x278, x279, x280, x281, x282, x283, x284, x285, x286, x287, x288, x289, x290, x291, x292, x293, x294, x295, x296, x297, x298, x299, x300, x301, x302, x303, x304, x305, x306, x307, x308, x309, x310, x311, x312, x313, x314, x315, x316, x317, x318, x319, x320, x321, x322, x323, x324, x325, x326, x327, x328, x329, x330, x331, x332, x333, x334, x335, x336, x337, x338, x339, x340, x341, x342, x343, x344, x345, x346, x347, x348, x349, x350, x351, x352, x353, x354, x355, x356, x357, x358, x359, x360, x361, x362, x363, x364, x365, x366, x367, x368, x369, x370, x371, x372, x373, x374, x375, x376, x377], []⟩ w') :
    Code.wp Ybaf.prog (b5 Ybaf.f3.body) Q ⟨#[x0, x1, x2, x3, x4, .pointer (some ⟨p, 0, none⟩), .pointer (some ⟨p + 1, 0, none⟩), .pointer (some ⟨p + 1 + 1, 0, none⟩), .pointer (some ⟨p + 7, 0, none⟩), .pointer (some ⟨p + 7 + 1, 0, none⟩), x10, x11, .slice a12 g.fs.length cap12, v13, v14, v15, v16, .int .i64 (g.fs.length : Nat), x18, x19, x20, x21, x22, x23, x24, x25, x26, x27, x28, x29, x30, x31, x32, x33, x34, x35, x36, x37, x38, x39, x40, x41, x42, x43, x44, x45, x46, x47, x48, x49, x50, x51, x52, x53, x54, x55, x56, x57, x58, x59, x60, x61, x62, x63, x64, x65, x66, x67, x68, x69, x70, x71, x72, x73, x74, x75, x76, x77, x78, x79, x80, x81, x82, x83, x84, x85, x86, x87, x88, x89, .slice (some ⟨b, o, none⟩) n cap, .int .i64 (n : Nat), .int .i64 (i : Nat), x93, x94, x95, x96, x97, x98, x99, x100, x101, x102, x103, x104, x105, x106, x107, x108, x109, x110, x111, x112, x113, x114, x115, x116, x117, x118, x119, x120, x121, x122, x123, x124, x125, x126, x127, x128, x129, x130, x131, x132, x133, x134, x135, x136, x137, x138, x139, x140, x141, x142, x143, x144, x145, x146, x147, x148, x149, x150, x151, x152, x153, x154, x155, x156, x157, x158, x159, x160, x161, x162, x163, x164, x165, x166, x167, x168, x169, x170, x171, x172, x173, x174, x175, x176, x177, x178, x179, x180, x181, x182, x183, x184, x185, x186, x187, x188, x189, x190, x191, x192, x193, x194, x195, x196, x197, x198, x199, x200, x201, x202, x203, x204, x205, x206, x207, x208, x209, x210, x211, x212, x213, x214, x215, x216, x217, x218, x219, x220, x221, x222, x223, x224, x225, x226, x227, x228, x229, x230, x231, x232, x233, x234, x235, x236, x237, x238, x239, x240, x241, x242, x243, x244, x245, x246, x247, x248, x249, x250, x251, x252, x253, x254, x255, x256, x257, x258, x259, x260, x261, x262, x263, x264, x265, x266, x267, x268, x269, x270, x271, x272, x273, x274, x275, x276, x277, x278, x279, x280, x281, x282, x283, x284, x285, x286, x287, x288, x289, x290, x291, x292, x293, x294, x295, x296, x297, x298, x299, x300, x301, x302, x303, x304, x305, x306, x307, x308, x309, x310, x311, x312, x313, x314, x315, x316, x317, x318, x319, x320, x321, x322, x323, x324, x325, x326, x327, x328, x329, x330, x331, x332, x333, x334, x335, x336, x337, x338, x339, x340, x341, x342, x343, x344, x345, x346, x347, x348, x349, x350, x351, x352, x353, x354, x355, x356, x357, x358, x359, x360, x361, x362, x363, x364, x365, x366, x367, x368, x369, x370, x371, x372, x373, x374, x375, x376, x377], []⟩ wr := by
  conv => arg 2; whnf
  replace hB := toHid hB
  replace hG := toHid hG
  obtain ⟨c0, c1, c2, c3, ⟨bs1, bs2, bs3, bs4⟩, hargs⟩ := sA
  have t26 := cell26 L.t26 (i := S.s % 5) (by omega)
  have t27 := cell27 L.t27 (i := S.m % 3) (by omega)
  have t28 : ∀ k, k < 8 → wr.cell? ⟨p + 1 + 1, k, none⟩ = some (.string (tyN k)) := fun k hk => cell28 (b := p + 2) L.t28 hk
  have hda : ∀ k, k < 7 → wr.cell? ⟨p + 7 + 1, k, none⟩ = some (.pointer (some ⟨p + 9 + k, 0, none⟩)) := L.da
  have e5 : (S.s : Int) % 5 = ((S.s % 5 : Nat) : Int) := by omega
  have e3 : (S.m : Int) % 3 = ((S.m % 3 : Nat) : Int) := by omega
  have e8 : (S.r : Int) % 8 = ((S.r % 8 : Nat) : Int) := by omega
  have hs5 : S.s % 5 < 5 := by omega
  have hm3 : S.m % 3 < 3 := by omega
  have hr8 : S.r % 8 < 8 := by omega
  have hmk53 := run_make_row' (P := Ybaf.prog) 53 9 (.string ⟨#[]⟩) 16 Ybaf.underlying53 info9' rfl .i64 .i64 S.al (by omega) (by omega)
  have hmk39 := run_make_row' (P := Ybaf.prog) 39 34 (.pointer none) 8 Ybaf.underlying39 info34' rfl .i64 .i64 S.al (by omega) (by omega)
  have lb := block_lt_of_cell c0
  have lp0 := block_lt_of_cell t26
  have lp1 := block_lt_of_cell t27
  have lp2 := block_lt_of_cell (t28 0 (by omega))
  have lp8 := block_lt_of_cell (hda 0 (by omega))
  have lp7 : p + 7 < wr.heap.size := by rw [← L.cbv]; exact L.cat.body.scb.lt
  have hsz1 := sc_size ⟨S.s % 5, hs5⟩
  have hsz2 := nm_size ⟨S.m % 3, hm3⟩
  simp only at hsz1 hsz2 lb lp0 lp1 lp2 lp8
  obtain ⟨q1, hq1⟩ : ∃ q, ((scN (S.s % 5)).toList == []) = q := ⟨_, rfl⟩
  obtain ⟨q2, hq2⟩ : ∃ q, ((scN (S.s % 5)).toList == [109, 121, 32, 115, 99, 104, 101, 109, 97]) = q := ⟨_, rfl⟩
  obtain ⟨q3, hq3⟩ : ∃ q, ((nmN (S.m % 3)).toList == [104, 1]) = q := ⟨_, rfl⟩
  have hgood := toHid (fun ka => ok_good (al := S.al) (r := S.r % 8) (ka := ka) hs5 hm3 hq1 hq2 hq3)
  have hdup := toHid (fun (w' : World) (hc : CatB w' g) (ka : Nat → Nat) (h1 : S.s % 5 < 3) (h2 : S.m % 3 < 2) => dup_key hc (n := S.al) (ka := ka) h1 h2)
  have hadd := toHid (fun (w' : World) (hc : Cat w' g b3) (hF' : F.answers w'.tape) (hP' : PT w') (ka : Nat → Nat) (gb : Nat) => add5 F hc hF' hP' (S.s % 5) (S.m % 3) S.al (S.r % 8) ka gb hs5 hm3 hal hr8)
  replace t28 := toHid t28
  replace hda := toHid hda
  replace hq1 := toHid hq1
  replace hq2 := toHid hq2
  replace hq3 := toHid hq3
  replace L := toHid L
  replace hargs := toHid hargs
  generalize hsI : S.s % 5 = sI at *
  generalize hmI : S.m % 3 = mI at *
  generalize hrI : S.r % 8 = rI at *
  replace hsI := toHid hsI
  replace hmI := toHid hmI
  replace hrI := toHid hrI
  generalize hsc : scN sI = sc at *
  generalize hnm : nmN mI = nm at *
  replace hsc := toHid hsc
  replace hnm := toHid hnm
  go_upto_region 35 with fail
  rename_i hK5
  replace hK5 := toHid hK5
  go_wp2
  refine hK5.out _ _ ?_
  obtain ⟨w3, hw3, k3, sz3, cs3, sg3, st3⟩ := mk3 wr (.int .u8 (S.s : Nat)) (.int .u8 (S.m : Nat)) (.slice S.aa S.al S.ac) (.int .u8 (S.r : Nat)) S.al
  rw [hw3]
  clear hw3 hmk53 hmk39 c0 c1 c2 c3 e5 e3 e8 t26 t27
  refine wp_seq_k ?_
  intro K6 hK6
  replace hK6 := toHid hK6
  apply pA (hq1 := hq1.out) (hq2 := hq2.out) (hq3 := hq3.out)
  intros
  refine hK6.out _ _ ?_
  clear hK5 hK6
  obtain ⟨ok0, hok0⟩ : ∃ ok0, (!q1 && !q2 && !q3 && decide ((S.al : Int) ≤ 100) && decide ((rI : Int) < 7)) = ok0 := ⟨_, rfl⟩
  rw [hok0]
  rw [hok0] at hgood
  clear hok0
  refine wp_seq_k ?_
  intro K7 hK7
  replace hK7 := toHid hK7
  go_wp2
  refine hK7.out _ _ ?_
  clear hK7
  refine wp_seq_k ?_
  intro K8 hK8
  replace hK8 := toHid hK8
  have mv3 : ∀ {x y v}, wr.cell? ⟨x, y, none⟩ = some v → w3.cell? ⟨x, y, none⟩ = some v := fun hc => k3.cell _ _ _ id hc
  apply pL (p := p) (d := S.d) (ka := fun j => S.d j % 8) (hgt := by omega) (hal := hal) (c2 := cs3) (hka := fun _ => rfl) (t28 := fun k hk => mv3 (t28.out k hk)) (da := fun k hk => mv3 (hda.out k hk)) (hg := ⟨by omega, by omega, by omega, by omega⟩)
  case hA =>
    intro h0
    obtain ⟨x, y, e, hc⟩ := hargs.out h0
    refine ⟨x, y, e, fun j hj => ?_⟩
    have hl := block_lt_of_cell (hc j hj).1
    simp only at hl
    exact ⟨mv3 (hc j hj).1, (hc j hj).2, by omega, by omega⟩
  case I0 => exact ⟨KC.refl _ _, rfl, sg3, st3, fun j hj => absurd hj (by omega), fun j hj => absurd hj (by omega)⟩
  case hK =>
  intros
  rename_i w4 I4
  refine hK8.out _ _ ?_
  clear hK8 mv3
  obtain ⟨ka, hka⟩ : ∃ ka : Nat → Nat, (fun j => S.d j % 8) = ka := ⟨_, rfl⟩
  rw [hka] at I4 ⊢
  have ka8 : ∀ j, ka j < 8 := fun j => by rw [← hka]; exact Nat.mod_lt _ (by omega)
  have k4 : KC nob wr w4 := k3.transNew I4.kc (fun x y q => .inr (by omega))
  have sz4 : w4.heap.size = wr.heap.size + 3 := I4.size.trans sz3
  have R4 := L.out.lr.nob k4
  have cR : w4.cell? ⟨p + 1 + 1, rI, none⟩ = some (.string (tyN rI)) := k4.cell _ _ _ id (t28.out rI hr8)
  have hcb : g.cb = p + 7 := L.out.cbv
  have hflen : g.fs.length ≤ 255 := by have := L.out.le; omega
  have gk1 : g.kd (wr.heap.size + 1) = 0 := L.out.cat.body.beyond _ (by omega)
  have gk2 : g.kd (wr.heap.size + 1 + 1) = 0 := L.out.cat.body.beyond _ (by omega)
  have H5 := toHid (hadd.out w4 R4.core.cat ((k4.ans (by rw [L.out.below.tape]; exact hF))) ((hP.below L.out.below).kc k4) ka (wr.heap.size + 1) (fun j _ => ka8 j) I4.ag gk1 hflen)
  rw [hcb] at H5
  replace hgood := toHid (hgood.out ka)
  replace hdup := toHid (hdup.out w4 R4.core.cat.body ka)
  have hst : Strs w4 a12 (g.fs.map Fn.key) := by
    obtain ⟨a, cp, e, h⟩ := ownsRow_form R4.keys
    cases e
    rcases h with h0 | ⟨bb, rfl, hc⟩
    · exact .inl (by rw [List.length_eq_zero_iff.1 h0]; rfl)
    · refine .inr ⟨bb, 0, rfl, fun j s hs => ?_⟩
      rw [Nat.zero_add]
      refine hc j _ ?_
      rw [List.getElem?_map] at hs
      obtain ⟨ψ, h1, h2⟩ := Option.map_eq_some_iff.1 hs
      simp [X12, h1, h2]
  have hjs : (jn ka S.al).size ≤ 2400 := Nat.le_trans (jn_size ka S.al) (by omega)
  replace R4 := toHid R4
  replace hst := toHid hst
  replace hF := toHid hF
  replace hP := toHid hP
  replace I4 := toHid I4
  clear hadd hq1 hq2 hq3 k3 sg3 st3 cs3 sz3
  generalize hjl : jn ka S.al = jl at *
  replace hjl := toHid hjl
  obtain ⟨ok1, hok1⟩ : ∃ ok1, (ok0 && okN ka S.al) = ok1 := ⟨_, rfl⟩
  rw [hok1]
  rw [hok1] at hgood
  clear hok1
  refine wp_seq_k ?_
  intro K9 hK9
  replace hK9 := toHid hK9
  go_wp2
  refine hK9.out _ _ ?_
  clear hK9
  refine wp_seq_k ?_
  intro K10 hK10
  replace hK10 := toHid hK10
  apply pH (hS := hst.out) (hl := by omega) (hll := List.length_map ..)
  intros
  rename_i ok2 hok2
  refine hK10.out _ _ ?_
  clear hK10
  replace hok2 := toHid hok2
  have lt28 := block_lt_of_cell cR
  have hdup' : Hid (sI < 3 → mI < 2 → (sc ++ ⟨#[0]⟩ ++ nm ++ ⟨#[0]⟩ ++ jl ∈ List.map Fn.key g.fs ↔ Dup g sI mI S.al ka)) := hdup.out
  clear hdup
  generalize hty : tyN rI = tyr at *
  replace hty := toHid hty
  refine wp_seq_k ?_
  intro K11 hK11
  replace hK11 := toHid hK11
  go_wp2_with (go_at_call 5; refine H5.out.mono ?_; rintro e w5 hpost; rcases hpost with ⟨hbad, t, a, g', rfl, rest⟩ | ⟨hgd, hnd, φ, g', b3', rfl, rest⟩ <;> replace rest := toHid rest <;> first | replace hbad := toHid hbad | (replace hgd := toHid hgd; replace hnd := toHid hnd))
  · refine hK11.out _ _ ?_
    obtain ⟨hc', hx, e1, e2, k5⟩ := rest.out
    have ok2f : ok2 = false := by
      cases hh : ok2 with
      | false => rfl
      | true =>
        obtain ⟨h1, h2⟩ := hok2.out.1 hh
        have gd := hgood.out.1 h1
        rcases hbad.out with h3 | h3
        · exact absurd gd h3
        · exact absurd ((hdup'.out gd.1 gd.2.1).2 h3) h2
    rw [ok2f]
    exact hB.out _ _ _ _ _ _ _ _ _ _ _ _ _ _ _ _ _ _ _ _ _ _ _ _ _ _ _ _ _ _ _ _ _ _ _ _ _ _ _ _ _ _ _ _ _ _ _ _ _ _ _ _ _ _ _ _ _ _ _ _ _ _ _ _ _ _ _ _ _ _ _ _ _ _ _ _ _ _ _ _ _ _ _ _ _ _ _ _ _ _ _ _ _ _ _ _ _ _ _ _ _ _ _ _ _ _ _ _ _ _ _ _ _ _ _ _ t a g' w5 (R4.out.add k5 hc' hx) e1 e2
  · refine hK11.out _ _ ?_
    obtain ⟨hc', hx, e1, e2, e3, e4, k5⟩ := rest.out
    have ok2t : ok2 = true := by
      refine hok2.out.2 ⟨hgood.out.2 hgd.out, fun q => hnd.out ((hdup'.out hgd.out.1 hgd.out.2.1).1 q)⟩
    rw [ok2t]
    rw [← hjl.out]
    have hgd' := hgd.out
    refine hG.out _ _ _ _ _ _ _ _ _ _ _ _ _ _ _ _ _ _ _ _ _ _ _ _ _ _ _ _ _ _ _ _ _ _ _ _ _ _ _ _ _ _ _ _ _ _ _ _ _ _ _ _ _ _ _ _ _ _ _ _ _ _ _ _ _ _ _ _ _ _ _ _ _ _ _ _ _ _ _ _ _ _ _ _ _ _ _ _ _ _ _ _ _ _ _ _ _ _ _ _ _ _ _ _ _ _ _ _ _ ka φ g' b3' w5 (R4.out.add k5 hc' hx) e1 e2 e3 e4 hgd' ⟨k5.shape _ _ _ I4.out.st, ?_, fun q hq => ?_⟩
    · rw [hx.kd _ (by omega)]; exact gk2
    · exact k5.cell _ _ _ (fun z => z gk2) (I4.out.at_ q hq (hgd'.2.2.2.2 q hq))
end Go.Proofs.YbulkzmgFmt.Sc
