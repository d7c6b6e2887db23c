import Derived.Test.YbulkzmgFmtLawD
import Derived.Deep.CutRange
namespace Go.Proofs.YbulkzmgFmt.Sc
open Go.RowKit Go.Extern.Stop Go.Stop Go.Extern
set_option linter.unusedVariables false
set_option linter.unusedSimpArgs false
theorem ownsRow_form {w : World} {B : Nat} {e : TypeId} {sz : Nat} {v : Value} {n : Nat} {xs : List Value} (h : w.ownsRow B e sz v n xs) : ∃ a cap, v = .slice a n cap ∧ (n = 0 ∨ ∃ b, a = some ⟨b, 0, none⟩ ∧ ∀ j u, xs[j]? = some u → w.cell? ⟨b, j, none⟩ = some u) := by
  rcases h.2 with ⟨rfl, rfl⟩ | ⟨g, cap, cur, rfl, hb, hg, h1, h2, h3, h4⟩
  · exact ⟨none, 0, rfl, .inl rfl⟩
  · refine ⟨_, cap, rfl, .inr ⟨g, rfl, fun j u hu => ?_⟩⟩
    rw [cell_of_row w g j cur e (0, 0) hg]
    rw [← h4, List.getElem?_take] at hu
    split at hu
    · simpa using hu
    · cases hu
set_option maxRecDepth 1000000 in
set_option maxHeartbeats 6400000 in
theorem pH (a12 : Option Addr) (cap12 : Nat) (L : List ByteArray) (ll : Nat) (key : ByteArray) (ok1 : Bool) (w : World) (x0 x1 x2 x3 x4 x5 x6 x7 x8 x9 x10 x11 x13 x14 x15 x16 x17 x18 x19 x20 x21 x22 x23 x24 x26 x27 x28 x29 x31 x32 x33 x34 x35 x36 x37 x38 x39 x40 x41 x42 x43 x44 x45 x46 x47 x48 x49 x50 x51 x52 x53 x54 x55 x56 x57 x58 x59 x60 x61 x62 x63 x64 x65 x66 x67 x68 x69 x70 x71 x72 x73 x74 x75 x76 x77 x78 x79 x80 x81 x82 x83 x84 x85 x86 x87 x88 x89 x90 x91 x92 x93 x94 x95 x96 x97 x98 x99 x100 x101 x102 x103 x104 x105 x106 x107 x108 x109 x110 x111 x112 x113 x114 x115 x116 x117 x118 x119 x120 x121 x122 x123 x124 x125 x126 x127 x128 x129 x130 x131 x132 x133 x134 x135 x136 x137 x138 x139 x140 x141 x142 x143 x144 x145 x146 x147 x148 x149 x150 x151 x152 x153 x154 x155 x156 x157 x158 x159 x160 x161 x162 x163 x164 x165 x166 x167 x168 x169 x170 x171 x172 x173 x174 x175 x176 x177 x178 x179 x180 x181 x182 x183 x184 x185 x186 x187 x188 x189 x190 x191 x192 x193 x194 x195 x196 x197 x198 x199 x200 x201 x202 x203 x204 x205 x206 x207 x208 x209 x210 x211 x212 x213 x214 x215 x216 x217 x218 x219 x220 x221 x222 x223 x224 x225 x226 x227 x228 x229 x230 x231 x232 x233 x234 x235 x236 x237 x238 x239 x240 x241 x242 x243 x244 x245 x246 x247 x248 x249 x250 x251 x252 x253 x254 x255 x256 x257 x258 x259 x260 x261 x262 x263 x264 x265 x266 x267 x268 x269 x270 x271 x272 x273 x274 x275 x276 x277 x278 x279 x280 x281 x282 x283 x284 x285 x286 x287 x288 x289 x290 x291 x292 x293 x294 x295 x296 x297 x298 x299 x300 x301 x302 x303 x304 x305 x306 x307 x308 x309 x310 x311 x312 x313 x314 x315 x316 x317 x318 x319 x320 x321 x322 x323 x324 x325 x326 x327 x328 x329 x330 x331 x332 x333 x334 x335 x336 x337 x338 x339 x340 x341 x342 x343 x344 x345 x346 x347 x348 x349 x350 x351 x352 x353 x354 x355 x356 x357 x358 x359 x360 x361 x362 x363 x364 x365 x366 x367 x368 x369 x370 x371 x372 x373 x374 x375 x376 x377 : Value) (K : Act → World → Prop) (Q : Exit → Act → World → Prop)
    (hS : Strs w a12 L) (hl : ll ≤ 256) (hll : L.length = ll)
    (hK : ∀ (y181 y182 y183 y184 y185 y186 : Value) (ok2 : Bool), (ok2 = true ↔ ok1 = true ∧ key ∉ L) → K ⟨#[x0, x1, x2, x3, x4, x5, x6, x7, x8, x9, x10, x11, .slice a12 ll cap12, x13, x14, x15, x16, x17, x18, x19, x20, x21, x22, x23, x24, .bool ok2, x26, x27, x28, x29, .string key, x31, x32, x33, x34, x35, x36, x37, x38, x39, x40, x41, x42, x43, x44, x45, x46, x47, x48, x49, x50, x51, x52, x53, x54, x55, x56, x57, x58, x59, x60, x61, x62, x63, x64, x65, x66, x67, x68, x69, x70, x71, x72, x73, x74, x75, x76, x77, x78, x79, x80, x81, x82, x83, x84, x85, x86, x87, x88, x89, x90, x91, x92, x93, x94, x95, x96, x97, x98, x99, x100, x101, x102, x103, x104, x105, x106, x107, x108, x109, x110, x111, x112, x113, x114, x115, x116, x117, x118, x119, x120, x121, x122, x123, x124, x125, x126, x127, x128, x129, x130, x131, x132, x133, x134, x135, x136, x137, x138, x139, x140, x141, x142, x143, x144, x145, x146, x147, x148, x149, x150, x151, x152, x153, x154, x155, x156, x157, x158, x159, x160, x161, x162, x163, x164, x165, x166, x167, x168, x169, x170, x171, x172, x173, x174, x175, x176, x177, x178, x179, x180, y181, y182, y183, y184, y185, y186, x187, x188, x189, x190, x191, x192, x193, x194, x195, x196, x197, x198, x199, x200, x201, x202, x203, x204, x205, x206, x207, x208, x209, x210, x211, x212, x213, x214, x215, x216, x217, x218, x219, x220, x221, x222, x223, x224, x225, x226, x227, x228, x229, x230, x231, x232, x233, x234, x235, x236, x237, x238, x239, x240, x241, x242, x243, x244, x245, x246, x247, x248, x249, x250, x251, x252, x253, x254, x255, x256, x257, x258, x259, x260, x261, x262, x263, x264, x265, x266, x267, x268, x269, x270, x271, x272, x273, x274, x275, x276, x277, x278, x279, x280, x281, x282, x283, x284, x285, x286, x287, x288, x289, x290, x291, x292, x293, x294, x295, x296, x297, x298, x299, x300, x301, x302, x303, x304, x305, x306, x307, x308, x309, x310, x311, x312, x313, x314, x315, x316, x317, x318, x319, x320, x321, x322, x323, x324, x325, x326, x327, x328, x329, x330, x331, x332, x333, x334, x335, x336, x337, x338, x339, x340, x341, x342, x343, x344, x345, x346, x347, x348, x349, x350, x351, x352, x353, x354, x355, x356, x357, x358, x359, x360, x361, x362, x363, x364, x365, x366, x367, x368, x369, x370, x371, x372, x373, x374, x375, x376, x377], []⟩ w) :
    Code.wp Ybaf.prog (st Ybaf.f3.body 10) (Exit.then K Q) ⟨#[x0, x1, x2, x3, x4, x5, x6, x7, x8, x9, x10, x11, .slice a12 ll cap12, x13, x14, x15, x16, x17, x18, x19, x20, x21, x22, x23, x24, .bool ok1, x26, x27, x28, x29, .string key, x31, x32, x33, x34, x35, x36, x37, x38, x39, x40, x41, x42, x43, x44, x45, x46, x47, x48, x49, x50, x51, x52, x53, x54, x55, x56, x57, x58, x59, x60, x61, x62, x63, x64, x65, x66, x67, x68, x69, x70, x71, x72, x73, x74, x75, x76, x77, x78, x79, x80, x81, x82, x83, x84, x85, x86, x87, x88, x89, x90, x91, x92, x93, x94, x95, x96, x97, x98, x99, x100, x101, x102, x103, x104, x105, x106, x107, x108, x109, x110, x111, x112, x113, x114, x115, x116, x117, x118, x119, x120, x121, x122, x123, x124, x125, x126, x127, x128, x129, x130, x131, x132, x133, x134, x135, x136, x137, x138, x139, x140, x141, x142, x143, x144, x145, x146, x147, x148, x149, x150, x151, x152, x153, x154, x155, x156, x157, x158, x159, x160, x161, x162, x163, x164, x165, x166, x167, x168, x169, x170, x171, x172, x173, x174, x175, x176, x177, x178, x179, x180, x181, x182, x183, x184, x185, x186, x187, x188, x189, x190, x191, x192, x193, x194, x195, x196, x197, x198, x199, x200, x201, x202, x203, x204, x205, x206, x207, x208, x209, x210, x211, x212, x213, x214, x215, x216, x217, x218, x219, x220, x221, x222, x223, x224, x225, x226, x227, x228, x229, x230, x231, x232, x233, x234, x235, x236, x237, x238, x239, x240, x241, x242, x243, x244, x245, x246, x247, x248, x249, x250, x251, x252, x253, x254, x255, x256, x257, x258, x259, x260, x261, x262, x263, x264, x265, x266, x267, x268, x269, x270, x271, x272, x273, x274, x275, x276, x277, x278, x279, x280, x281, x282, x283, x284, x285, x286, x287, x288, x289, x290, x291, x292, x293, x294, x295, x296, x297, x298, x299, x300, x301, x302, x303, x304, x305, x306, x307, x308, x309, x310, x311, x312, x313, x314, x315, x316, x317, x318, x319, x320, x321, x322, x323, x324, x325, x326, x327, x328, x329, x330, x331, x332, x333, x334, x335, x336, x337, x338, x339, x340, x341, x342, x343, x344, x345, x346, x347, x348, x349, x350, x351, x352, x353, x354, x355, x356, x357, x358, x359, x360, x361, x362, x363, x364, x365, x366, x367, x368, x369, x370, x371, x372, x373, x374, x375, x376, x377], []⟩ w := by
  conv => arg 2; whnf
  have H := toHid (has4 a12 cap12 L key w hS (by omega))
  rw [hll] at H
  replace hK := toHid hK
  replace hS := toHid hS
  replace hll := toHid hll
  cases ok1
  · go_wp2
    apply hK.out (ok2 := false)
    simp
  · go_wp2_with (go_at_call 4; refine H.out.mono ?_; rintro e w' ⟨r, rfl, hr, rfl⟩; replace hr := toHid hr; cases r)
    · apply hK.out (ok2 := true)
      have := hr.out
      simp at this ⊢
      exact this
    · apply hK.out (ok2 := false)
      have := hr.out
      simp at this ⊢
      exact this
/-- fkeys[j] == fk -/
theorem eql63 (s s' : ByteArray) (n n' : Int) (w : World) : (binOp .eql 63 (.agg #[.string s, .int .i64 n]) (.agg #[.string s', .int .i64 n'])).run Ybaf.prog w = .ok (.bool (decide (s = s' ∧ n = n'))) w := by
  unfold binOp Op.equal Op.maxDepth
  go_simp
  by_cases h : s = s'
  · subst h
    by_cases h2 : n = n' <;> simp [h2]
  · have : s.toList ≠ s'.toList := fun e => h (str_inj e)
    simp [h, this]
set_option maxRecDepth 1000000 in
set_option maxHeartbeats 6400000 in
theorem pS (a13 : Option Addr) (cap13 : Nat) (ks : List (Nat × Nat)) (nm : ByteArray) (n kb : Nat) (w : World) (x0 x1 x2 x3 x4 x5 x6 x7 x8 x9 x10 x11 x12 x14 x15 x16 x17 x18 x19 x20 x21 x22 x23 x24 x25 x26 x27 x28 x29 x30 x31 x32 x35 x36 x37 x38 x39 x40 x41 x42 x43 x44 x45 x46 x47 x48 x49 x50 x51 x52 x53 x54 x55 x56 x57 x58 x59 x60 x61 x62 x63 x64 x65 x66 x67 x68 x69 x70 x71 x72 x73 x74 x75 x76 x77 x78 x79 x80 x81 x82 x83 x84 x85 x86 x87 x88 x89 x90 x91 x92 x93 x94 x95 x96 x97 x98 x99 x100 x101 x102 x103 x104 x105 x106 x107 x108 x109 x110 x111 x112 x113 x114 x115 x116 x117 x118 x119 x120 x121 x122 x123 x124 x125 x126 x127 x128 x129 x130 x131 x132 x133 x134 x135 x136 x137 x138 x139 x140 x141 x142 x143 x144 x145 x146 x147 x148 x149 x150 x151 x152 x153 x154 x155 x156 x157 x158 x159 x160 x161 x162 x163 x164 x165 x166 x167 x168 x169 x170 x171 x172 x173 x174 x175 x176 x177 x178 x179 x180 x181 x182 x183 x184 x185 x186 x187 x188 x189 x190 x191 x192 x193 x194 x195 x196 x197 x198 x199 x200 x201 x202 x203 x204 x205 x206 x207 x208 x209 x210 x211 x212 x213 x214 x215 x216 x217 x218 x219 x220 x221 x222 x223 x224 x225 x226 x227 x228 x229 x230 x231 x232 x233 x234 x235 x236 x237 x238 x239 x240 x241 x242 x243 x244 x245 x246 x247 x248 x249 x250 x251 x252 x253 x254 x255 x256 x257 x258 x259 x260 x261 x262 x263 x264 x265 x266 x267 x268 x269 x270 x271 x272 x273 x274 x275 x276 x277 x278 x279 x280 x281 x282 x283 x284 x285 x286 x287 x288 x289 x290 x291 x292 x293 x294 x295 x296 x297 x298 x299 x300 x301 x302 x303 x304 x305 x306 x307 x308 x309 x310 x311 x312 x313 x314 x315 x316 x317 x318 x319 x320 x321 x322 x323 x324 x325 x326 x327 x328 x329 x330 x331 x332 x333 x334 x335 x336 x337 x338 x339 x340 x341 x342 x343 x344 x345 x346 x347 x348 x349 x350 x351 x352 x353 x354 x355 x356 x357 x358 x359 x360 x361 x362 x363 x364 x365 x366 x367 x368 x369 x370 x371 x372 x373 x374 x375 x376 x377 : Value) (K : Act → World → Prop) (Q : Exit → Act → World → Prop)
    (hl : ks.length ≤ 256) (hR : ks.length = 0 ∨ ∃ b, a13 = some ⟨b, 0, none⟩ ∧ ∀ j, j < ks.length → w.cell? ⟨b, 0 + j * 2, none⟩ = some (.string (nmN (ks.getD j (0, 0)).1)) ∧ w.cell? ⟨b, 0 + j * 2 + 1, none⟩ = some (.int .i64 ((ks.getD j (0, 0)).2 : Nat)))
    (c0 : w.cell? ⟨kb, 0, none⟩ = some (.string nm)) (c1 : w.cell? ⟨kb, 1, none⟩ = some (.int .i64 (n : Nat)))
    (hK : ∀ (y35 y230 y231 y232 y233 y234 y235 y236 y237 y238 y239 y240 y241 : Value) (se : Bool) (q : Nat), (se = true ↔ ∃ j, j < ks.length ∧ nmN (ks.getD j (0, 0)).1 = nm ∧ (ks.getD j (0, 0)).2 = n) → K ⟨#[x0, x1, x2, x3, x4, x5, x6, x7, x8, x9, x10, x11, x12, .slice a13 ks.length cap13, x14, x15, x16, x17, x18, x19, x20, x21, x22, x23, x24, x25, x26, x27, x28, x29, x30, x31, x32, .pointer (some ⟨kb, 0, none⟩), .bool se, y35, x36, x37, x38, x39, x40, x41, x42, x43, x44, x45, x46, x47, x48, x49, x50, x51, x52, x53, x54, x55, x56, x57, x58, x59, x60, x61, x62, x63, x64, x65, x66, x67, x68, x69, x70, x71, x72, x73, x74, x75, x76, x77, x78, x79, x80, x81, x82, x83, x84, x85, x86, x87, x88, x89, x90, x91, x92, x93, x94, x95, x96, x97, x98, x99, x100, x101, x102, x103, x104, x105, x106, x107, x108, x109, x110, x111, x112, x113, x114, x115, x116, x117, x118, x119, x120, x121, x122, x123, x124, x125, x126, x127, x128, x129, x130, x131, x132, x133, x134, x135, x136, x137, x138, x139, x140, x141, x142, x143, x144, x145, x146, x147, x148, x149, x150, x151, x152, x153, x154, x155, x156, x157, x158, x159, x160, x161, x162, x163, x164, x165, x166, x167, x168, x169, x170, x171, x172, x173, x174, x175, x176, x177, x178, x179, x180, x181, x182, x183, x184, x185, x186, x187, x188, x189, x190, x191, x192, x193, x194, x195, x196, x197, x198, x199, x200, x201, x202, x203, x204, x205, x206, x207, x208, x209, x210, x211, x212, x213, x214, x215, x216, x217, x218, x219, x220, x221, x222, x223, x224, x225, x226, x227, x228, x229, y230, y231, y232, y233, y234, y235, y236, y237, y238, y239, y240, y241, x242, x243, x244, x245, x246, x247, x248, x249, x250, x251, x252, x253, x254, x255, x256, x257, x258, x259, x260, x261, x262, x263, x264, x265, x266, x267, x268, x269, x270, x271, x272, x273, x274, x275, x276, x277, x278, x279, x280, x281, x282, x283, x284, x285, x286, x287, x288, x289, x290, x291, x292, x293, x294, x295, x296, x297, x298, x299, x300, x301, x302, x303, x304, x305, x306, x307, x308, x309, x310, x311, x312, x313, x314, x315, x316, x317, x318, x319, x320, x321, x322, x323, x324, x325, x326, x327, x328, x329, x330, x331, x332, x333, x334, x335, x336, x337, x338, x339, x340, x341, x342, x343, x344, x345, x346, x347, x348, x349, x350, x351, x352, x353, x354, x355, x356, x357, x358, x359, x360, x361, x362, x363, x364, x365, x366, x367, x368, x369, x370, x371, x372, x373, x374, x375, x376, x377], []⟩ (w.drewN q)) :
    Code.wp Ybaf.prog (st Ybaf.f3.body 18) (Exit.then K Q) ⟨#[x0, x1, x2, x3, x4, x5, x6, x7, x8, x9, x10, x11, x12, .slice a13 ks.length cap13, x14, x15, x16, x17, x18, x19, x20, x21, x22, x23, x24, x25, x26, x27, x28, x29, x30, x31, x32, .pointer (some ⟨kb, 0, none⟩), .bool false, x35, x36, x37, x38, x39, x40, x41, x42, x43, x44, x45, x46, x47, x48, x49, x50, x51, x52, x53, x54, x55, x56, x57, x58, x59, x60, x61, x62, x63, x64, x65, x66, x67, x68, x69, x70, x71, x72, x73, x74, x75, x76, x77, x78, x79, x80, x81, x82, x83, x84, x85, x86, x87, x88, x89, x90, x91, x92, x93, x94, x95, x96, x97, x98, x99, x100, x101, x102, x103, x104, x105, x106, x107, x108, x109, x110, x111, x112, x113, x114, x115, x116, x117, x118, x119, x120, x121, x122, x123, x124, x125, x126, x127, x128, x129, x130, x131, x132, x133, x134, x135, x136, x137, x138, x139, x140, x141, x142, x143, x144, x145, x146, x147, x148, x149, x150, x151, x152, x153, x154, x155, x156, x157, x158, x159, x160, x161, x162, x163, x164, x165, x166, x167, x168, x169, x170, x171, x172, x173, x174, x175, x176, x177, x178, x179, x180, x181, x182, x183, x184, x185, x186, x187, x188, x189, x190, x191, x192, x193, x194, x195, x196, x197, x198, x199, x200, x201, x202, x203, x204, x205, x206, x207, x208, x209, x210, x211, x212, x213, x214, x215, x216, x217, x218, x219, x220, x221, x222, x223, x224, x225, x226, x227, x228, x229, x230, x231, x232, x233, x234, x235, x236, x237, x238, x239, x240, x241, x242, x243, x244, x245, x246, x247, x248, x249, x250, x251, x252, x253, x254, x255, x256, x257, x258, x259, x260, x261, x262, x263, x264, x265, x266, x267, x268, x269, x270, x271, x272, x273, x274, x275, x276, x277, x278, x279, x280, x281, x282, x283, x284, x285, x286, x287, x288, x289, x290, x291, x292, x293, x294, x295, x296, x297, x298, x299, x300, x301, x302, x303, x304, x305, x306, x307, x308, x309, x310, x311, x312, x313, x314, x315, x316, x317, x318, x319, x320, x321, x322, x323, x324, x325, x326, x327, x328, x329, x330, x331, x332, x333, x334, x335, x336, x337, x338, x339, x340, x341, x342, x343, x344, x345, x346, x347, x348, x349, x350, x351, x352, x353, x354, x355, x356, x357, x358, x359, x360, x361, x362, x363, x364, x365, x366, x367, x368, x369, x370, x371, x372, x373, x374, x375, x376, x377], []⟩ w := by
  conv => arg 2; whnf
  replace hK := toHid hK
  replace hR := toHid hR
  generalize hll : ks.length = ll at *
  go_wp2
  go_loopw [34, 35] (fun v34 v wx => ∃ (i : Nat) (se : Bool) (q : Nat), v = .int .i64 i ∧ i ≤ ll ∧ v34 = .bool se ∧ wx = w.drewN q ∧ (se = true ↔ ∃ j, j < i ∧ nmN (ks.getD j (0, 0)).1 = nm ∧ (ks.getD j (0, 0)).2 = n)) (fun _ v _ => ll - (intOf v).toNat)
  case atStart => exact ⟨0, false, 0, rfl, by omega, rfl, rfl, by simp⟩
  case round =>
    obtain ⟨i, se, q, rfl, hi, rfl, rfl, hse⟩ := hrel
    replace hse := toHid hse
    by_cases hlt : i < ll
    · obtain h0 | ⟨b, rfl, hc⟩ := hR.out
      · omega
      obtain ⟨d0, d1⟩ := hc i hlt
      have e0 : (w.drewN q).cell? ⟨b, 0 + i * 2, none⟩ = some (.string (nmN (ks.getD i (0, 0)).1)) := d0
      have e1 : (w.drewN q).cell? ⟨b, 0 + i * 2 + 1, none⟩ = some (.int .i64 ((ks.getD i (0, 0)).2 : Nat)) := d1
      have e2 : (w.drewN q).cell? ⟨kb, 0, none⟩ = some (.string nm) := c0
      have e3 : (w.drewN q).cell? ⟨kb, 1, none⟩ = some (.int .i64 (n : Nat)) := c1
      simp only [Nat.zero_add] at e0 e1
      have hin : Hid (∀ se' : Bool, (se' = true ↔ se = true ∨ (nmN (ks.getD i (0, 0)).1 = nm ∧ (ks.getD i (0, 0)).2 = n)) → (se' = true ↔ ∃ j, j < i + 1 ∧ nmN (ks.getD j (0, 0)).1 = nm ∧ (ks.getD j (0, 0)).2 = n)) := fun se' h => by
        rw [h, hse.out]
        constructor
        · rintro (⟨j, h1, h2⟩ | h2)
          · exact ⟨j, by omega, h2⟩
          · exact ⟨i, by omega, h2⟩
        · rintro ⟨j, h1, h2⟩
          by_cases hj : j = i
          · subst hj; exact .inr h2
          · exact .inl ⟨j, by omega, h2⟩
      have heq := fun w => eql63 (nmN (ks.getD i (0, 0)).1) nm ((ks.getD i (0, 0)).2 : Nat) (n : Nat) w
      have hnxt : Hid (∀ k, (w.drewN q).drewN k = w.drewN (q + k)) := fun k => by simp [World.drewN, Nat.add_assoc]
      clear hR hc d0 d1 c0 c1 hK hse
      generalize hsi : nmN (ks.getD i (0, 0)).1 = si at *
      generalize hki : (ks.getD i (0, 0)).2 = ki at *
      generalize hwx : w.drewN q = wx at *
      replace hsi := toHid hsi
      replace hki := toHid hki
      replace hwx := toHid hwx
      by_cases hcmp : si = nm ∧ ki = n
      · have heq' : ∀ w, (binOp .eql 63 (.agg #[.string si, .int .i64 (ki : Nat)]) (.agg #[.string nm, .int .i64 (n : Nat)])).run Ybaf.prog w = .ok (.bool true) w := fun w => (heq w).trans (by rw [decide_eq_true ⟨hcmp.1, by rw [hcmp.2]⟩])
        replace hin := toHid (hin.out true (by simp [hcmp]))
        replace hcmp := toHid hcmp
        clear heq
        go_wp2
        go_quiet (fail)
        go_wp2
        go_round
        case rel => exact ⟨i + 1, true, q + nq, rfl, by omega, rfl, hnxt.out nq, by have := hin.out; simpa using this⟩
        case measure => simp [intOf]; omega
      · have heq' : ∀ w, (binOp .eql 63 (.agg #[.string si, .int .i64 (ki : Nat)]) (.agg #[.string nm, .int .i64 (n : Nat)])).run Ybaf.prog w = .ok (.bool false) w := fun w => (heq w).trans (by rw [decide_eq_false (fun z => hcmp ⟨z.1, by omega⟩)])
        replace hin := toHid (hin.out se (by simp [hcmp]))
        replace hcmp := toHid hcmp
        clear heq
        go_wp2
        go_quiet (fail)
        go_wp2
        go_round
        case rel => exact ⟨i + 1, se, q + nq, rfl, by omega, rfl, hnxt.out nq, hin.out⟩
        case measure => simp [intOf]; omega
    · have hin : ll = i := by omega
      subst hin
      go_wp2
      apply hK.out
      exact hse.out
end Go.Proofs.YbulkzmgFmt.Sc
