import Derived.Test.YbulkzmgFmtLawK
import Derived.Deep.CutRange
namespace Go.Proofs.YbulkzmgFmt.Sc
open Go.RowKit Go.Extern.Stop Go.Stop Go.Extern
set_option linter.unusedVariables false
set_option linter.unusedSimpArgs false
def fb (c : Option Code) : Code := c.getD .skip
/-- One function of the end's loop. -/
structure Last (w : World) (p : Nat) (φ : Fn) (tt : Nat) : Prop where
  tx : w.cell? ⟨φ.b, φ.o + 4, none⟩ = some (.string (txt (scN φ.s) (nmN φ.m) φ.li))
  av : ∃ aa cn, w.cell? ⟨φ.b, φ.o + 2, none⟩ = some (.slice aa φ.n cn) ∧ Ptrs w aa φ.n (fun j => ⟨p + 9 + φ.ka j, 0, none⟩)
  ts : Ptrs w (some ⟨tt, 0, none⟩) φ.n (fun j => ⟨p + 9 + φ.ka j, 0, none⟩)
  le : φ.n ≤ 100
theorem LI.last {w0 : World} {p i : Nat} {wr : World} {g : Gh} {b3 : Bool} {v12 v13 v14 v15 v16 : Value} {tb : Nat → Nat} (h : LI w0 p i wr g b3 v12 v13 v14 v15 v16 tb) (j : Nat) (hj : j < g.fs.length) : Last wr p (g.fs.getD j fn0) (tb j) := by
  have hm : g.fs.getD j fn0 ∈ g.fs := by
    simp only [List.getD, List.getElem?_eq_getElem hj, Option.getD_some]
    exact List.getElem_mem hj
  have f := h.cat.body.fns _ hm
  obtain ⟨aa, cn, hav, hp⟩ := f.avf
  have c2 := f.cells 2 _ rfl
  rw [hav] at c2
  rw [h.ty] at hp
  exact ⟨f.cells 4 _ rfl, ⟨aa, cn, c2, hp⟩, .inr ⟨tb j, 0, rfl, fun q hq => by rw [Nat.zero_add]; exact (h.ts j hj).2.2 q hq⟩, f.bd.2.2.1⟩
set_option maxRecDepth 1000000 in
set_option maxHeartbeats 6400000 in
theorem partD (w0 w : World) (p i : Nat) (g : Gh) (b3 : Bool) (v12 v13 v14 v15 v16 : Value) (tb : Nat → Nat) (x0 x1 x2 x3 x4 x5 x6 x7 x9 x10 x11 x12 x18 x19 x20 x21 x22 x23 x24 x25 x26 x27 x28 x29 x30 x31 x32 x33 x34 x35 x36 x37 x38 x39 x40 x41 x42 x43 x44 x45 x46 x47 x48 x49 x50 x51 x52 x53 x54 x55 x56 x57 x58 x59 x60 x61 x62 x63 x64 x65 x66 x67 x68 x69 x70 x71 x72 x73 x74 x75 x76 x77 x78 x79 x80 x81 x82 x83 x84 x85 x86 x87 x88 x89 x90 x91 x92 x93 x94 x95 x96 x97 x98 x99 x100 x101 x102 x103 x104 x105 x106 x107 x108 x109 x110 x111 x112 x113 x114 x115 x116 x117 x118 x119 x120 x121 x122 x123 x124 x125 x126 x127 x128 x129 x130 x131 x132 x133 x134 x135 x136 x137 x138 x139 x140 x141 x142 x143 x144 x145 x146 x147 x148 x149 x150 x151 x152 x153 x154 x155 x156 x157 x158 x159 x160 x161 x162 x163 x164 x165 x166 x167 x168 x169 x170 x171 x172 x173 x174 x175 x176 x177 x178 x179 x180 x181 x182 x183 x184 x185 x186 x187 x188 x189 x190 x191 x192 x193 x194 x195 x196 x197 x198 x199 x200 x201 x202 x203 x204 x205 x206 x207 x208 x209 x210 x211 x212 x213 x214 x215 x216 x217 x218 x219 x220 x221 x222 x223 x224 x225 x226 x227 x228 x229 x230 x231 x232 x233 x234 x235 x236 x237 x238 x239 x240 x241 x242 x243 x244 x245 x246 x247 x248 x249 x250 x251 x252 x253 x254 x255 x256 x257 x258 x259 x260 x261 x262 x263 x264 x265 x266 x267 x268 x269 x270 x271 x272 x273 x274 x275 x276 x277 x278 x279 x280 x281 x282 x283 x284 x285 x286 x287 x288 x289 x290 x291 x292 x293 x294 x295 x296 x297 x298 x299 x300 x301 x302 x303 x304 x305 x306 x307 x308 x309 x310 x311 x312 x313 x314 x315 x316 x317 x318 x319 x320 x321 x322 x323 x324 x325 x326 x327 x328 x329 x330 x331 x332 x333 x334 x335 x336 x337 x338 x339 x340 x341 x342 x343 x344 x345 x346 x347 x348 x349 x350 x351 x352 x353 x354 x355 x356 x357 x358 x359 x360 x361 x362 x363 x364 x365 x366 x367 x368 x369 x370 x371 x372 x373 x374 x375 x376 x377 : Value) (Q : Exit → Act → World → Prop)
    (L : LI w0 p i w g b3 v12 v13 v14 v15 v16 tb) (hi : i ≤ 256)
    (hQ : ∀ (y37 y331 y332 y333 y334 y335 y336 y337 y338 y339 y340 y341 y342 y343 y344 y345 y346 y347 y348 y349 y350 y351 y352 y353 y354 y355 y356 y357 y358 y359 y360 y361 y362 y363 y364 y365 y366 y367 y368 y369 y370 y371 y372 y373 y374 y375 y376 y377 : Value) (w' : World), Below w0.heap.size w0 w' → Q .ret ⟨#[x0, x1, .bool true, x3, x4, x5, x6, x7, .pointer (some ⟨p + 7, 0, none⟩), x9, x10, x11, x12, v13, v14, v15, v16, .int .i64 (g.fs.length : Nat), x18, x19, x20, x21, x22, x23, x24, x25, x26, x27, x28, x29, x30, x31, x32, x33, x34, x35, x36, y37, x38, x39, x40, x41, x42, x43, x44, x45, x46, x47, x48, x49, x50, x51, x52, x53, x54, x55, x56, x57, x58, x59, x60, x61, x62, x63, x64, x65, x66, x67, x68, x69, x70, x71, x72, x73, x74, x75, x76, x77, x78, x79, x80, x81, x82, x83, x84, x85, x86, x87, x88, x89, x90, x91, x92, x93, x94, x95, x96, x97, x98, x99, x100, x101, x102, x103, x104, x105, x106, x107, x108, x109, x110, x111, x112, x113, x114, x115, x116, x117, x118, x119, x120, x121, x122, x123, x124, x125, x126, x127, x128, x129, x130, x131, x132, x133, x134, x135, x136, x137, x138, x139, x140, x141, x142, x143, x144, x145, x146, x147, x148, x149, x150, x151, x152, x153, x154, x155, x156, x157, x158, x159, x160, x161, x162, x163, x164, x165, x166, x167, x168, x169, x170, x171, x172, x173, x174, x175, x176, x177, x178, x179, x180, x181, x182, x183, x184, x185, x186, x187, x188, x189, x190, x191, x192, x193, x194, x195, x196, x197, x198, x199, x200, x201, x202, x203, x204, x205, x206, x207, x208, x209, x210, x211, x212, x213, x214, x215, x216, x217, x218, x219, x220, x221, x222, x223, x224, x225, x226, x227, x228, x229, x230, x231, x232, x233, x234, x235, x236, x237, x238, x239, x240, x241, x242, x243, x244, x245, x246, x247, x248, x249, x250, x251, x252, x253, x254, x255, x256, x257, x258, x259, x260, x261, x262, x263, x264, x265, x266, x267, x268, x269, x270, x271, x272, x273, x274, x275, x276, x277, x278, x279, x280, x281, x282, x283, x284, x285, x286, x287, x288, x289, x290, x291, x292, x293, x294, x295, x296, x297, x298, x299, x300, x301, x302, x303, x304, x305, x306, x307, x308, x309, x310, x311, x312, x313, x314, x315, x316, x317, x318, x319, x320, x321, x322, x323, x324, x325, x326, x327, x328, x329, x330, y331, y332, y333, y334, y335, y336, y337, y338, y339, y340, y341, y342, y343, y344, y345, y346, y347, y348, y349, y350, y351, y352, y353, y354, y355, y356, y357, y358, y359, y360, y361, y362, y363, y364, y365, y366, y367, y368, y369, y370, y371, y372, y373, y374, y375, y376, y377], []⟩ w') :
    Code.wp Ybaf.prog (drops 16 (fb Ybaf.f3.body)) Q ⟨#[x0, x1, x2, x3, x4, x5, x6, x7, .pointer (some ⟨p + 7, 0, none⟩), x9, x10, x11, x12, v13, v14, v15, v16, .int .i64 (g.fs.length : Nat), x18, x19, x20, x21, x22, x23, x24, x25, x26, x27, x28, x29, x30, x31, x32, x33, x34, x35, x36, x37, x38, x39, x40, x41, x42, x43, x44, x45, x46, x47, x48, x49, x50, x51, x52, x53, x54, x55, x56, x57, x58, x59, x60, x61, x62, x63, x64, x65, x66, x67, x68, x69, x70, x71, x72, x73, x74, x75, x76, x77, x78, x79, x80, x81, x82, x83, x84, x85, x86, x87, x88, x89, x90, x91, x92, x93, x94, x95, x96, x97, x98, x99, x100, x101, x102, x103, x104, x105, x106, x107, x108, x109, x110, x111, x112, x113, x114, x115, x116, x117, x118, x119, x120, x121, x122, x123, x124, x125, x126, x127, x128, x129, x130, x131, x132, x133, x134, x135, x136, x137, x138, x139, x140, x141, x142, x143, x144, x145, x146, x147, x148, x149, x150, x151, x152, x153, x154, x155, x156, x157, x158, x159, x160, x161, x162, x163, x164, x165, x166, x167, x168, x169, x170, x171, x172, x173, x174, x175, x176, x177, x178, x179, x180, x181, x182, x183, x184, x185, x186, x187, x188, x189, x190, x191, x192, x193, x194, x195, x196, x197, x198, x199, x200, x201, x202, x203, x204, x205, x206, x207, x208, x209, x210, x211, x212, x213, x214, x215, x216, x217, x218, x219, x220, x221, x222, x223, x224, x225, x226, x227, x228, x229, x230, x231, x232, x233, x234, x235, x236, x237, x238, x239, x240, x241, x242, x243, x244, x245, x246, x247, x248, x249, x250, x251, x252, x253, x254, x255, x256, x257, x258, x259, x260, x261, x262, x263, x264, x265, x266, x267, x268, x269, x270, x271, x272, x273, x274, x275, x276, x277, x278, x279, x280, x281, x282, x283, x284, x285, x286, x287, x288, x289, x290, x291, x292, x293, x294, x295, x296, x297, x298, x299, x300, x301, x302, x303, x304, x305, x306, x307, x308, x309, x310, x311, x312, x313, x314, x315, x316, x317, x318, x319, x320, x321, x322, x323, x324, x325, x326, x327, x328, x329, x330, x331, x332, x333, x334, x335, x336, x337, x338, x339, x340, x341, x342, x343, x344, x345, x346, x347, x348, x349, x350, x351, x352, x353, x354, x355, x356, x357, x358, x359, x360, x361, x362, x363, x364, x365, x366, x367, x368, x369, x370, x371, x372, x373, x374, x375, x376, x377], []⟩ w := by
  conv => arg 2; whnf
  replace hQ := toHid hQ
  obtain ⟨a13, cap13, rfl, _⟩ := ownsRow_form L.fkeys
  obtain ⟨a14, cap14, rfl, h14⟩ := ownsRow_form L.made
  obtain ⟨a15, cap15, rfl, h15⟩ := ownsRow_form L.texts
  obtain ⟨a16, cap16, rfl, h16⟩ := ownsRow_form L.sets
  have hx2 := L.cat.c2
  have hx5 := L.cat.c5
  rw [L.cbv] at hx2 hx5
  have hlen := len_fm L.cat L.cat.body.few
  have hfl : g.fs.length ≤ 256 := Nat.le_trans L.le hi
  have hrow : Hid (∀ j, j < g.fs.length → ∃ b4 b5 b6, a14 = some ⟨b4, 0, none⟩ ∧ a15 = some ⟨b5, 0, none⟩ ∧ a16 = some ⟨b6, 0, none⟩ ∧ w.cell? ⟨b4, j, none⟩ = some (.pointer (some ⟨(g.fs.getD j fn0).b, (g.fs.getD j fn0).o, none⟩)) ∧ w.cell? ⟨b5, j, none⟩ = some (.string (txt (scN (g.fs.getD j fn0).s) (nmN (g.fs.getD j fn0).m) (g.fs.getD j fn0).li)) ∧ w.cell? ⟨b6, j, none⟩ = some (.slice (some ⟨tb j, 0, none⟩) (g.fs.getD j fn0).n (g.fs.getD j fn0).n)) := fun j hj => by
    have e : g.fs.getD j fn0 = g.fs[j] := by simp [List.getD, hj]
    rcases h14 with h0 | ⟨b4, rfl, h4⟩
    · omega
    rcases h15 with h0 | ⟨b5, rfl, h5⟩
    · omega
    rcases h16 with h0 | ⟨b6, rfl, h6⟩
    · omega
    refine ⟨b4, b5, b6, rfl, rfl, rfl, h4 j _ ?_, h5 j _ ?_, h6 j _ ?_⟩
    · rw [List.getElem?_map, List.getElem?_eq_getElem hj, e]; rfl
    · rw [List.getElem?_map, List.getElem?_eq_getElem hj, e]; rfl
    · rw [List.getElem?_map, List.getElem?_range hj]; rfl
  have hlast := toHid (fun j hj => L.last j hj)
  have hbel : Hid (∀ q, Below w0.heap.size w0 (w.drewN q)) := fun q => L.below.trans (((KC.refl nob _).drewN q).below L.below.size (fun _ _ z => z.elim))
  clear h14 h15 h16
  replace L := toHid L
  generalize hFL : g.fs.length = FL at *
  replace hFL := toHid hFL
  go_wp2
  clear hlen hx2 hx5
  go_loopw [37] (fun v wx => ∃ j q : Nat, v = .int .i64 j ∧ j ≤ FL ∧ wx = w.drewN q) (fun v _ => FL - (intOf v).toNat)
  case atStart => exact ⟨0, 0, rfl, by omega, rfl⟩
  case round =>
    obtain ⟨j, q, rfl, hj, rfl⟩ := hrel
    by_cases hlt : j < FL
    · obtain ⟨b4, b5, b6, rfl, rfl, rfl, r4, r5, r6⟩ := hrow.out j hlt
      obtain ⟨ht, ⟨aa, cn, hav, hp1⟩, hp2, hle⟩ := hlast.out j hlt
      clear hrow hlast hQ L
      generalize g.fs.getD j fn0 = φ at *
      have e4 : (w.drewN q).cell? ⟨b4, j, none⟩ = some (.pointer (some ⟨φ.b, φ.o, none⟩)) := r4
      have e5 : (w.drewN q).cell? ⟨b5, j, none⟩ = some (.string (txt (scN φ.s) (nmN φ.m) φ.li)) := r5
      have e6 : (w.drewN q).cell? ⟨b6, j, none⟩ = some (.slice (some ⟨tb j, 0, none⟩) φ.n φ.n) := r6
      have e7 : (w.drewN q).cell? ⟨φ.b, φ.o + 2, none⟩ = some (.slice aa φ.n cn) := hav
      have H7 := toHid (fun k : Nat => string7 φ.b φ.o _ ((w.drewN q).drewN k) ht)
      have H6 := toHid (fun k : Nat => (same6 aa (some ⟨tb j, 0, none⟩) cn φ.n φ.n _ (fun _ => rfl) ((w.drewN q).drewN k) hp1 hp2 (by omega)).mono fun e w' ⟨m, h1, h2⟩ => (⟨h1, m, h2⟩ : e = Ending.returned (.bool true) ∧ ∃ m, w' = ((w.drewN q).drewN k).drewN m))
      have hnxt : Hid (∀ k, (w.drewN q).drewN k = w.drewN (q + k)) := fun k => World.drewN_drewN _ _ _
      clear r4 r5 r6 hav hp1 hp2 ht
      generalize txt (scN φ.s) (nmN φ.m) φ.li = tx at *
      generalize hwx : w.drewN q = wx at *
      replace hwx := toHid hwx
      go_wp2
      go_quiet (first | (go_at_call 7; exact Calls.quiet_of_same (H7.out _)) | (go_at_call 6; exact Calls.quiet_of (H6.out _)))
      go_wp2
      go_round
      case rel => exact ⟨j + 1, q + nq, rfl, by omega, hnxt.out nq⟩
      case measure => simp [intOf]; omega
    · have hin : FL = j := by omega
      subst hin
      go_wp2
      exact hQ.out _ _ _ _ _ _ _ _ _ _ _ _ _ _ _ _ _ _ _ _ _ _ _ _ _ _ _ _ _ _ _ _ _ _ _ _ _ _ _ _ _ _ _ _ _ _ _ _ _ (hbel.out q)
end Go.Proofs.YbulkzmgFmt.Sc
