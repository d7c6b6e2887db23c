import Derived.Test.YbulkzmgFmtLawI
import Derived.Deep.CutRange
namespace Go.Proofs.YbulkzmgFmt.Sc
open Go.RowKit Go.Extern.Stop Go.Stop Go.Extern
set_option linter.unusedVariables false
set_option linter.unusedSimpArgs false
theorem FnOK.avf {w : World} {g : Gh} {φ : Fn} (h : FnOK w g φ) : ∃ aa cn, φ.av = .slice aa φ.n cn ∧ Ptrs w aa φ.n (fun j => ⟨g.ty (φ.ka j), 0, none⟩) := by
  unfold Fn.av
  by_cases h0 : φ.n = 0
  · rw [if_pos h0, h0]
    exact ⟨none, 0, rfl, .inl rfl⟩
  · rw [if_neg h0]
    exact ⟨_, _, rfl, .inr ⟨φ.ab, φ.ao, rfl, h.args⟩⟩
theorem seen_iff {w : World} {g g' : Gh} (h : CatB w g') {ks : List (Nat × Nat)} {m n : Nat} (hks : g.ks = ks) (hm : m < 2) (e : ((∃ j, j < ks.length ∧ g.key j = (m, n)) ∧ g'.ks = ks) ∨ ((∀ j, j < ks.length → g.key j ≠ (m, n)) ∧ g'.ks = ks ++ [(m, n)])) :
    ((∃ j, j < ks.length ∧ nmN (ks.getD j (0, 0)).1 = nmN m ∧ (ks.getD j (0, 0)).2 = n) ∧ g'.ks = ks) ∨ (¬ (∃ j, j < ks.length ∧ nmN (ks.getD j (0, 0)).1 = nmN m ∧ (ks.getD j (0, 0)).2 = n) ∧ g'.ks = ks ++ [(m, n)]) := by
  subst hks
  rcases e with ⟨⟨j, hj, e⟩, h2⟩ | ⟨h1, h2⟩
  · refine .inl ⟨⟨j, hj, ?_⟩, h2⟩
    have : g.ks.getD j (0, 0) = (m, n) := e
    rw [this]
    exact ⟨rfl, rfl⟩
  · refine .inr ⟨?_, h2⟩
    rintro ⟨j, hj, q1, q2⟩
    have hb := h.kbd j (by rw [h2]; simp; omega)
    have e : g'.key j = g.ks.getD j (0, 0) := by
      unfold Gh.key
      rw [h2]
      simp [List.getD, List.getElem?_append_left hj]
    rw [e] at hb
    have := nmN_inj ⟨_, hb.1⟩ ⟨m, hm⟩ q1
    simp only [Fin.mk.injEq] at this
    exact h1 j hj (Prod.ext this q2)
theorem len_fm {w : World} {g : Gh} {b3 : Bool} (h : Cat w g b3) (hl : g.ks.length ≤ 202) (ty : TypeId) : (Builtin.len_ #[32] ty #[.map (some g.fm)]).run Ybaf.prog w = .ok (.int .i64 (g.ks.length : Nat)) w := by
  have := h.mf.len32 ty
  rw [this]
  simp [FK, goInt]
set_option maxRecDepth 1000000 in
set_option maxHeartbeats 6400000 in
theorem round2g (w0 w : World) (p i gb tt sI mI rI al : Nat) (ka : Nat → Nat) (φ : Fn) (g g' : Gh) (b3 : Bool) (v12 v13 v14 v15 v16 : Value) (tb : Nat → Nat) (x0 x1 x2 x3 x4 x10 x11 x18 x19 x27 x28 x29 x33 x34 x35 x36 x37 x38 x39 x40 x41 x42 x43 x44 x45 x46 x47 x48 x49 x50 x51 x52 x53 x54 x55 x56 x57 x58 x59 x60 x61 x62 x63 x64 x65 x66 x67 x68 x69 x70 x71 x72 x73 x74 x75 x76 x77 x78 x79 x80 x81 x82 x83 x84 x85 x86 x87 x88 x89 x90 x91 x92 x93 x94 x95 x96 x97 x98 x99 x100 x101 x102 x103 x104 x105 x106 x107 x108 x109 x110 x111 x112 x113 x114 x115 x116 x117 x118 x119 x120 x121 x122 x123 x124 x125 x126 x127 x128 x129 x130 x131 x132 x133 x134 x135 x136 x137 x138 x139 x140 x141 x142 x143 x144 x145 x146 x147 x148 x149 x150 x151 x152 x153 x154 x155 x156 x157 x158 x159 x160 x161 x162 x163 x164 x165 x166 x167 x168 x169 x170 x171 x172 x173 x174 x175 x176 x177 x178 x179 x180 x181 x182 x183 x184 x185 x186 x187 x188 x189 x190 x191 x192 x193 x194 x195 x196 x197 x198 x199 x200 x201 x202 x203 x204 x205 x206 x207 x208 x209 x210 x211 x212 x213 x214 x215 x216 x217 x218 x219 x220 x221 x222 x223 x224 x225 x226 x227 x228 x229 x230 x231 x232 x233 x234 x235 x236 x237 x238 x239 x240 x241 x242 x243 x244 x245 x246 x247 x248 x249 x250 x251 x252 x253 x254 x255 x256 x257 x258 x259 x260 x261 x262 x263 x264 x265 x266 x267 x268 x269 x270 x271 x272 x273 x274 x275 x276 x277 x278 x279 x280 x281 x282 x283 x284 x285 x286 x287 x288 x289 x290 x291 x292 x293 x294 x295 x296 x297 x298 x299 x300 x301 x302 x303 x304 x305 x306 x307 x308 x309 x310 x311 x312 x313 x314 x315 x316 x317 x318 x319 x320 x321 x322 x323 x324 x325 x326 x327 x328 x329 x330 x331 x332 x333 x334 x335 x336 x337 x338 x339 x340 x341 x342 x343 x344 x345 x346 x347 x348 x349 x350 x351 x352 x353 x354 x355 x356 x357 x358 x359 x360 x361 x362 x363 x364 x365 x366 x367 x368 x369 x370 x371 x372 x373 x374 x375 x376 x377 : Value) (Q : Exit → Act → World → Prop)
    (R : LR w0 p w g' b3 v12 v13 v14 v15 v16 g.fs g.ks g.fs g.fs g.fs tb) (e1 : g'.fs = g.fs ++ [φ]) (e2 : φ.s = sI ∧ φ.m = mI ∧ φ.n = al ∧ φ.ka = ka ∧ φ.r = rI)
    (e3 : ((∃ j, j < g.ks.length ∧ g.key j = (mI, al)) ∧ g'.ks = g.ks) ∨ ((∀ j, j < g.ks.length → g.key j ≠ (mI, al)) ∧ g'.ks = g.ks ++ [(mI, al)])) (e4 : sI = 2 → b3 = true) (gd : Good sI mI al ka rI)
    (T : Sh w tt 34 al ∧ g'.kd tt = 0 ∧ ∀ q, q < al → w.cell? ⟨tt, q, none⟩ = some (.pointer (some ⟨p + 9 + ka q, 0, none⟩))) (hle : g.fs.length ≤ i) (hi : i ≤ 255)
    (hQ : ∀ (y33 y34 y35 y36 y198 y199 y200 y201 y202 y203 y204 y205 y206 y207 y208 y209 y210 y211 y212 y213 y214 y215 y216 y217 y218 y219 y220 y221 y222 y223 y224 y225 y226 y227 y228 y229 y230 y231 y232 y233 y234 y235 y236 y237 y238 y239 y240 y241 y242 y243 y244 y245 y246 y247 y248 y249 y250 y251 y252 y253 y254 y255 y256 y257 y258 y259 y260 y261 y262 y263 y264 y265 y266 y267 y268 y269 y270 y271 y272 y273 y274 y275 y276 y277 y278 y279 y280 y281 y282 y283 y284 y285 y286 y287 y288 y289 y290 y291 y292 y293 y294 y295 y296 y297 y298 y299 y300 y301 y302 y303 y304 y305 y306 y307 y308 y309 y310 y311 y312 y313 y314 y315 y316 y317 y318 y319 y320 y321 y322 y323 y324 y325 y326 y327 y328 y329 v12' v13' v14' v15' v16' : Value) (tb' : Nat → Nat) (w' : World), LI w0 p (i + 1) w' g' b3 v12' v13' v14' v15' v16' tb' → Q .normal ⟨#[x0, x1, x2, x3, x4, .pointer (some ⟨p, 0, none⟩), .pointer (some ⟨p + 1, 0, none⟩), .pointer (some ⟨p + 1 + 1, 0, none⟩), .pointer (some ⟨p + 7, 0, none⟩), .pointer (some ⟨p + 7 + 1, 0, none⟩), x10, x11, v12', v13', v14', v15', v16', .int .i64 (g'.fs.length : Nat), x18, x19, .string (scN sI), .string (nmN mI), .int .i64 (rI : Nat), .slice (some ⟨gb, 0, none⟩) al al, .slice (some ⟨tt, 0, none⟩) al al, .bool true, .string (jn ka al), x27, x28, x29, (.string (keyS' (scN sI) (nmN mI) (jn ka al))), .pointer (some φ.ad), .nilIface, y33, y34, y35, y36, x37, x38, x39, x40, x41, x42, x43, x44, x45, x46, x47, x48, x49, x50, x51, x52, x53, x54, x55, x56, x57, x58, x59, x60, x61, x62, x63, x64, x65, x66, x67, x68, x69, x70, x71, x72, x73, x74, x75, x76, x77, x78, x79, x80, x81, x82, x83, x84, x85, x86, x87, x88, x89, x90, x91, x92, x93, x94, x95, x96, x97, x98, x99, x100, x101, x102, x103, x104, x105, x106, x107, x108, x109, x110, x111, x112, x113, x114, x115, x116, x117, x118, x119, x120, x121, x122, x123, x124, x125, x126, x127, x128, x129, x130, x131, x132, x133, x134, x135, x136, x137, x138, x139, x140, x141, x142, x143, x144, x145, x146, x147, x148, x149, x150, x151, x152, x153, x154, x155, x156, x157, x158, x159, x160, x161, x162, x163, x164, x165, x166, x167, x168, x169, x170, x171, x172, x173, x174, x175, x176, x177, x178, x179, x180, x181, x182, x183, x184, x185, x186, x187, x188, x189, x190, x191, x192, x193, x194, x195, x196, x197, y198, y199, y200, y201, y202, y203, y204, y205, y206, y207, y208, y209, y210, y211, y212, y213, y214, y215, y216, y217, y218, y219, y220, y221, y222, y223, y224, y225, y226, y227, y228, y229, y230, y231, y232, y233, y234, y235, y236, y237, y238, y239, y240, y241, y242, y243, y244, y245, y246, y247, y248, y249, y250, y251, y252, y253, y254, y255, y256, y257, y258, y259, y260, y261, y262, y263, y264, y265, y266, y267, y268, y269, y270, y271, y272, y273, y274, y275, y276, y277, y278, y279, y280, y281, y282, y283, y284, y285, y286, y287, y288, y289, y290, y291, y292, y293, y294, y295, y296, y297, y298, y299, y300, y301, y302, y303, y304, y305, y306, y307, y308, y309, y310, y311, y312, y313, y314, y315, y316, y317, y318, y319, y320, y321, y322, y323, y324, y325, y326, y327, y328, y329, x330, x331, x332, x333, x334, x335, x336, x337, x338, x339, x340, x341, x342, x343, x344, x345, x346, x347, x348, x349, x350, x351, x352, x353, x354, x355, x356, x357, x358, x359, x360, x361, x362, x363, x364, x365, x366, x367, x368, x369, x370, x371, x372, x373, x374, x375, x376, x377], []⟩ w') :
    Code.wp Ybaf.prog (drops 12 (b5 Ybaf.f3.body)) Q ⟨#[x0, x1, x2, x3, x4, .pointer (some ⟨p, 0, none⟩), .pointer (some ⟨p + 1, 0, none⟩), .pointer (some ⟨p + 1 + 1, 0, none⟩), .pointer (some ⟨p + 7, 0, none⟩), .pointer (some ⟨p + 7 + 1, 0, none⟩), x10, x11, v12, v13, v14, v15, v16, .int .i64 (g.fs.length : Nat), x18, x19, .string (scN sI), .string (nmN mI), .int .i64 (rI : Nat), .slice (some ⟨gb, 0, none⟩) al al, .slice (some ⟨tt, 0, none⟩) al al, .bool true, .string (jn ka al), x27, x28, x29, (.string (keyS' (scN sI) (nmN mI) (jn ka al))), .pointer (some φ.ad), .nilIface, x33, x34, x35, x36, x37, x38, x39, x40, x41, x42, x43, x44, x45, x46, x47, x48, x49, x50, x51, x52, x53, x54, x55, x56, x57, x58, x59, x60, x61, x62, x63, x64, x65, x66, x67, x68, x69, x70, x71, x72, x73, x74, x75, x76, x77, x78, x79, x80, x81, x82, x83, x84, x85, x86, x87, x88, x89, x90, x91, x92, x93, x94, x95, x96, x97, x98, x99, x100, x101, x102, x103, x104, x105, x106, x107, x108, x109, x110, x111, x112, x113, x114, x115, x116, x117, x118, x119, x120, x121, x122, x123, x124, x125, x126, x127, x128, x129, x130, x131, x132, x133, x134, x135, x136, x137, x138, x139, x140, x141, x142, x143, x144, x145, x146, x147, x148, x149, x150, x151, x152, x153, x154, x155, x156, x157, x158, x159, x160, x161, x162, x163, x164, x165, x166, x167, x168, x169, x170, x171, x172, x173, x174, x175, x176, x177, x178, x179, x180, x181, x182, x183, x184, x185, x186, x187, x188, x189, x190, x191, x192, x193, x194, x195, x196, x197, x198, x199, x200, x201, x202, x203, x204, x205, x206, x207, x208, x209, x210, x211, x212, x213, x214, x215, x216, x217, x218, x219, x220, x221, x222, x223, x224, x225, x226, x227, x228, x229, x230, x231, x232, x233, x234, x235, x236, x237, x238, x239, x240, x241, x242, x243, x244, x245, x246, x247, x248, x249, x250, x251, x252, x253, x254, x255, x256, x257, x258, x259, x260, x261, x262, x263, x264, x265, x266, x267, x268, x269, x270, x271, x272, x273, x274, x275, x276, x277, x278, x279, x280, x281, x282, x283, x284, x285, x286, x287, x288, x289, x290, x291, x292, x293, x294, x295, x296, x297, x298, x299, x300, x301, x302, x303, x304, x305, x306, x307, x308, x309, x310, x311, x312, x313, x314, x315, x316, x317, x318, x319, x320, x321, x322, x323, x324, x325, x326, x327, x328, x329, x330, x331, x332, x333, x334, x335, x336, x337, x338, x339, x340, x341, x342, x343, x344, x345, x346, x347, x348, x349, x350, x351, x352, x353, x354, x355, x356, x357, x358, x359, x360, x361, x362, x363, x364, x365, x366, x367, x368, x369, x370, x371, x372, x373, x374, x375, x376, x377], []⟩ w := by
  conv => arg 2; whnf
  replace hQ := toHid hQ
  obtain ⟨d1, d2, d3, d4, d5⟩ := e2
  have hsz1 := sc_size ⟨sI, by have := gd.1; omega⟩
  have hsz2 := nm_size ⟨mI, by have := gd.2.1; omega⟩
  simp only at hsz1 hsz2
  have hjs : (jn ka al).size ≤ 2400 := Nat.le_trans (jn_size ka al) (by have := gd.2.2.1; omega)
  have hal : al ≤ 100 := gd.2.2.1
  have hr7 : rI < 7 := gd.2.2.2.1
  have hfl : g.fs.length ≤ 255 := by omega
  have hfl' : ((g.fs.length : Nat) : Int) + 1 = ((g'.fs.length : Nat) : Int) := by rw [e1]; simp
  have hks : g.ks.length ≤ 202 := by
    have := R.core.cat.body.few
    rcases e3 with ⟨_, q⟩ | ⟨_, q⟩
    · rw [← q]; exact this
    · rw [q] at this; simp at this; omega
  have hkey : Fn.key φ = keyS' (scN sI) (nmN mI) (jn ka al) := by unfold Fn.key Fn.li; rw [d1, d2, d3, d4]
  have htx : txt (scN φ.s) (nmN φ.m) φ.li = txt (scN sI) (nmN mI) (jn ka al) := by unfold Fn.li; rw [d1, d2, d3, d4]
  replace hkey := toHid hkey
  replace htx := toHid htx
  replace gd := toHid gd
  replace R := toHid R
  replace T := toHid T
  replace e1 := toHid e1
  replace e3 := toHid e3
  replace e4 := toHid e4
  replace d1 := toHid d1
  replace d2 := toHid d2
  replace d3 := toHid d3
  replace d4 := toHid d4
  replace d5 := toHid d5
  generalize hF12 : g.fs = F12 at *
  generalize hK13 : g.ks = K13 at *
  replace hF12 := toHid hF12
  generalize hFL : F12.length = FL at *
  replace hfl' := toHid hfl'
  replace hFL := toHid hFL
  go_upto_region 59 with fail
  rename_i hK
  replace hK := toHid hK
  go_wp2
  refine hK.out _ _ ?_
  clear hK
  rw [hfl'.out]
  obtain ⟨u12, w1, hr1, R1, o1⟩ := R.out.app12 φ (by rw [hFL.out]; omega) 53
  rw [hkey.out] at hr1
  refine wp_seq_k ?_
  intro K15 hK15
  replace hK15 := toHid hK15
  apply pP12 (hr := hr1)
  intros
  refine hK15.out _ _ ?_
  clear hK15 hr1
  replace R1 := toHid R1
  replace o1 := toHid o1
  refine wp_seq_k ?_
  intro K16 hK16
  replace hK16 := toHid hK16
  go_wp2
  refine hK16.out _ _ ?_
  clear hK16
  obtain ⟨w2, hw2, k2, d0, d1'⟩ : ∃ w2, w1.alloc (.cells #[.string (nmN mI), .int .i64 (al : Nat)] 63) = w2 ∧ KC nob w1 w2 ∧ w2.cell? ⟨w1.heap.size, 0, none⟩ = some (.string (nmN mI)) ∧ w2.cell? ⟨w1.heap.size, 1, none⟩ = some (.int .i64 (al : Nat)) := ⟨_, rfl, KC.alloc1 _ _, cell_of_row _ _ 0 _ _ _ (heap_alloc_new _ _), cell_of_row _ _ 1 _ _ _ (heap_alloc_new _ _)⟩
  rw [hw2]
  clear hw2
  have R2 := toHid (R1.out.nob k2)
  have o2 := toHid (o1.out.trans (Oth.nob k2))
  clear R1 o1 k2
  generalize hkb : w1.heap.size = kb at *
  clear hkb
  refine wp_seq_k ?_
  intro K17 hK17
  replace hK17 := toHid hK17
  go_wp2
  refine hK17.out _ _ ?_
  clear hK17
  refine wp_seq_k ?_
  intro K18 hK18
  replace hK18 := toHid hK18
  obtain ⟨a13, cap13, rfl, h13⟩ := k13_cells R2.out.fkeys
  apply pS (hl := by omega) (hR := h13) (c0 := d0) (c1 := d1')
  intros
  rename_i se q hse
  refine hK18.out _ _ ?_
  clear hK18 h13
  obtain ⟨w3, hw3⟩ : ∃ w3, w2.drewN q = w3 := ⟨_, rfl⟩
  have k3 : KC nob w2 w3 := by rw [← hw3]; exact (KC.refl _ _).drewN q
  rw [hw3]
  clear hw3
  have c30 := k3.cell _ _ _ id d0
  have c31 := k3.cell _ _ _ id d1'
  have R3 := R2.out.nob k3
  have o3 := o2.out.trans (Oth.nob k3)
  have hsi := seen_iff R3.core.cat.body hK13 (gd.out.2.1) e3.out
  obtain ⟨v13', w4, hr4, R4, o4⟩ : ∃ v13' w4, ((se = true ∧ v13' = .slice a13 K13.length cap13 ∧ w4 = w3) ∨ (se = false ∧ (Builtin.append_ #[54, 54] 54 #[.slice a13 K13.length cap13, .slice (some ⟨w3.heap.size, 0, none⟩) 1 1]).run Ybaf.prog (w3.alloc (.cells #[.string (nmN mI), .int .i64 (al : Nat)] 63)) = .ok v13' w4)) ∧ LR w0 p w4 g' b3 u12 v13' v14 v15 v16 (F12 ++ [φ]) g'.ks F12 F12 F12 tb ∧ Oth w3 w4 := by
    rcases hsi with ⟨h1, h2⟩ | ⟨h1, h2⟩
    · rw [h2]
      exact ⟨_, _, .inl ⟨hse.2 h1, rfl, rfl⟩, R3, Oth.refl _⟩
    · rw [h2]
      obtain ⟨v', w', hr, hR, ho⟩ := R3.app13 mI al (by omega) 54
      refine ⟨v', w', .inr ⟨?_, hr⟩, hR, ho⟩
      cases hh : se with
      | false => rfl
      | true => exact absurd (hse.1 hh) h1
  clear hsi hse R2 o2 d0 d1' R3
  refine wp_seq_k ?_
  intro K19 hK19
  replace hK19 := toHid hK19
  apply pP13 (c0 := c30) (c1 := c31) (hr := hr4)
  intros
  refine hK19.out _ _ ?_
  clear hK19 hr4 c30 c31
  replace o4 := o3.trans o4
  clear o3 k3
  have ks' := toHid R4.core.cat.body.few
  obtain ⟨a13', cap13', rfl, _⟩ := ownsRow_form R4.fkeys
  have hφ : φ ∈ g'.fs := by rw [e1.out]; simp
  have fok := R4.core.cat.body.fns φ hφ
  obtain ⟨aa, cn, hav, hpt⟩ := fok.avf
  rw [d3.out] at hav hpt
  rw [d4.out, R4.core.ty] at hpt
  have c0 := fok.cells 0 _ rfl
  have c1 := fok.cells 1 _ rfl
  have c2 := fok.cells 2 _ rfl
  have c3 := fok.cells 3 _ rfl
  have c4 := fok.cells 4 _ rfl
  rw [d1.out, Nat.add_zero] at c0
  rw [d2.out] at c1
  rw [hav] at c2
  rw [d5.out, R4.core.ty] at c3
  rw [htx.out] at c4
  have cd : w4.cell? ⟨p + 7 + 1, rI, none⟩ = some (.pointer (some ⟨p + 9 + rI, 0, none⟩)) := R4.core.da rI hr7
  clear fok hav
  have shT := o4.sh T.out.1 (by decide) (by decide) (by decide) (by decide)
  have cT : ∀ q, q < al → w4.cell? ⟨tt, q, none⟩ = some (.pointer (some ⟨p + 9 + ka q, 0, none⟩)) := fun q hq => (World.cell?_of_block (w := w) (w' := w4) (a := ⟨tt, q, none⟩) (o4 tt 34 _ T.out.1 (by decide) (by decide) (by decide) (by decide))).trans (T.out.2.2 q hq)
  have kT := T.out.2.1
  replace hpt := toHid hpt
  replace c0 := toHid c0
  replace c1 := toHid c1
  replace c2 := toHid c2
  replace c3 := toHid c3
  replace c4 := toHid c4
  replace cd := toHid cd
  replace shT := toHid shT
  replace cT := toHid cT
  replace R4 := toHid R4
  clear T o4
  refine wp_seq_k ?_
  intro K20 hK20
  replace hK20 := toHid hK20
  go_wp2
  refine hK20.out _ _ ?_
  clear hK20
  refine wp_seq_k ?_
  intro K21 hK21
  replace hK21 := toHid hK21
  apply pC1 (p := p) (fb := φ.b) (fo := φ.o) (hr := hr7) (c0 := c0.out) (c1 := c1.out) (c3 := c3.out) (cd := cd.out)
  intros
  rename_i q1
  refine hK21.out _ _ ?_
  clear hK21
  refine wp_seq_k ?_
  intro K22 hK22
  replace hK22 := toHid hK22
  apply pC2 (w := w4.drewN q1) (fb := φ.b) (fo := φ.o) (f := fun j => ⟨p + 9 + ka j, 0, none⟩) (hf := fun _ => rfl) (hn := by omega) (c2 := c2.out) (c4 := c4.out) (h1 := hpt.out) (h2 := .inr ⟨tt, 0, rfl, fun j hj => by rw [Nat.zero_add]; exact cT.out j hj⟩)
  intros
  rename_i q2
  refine hK22.out _ _ ?_
  clear hK22
  obtain ⟨w5, hw5⟩ : ∃ w5, (w4.drewN q1).drewN q2 = w5 := ⟨_, rfl⟩
  have k5 : KC nob w4 w5 := by rw [← hw5]; exact ((KC.refl _ _).drewN q1).drewN q2
  rw [hw5]
  clear hw5
  have R5 := R4.out.nob k5
  have sh5 := k5.shape _ _ _ shT.out
  have cT5 : ∀ q, q < al → w5.cell? ⟨tt, q, none⟩ = some (.pointer (some ⟨p + 9 + ka q, 0, none⟩)) := fun q hq => k5.cell _ _ _ id (cT.out q hq)
  clear R4 shT cT c0 c1 c2 c3 c4 cd hpt
  have C := R5.core.cat
  have hcb := R5.core.cbv
  have x2 := C.c2
  have x3 := C.c3
  have x5 := C.c5
  rw [hcb] at x2 x3 x5
  refine wp_seq_k ?_
  intro K23 hK23
  replace hK23 := toHid hK23
  apply pC3 (p := p) (fm := g'.fm) (sm := g'.sm) (c5 := x5) (c3 := x3) (c2 := x2) (hl := sl_look C gd.out.1 e4.out) (hlen := len_fm C ks'.out)
  intros
  refine hK23.out _ _ ?_
  clear hK23 C hcb x2 x3 x5
  obtain ⟨u14, w6, hr6, R6, o6⟩ := R5.app14 φ (by rw [hFL.out]; omega) 45
  refine wp_seq_k ?_
  intro K24 hK24
  replace hK24 := toHid hK24
  apply pP14 (hr := hr6)
  intros
  refine hK24.out _ _ ?_
  clear hK24 hr6
  obtain ⟨u15, w7, hr7', R7, o7⟩ := R6.app15 φ (by rw [hFL.out]; omega) 53
  rw [htx.out] at hr7'
  refine wp_seq_k ?_
  intro K25 hK25
  replace hK25 := toHid hK25
  apply pP15 (hr := hr7')
  intros
  refine hK25.out _ _ ?_
  clear hK25 hr7'
  have o57 := o6.trans o7
  have sh7 := o57.sh sh5 (by decide) (by decide) (by decide) (by decide)
  have cT7 : ∀ q, q < al → w7.cell? ⟨tt, q, none⟩ = some (.pointer (some ⟨p + 9 + ka q, 0, none⟩)) := fun q hq => (World.cell?_of_block (w := w5) (w' := w7) (a := ⟨tt, q, none⟩) (o57 tt 34 _ sh5 (by decide) (by decide) (by decide) (by decide))).trans (cT5 q hq)
  obtain ⟨u16, w8, hr8, R8, o8⟩ := R7.app16 φ tt (by rw [d3.out]; exact sh7) kT (by rw [d3.out, d4.out]; exact cT7) (by rw [hFL.out]; omega) 55
  rw [d3.out] at hr8
  apply pP16 (hr := hr8)
  intros
  rw [← e1.out] at R8
  exact hQ.out _ _ _ _ _ _ _ _ _ _ _ _ _ _ _ _ _ _ _ _ _ _ _ _ _ _ _ _ _ _ _ _ _ _ _ _ _ _ _ _ _ _ _ _ _ _ _ _ _ _ _ _ _ _ _ _ _ _ _ _ _ _ _ _ _ _ _ _ _ _ _ _ _ _ _ _ _ _ _ _ _ _ _ _ _ _ _ _ _ _ _ _ _ _ _ _ _ _ _ _ _ _ _ _ _ _ _ _ _ _ _ _ _ _ _ _ _ _ _ _ _ _ _ _ _ _ _ _ _ _ _ _ _ _ _ _ u12 _ u14 u15 u16 _ w8 (R8.li (by have := congrArg List.length e1.out; have := hFL.out; simp at *; omega))
end Go.Proofs.YbulkzmgFmt.Sc
