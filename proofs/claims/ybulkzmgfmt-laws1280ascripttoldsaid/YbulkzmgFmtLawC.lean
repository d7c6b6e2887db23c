import Derived.Test.YbulkzmgFmtLawB
import Derived.Deep.CutRange
namespace Go.Proofs.YbulkzmgFmt.Sc
open Go.RowKit Go.Extern.Stop Go.Stop Go.Extern
set_option linter.unusedVariables false
set_option linter.unusedSimpArgs false

/-- No type among the first n is the eighth. -/
def okN (ka : Nat → Nat) : Nat → Bool
  | 0 => true
  | n + 1 => okN ka n && decide (ka n < 7)
/-- Loop 4: the first i arguments are laid. -/
structure Inv4 (w : World) (p gb tb al : Nat) (ka : Nat → Nat) (i : Nat) (wx : World) : Prop where
  kc : KC (fun x _ => x = gb ∨ x = tb) w wx
  size : wx.heap.size = w.heap.size
  sg : Sh wx gb 9 al
  st : Sh wx tb 34 al
  ag : ∀ j, j < i → wx.cell? ⟨gb, 0 + j, none⟩ = some (.string (tyN (ka j)))
  at_ : ∀ j, j < i → ka j < 7 → wx.cell? ⟨tb, j, none⟩ = some (.pointer (some ⟨p + 9 + ka j, 0, none⟩))
theorem Inv4.step {w : World} {p gb tb al : Nat} {ka : Nat → Nat} {i : Nat} {wx : World} (I : Inv4 w p gb tb al ka i wx) (hi : i < al) (hgt : gb ≠ tb) (hk : ka i < 8) :
    (ka i < 7 → Inv4 w p gb tb al ka (i + 1) ((wx.setCell ⟨gb, i, none⟩ (.string (tyN (ka i)))).setCell ⟨tb, i, none⟩ (.pointer (some ⟨p + 9 + ka i, 0, none⟩)))) ∧ (¬ ka i < 7 → Inv4 w p gb tb al ka (i + 1) (wx.setCell ⟨gb, i, none⟩ (.string (tyN (ka i))))) := by
  obtain ⟨ug, hug⟩ := I.sg.some (i := i) hi
  obtain ⟨ut, hut⟩ := I.st.some (i := i) hi
  have k1 : KC (fun x y => x = gb ∧ y = i) wx (wx.setCell ⟨gb, i, none⟩ (.string (tyN (ka i)))) := KC.set1 _ _ _ _ ⟨rfl, rfl⟩
  have c1 : (wx.setCell ⟨gb, i, none⟩ (.string (tyN (ka i)))).cell? ⟨gb, i, none⟩ = some (.string (tyN (ka i))) := World.cell?_setCell_same _ _ _ hug
  constructor
  · intro h7
    have k2 : KC (fun x y => x = tb ∧ y = i) (wx.setCell ⟨gb, i, none⟩ (.string (tyN (ka i)))) ((wx.setCell ⟨gb, i, none⟩ (.string (tyN (ka i)))).setCell ⟨tb, i, none⟩ (.pointer (some ⟨p + 9 + ka i, 0, none⟩))) := KC.set1 _ _ _ _ ⟨rfl, rfl⟩
    refine ⟨(I.kc.set (.inl rfl) _).set (.inr rfl) _, by simp [I.size], (I.sg.setCell _ _).setCell _ _, (I.st.setCell _ _).setCell _ _, fun j hj => ?_, fun j hj hj7 => ?_⟩
    · refine k2.cell _ _ _ (fun q => hgt q.1) ?_
      by_cases e : j = i
      · subst e; rw [Nat.zero_add]; exact c1
      · exact k1.cell _ _ _ (fun q => by have := q.2; omega) (I.ag j (by omega))
    · by_cases e : j = i
      · subst e
        exact World.cell?_setCell_same _ _ _ (k1.cell _ _ _ (fun q => hgt q.1.symm) hut)
      · exact k2.cell _ _ _ (fun q => e q.2) (k1.cell _ _ _ (fun q => e q.2) (I.at_ j (by omega) hj7))
  · intro h7
    refine ⟨I.kc.set (.inl rfl) _, by simp [I.size], I.sg.setCell _ _, I.st.setCell _ _, fun j hj => ?_, fun j hj hj7 => ?_⟩
    · by_cases e : j = i
      · subst e; rw [Nat.zero_add]; exact c1
      · exact k1.cell _ _ _ (fun q => by have := q.2; omega) (I.ag j (by omega))
    · by_cases e : j = i
      · subst e; exact absurd hj7 h7
      · exact k1.cell _ _ _ (fun q => e q.2) (I.at_ j (by omega) hj7)
set_option maxRecDepth 1000000 in
set_option maxHeartbeats 6400000 in
theorem pL (p lb gb tb al ac : Nat) (aa : Option Addr) (ok0 : Bool) (d ka : Nat → Nat) (w : World) (x0 x1 x2 x3 x4 x5 x6 x8 x10 x11 x12 x13 x14 x15 x16 x17 x18 x20 x21 x22 x27 x28 x29 x30 x31 x32 x33 x34 x35 x36 x37 x38 x39 x40 x41 x42 x43 x44 x45 x46 x47 x48 x49 x50 x51 x52 x53 x54 x55 x56 x57 x58 x59 x60 x61 x62 x63 x64 x65 x66 x67 x68 x69 x70 x71 x72 x73 x74 x75 x76 x77 x78 x79 x80 x81 x82 x83 x84 x85 x86 x87 x88 x89 x90 x91 x92 x93 x94 x95 x96 x97 x98 x99 x100 x101 x102 x103 x104 x105 x106 x107 x108 x109 x110 x111 x112 x113 x114 x115 x116 x117 x118 x119 x120 x121 x122 x123 x124 x125 x126 x127 x128 x129 x130 x131 x132 x133 x134 x135 x136 x137 x138 x139 x140 x141 x142 x143 x144 x145 x146 x147 x148 x149 x150 x151 x152 x153 x154 x155 x156 x157 x158 x159 x160 x161 x162 x163 x164 x165 x166 x167 x168 x169 x170 x171 x172 x173 x174 x175 x176 x177 x178 x179 x180 x181 x182 x183 x184 x185 x186 x187 x188 x189 x190 x191 x192 x193 x194 x195 x196 x197 x198 x199 x200 x201 x202 x203 x204 x205 x206 x207 x208 x209 x210 x211 x212 x213 x214 x215 x216 x217 x218 x219 x220 x221 x222 x223 x224 x225 x226 x227 x228 x229 x230 x231 x232 x233 x234 x235 x236 x237 x238 x239 x240 x241 x242 x243 x244 x245 x246 x247 x248 x249 x250 x251 x252 x253 x254 x255 x256 x257 x258 x259 x260 x261 x262 x263 x264 x265 x266 x267 x268 x269 x270 x271 x272 x273 x274 x275 x276 x277 x278 x279 x280 x281 x282 x283 x284 x285 x286 x287 x288 x289 x290 x291 x292 x293 x294 x295 x296 x297 x298 x299 x300 x301 x302 x303 x304 x305 x306 x307 x308 x309 x310 x311 x312 x313 x314 x315 x316 x317 x318 x319 x320 x321 x322 x323 x324 x325 x326 x327 x328 x329 x330 x331 x332 x333 x334 x335 x336 x337 x338 x339 x340 x341 x342 x343 x344 x345 x346 x347 x348 x349 x350 x351 x352 x353 x354 x355 x356 x357 x358 x359 x360 x361 x362 x363 x364 x365 x366 x367 x368 x369 x370 x371 x372 x373 x374 x375 x376 x377 : Value) (K : Act → World → Prop) (Q : Exit → Act → World → Prop)
    (hgt : gb ≠ tb) (hal : al ≤ 256) (c2 : w.cell? ⟨lb, 2, none⟩ = some (.slice aa al ac)) (hA : 0 < al → ∃ x y, aa = some ⟨x, y, none⟩ ∧ ∀ j, j < al → w.cell? ⟨x, y + j, none⟩ = some (.int .u8 (d j : Nat)) ∧ d j ≤ 255 ∧ x ≠ gb ∧ x ≠ tb)
    (hka : ∀ j, d j % 8 = ka j) (t28 : ∀ k, k < 8 → w.cell? ⟨p + 1 + 1, k, none⟩ = some (.string (tyN k))) (da : ∀ k, k < 7 → w.cell? ⟨p + 7 + 1, k, none⟩ = some (.pointer (some ⟨p + 9 + k, 0, none⟩)))
    (hg : p + 1 + 1 ≠ gb ∧ p + 1 + 1 ≠ tb ∧ p + 7 + 1 ≠ gb ∧ p + 7 + 1 ≠ tb) (I0 : Inv4 w p gb tb al ka 0 w)
    (hK : ∀ (y27 y28 y29 y139 y140 y141 y142 y143 y144 y145 y146 y147 y148 y149 y150 y151 y152 y153 y154 y155 y156 y157 y158 y159 y160 y161 y162 y163 y164 y165 y166 y167 y168 y169 y170 y171 y172 y173 : Value) (w' : World), Inv4 w p gb tb al ka al w' → K ⟨#[x0, x1, x2, x3, x4, x5, x6, .pointer (some ⟨p + 1 + 1, 0, none⟩), x8, .pointer (some ⟨p + 7 + 1, 0, none⟩), x10, x11, x12, x13, x14, x15, x16, x17, x18, .pointer (some ⟨lb, 0, none⟩), x20, x21, x22, .slice (some ⟨gb, 0, none⟩) al al, .slice (some ⟨tb, 0, none⟩) al al, .bool (ok0 && okN ka al), .string (jn ka al), y27, y28, y29, x30, x31, x32, x33, x34, x35, x36, x37, x38, x39, x40, x41, x42, x43, x44, x45, x46, x47, x48, x49, x50, x51, x52, x53, x54, x55, x56, x57, x58, x59, x60, x61, x62, x63, x64, x65, x66, x67, x68, x69, x70, x71, x72, x73, x74, x75, x76, x77, x78, x79, x80, x81, x82, x83, x84, x85, x86, x87, x88, x89, x90, x91, x92, x93, x94, x95, x96, x97, x98, x99, x100, x101, x102, x103, x104, x105, x106, x107, x108, x109, x110, x111, x112, x113, x114, x115, x116, x117, x118, x119, x120, x121, x122, x123, x124, x125, x126, x127, x128, x129, x130, x131, x132, x133, x134, x135, x136, x137, x138, y139, y140, y141, y142, y143, y144, y145, y146, y147, y148, y149, y150, y151, y152, y153, y154, y155, y156, y157, y158, y159, y160, y161, y162, y163, y164, y165, y166, y167, y168, y169, y170, y171, y172, y173, x174, x175, x176, x177, x178, x179, x180, x181, x182, x183, x184, x185, x186, x187, x188, x189, x190, x191, x192, x193, x194, x195, x196, x197, x198, x199, x200, x201, x202, x203, x204, x205, x206, x207, x208, x209, x210, x211, x212, x213, x214, x215, x216, x217, x218, x219, x220, x221, x222, x223, x224, x225, x226, x227, x228, x229, x230, x231, x232, x233, x234, x235, x236, x237, x238, x239, x240, x241, x242, x243, x244, x245, x246, x247, x248, x249, x250, x251, x252, x253, x254, x255, x256, x257, x258, x259, x260, x261, x262, x263, x264, x265, x266, x267, x268, x269, x270, x271, x272, x273, x274, x275, x276, x277, x278, x279, x280, x281, x282, x283, x284, x285, x286, x287, x288, x289, x290, x291, x292, x293, x294, x295, x296, x297, x298, x299, x300, x301, x302, x303, x304, x305, x306, x307, x308, x309, x310, x311, x312, x313, x314, x315, x316, x317, x318, x319, x320, x321, x322, x323, x324, x325, x326, x327, x328, x329, x330, x331, x332, x333, x334, x335, x336, x337, x338, x339, x340, x341, x342, x343, x344, x345, x346, x347, x348, x349, x350, x351, x352, x353, x354, x355, x356, x357, x358, x359, x360, x361, x362, x363, x364, x365, x366, x367, x368, x369, x370, x371, x372, x373, x374, x375, x376, x377], []⟩ w') :
    Code.wp Ybaf.prog (st Ybaf.f3.body 8) (Exit.then K Q) ⟨#[x0, x1, x2, x3, x4, x5, x6, .pointer (some ⟨p + 1 + 1, 0, none⟩), x8, .pointer (some ⟨p + 7 + 1, 0, none⟩), x10, x11, x12, x13, x14, x15, x16, x17, x18, .pointer (some ⟨lb, 0, none⟩), x20, x21, x22, .slice (some ⟨gb, 0, none⟩) al al, .slice (some ⟨tb, 0, none⟩) al al, .bool ok0, .string ⟨#[]⟩, x27, x28, x29, x30, x31, x32, x33, x34, x35, x36, x37, x38, x39, x40, x41, x42, x43, x44, x45, x46, x47, x48, x49, x50, x51, x52, x53, x54, x55, x56, x57, x58, x59, x60, x61, x62, x63, x64, x65, x66, x67, x68, x69, x70, x71, x72, x73, x74, x75, x76, x77, x78, x79, x80, x81, x82, x83, x84, x85, x86, x87, x88, x89, x90, x91, x92, x93, x94, x95, x96, x97, x98, x99, x100, x101, x102, x103, x104, x105, x106, x107, x108, x109, x110, x111, x112, x113, x114, x115, x116, x117, x118, x119, x120, x121, x122, x123, x124, x125, x126, x127, x128, x129, x130, x131, x132, x133, x134, x135, x136, x137, x138, x139, x140, x141, x142, x143, x144, x145, x146, x147, x148, x149, x150, x151, x152, x153, x154, x155, x156, x157, x158, x159, x160, x161, x162, x163, x164, x165, x166, x167, x168, x169, x170, x171, x172, x173, x174, x175, x176, x177, x178, x179, x180, x181, x182, x183, x184, x185, x186, x187, x188, x189, x190, x191, x192, x193, x194, x195, x196, x197, x198, x199, x200, x201, x202, x203, x204, x205, x206, x207, x208, x209, x210, x211, x212, x213, x214, x215, x216, x217, x218, x219, x220, x221, x222, x223, x224, x225, x226, x227, x228, x229, x230, x231, x232, x233, x234, x235, x236, x237, x238, x239, x240, x241, x242, x243, x244, x245, x246, x247, x248, x249, x250, x251, x252, x253, x254, x255, x256, x257, x258, x259, x260, x261, x262, x263, x264, x265, x266, x267, x268, x269, x270, x271, x272, x273, x274, x275, x276, x277, x278, x279, x280, x281, x282, x283, x284, x285, x286, x287, x288, x289, x290, x291, x292, x293, x294, x295, x296, x297, x298, x299, x300, x301, x302, x303, x304, x305, x306, x307, x308, x309, x310, x311, x312, x313, x314, x315, x316, x317, x318, x319, x320, x321, x322, x323, x324, x325, x326, x327, x328, x329, x330, x331, x332, x333, x334, x335, x336, x337, x338, x339, x340, x341, x342, x343, x344, x345, x346, x347, x348, x349, x350, x351, x352, x353, x354, x355, x356, x357, x358, x359, x360, x361, x362, x363, x364, x365, x366, x367, x368, x369, x370, x371, x372, x373, x374, x375, x376, x377], []⟩ w := by
  conv => arg 2; whnf
  replace hK := toHid hK
  replace hA := toHid hA
  replace hka := toHid hka
  replace t28 := toHid t28
  replace da := toHid da
  replace hg := toHid hg
  replace I0 := toHid I0
  go_wp2
  go_loopw [25, 26, 142] (fun v25 v26 v wx => ∃ i : Nat, v = .int .i64 i ∧ i ≤ al ∧ v25 = .bool (ok0 && okN ka i) ∧ v26 = .string (jn ka i) ∧ Inv4 w p gb tb al ka i wx) (fun _ _ v _ => al - (intOf v).toNat)
  case atStart => exact ⟨0, rfl, by omega, by simp [okN], rfl, I0.out⟩
  case round =>
    clear I0
    obtain ⟨i, rfl, hi, rfl, rfl, I⟩ := hrel
    by_cases hlt : i < al
    · obtain ⟨x, y, rfl, hc⟩ := hA.out (by omega)
      obtain ⟨hci, hd, hx1, hx2⟩ := hc i hlt
      have cD := I.kc.cell _ _ _ (fun q => by rcases q with q | q <;> omega) hci
      have hk8 : ka i < 8 := by rw [← hka.out i]; omega
      have ek : (d i : Int) % 8 = ((ka i : Nat) : Int) := by rw [← hka.out i]; omega
      obtain ⟨g1, g2, g3, g4⟩ := hg.out
      have cT := I.kc.cell _ _ _ (fun q => by rcases q with q | q <;> omega) (t28.out (ka i) hk8)
      obtain ⟨ug, hug⟩ := I.sg.some (i := i) hlt
      obtain ⟨ut, hut⟩ := I.st.some (i := i) hlt
      have fzg := I.sg.frozen i
      have fzt := I.st.frozen i
      have ltg := I.sg.lt
      have ltt := I.st.lt
      have lt28 := block_lt_of_cell cT
      have hst := toHid (I.step hlt hgt hk8)
      have ejn : Hid (jn ka (i + 1) = (if i = 0 then jn ka i else jn ka i ++ ⟨#[44, 32]⟩) ++ tyN (ka i)) := rfl
      have eok : Hid (okN ka (i + 1) = (okN ka i && decide (ka i < 7))) := rfl
      have cDa : ka i < 7 → wr.cell? ⟨p + 7 + 1, ka i, none⟩ = some (.pointer (some ⟨p + 9 + ka i, 0, none⟩)) := fun h7 => I.kc.cell _ _ _ (fun q => by rcases q with q | q <;> omega) (da.out (ka i) h7)
      replace I := toHid I
      clear hc hci hA hg
      have hjs : (jn ka i).size ≤ 2400 := Nat.le_trans (jn_size ka i) (by omega)
      have hts : (tyN (ka i)).size ≤ 7 := tyN_size (ka i)
      generalize tyN (ka i) = ty at *
      generalize jn ka i = jl at *
      generalize okN ka i = okl at *
      generalize hkk : ka i = kk at *
      by_cases h7 : kk < 7
      · replace cDa := cDa h7
        have lt50 := block_lt_of_cell cDa
        have hne7 : (kk : Int) ≠ 7 := by omega
        by_cases h0 : i = 0
        · subst h0
          simp only [Nat.add_zero] at cD
          go_wp2
          go_round
          case rel => exact ⟨1, rfl, by omega, by rw [eok.out]; simp [h7], by rw [ejn.out]; rfl, hst.out.1 h7⟩
          case measure => simp [intOf]; omega
        · have h0' : 0 < i := by omega
          have ejn2 : Hid (jn ka (i + 1) = jl ++ ⟨#[44, 32]⟩ ++ ty) := ejn.out.trans (by rw [if_neg h0])
          clear h0 ejn
          go_wp2
          go_round
          case rel => exact ⟨i + 1, rfl, by omega, by rw [eok.out]; simp [h7], by rw [ejn2.out], hst.out.1 h7⟩
          case measure => simp [intOf]; omega
      · have hkk7 : kk = 7 := by omega
        clear cDa hk8
        subst hkk7
        by_cases h0 : i = 0
        · subst h0
          simp only [Nat.add_zero] at cD
          go_wp2
          go_round
          case rel => exact ⟨1, rfl, by omega, by rw [eok.out]; simp, by rw [ejn.out]; rfl, hst.out.2 h7⟩
          case measure => simp [intOf]; omega
        · have h0' : 0 < i := by omega
          have ejn2 : Hid (jn ka (i + 1) = jl ++ ⟨#[44, 32]⟩ ++ ty) := ejn.out.trans (by rw [if_neg h0])
          clear h0 ejn
          go_wp2
          go_round
          case rel => exact ⟨i + 1, rfl, by omega, by rw [eok.out]; simp, by rw [ejn2.out], hst.out.2 h7⟩
          case measure => simp [intOf]; omega
    · have hin : al = i := by omega
      subst hin
      replace I := toHid I
      go_wp2
      apply hK.out
      exact I.out
end Go.Proofs.YbulkzmgFmt.Sc
