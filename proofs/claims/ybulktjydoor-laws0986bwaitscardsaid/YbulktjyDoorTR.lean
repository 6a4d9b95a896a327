import Derived.Test.YbulktjyDoorT1
import Derived.Deep.DeepCutAuto
import Derived.Deep.CutBlock
import Derived.Deep.LoopGhost
namespace Go.Proofs.YbulktjyDoor
open Go.RowKit

theorem two_alloc (w : World) (a b : Obj) : ((w.alloc a).alloc b).heap[w.heap.size]? = some a ∧ ((w.alloc a).alloc b).heap[w.heap.size + 1]? = some b := by
  have s1 : (w.alloc a).heap.size = w.heap.size + 1 := by simp
  refine ⟨?_, ?_⟩
  · rw [Below.heap_alloc _ _ _ (by omega)]; exact heap_alloc_new w a
  · rw [← s1]; exact heap_alloc_new _ b

set_option maxRecDepth 100000 in
set_option maxHeartbeats 4000000 in
theorem tailR (d : SD) {N E A : Nat} {fst cnt ch nd : Nat → Nat} (k : Holds d N E A fst cnt ch nd) (w wD : World) (base gw nw Ns cap m cap2 : Nat) (ao ao2 : Option Addr) (sa : Nat → Nat) (old : Int) (xw zw : List Value) (hsa : ∀ i, i < Ns → sa i < A) (hNs : Ns ≤ 256) (hnw14 : nw < 14) (h0 : 0 ≤ old) (h1 : old ≤ 4294967295) (hbw : base ≤ w.heap.size) (hbD : base ≤ wD.heap.size)
    (hs : Stat wD d) (hB : Below base w wD) (ha : Anch wD ao Ns sa) (ho : wD.ownsRow base 69 4 (.slice (some ⟨gw, 0, none⟩) nw nw) nw xw) (he : ∀ k, k < nw → ∃ hd, EntAt xw k old hd) (hz : wD.ownsRow base 72 2 (.slice ao2 m cap2) m zw) (x0 x1 x2 x3 x5 x6 x7 x8 x9 x10 x11 x12 x13 x14 x16 x18 x19 x21 x22 x24 x26 x27 x28 x29 x30 x31 x32 x33 x34 x35 x36 x37 x38 x39 x40 x41 x42 x43 x44 x45 x46 x47 x48 x49 x50 x51 x52 x53 x54 x55 x56 x57 x58 x59 x60 x61 x62 x63 x64 x65 x66 x67 x68 x69 x70 x71 x72 x73 x74 x75 x76 x77 x78 x79 x80 x81 x82 x83 x84 x85 x86 x87 x88 x89 x90 x91 x92 x93 x94 x95 x96 x97 x98 x99 x100 x101 x102 x103 x104 x105 x106 x107 x108 x109 x110 x111 x112 x113 x114 x115 x116 x117 x118 x119 x120 x121 x122 x123 x124 x125 x126 x127 x128 x129 x130 x131 x132 x133 x134 x135 x136 x137 x138 x139 x140 x141 x142 x143 x144 x145 x146 x147 x148 x149 x150 x151 x152 x153 x154 x155 x156 x157 x158 x159 x160 x161 x162 x163 x164 x165 x166 x167 x168 x169 x170 x171 x172 x173 x174 x175 x176 x177 x178 x179 x180 x181 x182 x183 x184 x185 x186 x187 x188 x189 x190 x191 x192 x193 x194 x195 x196 x197 x198 x199 x200 x201 x202 x203 x204 x205 x206 x207 x208 x209 x210 x211 x212 x213 x214 x215 x216 x217 x218 x219 x220 x221 x222 x223 x224 x225 x226 x227 x228 x229 x230 x231 x232 x233 x234 x235 x236 x237 x238 x239 x240 x241 x242 x243 x244 x245 x246 x247 x248 x249 x250 x251 x252 x253 x254 x255 x256 x257 x258 x259 x260 x261 x262 x263 x264 x265 x266 x267 x268 x269 x270 x271 x272 x273 x274 x275 x276 x277 x278 x279 x280 x281 x282 x283 x284 x285 x286 x287 x288 x289 x290 x291 x292 x293 x294 x295 x296 x297 x298 x299 x300 x301 x302 x303 x304 x305 x306 x307 x308 x309 x310 x311 x312 x313 x314 x315 x316 x317 x318 x319 x320 x321 x322 x323 x324 x325 x326 x327 x328 x329 x330 x331 x332 x333 x334 x335 x336 x337 x338 x339 x340 x341 x342 x343 x344 x345 x346 x347 x348 x349 x350 x351 x352 x353 : Value) :
    Code.wp Ybad.prog (dropSeq 16 (Ybad.f3.body.getD .skip)) (bodyPost Ybad.prog Ybad.f3 fun e w' => e = .returned (.bool true) ∧ Below base w w') { tmps := #[x0, x1, x2, x3, (.int .u32 old), x5, x6, x7, x8, x9, x10, x11, x12, x13, x14, (.pointer (some ⟨d.tb, 0, none⟩)), x16, (.pointer (some ⟨d.lb, 0, none⟩)), x18, x19, (.slice ao Ns cap), x21, x22, (.slice (some ⟨gw, 0, none⟩) nw nw), x24, (.slice ao2 m cap2), x26, x27, x28, x29, x30, x31, x32, x33, x34, x35, x36, x37, x38, x39, x40, x41, x42, x43, x44, x45, x46, x47, x48, x49, x50, x51, x52, x53, x54, x55, x56, x57, x58, x59, x60, x61, x62, x63, x64, x65, x66, x67, x68, x69, x70, x71, x72, x73, x74, x75, x76, x77, x78, x79, x80, x81, x82, x83, x84, x85, x86, x87, x88, x89, x90, x91, x92, x93, x94, x95, x96, x97, x98, x99, x100, x101, x102, x103, x104, x105, x106, x107, x108, x109, x110, x111, x112, x113, x114, x115, x116, x117, x118, x119, x120, x121, x122, x123, x124, x125, x126, x127, x128, x129, x130, x131, x132, x133, x134, x135, x136, x137, x138, x139, x140, x141, x142, x143, x144, x145, x146, x147, x148, x149, x150, x151, x152, x153, x154, x155, x156, x157, x158, x159, x160, x161, x162, x163, x164, x165, x166, x167, x168, x169, x170, x171, x172, x173, x174, x175, x176, x177, x178, x179, x180, x181, x182, x183, x184, x185, x186, x187, x188, x189, x190, x191, x192, x193, x194, x195, x196, x197, x198, x199, x200, x201, x202, x203, x204, x205, x206, x207, x208, x209, x210, x211, x212, x213, x214, x215, x216, x217, x218, x219, x220, x221, x222, x223, x224, x225, x226, x227, x228, x229, x230, x231, x232, x233, x234, x235, x236, x237, x238, x239, x240, x241, x242, x243, x244, x245, x246, x247, x248, x249, x250, x251, x252, x253, x254, x255, x256, x257, x258, x259, x260, x261, x262, x263, x264, x265, x266, x267, x268, x269, x270, x271, x272, x273, x274, x275, x276, x277, x278, x279, x280, x281, x282, x283, x284, x285, x286, x287, x288, x289, x290, x291, x292, x293, x294, x295, x296, x297, x298, x299, x300, x301, x302, x303, x304, x305, x306, x307, x308, x309, x310, x311, x312, x313, x314, x315, x316, x317, x318, x319, x320, x321, x322, x323, x324, x325, x326, x327, x328, x329, x330, x331, x332, x333, x334, x335, x336, x337, x338, x339, x340, x341, x342, x343, x344, x345, x346, x347, x348, x349, x350, x351, x352, x353], defers := [] } wD := by
  conv => arg 2; simp only [Ybad.f3, Option.getD_some, dropSeq]
  have HC := hide (And.intro hs (And.intro hB (And.intro ha (And.intro ho (And.intro he hz)))))
  have HK := hide k
  clear hs hB ha ho he hz k
  go_upto_region 34 with fail
  obtain ⟨wE, hwE⟩ : ∃ wE : World, wE = (wD.alloc (.cells #[.int .u32 1, .int .u32 2] 24)).alloc (.cells (rsCells (.slice ao Ns cap) false (.slice (some ⟨wD.heap.size, 0, none⟩) 2 2) (.slice ao2 m cap2) (.slice (some ⟨gw, 0, none⟩) nw nw) old) 84) := ⟨_, rfl⟩
  have HE0 : Stat wE d ∧ Below base w wE ∧ Anch wE ao Ns sa ∧ (∀ i, i < Ns → sa i < A) ∧ RSet wE (wD.heap.size + 1) base (.slice ao Ns cap) (.slice (some ⟨wD.heap.size, 0, none⟩) 2 2) (.slice ao2 m cap2) false old gw nw nw xw ∧ (∀ k, k < nw → ∃ hd, EntAt xw k old hd) ∧ wE.ownsRow base 72 2 (.slice ao2 m cap2) m zw := by
    have hg2 : wD.grownBy wE none := by rw [hwE]; exact grow_trans (World.grownBy_alloc wD _ none) (World.grownBy_alloc _ _ none)
    have hfr := (StFrame.refl base wD).grown hg2 hbD (by simp)
    have hsb := (two_alloc wD (.cells #[.int .u32 1, .int .u32 2] 24) (.cells (rsCells (.slice ao Ns cap) false (.slice (some ⟨wD.heap.size, 0, none⟩) 2 2) (.slice ao2 m cap2) (.slice (some ⟨gw, 0, none⟩) nw nw) old) 84)).2
    rw [← hwE] at hsb
    exact ⟨HC.out.1.kept hfr, HC.out.2.1.grown hg2 hbD (by simp), HC.out.2.2.1.kept hfr, hsa, ⟨hsb, own_none HC.out.2.2.2.1 hg2, by omega⟩, HC.out.2.2.2.2.1, own_none HC.out.2.2.2.2.2 hg2⟩
  have hE := HE0
  clear HE0
  have HE := hide hE
  simp only [rsCells] at hwE
  rw [← hwE]
  clear hE hwE HC
  generalize wD.heap.size + 1 = sb at *
  generalize wD.heap.size = gx at *
  have hsE : base ≤ wE.heap.size := Nat.le_trans hbw HE.out.2.1.size
  go_wp2_with fail
  refine (stream_any d HK.out sb base gw nw nw ao Ns cap gx sa ao2 m cap2 old xw zw HE.out.2.2.2.1 hNs (by omega) wE HE.out.1 HE.out.2.2.1 HE.out.2.2.2.2.1 HE.out.2.2.2.2.2.1 HE.out.2.2.2.2.2.2 hsE h0 h1).mono ?_
  rintro e wF ⟨rfl, gw', n', cw', hn11, hSI, hF⟩
  have HF := hide (And.intro hSI (And.intro (HE.out.1.kept hF) (And.intro (HE.out.2.1.trans hF.below) (And.intro (HE.out.2.2.1.kept hF) HE.out.2.2.2.1))))
  clear hSI hF HE hsE
  go_upto_if 179 with fail
  go_cut [28] (fun s28 wx => s28 = .int .u32 (newStamp old) ∧ wF = wx)
  case first =>
    --B 5
    by_cases ho : old = 4294967295
    · have hz : (old + 1) % 4294967296 = 0 := by omega
      have hns : newStamp old = 1 := by unfold newStamp; rw [if_pos ho]
      go_wp2_with fail
      go_meet
      case rel => exact ⟨by rw [hns], rfl⟩
    · have hz : (old + 1) % 4294967296 = old + 1 := by omega
      have hz0 : (old + 1 == 0) = false := by simp; omega
      have hns : newStamp old = old + 1 := by unfold newStamp; rw [if_neg ho]
      simp only [hz, hz0]
      go_wp2_with fail
      go_meet
      case rel => exact ⟨by rw [hns], rfl⟩
    --E 5
  case rest =>
    obtain ⟨hs28, hwc⟩ := hcut
    subst hs28 hwc
    refine (‹∀ (a : Act) (w : World), Code.wp Ybad.prog _ _ a w → _› : ∀ (a : Act) (w : World), Code.wp Ybad.prog _ _ a w → _) _ _ ?_
    exact tail1 d HK.out w wF base sb gx gw' n' cw' Ns cap ao sa _ _ hsa hNs hn11 HF.out.2.1 HF.out.2.2.2.1 HF.out.1 (Nat.le_trans hbw HF.out.2.2.1.size) HF.out.2.2.1 _ _ _ _ _ _ _ _ _ _ _ _ _ _ _ _ _ _ _ _ _ _ _ _ _ _ _ _ _ _ _ _ _ _ _ _ _ _ _ _ _ _ _ _ _ _ _ _ _ _ _ _ _ _ _ _ _ _ _ _ _ _ _ _ _ _ _ _ _ _ _ _ _ _ _ _ _ _ _ _ _ _ _ _ _ _ _ _ _ _ _ _ _ _ _ _ _ _ _ _ _ _ _ _ _ _ _ _ _ _ _ _ _ _ _ _ _ _ _ _ _ _ _ _ _ _ _ _ _ _ _ _ _ _ _ _ _ _ _ _ _ _ _ _ _ _ _ _ _ _ _ _ _ _ _ _ _ _ _ _ _ _ _ _ _ _ _ _ _ _ _ _ _ _ _ _ _ _ _ _ _ _ _ _ _ _ _ _ _ _ _ _ _ _ _ _ _ _ _ _ _ _ _ _ _ _ _ _ _ _ _ _ _ _ _ _ _ _ _ _ _ _ _ _ _ _ _ _ _ _ _ _ _ _ _ _ _ _ _ _ _ _ _ _ _ _ _ _ _ _ _ _ _ _ _ _ _ _ _ _ _ _ _ _ _ _ _ _ _ _ _ _ _ _ _ _ _ _ _ _ _ _ _ _ _ _ _ _ _ _ _ _ _ _ _ _ _ _ _ _ _ _ _ _ _ _ _ _ _ _ _ _ _ _ _ _ _ _ _ _ _ _ _ _ _ _ _ _ _ _ _ _ _ _ _ _ _ _ _ _ _ _ _ _ _ _ _ _ _
end Go.Proofs.YbulktjyDoor
