import Derived.Test.YbulktjyDoorExp
import Derived.Deep.DeepCutAuto
import Derived.Deep.CutBlock
import Derived.Deep.LoopGhost
namespace Go.Proofs.YbulktjyDoor
open Go.RowKit

theorem grow_trans {a b c : World} (h : a.grownBy b none) (k : b.grownBy c none) : a.grownBy c none :=
  ⟨k.os.trans h.os, k.tape.trans h.tape, k.output.trans h.output, Nat.le_trans h.size k.size, fun i hi _ => (k.block i (Nat.lt_of_lt_of_le hi h.size) (by simp)).trans (h.block i hi (by simp))⟩

theorem grow_new {a b c : World} {j : Nat} (h : a.grownBy b none) (k : b.grownBy c (some j)) (hj : a.heap.size ≤ j) : a.grownBy c none :=
  ⟨k.os.trans h.os, k.tape.trans h.tape, k.output.trans h.output, Nat.le_trans h.size k.size, fun i hi _ => (k.block i (Nat.lt_of_lt_of_le hi h.size) (by intro e; simp at e; omega)).trans (h.block i hi (by simp))⟩

theorem grow_refl (w : World) : w.grownBy w none := ⟨rfl, rfl, rfl, Nat.le_refl _, fun _ _ _ => rfl⟩

set_option maxRecDepth 100000 in
set_option maxHeartbeats 4000000 in
theorem tail1 (d : SD) {N E A : Nat} {fst cnt ch nd : Nat → Nat} (k : Holds d N E A fst cnt ch nd) (w wF : World) (base sb gx gw n cw Ns cap : Nat) (ao : Option Addr) (sa : Nat → Nat) (an : Value) (ns : Int) (hsa : ∀ i, i < Ns → sa i < A) (hNs : Ns ≤ 256) (hn : 11 ≤ n) (hs : Stat wF d) (ha : Anch wF ao Ns sa)
    (hI : SInv wF sb base an (.slice (some ⟨gx, 0, none⟩) 0 2) ns gw n cw (allTo ch fst cnt (fun i => nd (sa i)) Ns ([], fun _ => -1))) (hsF : base ≤ wF.heap.size) (hB : Below base w wF) (x0 x1 x2 x3 x4 x5 x6 x7 x8 x9 x10 x11 x12 x13 x14 x16 x18 x19 x21 x22 x23 x24 x25 x26 x29 x30 x31 x32 x33 x34 x35 x36 x37 x38 x39 x40 x41 x42 x43 x44 x45 x46 x47 x48 x49 x50 x51 x52 x53 x54 x55 x56 x57 x58 x59 x60 x61 x62 x63 x64 x65 x66 x67 x68 x69 x70 x71 x72 x73 x74 x75 x76 x77 x78 x79 x80 x81 x82 x83 x84 x85 x86 x87 x88 x89 x90 x91 x92 x93 x94 x95 x96 x97 x98 x99 x100 x101 x102 x103 x104 x105 x106 x107 x108 x109 x110 x111 x112 x113 x114 x115 x116 x117 x118 x119 x120 x121 x122 x123 x124 x125 x126 x127 x128 x129 x130 x131 x132 x133 x134 x135 x136 x137 x138 x139 x140 x141 x142 x143 x144 x145 x146 x147 x148 x149 x150 x151 x152 x153 x154 x155 x156 x157 x158 x159 x160 x161 x162 x163 x164 x165 x166 x167 x168 x169 x170 x171 x172 x173 x174 x175 x176 x177 x178 x179 x180 x181 x182 x183 x184 x185 x186 x187 x188 x189 x190 x191 x192 x193 x194 x195 x196 x197 x198 x199 x200 x201 x202 x203 x204 x205 x206 x207 x208 x209 x210 x211 x212 x213 x214 x215 x216 x217 x218 x219 x220 x221 x222 x223 x224 x225 x226 x227 x228 x229 x230 x231 x232 x233 x234 x235 x236 x237 x238 x239 x240 x241 x242 x243 x244 x245 x246 x247 x248 x249 x250 x251 x252 x253 x254 x255 x256 x257 x258 x259 x260 x261 x262 x263 x264 x265 x266 x267 x268 x269 x270 x271 x272 x273 x274 x275 x276 x277 x278 x279 x280 x281 x282 x283 x284 x285 x286 x287 x288 x289 x290 x291 x292 x293 x294 x295 x296 x297 x298 x299 x300 x301 x302 x303 x304 x305 x306 x307 x308 x309 x310 x311 x312 x313 x314 x315 x316 x317 x318 x319 x320 x321 x322 x323 x324 x325 x326 x327 x328 x329 x330 x331 x332 x333 x334 x335 x336 x337 x338 x339 x340 x341 x342 x343 x344 x345 x346 x347 x348 x349 x350 x351 x352 x353 : Value) :
    Code.wp Ybad.prog (dropSeq 20 (Ybad.f3.body.getD .skip)) (bodyPost Ybad.prog Ybad.f3 fun e w' => e = .returned (.bool true) ∧ Below base w w') { tmps := #[x0, x1, x2, x3, x4, x5, x6, x7, x8, x9, x10, x11, x12, x13, x14, (.pointer (some ⟨d.tb, 0, none⟩)), x16, (.pointer (some ⟨d.lb, 0, none⟩)), x18, x19, (.slice ao Ns cap), x21, x22, x23, x24, x25, x26, (.pointer (some ⟨sb, 0, none⟩)), (.int .u32 ns), x29, x30, x31, x32, x33, x34, x35, x36, x37, x38, x39, x40, x41, x42, x43, x44, x45, x46, x47, x48, x49, x50, x51, x52, x53, x54, x55, x56, x57, x58, x59, x60, x61, x62, x63, x64, x65, x66, x67, x68, x69, x70, x71, x72, x73, x74, x75, x76, x77, x78, x79, x80, x81, x82, x83, x84, x85, x86, x87, x88, x89, x90, x91, x92, x93, x94, x95, x96, x97, x98, x99, x100, x101, x102, x103, x104, x105, x106, x107, x108, x109, x110, x111, x112, x113, x114, x115, x116, x117, x118, x119, x120, x121, x122, x123, x124, x125, x126, x127, x128, x129, x130, x131, x132, x133, x134, x135, x136, x137, x138, x139, x140, x141, x142, x143, x144, x145, x146, x147, x148, x149, x150, x151, x152, x153, x154, x155, x156, x157, x158, x159, x160, x161, x162, x163, x164, x165, x166, x167, x168, x169, x170, x171, x172, x173, x174, x175, x176, x177, x178, x179, x180, x181, x182, x183, x184, x185, x186, x187, x188, x189, x190, x191, x192, x193, x194, x195, x196, x197, x198, x199, x200, x201, x202, x203, x204, x205, x206, x207, x208, x209, x210, x211, x212, x213, x214, x215, x216, x217, x218, x219, x220, x221, x222, x223, x224, x225, x226, x227, x228, x229, x230, x231, x232, x233, x234, x235, x236, x237, x238, x239, x240, x241, x242, x243, x244, x245, x246, x247, x248, x249, x250, x251, x252, x253, x254, x255, x256, x257, x258, x259, x260, x261, x262, x263, x264, x265, x266, x267, x268, x269, x270, x271, x272, x273, x274, x275, x276, x277, x278, x279, x280, x281, x282, x283, x284, x285, x286, x287, x288, x289, x290, x291, x292, x293, x294, x295, x296, x297, x298, x299, x300, x301, x302, x303, x304, x305, x306, x307, x308, x309, x310, x311, x312, x313, x314, x315, x316, x317, x318, x319, x320, x321, x322, x323, x324, x325, x326, x327, x328, x329, x330, x331, x332, x333, x334, x335, x336, x337, x338, x339, x340, x341, x342, x343, x344, x345, x346, x347, x348, x349, x350, x351, x352, x353], defers := [] } wF := by
  conv => arg 2; simp only [Ybad.f3, Option.getD_some, dropSeq]
  have HS := hide (And.intro hs (And.intro ha (And.intro hI hB)))
  have HK := hide k
  clear hs ha hI hB k
  go_upto_block 8 with fail
  obtain ⟨wG, hwG⟩ : ∃ wG : World, wG = wF.alloc (.cells #[.int .i32 0, .int .i32 0, .int .i32 0, .int .i32 0, .int .i32 0, .int .i32 0, .int .i32 0, .int .i32 0, .int .i32 0, .int .i32 0, .int .i32 0] 86) := ⟨_, rfl⟩
  rw [← hwG]
  have HG := hide (show wF.grownBy wG none ∧ wG.heap[wF.heap.size]? = some (.cells #[.int .i32 0, .int .i32 0, .int .i32 0, .int .i32 0, .int .i32 0, .int .i32 0, .int .i32 0, .int .i32 0, .int .i32 0, .int .i32 0, .int .i32 0] 86 (0, 0)) from by
    rw [hwG]
    exact ⟨World.grownBy_alloc wF _ none, heap_alloc_new wF _⟩)
  clear hwG
  go_cut [30] (fun _ wx => Hid (∃ cs, wF.grownBy wx none ∧ wx.heap[wF.heap.size]? = some (.cells cs 86 (0, 0)) ∧ LastC cs 11 (fun _ => -1)))
  case first =>
    --B 6
    go_wp2_with fail
    go_loopg [180] 11 (fun g u wr => ∃ i : Nat, i ≤ 11 ∧ g = 11 - i ∧ u = .int .i64 (i : Int) ∧ Hid (∃ cs, wF.grownBy wr none ∧ wr.heap[wF.heap.size]? = some (.cells cs 86 (0, 0)) ∧ LastC cs i (fun _ => -1)))
    case atStart => exact ⟨0, Nat.zero_le _, rfl, rfl, _, HG.out.1, HG.out.2, rfl, fun k hk => by omega⟩
    case round =>
      obtain ⟨i, hi, rfl, rfl, HI⟩ := hrel
      by_cases hin : i < 11
      · obtain ⟨cs', hg, hh, hL⟩ := HI.out
        have z0 : wr.cell? ⟨wF.heap.size, i, none⟩ = some (cs'[i]'(by rw [hL.1]; exact hin)) := by rw [cell_of_row wr _ _ _ 86 (0, 0) hh]; exact Array.getElem?_eq_getElem _
        have zf : wr.frozen? ⟨wF.heap.size, i, none⟩ = false := frozen_of_row wr _ _ _ 86 hh
        generalize cs'[i]'(by rw [hL.1]; exact hin) = vz at z0
        have HT := hide (And.intro hg (And.intro hh hL))
        clear HI hg hh hL
        go_wp2_with fail
        go_roundg (11 - (i + 1))
        case measure => omega
        case rel => exact ⟨i + 1, hin, rfl, by go_num, _, grow_new HT.out.1 (grownBy_setCell _ _ _) (Nat.le_refl _), heap_setCell_same wr wF.heap.size i _ 86 _ HT.out.2.1, HT.out.2.2.set hin rfl⟩
      · obtain rfl : i = 11 := by omega
        go_wp2_with fail
        go_meet
        case rel => exact HI.out
    --E 6
  case rest =>
    obtain ⟨cs', hg, hC, hc⟩ := hcut.out
    have hfr := (StFrame.refl base wF).grown hg hsF (by simp)
    refine (‹∀ (a : Act) (w : World), Code.wp Ybad.prog _ _ a w → _› : ∀ (a : Act) (w : World), Code.wp Ybad.prog _ _ a w → _) _ _ ?_
    exact tail2 d HK.out w wc base sb wF.heap.size gx gw n cw Ns cap ao sa an ns cs' hsa hNs hn (HS.out.1.kept hfr) (HS.out.2.1.kept hfr) (HS.out.2.2.1.none hg) hC hc hsF (Nat.le_trans hsF hg.size) (HS.out.2.2.2.grown hg hsF (by simp)) _ _ _ _ _ _ _ _ _ _ _ _ _ _ _ _ _ _ _ _ _ _ _ _ _ _ _ _ _ _ _ _ _ _ _ _ _ _ _ _ _ _ _ _ _ _ _ _ _ _ _ _ _ _ _ _ _ _ _ _ _ _ _ _ _ _ _ _ _ _ _ _ _ _ _ _ _ _ _ _ _ _ _ _ _ _ _ _ _ _ _ _ _ _ _ _ _ _ _ _ _ _ _ _ _ _ _ _ _ _ _ _ _ _ _ _ _ _ _ _ _ _ _ _ _ _ _ _ _ _ _ _ _ _ _ _ _ _ _ _ _ _ _ _ _ _ _ _ _ _ _ _ _ _ _ _ _ _ _ _ _ _ _ _ _ _ _ _ _ _ _ _ _ _ _ _ _ _ _ _ _ _ _ _ _ _ _ _ _ _ _ _ _ _ _ _ _ _ _ _ _ _ _ _ _ _ _ _ _ _ _ _ _ _ _ _ _ _ _ _ _ _ _ _ _ _ _ _ _ _ _ _ _ _ _ _ _ _ _ _ _ _ _ _ _ _ _ _ _ _ _ _ _ _ _ _ _ _ _ _ _ _ _ _ _ _ _ _ _ _ _ _ _ _ _ _ _ _ _ _ _ _ _ _ _ _ _ _ _ _ _ _ _ _ _ _ _ _ _ _ _ _ _ _ _ _ _ _ _ _ _ _ _ _ _ _ _ _ _ _ _ _ _ _ _ _ _ _ _ _ _ _ _ _ _ _ _ _ _ _ _ _ _ _ _ _ _ _
end Go.Proofs.YbulktjyDoor
