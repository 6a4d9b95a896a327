import Derived.Test.YbulktjyDoorTrie
import Derived.Deep.DeepCutAuto
import Derived.Deep.CutBlock
import Derived.Deep.LoopGhost
namespace Go.Proofs.YbulktjyDoor
open Go.RowKit

/-- what is left of a function's text behind its first n statements -/
def dropSeq : Nat → Code → Code
  | 0, c => c
  | n + 1, .seq _ b => dropSeq n b
  | _ + 1, c => c

def LastC (cs : Array Value) (i : Nat) (last : Nat → Int) : Prop := cs.size = 11 ∧ ∀ k, k < i → cs[k]? = some (.int .i32 (last k))
theorem LastC.set {cs : Array Value} {i : Nat} {last : Nat → Int} (h : LastC cs i last) (hi : i < 11) {x : Int} (hx : x = last i) : LastC (cs.setIfInBounds i (.int .i32 x)) (i + 1) last := by
  refine ⟨by simp [h.1], fun k hk => ?_⟩
  by_cases e : k = i
  · subst e
    rw [Array.getElem?_setIfInBounds_self_of_lt (by rw [h.1]; exact hi), hx]
  · rw [Array.getElem?_setIfInBounds_ne (by omega)]
    exact h.2 k (by omega)
theorem LastC.put {cs : Array Value} {last : Nat → Int} (h : LastC cs 11 last) (i : Nat) (hi : i < 11) (x : Int) : LastC (cs.setIfInBounds i (.int .i32 x)) 11 (fun k => if k = i then x else last k) := by
  refine ⟨by simp [h.1], fun k hk => ?_⟩
  by_cases e : k = i
  · subst e
    rw [Array.getElem?_setIfInBounds_self_of_lt (by rw [h.1]; exact hi)]
    simp
  · rw [Array.getElem?_setIfInBounds_ne (by omega)]
    simp only [if_neg e]
    exact h.2 k hk
theorem waitV_at : ∀ (W : List (Nat × Int)) (i : Nat), i < W.length → ∃ (u : Nat) (x : Int), (waitV W)[i * 2]? = some (.int .u32 (u : Nat)) ∧ (waitV W)[i * 2 + 1]? = some (.int .i32 x)
  | (u, x) :: r, 0, _ => ⟨u, x, rfl, rfl⟩
  | (u, x) :: r, i + 1, h => by
    obtain ⟨v, y, h0, h1⟩ := waitV_at r i (by simpa using h)
    refine ⟨v, y, ?_, ?_⟩
    · rw [show (i + 1) * 2 = i * 2 + 1 + 1 by omega]; exact h0
    · rw [show (i + 1) * 2 + 1 = i * 2 + 1 + 1 + 1 by omega]; exact h1

set_option maxRecDepth 100000 in
set_option maxHeartbeats 4000000 in
theorem tail3 (w wH : World) (base sb lb9 gx gw n cw L cap3 b3 : Nat) (ao3 : Option Addr) (an : Value) (ns : Int) (S : St) (cs : Array Value) (hL : L = S.1.length) (hL2 : L ≤ 1000) (hn : 11 ≤ n) (hI : SInv wH sb base an (.slice (some ⟨gx, 0, none⟩) 0 2) ns gw n cw S) (hC : wH.heap[lb9]? = some (.cells cs 86 (0, 0))) (hc : LastC cs 11 S.2)
    (hO : wH.ownsRow b3 72 2 (.slice ao3 L cap3) L (waitV S.1)) (hB : Below base w wH) (x0 x1 x2 x3 x4 x5 x6 x7 x8 x9 x10 x11 x12 x13 x14 x15 x16 x17 x18 x19 x20 x21 x22 x23 x24 x25 x26 x30 x32 x33 x34 x35 x36 x37 x38 x39 x40 x41 x42 x43 x44 x45 x46 x47 x48 x49 x50 x51 x52 x53 x54 x55 x56 x57 x58 x59 x60 x61 x62 x63 x64 x65 x66 x67 x68 x69 x70 x71 x72 x73 x74 x75 x76 x77 x78 x79 x80 x81 x82 x83 x84 x85 x86 x87 x88 x89 x90 x91 x92 x93 x94 x95 x96 x97 x98 x99 x100 x101 x102 x103 x104 x105 x106 x107 x108 x109 x110 x111 x112 x113 x114 x115 x116 x117 x118 x119 x120 x121 x122 x123 x124 x125 x126 x127 x128 x129 x130 x131 x132 x133 x134 x135 x136 x137 x138 x139 x140 x141 x142 x143 x144 x145 x146 x147 x148 x149 x150 x151 x152 x153 x154 x155 x156 x157 x158 x159 x160 x161 x162 x163 x164 x165 x166 x167 x168 x169 x170 x171 x172 x173 x174 x175 x176 x177 x178 x179 x180 x181 x182 x183 x184 x185 x186 x187 x188 x189 x190 x191 x192 x193 x194 x195 x196 x197 x198 x199 x200 x201 x202 x203 x204 x205 x206 x207 x208 x209 x210 x211 x212 x213 x214 x215 x216 x217 x218 x219 x220 x221 x222 x223 x224 x225 x226 x227 x228 x229 x230 x231 x232 x233 x234 x235 x236 x237 x238 x239 x240 x241 x242 x243 x244 x245 x246 x247 x248 x249 x250 x251 x252 x253 x254 x255 x256 x257 x258 x259 x260 x261 x262 x263 x264 x265 x266 x267 x268 x269 x270 x271 x272 x273 x274 x275 x276 x277 x278 x279 x280 x281 x282 x283 x284 x285 x286 x287 x288 x289 x290 x291 x292 x293 x294 x295 x296 x297 x298 x299 x300 x301 x302 x303 x304 x305 x306 x307 x308 x309 x310 x311 x312 x313 x314 x315 x316 x317 x318 x319 x320 x321 x322 x323 x324 x325 x326 x327 x328 x329 x330 x331 x332 x333 x334 x335 x336 x337 x338 x339 x340 x341 x342 x343 x344 x345 x346 x347 x348 x349 x350 x351 x352 x353 : Value) :
    Code.wp Ybad.prog (dropSeq 24 (Ybad.f3.body.getD .skip)) (bodyPost Ybad.prog Ybad.f3 fun e w' => e = .returned (.bool true) ∧ Below base w w') { tmps := #[x0, x1, x2, x3, x4, x5, x6, x7, x8, x9, x10, x11, x12, x13, x14, x15, x16, x17, x18, x19, x20, x21, x22, x23, x24, x25, x26, (.pointer (some ⟨sb, 0, none⟩)), (.int .u32 ns), (.pointer (some ⟨lb9, 0, none⟩)), x30, (.slice ao3 L cap3), x32, x33, x34, x35, x36, x37, x38, x39, x40, x41, x42, x43, x44, x45, x46, x47, x48, x49, x50, x51, x52, x53, x54, x55, x56, x57, x58, x59, x60, x61, x62, x63, x64, x65, x66, x67, x68, x69, x70, x71, x72, x73, x74, x75, x76, x77, x78, x79, x80, x81, x82, x83, x84, x85, x86, x87, x88, x89, x90, x91, x92, x93, x94, x95, x96, x97, x98, x99, x100, x101, x102, x103, x104, x105, x106, x107, x108, x109, x110, x111, x112, x113, x114, x115, x116, x117, x118, x119, x120, x121, x122, x123, x124, x125, x126, x127, x128, x129, x130, x131, x132, x133, x134, x135, x136, x137, x138, x139, x140, x141, x142, x143, x144, x145, x146, x147, x148, x149, x150, x151, x152, x153, x154, x155, x156, x157, x158, x159, x160, x161, x162, x163, x164, x165, x166, x167, x168, x169, x170, x171, x172, x173, x174, x175, x176, x177, x178, x179, x180, x181, x182, x183, x184, x185, x186, x187, x188, x189, x190, x191, x192, x193, x194, x195, x196, x197, x198, x199, x200, x201, x202, x203, x204, x205, x206, x207, x208, x209, x210, x211, x212, x213, x214, x215, x216, x217, x218, x219, x220, x221, x222, x223, x224, x225, x226, x227, x228, x229, x230, x231, x232, x233, x234, x235, x236, x237, x238, x239, x240, x241, x242, x243, x244, x245, x246, x247, x248, x249, x250, x251, x252, x253, x254, x255, x256, x257, x258, x259, x260, x261, x262, x263, x264, x265, x266, x267, x268, x269, x270, x271, x272, x273, x274, x275, x276, x277, x278, x279, x280, x281, x282, x283, x284, x285, x286, x287, x288, x289, x290, x291, x292, x293, x294, x295, x296, x297, x298, x299, x300, x301, x302, x303, x304, x305, x306, x307, x308, x309, x310, x311, x312, x313, x314, x315, x316, x317, x318, x319, x320, x321, x322, x323, x324, x325, x326, x327, x328, x329, x330, x331, x332, x333, x334, x335, x336, x337, x338, x339, x340, x341, x342, x343, x344, x345, x346, x347, x348, x349, x350, x351, x352, x353], defers := [] } wH := by
  conv => arg 2; simp only [Ybad.f3, Option.getD_some, dropSeq]
  obtain ⟨aw, capw, xs, hR, hE, hW⟩ := hI
  rw [← hL] at hR hW
  have c2 := rs_cell hR.1 2 (v := .bool true) rfl
  have c12 := rs_cell hR.1 12 (v := .bool true) rfl
  have c13 := rs_cell hR.1 13 (v := .slice (some ⟨gx, 0, none⟩) 0 2) rfl
  have c14 := rs_cell hR.1 14 (v := .slice aw L capw) rfl
  have c15 := rs_cell hR.1 15 (v := .slice (some ⟨gw, 0, none⟩) n cw) rfl
  have c16 := rs_cell hR.1 16 (v := .int .u32 ns) rfl
  have hnn : (ns != ns) = false := by simp
  have hll : ((L : Int) != (L : Int)) = false := by simp
  have HA := hide (And.intro hR (And.intro hE (And.intro hW (And.intro hC (And.intro hc (And.intro hO (And.intro hB hL)))))))
  clear hR hE hW hC hc hO hB hL
  go_wp2_with fail
  go_loopg [290] L (fun g u wr => ∃ i : Nat, i ≤ L ∧ g = L - i ∧ u = .int .i64 (i : Int) ∧ ∃ m, wr = wH.drewN m)
  case atStart => exact ⟨0, Nat.zero_le _, rfl, rfl, 0, rfl⟩
  case round =>
    obtain ⟨i, hi, rfl, rfl, m, rfl⟩ := hrel
    by_cases hiL : i < L
    · rcases own_ptr HA.out.2.2.1 with ⟨_, h0, _⟩ | ⟨g1, rfl⟩
      · omega
      rcases own_ptr HA.out.2.2.2.2.2.1 with ⟨_, h0, _⟩ | ⟨g3, rfl⟩
      · omega
      obtain ⟨u, x, e0, e1⟩ := waitV_at S.1 i (by have := HA.out.2.2.2.2.2.2.2; omega)
      have r0 : (wH.drewN m).cell? ⟨g1, i * 2, none⟩ = some (.int .u32 (u : Nat)) := by show wH.cell? _ = _; rw [HA.out.2.2.1.cellAt _ (by omega)]; exact e0
      have r1 : (wH.drewN m).cell? ⟨g1, i * 2 + 1, none⟩ = some (.int .i32 x) := by show wH.cell? _ = _; rw [HA.out.2.2.1.cellAt _ (by omega)]; exact e1
      have r2 : (wH.drewN m).cell? ⟨g3, i * 2, none⟩ = some (.int .u32 (u : Nat)) := by show wH.cell? _ = _; rw [HA.out.2.2.2.2.2.1.cellAt _ (by omega)]; exact e0
      have r3 : (wH.drewN m).cell? ⟨g3, i * 2 + 1, none⟩ = some (.int .i32 x) := by show wH.cell? _ = _; rw [HA.out.2.2.2.2.2.1.cellAt _ (by omega)]; exact e1
      have r14 : (wH.drewN m).cell? ⟨sb, 14, none⟩ = some (.slice (some ⟨g1, 0, none⟩) L capw) := c14
      clear e0 e1 c2 c12 c13 c14 c15 c16
      generalize hW : wH.drewN m = W at *
      go_wp2_with fail
      go_quiet (fail)
      go_wp2_with fail
      go_roundg (L - (i + 1))
      case measure => omega
      case rel => exact ⟨i + 1, hiL, rfl, by go_num, m + nq, by rw [← hW]; simp [World.drewN, Nat.add_assoc]⟩
    · obtain rfl : i = L := by omega
      have hn' : ¬ ((n : Int) < 11) := by omega
      have q15 : (wH.drewN m).cell? ⟨sb, 15, none⟩ = some (.slice (some ⟨gw, 0, none⟩) n cw) := c15
      go_wp2_with fail
      go_loopg [41] 11 (fun g u wr => ∃ k : Nat, k ≤ 11 ∧ g = 11 - k ∧ u = .int .i64 (k : Int) ∧ ∃ m, wr = wH.drewN m)
      case atStart => exact ⟨0, Nat.zero_le _, rfl, rfl, m, rfl⟩
      case round =>
        obtain ⟨k, hk, rfl, rfl, m', rfl⟩ := hrel
        by_cases hk11 : k < 11
        · obtain ⟨st, hd, he, hcase⟩ := HA.out.2.1 k (by omega)
          obtain ⟨p0, p1, -⟩ := own_entry HA.out.1.2.1 (show k < n by omega) he
          have z0 : (wH.drewN m').cell? ⟨lb9, k, none⟩ = some (.int .i32 (S.2 k)) := by show wH.cell? _ = _; rw [cell_of_row wH _ _ _ 86 (0, 0) HA.out.2.2.2.1]; exact HA.out.2.2.2.2.1.2 k hk11
          have s15 : (wH.drewN m').cell? ⟨sb, 15, none⟩ = some (.slice (some ⟨gw, 0, none⟩) n cw) := c15
          have s0 : (wH.drewN m').cell? ⟨gw, k * 4, none⟩ = some (.int .u32 st) := p0
          have s1 : (wH.drewN m').cell? ⟨gw, k * 4 + 1, none⟩ = some (.int .i32 hd) := p1
          clear he p0 p1 q15
          generalize S.2 k = y at *
          rcases hcase with ⟨rfl, hst⟩ | ⟨hy, rfl, rfl⟩
          · have hsn : (st == ns) = false := by simpa using hst
            clear c2 c12 c13 c15 c16
            generalize hW : wH.drewN m' = W at *
            go_wp2_with fail
            go_roundg (11 - (k + 1))
            case measure => omega
            case rel => exact ⟨k + 1, hk11, rfl, by go_num, m', hW.symm⟩
          · have hyy : (hd != hd) = false := by simp
            have hss : (st != st) = false := by simp
            clear c2 c12 c13 c15 c16
            generalize hW : wH.drewN m' = W at *
            go_wp2_with fail
            go_quiet (fail)
            go_wp2_with fail
            go_roundg (11 - (k + 1))
            case measure => omega
            case rel => exact ⟨k + 1, hk11, rfl, by go_num, m' + nq, by rw [← hW]; simp [World.drewN, Nat.add_assoc]⟩
        · obtain rfl : k = 11 := by omega
          go_wp2_with fail
          go_ret
          exact ⟨rfl, HA.out.2.2.2.2.2.2.1.trans ⟨rfl, rfl, rfl, Nat.le_refl _, fun _ _ => rfl⟩⟩
end Go.Proofs.YbulktjyDoor
