import Derived.Test.YbulktjyDoorTR
import Derived.Deep.DeepCutAuto
import Derived.Deep.CutBlock
import Derived.Deep.LoopGhost
namespace Go.Proofs.YbulktjyDoor
open Go.RowKit

theorem grow_own {a b c : World} {e : TypeId} {size n : Nat} {v : Value} {xs : List Value} (h : a.grownBy b none) (ho : b.ownsRow a.heap.size e size v n xs) (k : b.grownBy c v.ownBlock) : a.grownBy c none := by
  cases hv : v.ownBlock with
  | none => rw [hv] at k; exact grow_trans h k
  | some j => rw [hv] at k; exact grow_new h k (own_block ho hv).1

theorem own_cell {w : World} {base : Nat} {e : TypeId} {size : Nat} {g n cap j : Nat} {xs : List Value} (h : w.ownsRow base e size (.slice (some ⟨g, 0, none⟩) n cap) n xs) (hj : j < n * size) : ∃ v, w.cell? ⟨g, j, none⟩ = some v := by
  refine ⟨xs[j]'(by rw [h.1]; exact hj), ?_⟩
  rw [h.cellAt j hj]
  exact List.getElem?_eq_getElem _

theorem own_mono {w : World} {b base : Nat} {e : TypeId} {size n : Nat} {v : Value} {xs : List Value} (h : w.ownsRow b e size v n xs) (hb : base ≤ b) : w.ownsRow base e size v n xs := by
  obtain ⟨hl, h⟩ := h
  refine ⟨hl, ?_⟩
  rcases h with h | ⟨g, cap, cur, e, hg, r⟩
  · exact .inl h
  · exact .inr ⟨g, cap, cur, e, Nat.le_trans hb hg, r⟩

theorem four_store {wB wr : World} {g n cap : Nat} {xs : List Value} (hg : wB.grownBy wr none) (ho : wr.ownsRow wB.heap.size 69 4 (.slice (some ⟨g, 0, none⟩) n cap) n xs) (hgB : wB.heap.size ≤ g) (j0 j1 j2 j3 : Nat) (u0 u1 u2 u3 : Value) :
    wB.grownBy ((((wr.setCell ⟨g, j0, none⟩ u0).setCell ⟨g, j1, none⟩ u1).setCell ⟨g, j2, none⟩ u2).setCell ⟨g, j3, none⟩ u3) none ∧
    ((((wr.setCell ⟨g, j0, none⟩ u0).setCell ⟨g, j1, none⟩ u1).setCell ⟨g, j2, none⟩ u2).setCell ⟨g, j3, none⟩ u3).ownsRow wB.heap.size 69 4 (.slice (some ⟨g, 0, none⟩) n cap) n ((((xs.set j0 u0).set j1 u1).set j2 u2).set j3 u3) :=
  ⟨grow_new (grow_new (grow_new (grow_new hg (grownBy_setCell _ _ _) hgB) (grownBy_setCell _ _ _) hgB) (grownBy_setCell _ _ _) hgB) (grownBy_setCell _ _ _) hgB, ((((ho.stored _ _).1.stored _ _).1.stored _ _).1.stored _ _).1⟩

theorem frame_none {base : Nat} {a b : World} (h : a.grownBy b none) (hb : base ≤ a.heap.size) : StFrame base a b := (StFrame.refl base a).grown h hb (by simp)

theorem ent_stored {xs : List Value} {n i : Nat} {old : Int} (hl : xs.length = n * 4) (hi : i < n) : EntAt ((((xs.set (i * 4) (.int .u32 old)).set (i * 4 + 1) (.int .i32 5)).set (i * 4 + 2) (.int .u32 7)).set (i * 4 + 3) (.bool false)) i old 5 := by
  refine ⟨7, false, ?_, ?_, ?_, ?_⟩
  · rw [List.getElem?_set_ne (by omega), List.getElem?_set_ne (by omega), List.getElem?_set_ne (by omega), List.getElem?_set_self (by omega)]
  · rw [List.getElem?_set_ne (by omega), List.getElem?_set_ne (by omega), List.getElem?_set_self (by simp; omega)]
  · rw [List.getElem?_set_ne (by omega), List.getElem?_set_self (by simp; omega)]
  · rw [List.getElem?_set_self (by simp; omega)]

theorem ent_stored_other {xs : List Value} {i k : Nat} {old hd : Int} (h : EntAt xs k old hd) (hne : k ≠ i) : EntAt ((((xs.set (i * 4) (.int .u32 old)).set (i * 4 + 1) (.int .i32 5)).set (i * 4 + 2) (.int .u32 7)).set (i * 4 + 3) (.bool false)) k old hd :=
  (((h.other (i := 0) (by omega) hne).other (i := 1) (by omega) hne).other (i := 2) (by omega) hne).other (i := 3) (by omega) hne

set_option maxRecDepth 100000 in
set_option maxHeartbeats 4000000 in
theorem tailW (d : SD) {N E n2 : Nat} {fst cnt ch nd : Nat → Nat} (k : Holds d N E n2 fst cnt ch nd) (w wB : World) (base Ns cap wl ol : Nat) (ao : Option Addr) (sa : Nat → Nat) (old : Int) (hsa : ∀ i, i < Ns → sa i < n2) (hNs : Ns ≤ 256) (hwl : wl < 256) (hol : ol < 256) (h0 : 0 ≤ old) (h1 : old ≤ 4294967295) (hb : base ≤ w.heap.size) (hbB : base ≤ wB.heap.size)
    (hs : Stat wB d) (hB : Below base w wB) (ha : Anch wB ao Ns sa) (x0 x1 x2 x3 x7 x8 x9 x10 x11 x12 x13 x14 x16 x18 x19 x21 x22 x23 x24 x25 x26 x27 x28 x29 x30 x31 x32 x33 x34 x35 x36 x37 x38 x39 x40 x41 x42 x43 x44 x45 x46 x47 x48 x49 x50 x51 x52 x53 x54 x55 x56 x57 x58 x59 x60 x61 x62 x63 x64 x65 x66 x67 x68 x69 x70 x71 x72 x73 x74 x75 x76 x77 x78 x79 x80 x81 x82 x83 x84 x85 x86 x87 x88 x89 x90 x91 x92 x93 x94 x95 x96 x97 x98 x99 x100 x101 x102 x103 x104 x105 x106 x107 x108 x109 x110 x111 x112 x113 x114 x115 x116 x117 x118 x119 x120 x121 x122 x123 x124 x125 x126 x127 x128 x129 x130 x131 x132 x133 x134 x135 x136 x137 x138 x139 x140 x141 x142 x143 x144 x145 x146 x147 x148 x149 x150 x151 x152 x153 x154 x155 x156 x157 x158 x159 x160 x161 x162 x163 x164 x165 x166 x167 x168 x169 x170 x171 x172 x173 x174 x175 x176 x177 x178 x179 x180 x181 x182 x183 x184 x185 x186 x187 x188 x189 x190 x191 x192 x193 x194 x195 x196 x197 x198 x199 x200 x201 x202 x203 x204 x205 x206 x207 x208 x209 x210 x211 x212 x213 x214 x215 x216 x217 x218 x219 x220 x221 x222 x223 x224 x225 x226 x227 x228 x229 x230 x231 x232 x233 x234 x235 x236 x237 x238 x239 x240 x241 x242 x243 x244 x245 x246 x247 x248 x249 x250 x251 x252 x253 x254 x255 x256 x257 x258 x259 x260 x261 x262 x263 x264 x265 x266 x267 x268 x269 x270 x271 x272 x273 x274 x275 x276 x277 x278 x279 x280 x281 x282 x283 x284 x285 x286 x287 x288 x289 x290 x291 x292 x293 x294 x295 x296 x297 x298 x299 x300 x301 x302 x303 x304 x305 x306 x307 x308 x309 x310 x311 x312 x313 x314 x315 x316 x317 x318 x319 x320 x321 x322 x323 x324 x325 x326 x327 x328 x329 x330 x331 x332 x333 x334 x335 x336 x337 x338 x339 x340 x341 x342 x343 x344 x345 x346 x347 x348 x349 x350 x351 x352 x353 : Value) :
    Code.wp Ybad.prog (dropSeq 12 (Ybad.f3.body.getD .skip)) (bodyPost Ybad.prog Ybad.f3 fun e w' => e = .returned (.bool true) ∧ Below base w w') { tmps := #[x0, x1, x2, x3, (.int .u32 old), (.int .u8 (wl : Int)), (.int .u8 (ol : Int)), x7, x8, x9, x10, x11, x12, x13, x14, (.pointer (some ⟨d.tb, 0, none⟩)), x16, (.pointer (some ⟨d.lb, 0, none⟩)), x18, x19, (.slice ao Ns cap), x21, x22, x23, x24, x25, x26, x27, x28, x29, x30, x31, x32, x33, x34, x35, x36, x37, x38, x39, x40, x41, x42, x43, x44, x45, x46, x47, x48, x49, x50, x51, x52, x53, x54, x55, x56, x57, x58, x59, x60, x61, x62, x63, x64, x65, x66, x67, x68, x69, x70, x71, x72, x73, x74, x75, x76, x77, x78, x79, x80, x81, x82, x83, x84, x85, x86, x87, x88, x89, x90, x91, x92, x93, x94, x95, x96, x97, x98, x99, x100, x101, x102, x103, x104, x105, x106, x107, x108, x109, x110, x111, x112, x113, x114, x115, x116, x117, x118, x119, x120, x121, x122, x123, x124, x125, x126, x127, x128, x129, x130, x131, x132, x133, x134, x135, x136, x137, x138, x139, x140, x141, x142, x143, x144, x145, x146, x147, x148, x149, x150, x151, x152, x153, x154, x155, x156, x157, x158, x159, x160, x161, x162, x163, x164, x165, x166, x167, x168, x169, x170, x171, x172, x173, x174, x175, x176, x177, x178, x179, x180, x181, x182, x183, x184, x185, x186, x187, x188, x189, x190, x191, x192, x193, x194, x195, x196, x197, x198, x199, x200, x201, x202, x203, x204, x205, x206, x207, x208, x209, x210, x211, x212, x213, x214, x215, x216, x217, x218, x219, x220, x221, x222, x223, x224, x225, x226, x227, x228, x229, x230, x231, x232, x233, x234, x235, x236, x237, x238, x239, x240, x241, x242, x243, x244, x245, x246, x247, x248, x249, x250, x251, x252, x253, x254, x255, x256, x257, x258, x259, x260, x261, x262, x263, x264, x265, x266, x267, x268, x269, x270, x271, x272, x273, x274, x275, x276, x277, x278, x279, x280, x281, x282, x283, x284, x285, x286, x287, x288, x289, x290, x291, x292, x293, x294, x295, x296, x297, x298, x299, x300, x301, x302, x303, x304, x305, x306, x307, x308, x309, x310, x311, x312, x313, x314, x315, x316, x317, x318, x319, x320, x321, x322, x323, x324, x325, x326, x327, x328, x329, x330, x331, x332, x333, x334, x335, x336, x337, x338, x339, x340, x341, x342, x343, x344, x345, x346, x347, x348, x349, x350, x351, x352, x353], defers := [] } wB := by
  conv => arg 2; simp only [Ybad.f3, Option.getD_some, dropSeq]
  have HB := hide (And.intro hs (And.intro hB (And.intro ha hsa)))
  have HK := hide k
  clear hs hB ha k
  obtain ⟨nw, hnw, hnw14⟩ : ∃ nw : Nat, (wl : Int) % 14 = (nw : Int) ∧ nw < 14 := ⟨wl % 14, by omega, by omega⟩
  obtain ⟨i0, hi, hz0, hz1, hz2⟩ := info_parts info69
  go_upto_block 4 with (at_make; refine wpList_make_full _ rfl (.tmp 141) (.tmp 141) 67 rfl wB.heap.size 69 i0 _ 4 Ybad.underlying67 hi hz0 hz1 .i64 .i64 _ _ nw rfl rfl (by first | rfl | exact hnw) (by first | rfl | exact hnw) (by rw [hz2]; omega) (by unfold maxLen; omega) (Nat.le_refl _) ?_; intro w4 hown4 hgrow4; have S4 := hide (And.intro hown4 hgrow4); clear hown4 hgrow4)
  clear hi hz0 hz1 hz2 hnw
  go_cut [24] (fun _ wx => Hid (∃ xs, wB.grownBy wx none ∧ wx.ownsRow wB.heap.size 69 4 (.slice (some ⟨wB.heap.size, 0, none⟩) nw nw) nw xs ∧ ∀ k, k < nw → ∃ hd, EntAt xs k old hd))
  case first =>
    --B 3
    go_wp2_with fail
    go_loopg [145] nw (fun g u wr => ∃ i : Nat, i ≤ nw ∧ g = nw - i ∧ u = .int .i64 (i : Int) ∧ Hid (∃ xs, wB.grownBy wr none ∧ wr.ownsRow wB.heap.size 69 4 (.slice (some ⟨wB.heap.size, 0, none⟩) nw nw) nw xs ∧ ∀ k, k < i → ∃ hd, EntAt xs k old hd))
    case atStart => exact ⟨0, Nat.zero_le _, rfl, rfl, _, S4.out.2, S4.out.1, fun k hk => by omega⟩
    case round =>
      obtain ⟨i, hi, rfl, rfl, HI⟩ := hrel
      by_cases hin : i < nw
      · obtain ⟨xs', hg, ho, hA⟩ := HI.out
        obtain ⟨v0, z0⟩ := own_cell ho (show i * 4 < nw * 4 by omega)
        obtain ⟨v1, z1⟩ := own_cell ho (show i * 4 + 1 < nw * 4 by omega)
        obtain ⟨v2, z2⟩ := own_cell ho (show i * 4 + 2 < nw * 4 by omega)
        obtain ⟨v3, z3⟩ := own_cell ho (show i * 4 + 3 < nw * 4 by omega)
        have zf := ho.frozenAt
        have HT := hide (And.intro hg (And.intro ho hA))
        clear HI hg ho hA
        go_wp2_with fail
        go_roundg (nw - (i + 1))
        case measure => omega
        case rel =>
          have hF := four_store HT.out.1 HT.out.2.1 (Nat.le_refl _) (i * 4) (i * 4 + 1) (i * 4 + 2) (i * 4 + 3) (.int .u32 old) (.int .i32 5) (.int .u32 7) (.bool false)
          refine ⟨i + 1, hin, rfl, by go_num, _, hF.1, hF.2, fun k hk => ?_⟩
          by_cases e : k = i
          · subst e
            exact ⟨5, ent_stored HT.out.2.1.1 hin⟩
          · obtain ⟨hd, he⟩ := HT.out.2.2 k (by omega)
            exact ⟨hd, ent_stored_other he e⟩
      · obtain rfl : i = nw := by omega
        go_wp2_with fail
        go_meet
        case rel => exact HI.out
    --E 3
  case rest =>
    obtain ⟨wC, rfl⟩ : ∃ wC, wC = wc := ⟨_, rfl⟩
    have HS3 : ∃ xw, Stat wC d ∧ Below base w wC ∧ Anch wC ao Ns sa ∧ (∀ i, i < Ns → sa i < n2) ∧ wC.ownsRow base 69 4 (.slice (some ⟨wB.heap.size, 0, none⟩) nw nw) nw xw ∧ ∀ k, k < nw → ∃ hd, EntAt xw k old hd := by
      obtain ⟨xw, hg, ho, he⟩ := hcut.out
      have hsB : base ≤ wB.heap.size := hbB
      exact ⟨xw, HB.out.1.kept (frame_none hg hsB), HB.out.2.1.grown hg hsB (by simp), HB.out.2.2.1.kept (frame_none hg hsB), HB.out.2.2.2, own_mono ho hsB, he⟩
    obtain ⟨xw, hS3⟩ := HS3
    generalize wB.heap.size = gw at *
    have HC := hide hS3
    clear hS3 HB hcut S4
    obtain ⟨om, hom, hom5⟩ : ∃ om : Nat, (ol : Int) % 5 = (om : Int) ∧ om < 5 := ⟨ol % 5, by omega, by omega⟩
    go_upto_block 6 with fail
    go_cut [25, 26] (fun s25 _ wx => ∃ (ao2 : Option Addr) (m cap2 : Nat), s25 = .slice ao2 m cap2 ∧ Hid (∃ zw, wC.grownBy wx none ∧ wx.ownsRow wC.heap.size 72 2 (.slice ao2 m cap2) m zw))
    case first =>
      --B 4
      go_wp2_with fail
      go_loopg [26, 25] om (fun g u s wr => ∃ (j cap2 : Nat) (ao2 : Option Addr), j ≤ om ∧ g = om - j ∧ u = .int .i64 (j : Int) ∧ s = .slice ao2 j cap2 ∧ Hid (∃ zw, wC.grownBy wr none ∧ wr.ownsRow wC.heap.size 72 2 (.slice ao2 j cap2) j zw))
      case atStart => exact ⟨0, 0, none, Nat.zero_le _, rfl, rfl, rfl, [], grow_refl _, World.ownsRow_nil _ _ _ _⟩
      case round =>
        obtain ⟨j, cap2, ao2, hj, rfl, rfl, rfl, HI⟩ := hrel
        by_cases hjm : j < om
        · obtain ⟨zw, hg, ho⟩ := HI.out
          have hsz := hg.size
          have HT := hide hg
          clear HI hg
          obtain ⟨j1, hi1, hz10, hz11, hz12⟩ := info_parts info72
          go_wp2_with (at_builtin; refine isAt 164 ?_; refine wpList_append_shape _ rfl (.tmp 161) (.tmp 163) 70 rfl wC.heap.size 72 j1 _ 2 8 Ybad.underlying70 hi1 hz10 hz11 hz12 rfl (by decide) (.slice ao2 j cap2) j zw rfl (ho.alloc _) ⟨wr.heap.size, 0, none⟩ 1 1 [.int .u32 99, .int .i32 3] rfl rfl (new_cells wr [.int .u32 99, .int .i32 3] 72) (rw_oneCell _ _) (by unfold maxLen; omega) (by omega) (by simp; omega) (by decide) ?_; intro g7 c7 w7 hown7 hgrow7; have S7 := hide (And.intro hown7 (grow_own (grow_trans HT.out (World.grownBy_alloc wr (.cells [.int .u32 99, .int .i32 3].toArray 72) none)) (ho.alloc _) hgrow7)); clear hown7 hgrow7)
          go_roundg (om - (j + 1))
          case measure => omega
          case rel => exact ⟨j + 1, c7, _, hjm, rfl, by go_num, rfl, _, S7.out.2, S7.out.1⟩
        · obtain rfl : j = om := by omega
          go_wp2_with fail
          go_meet
          case rel =>
            obtain ⟨zw, hg, ho⟩ := HI.out
            exact ⟨ao2, j, cap2, rfl, zw, hg, ho⟩
      --E 4
    case rest =>
      obtain ⟨wD, rfl⟩ : ∃ wD, wD = wc := ⟨_, rfl⟩
      obtain ⟨ao2, m, cap2, rfl, HZ⟩ := hcut
      obtain ⟨zw, hg, ho⟩ := HZ.out
      have hsC : base ≤ wC.heap.size := Nat.le_trans hb HC.out.2.1.size
      have hfr := frame_none hg hsC
      refine (‹∀ (a : Act) (w : World), Code.wp Ybad.prog _ _ a w → _› : ∀ (a : Act) (w : World), Code.wp Ybad.prog _ _ a w → _) _ _ ?_
      exact tailR d HK.out w wD base gw nw Ns cap m cap2 ao ao2 sa old xw zw hsa hNs hnw14 h0 h1 hb (Nat.le_trans hsC hg.size) (HC.out.1.kept hfr) (HC.out.2.1.grown hg hsC (by simp)) (HC.out.2.2.1.kept hfr) (own_none HC.out.2.2.2.2.1 hg) HC.out.2.2.2.2.2 (own_mono ho hsC) _ _ _ _ _ _ _ _ _ _ _ _ _ _ _ _ _ _ _ _ _ _ _ _ _ _ _ _ _ _ _ _ _ _ _ _ _ _ _ _ _ _ _ _ _ _ _ _ _ _ _ _ _ _ _ _ _ _ _ _ _ _ _ _ _ _ _ _ _ _ _ _ _ _ _ _ _ _ _ _ _ _ _ _ _ _ _ _ _ _ _ _ _ _ _ _ _ _ _ _ _ _ _ _ _ _ _ _ _ _ _ _ _ _ _ _ _ _ _ _ _ _ _ _ _ _ _ _ _ _ _ _ _ _ _ _ _ _ _ _ _ _ _ _ _ _ _ _ _ _ _ _ _ _ _ _ _ _ _ _ _ _ _ _ _ _ _ _ _ _ _ _ _ _ _ _ _ _ _ _ _ _ _ _ _ _ _ _ _ _ _ _ _ _ _ _ _ _ _ _ _ _ _ _ _ _ _ _ _ _ _ _ _ _ _ _ _ _ _ _ _ _ _ _ _ _ _ _ _ _ _ _ _ _ _ _ _ _ _ _ _ _ _ _ _ _ _ _ _ _ _ _ _ _ _ _ _ _ _ _ _ _ _ _ _ _ _ _ _ _ _ _ _ _ _ _ _ _ _ _ _ _ _ _ _ _ _ _ _ _ _ _ _ _ _ _ _ _ _ _ _ _ _ _ _ _ _ _ _ _ _ _ _ _ _ _ _ _ _ _ _ _ _ _ _ _ _ _ _ _ _ _ _ _ _ _ _ _ _ _ _ _ _ _ _ _ _ _
end Go.Proofs.YbulktjyDoor
