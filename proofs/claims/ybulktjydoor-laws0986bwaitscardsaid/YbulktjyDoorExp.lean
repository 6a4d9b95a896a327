import Derived.Test.YbulktjyDoorTail
namespace Go.Proofs.YbulktjyDoor
open Go.RowKit

theorem grow_mix {a b c : World} {j : Nat} {r : Option Nat} (h : a.grownBy b (some j)) (k : b.grownBy c r) (hr : ∀ i, r = some i → i = j ∨ a.heap.size ≤ i) : a.grownBy c (some j) :=
  ⟨k.os.trans h.os, k.tape.trans h.tape, k.output.trans h.output, Nat.le_trans h.size k.size, fun i hi hn => (k.block i (Nat.lt_of_lt_of_le hi h.size) (by
    intro e
    rcases hr i e.symm with rfl | hle
    · exact hn rfl
    · omega)).trans (h.block i hi hn)⟩
theorem Stat.other {w w' : World} {d : SD} {k : Nat} {cs : Array Value} (h : Stat w d) (hg : w.grownBy w' (some k)) (hk : w.heap[k]? = some (.cells cs 86 (0, 0))) : Stat w' d :=
  ⟨blk_other hg hk h.t (by decide), blk_other hg hk h.n (by decide), blk_other hg hk h.e (by decide), blk_other hg hk h.l (by decide), blk_other hg hk h.p (by decide), blk_other hg hk h.c (by decide), blk_other hg hk h.a (by decide)⟩
theorem Anch.other {w w' : World} {ao : Option Addr} {m k : Nat} {sa : Nat → Nat} {cs : Array Value} (h : Anch w ao m sa) (hg : w.grownBy w' (some k)) (hk : w.heap[k]? = some (.cells cs 86 (0, 0))) : Anch w' ao m sa := by
  intro i hi
  obtain ⟨g, cur, e, hh, hc⟩ := h i hi
  exact ⟨g, cur, e, blk_other hg hk hh (by decide), hc⟩
theorem SInv.other {w w' : World} {sb base gw n cw k : Nat} {an exv : Value} {ns : Int} {S : St} {cs : Array Value} (h : SInv w sb base an exv ns gw n cw S) (hg : w.grownBy w' (some k)) (hk : w.heap[k]? = some (.cells cs 86 (0, 0))) : SInv w' sb base an exv ns gw n cw S := by
  obtain ⟨ao, cap, xs, ⟨hb, ho, hs⟩, he, hw⟩ := h
  exact ⟨ao, cap, xs, ⟨blk_other hg hk hb (by decide), own_other ho hg hk (by decide), hs⟩, he, own_other hw hg hk (by decide)⟩

theorem exp_step {wG wr w7 : World} {lb9 nb L1 cap1 g7 c7 kk u : Nat} {ao1 : Option Addr} {cs2 ncs : Array Value} {X : Obj} {T : St} (hg : wG.grownBy wr (some lb9)) (hC : wr.heap[lb9]? = some (.cells cs2 86 (0, 0))) (hc : LastC cs2 11 T.2) (hL : L1 = T.1.length) (hO : wr.ownsRow wG.heap.size 72 2 (.slice ao1 L1 cap1) L1 (waitV T.1)) (hN : wr.heap[nb]? = some (.cells ncs 88 (0, 0))) (hk : kk < 11)
    (hown : w7.ownsRow wG.heap.size 72 2 (.slice (some ⟨g7, 0, none⟩) (L1 + 1) c7) (L1 + 1) (waitV T.1 ++ [.int .u32 (u : Nat), .int .i32 (T.2 kk)])) (hgrow : (wr.alloc X).grownBy w7 (Value.slice ao1 L1 cap1).ownBlock) :
    w7.heap[lb9]? = some (.cells cs2 86 (0, 0)) ∧ wG.grownBy (w7.setCell ⟨lb9, kk, none⟩ (.int .i32 (L1 : Int))) (some lb9) ∧ (w7.setCell ⟨lb9, kk, none⟩ (.int .i32 (L1 : Int))).heap[lb9]? = some (.cells (cs2.setIfInBounds kk (.int .i32 (L1 : Int))) 86 (0, 0)) ∧
    LastC (cs2.setIfInBounds kk (.int .i32 (L1 : Int))) 11 (fun k => if k = kk then (T.1.length : Int) else T.2 k) ∧ L1 + 1 = (T.1 ++ [(u, T.2 kk)]).length ∧
    (w7.setCell ⟨lb9, kk, none⟩ (.int .i32 (L1 : Int))).ownsRow wG.heap.size 72 2 (.slice (some ⟨g7, 0, none⟩) (L1 + 1) c7) (L1 + 1) (waitV (T.1 ++ [(u, T.2 kk)])) ∧ (w7.setCell ⟨lb9, kk, none⟩ (.int .i32 (L1 : Int))).heap[nb]? = some (.cells ncs 88 (0, 0)) := by
  have ga := World.grownBy_alloc wr X Option.none
  have hCa := blk_none ga hC
  have hNa := blk_none ga hN
  have hOa := own_none hO ga
  have hg1 := grow_mix hg ga (by simp)
  have hC7 : w7.heap[lb9]? = some (.cells cs2 86 (0, 0)) := by
    cases hv : (Value.slice ao1 L1 cap1).ownBlock with
    | none => rw [hv] at hgrow; exact blk_none hgrow hCa
    | some k =>
      rw [hv] at hgrow
      obtain ⟨_, cur, h2⟩ := own_block hOa hv
      exact blk_other hgrow h2 hCa (by decide)
  have hN7 : w7.heap[nb]? = some (.cells ncs 88 (0, 0)) := by
    cases hv : (Value.slice ao1 L1 cap1).ownBlock with
    | none => rw [hv] at hgrow; exact blk_none hgrow hNa
    | some k =>
      rw [hv] at hgrow
      obtain ⟨_, cur, h2⟩ := own_block hOa hv
      exact blk_other hgrow h2 hNa (by decide)
  have hg7 := grow_mix hg1 hgrow (fun i e => .inr (own_block hOa e).1)
  have gs := grownBy_setCell w7 ⟨lb9, kk, Option.none⟩ (.int .i32 (L1 : Int))
  refine ⟨hC7, grow_mix hg7 gs (fun i e => .inl (by simp at e; exact e.symm)), heap_setCell_same w7 lb9 kk _ 86 _ hC7, ?_, by simp [hL], ?_, blk_other gs hC7 hN7 (by decide)⟩
  · rw [← hL]; exact hc.put kk hk _
  · rw [← waitV_snoc]; exact own_other hown gs hC7 (by decide)

set_option maxRecDepth 100000 in
set_option maxHeartbeats 4000000 in
theorem tail2 (d : SD) {N E A : Nat} {fst cnt ch nd : Nat → Nat} (k : Holds d N E A fst cnt ch nd) (w wG : World) (base sb lb9 gx gw n cw Ns cap : Nat) (ao : Option Addr) (sa : Nat → Nat) (an : Value) (ns : Int) (cs : Array Value) (hsa : ∀ i, i < Ns → sa i < A) (hNs : Ns ≤ 256) (hn : 11 ≤ n) (hs : Stat wG d) (ha : Anch wG ao Ns sa)
    (hI : SInv wG sb base an (.slice (some ⟨gx, 0, none⟩) 0 2) ns gw n cw (allTo ch fst cnt (fun i => nd (sa i)) Ns ([], fun _ => -1))) (hC : wG.heap[lb9]? = some (.cells cs 86 (0, 0))) (hc : LastC cs 11 (fun _ => -1)) (hb9 : base ≤ lb9) (hbG : base ≤ wG.heap.size) (hB : Below base w wG) (x0 x1 x2 x3 x4 x5 x6 x7 x8 x9 x10 x11 x12 x13 x14 x16 x18 x19 x21 x22 x23 x24 x25 x26 x30 x31 x32 x33 x34 x35 x36 x37 x38 x39 x40 x41 x42 x43 x44 x45 x46 x47 x48 x49 x50 x51 x52 x53 x54 x55 x56 x57 x58 x59 x60 x61 x62 x63 x64 x65 x66 x67 x68 x69 x70 x71 x72 x73 x74 x75 x76 x77 x78 x79 x80 x81 x82 x83 x84 x85 x86 x87 x88 x89 x90 x91 x92 x93 x94 x95 x96 x97 x98 x99 x100 x101 x102 x103 x104 x105 x106 x107 x108 x109 x110 x111 x112 x113 x114 x115 x116 x117 x118 x119 x120 x121 x122 x123 x124 x125 x126 x127 x128 x129 x130 x131 x132 x133 x134 x135 x136 x137 x138 x139 x140 x141 x142 x143 x144 x145 x146 x147 x148 x149 x150 x151 x152 x153 x154 x155 x156 x157 x158 x159 x160 x161 x162 x163 x164 x165 x166 x167 x168 x169 x170 x171 x172 x173 x174 x175 x176 x177 x178 x179 x180 x181 x182 x183 x184 x185 x186 x187 x188 x189 x190 x191 x192 x193 x194 x195 x196 x197 x198 x199 x200 x201 x202 x203 x204 x205 x206 x207 x208 x209 x210 x211 x212 x213 x214 x215 x216 x217 x218 x219 x220 x221 x222 x223 x224 x225 x226 x227 x228 x229 x230 x231 x232 x233 x234 x235 x236 x237 x238 x239 x240 x241 x242 x243 x244 x245 x246 x247 x248 x249 x250 x251 x252 x253 x254 x255 x256 x257 x258 x259 x260 x261 x262 x263 x264 x265 x266 x267 x268 x269 x270 x271 x272 x273 x274 x275 x276 x277 x278 x279 x280 x281 x282 x283 x284 x285 x286 x287 x288 x289 x290 x291 x292 x293 x294 x295 x296 x297 x298 x299 x300 x301 x302 x303 x304 x305 x306 x307 x308 x309 x310 x311 x312 x313 x314 x315 x316 x317 x318 x319 x320 x321 x322 x323 x324 x325 x326 x327 x328 x329 x330 x331 x332 x333 x334 x335 x336 x337 x338 x339 x340 x341 x342 x343 x344 x345 x346 x347 x348 x349 x350 x351 x352 x353 : Value) :
    Code.wp Ybad.prog (dropSeq 22 (Ybad.f3.body.getD .skip)) (bodyPost Ybad.prog Ybad.f3 fun e w' => e = .returned (.bool true) ∧ Below base w w') { tmps := #[x0, x1, x2, x3, x4, x5, x6, x7, x8, x9, x10, x11, x12, x13, x14, (.pointer (some ⟨d.tb, 0, none⟩)), x16, (.pointer (some ⟨d.lb, 0, none⟩)), x18, x19, (.slice ao Ns cap), x21, x22, x23, x24, x25, x26, (.pointer (some ⟨sb, 0, none⟩)), (.int .u32 ns), (.pointer (some ⟨lb9, 0, none⟩)), x30, x31, x32, x33, x34, x35, x36, x37, x38, x39, x40, x41, x42, x43, x44, x45, x46, x47, x48, x49, x50, x51, x52, x53, x54, x55, x56, x57, x58, x59, x60, x61, x62, x63, x64, x65, x66, x67, x68, x69, x70, x71, x72, x73, x74, x75, x76, x77, x78, x79, x80, x81, x82, x83, x84, x85, x86, x87, x88, x89, x90, x91, x92, x93, x94, x95, x96, x97, x98, x99, x100, x101, x102, x103, x104, x105, x106, x107, x108, x109, x110, x111, x112, x113, x114, x115, x116, x117, x118, x119, x120, x121, x122, x123, x124, x125, x126, x127, x128, x129, x130, x131, x132, x133, x134, x135, x136, x137, x138, x139, x140, x141, x142, x143, x144, x145, x146, x147, x148, x149, x150, x151, x152, x153, x154, x155, x156, x157, x158, x159, x160, x161, x162, x163, x164, x165, x166, x167, x168, x169, x170, x171, x172, x173, x174, x175, x176, x177, x178, x179, x180, x181, x182, x183, x184, x185, x186, x187, x188, x189, x190, x191, x192, x193, x194, x195, x196, x197, x198, x199, x200, x201, x202, x203, x204, x205, x206, x207, x208, x209, x210, x211, x212, x213, x214, x215, x216, x217, x218, x219, x220, x221, x222, x223, x224, x225, x226, x227, x228, x229, x230, x231, x232, x233, x234, x235, x236, x237, x238, x239, x240, x241, x242, x243, x244, x245, x246, x247, x248, x249, x250, x251, x252, x253, x254, x255, x256, x257, x258, x259, x260, x261, x262, x263, x264, x265, x266, x267, x268, x269, x270, x271, x272, x273, x274, x275, x276, x277, x278, x279, x280, x281, x282, x283, x284, x285, x286, x287, x288, x289, x290, x291, x292, x293, x294, x295, x296, x297, x298, x299, x300, x301, x302, x303, x304, x305, x306, x307, x308, x309, x310, x311, x312, x313, x314, x315, x316, x317, x318, x319, x320, x321, x322, x323, x324, x325, x326, x327, x328, x329, x330, x331, x332, x333, x334, x335, x336, x337, x338, x339, x340, x341, x342, x343, x344, x345, x346, x347, x348, x349, x350, x351, x352, x353], defers := [] } wG := by
  conv => arg 2; simp only [Ybad.f3, Option.getD_some, dropSeq]
  have HS := hide (And.intro hs (And.intro ha (And.intro hC (And.intro hc (And.intro hI hB)))))
  have HK := hide k
  clear hs ha hC hc hI hB k
  go_upto_block 10 with fail
  go_cut [31, 33, 34, 35, 36, 37, 38, 39] (fun s31 _ _ _ _ _ _ _ wx => ∃ (ao3 : Option Addr) (L cap3 : Nat), s31 = .slice ao3 L cap3 ∧ Hid (∃ cs, wG.grownBy wx (some lb9) ∧ wx.heap[lb9]? = some (.cells cs 86 (0, 0)) ∧ LastC cs 11 (allTo ch fst cnt (fun i => nd (sa i)) Ns ([], fun _ => -1)).2 ∧ L = (allTo ch fst cnt (fun i => nd (sa i)) Ns ([], fun _ => -1)).1.length ∧ wx.ownsRow wG.heap.size 72 2 (.slice ao3 L cap3) L (waitV (allTo ch fst cnt (fun i => nd (sa i)) Ns ([], fun _ => -1)).1)))
  case first =>
    go_wp2_with fail
    go_loopg [188, 31] Ns (fun g u s wr => ∃ (i L cap3 : Nat) (ao3 : Option Addr), i ≤ Ns ∧ g = Ns - i ∧ u = .int .i64 (i : Int) ∧ s = .slice ao3 L cap3 ∧ Hid (∃ cs, wG.grownBy wr (some lb9) ∧ wr.heap[lb9]? = some (.cells cs 86 (0, 0)) ∧ LastC cs 11 (allTo ch fst cnt (fun i => nd (sa i)) i ([], fun _ => -1)).2 ∧ L = (allTo ch fst cnt (fun i => nd (sa i)) i ([], fun _ => -1)).1.length ∧ wr.ownsRow wG.heap.size 72 2 (.slice ao3 L cap3) L (waitV (allTo ch fst cnt (fun i => nd (sa i)) i ([], fun _ => -1)).1)))
    case atStart => exact ⟨0, 0, 0, none, Nat.zero_le _, rfl, rfl, rfl, cs, ⟨rfl, rfl, rfl, Nat.le_refl _, fun _ _ _ => rfl⟩, HS.out.2.2.1, HS.out.2.2.2.1, rfl, World.ownsRow_nil _ _ _ _⟩
    case round =>
      obtain ⟨i, L, cap3, ao3, hi, rfl, rfl, rfl, HI⟩ := hrel
      by_cases hiN : i < Ns
      · obtain ⟨cs1, hg, hC, hc, hL, hO⟩ := HI.out
        obtain ⟨g', cur, rfl, hh, hcc⟩ := (HS.out.2.1.other hg HS.out.2.2.1) i hiN
        have r0 : wr.cell? ⟨g', i, none⟩ = some (.int .u32 (sa i : Nat)) := by rw [cell_of_row wr _ _ _ 24 (0, 0) hh]; exact hcc
        obtain ⟨cl, l1⟩ := HK.out.l1
        have hst := HS.out.1.other hg HS.out.2.2.1
        have r1 : wr.cell? ⟨d.lb, 1, none⟩ = some (.slice (some ⟨d.ga, 0, none⟩) A cl) := by rw [cell_of_row wr _ _ _ 49 (0, 0) hst.l]; exact l1
        have r2 : wr.cell? ⟨d.ga, sa i * 9, none⟩ = some (.int .u32 (nd (sa i) : Nat)) := by rw [cell_of_row wr _ _ _ 66 (0, 0) hst.a]; exact HK.out.a0 _ (hsa i hiN)
        have hq := hsa i hiN
        have hvN := HK.out.an _ hq
        have hA := HK.out.hA
        have hNN := HK.out.hN
        have hEE := HK.out.hE
        have hlen := allTo_lenTo ch fst cnt (fun i => nd (sa i)) ([], fun _ => -1) Ns (fun j hj => (HK.out.bd _ (HK.out.an _ (hsa j hj))).2) i hi
        have hE0 : nd (sa i) = 0 → allTo ch fst cnt (fun i => nd (sa i)) (i + 1) ([], fun _ => -1) = allTo ch fst cnt (fun i => nd (sa i)) i ([], fun _ => -1) := fun h => allTo_skip h
        have hE1 : nd (sa i) ≠ 0 → allTo ch fst cnt (fun i => nd (sa i)) (i + 1) ([], fun _ => -1) = nodeTo ch (fst (nd (sa i))) (cnt (nd (sa i))) (allTo ch fst cnt (fun i => nd (sa i)) i ([], fun _ => -1)) := fun h => allTo_take h
        have HE := hide (And.intro hE0 hE1)
        generalize allTo ch fst cnt (fun i => nd (sa i)) i ([], fun _ => -1) = S0 at HE hc hL hO hlen
        have hlen0 : S0.1.length ≤ 768 := by simp at hlen; omega
        have HT := hide (And.intro hg (And.intro hC (And.intro hc (And.intro hL (And.intro hO hst)))))
        clear HI hg hC hc hL hO hst hh hcc l1 hE0 hE1 hlen
        generalize hqq : sa i = q at r0 r2 hq hvN HE
        generalize hvv : nd q = v at r2 hvN HE
        by_cases hv0 : v = 0
        · have HE0 := hide (HE.out.1 hv0)
          clear HE
          subst hv0
          go_wp2_with fail
          go_roundg (Ns - (i + 1))
          case measure => omega
          case rel =>
            refine ⟨i + 1, L, cap3, ao3, hiN, rfl, by go_num, rfl, cs1, ?_⟩
            rw [HE0.out]
            exact ⟨HT.out.1, HT.out.2.1, HT.out.2.2.1, HT.out.2.2.2.1, HT.out.2.2.2.2.1⟩
        · have hvi : ¬ ((v : Int) = 0) := by omega
          obtain ⟨ct, t0⟩ := HK.out.t0
          obtain ⟨m0, m1, ⟨x2, m2⟩, x3, m3⟩ := HK.out.n0 v hvN
          obtain ⟨hbd1, hbd2⟩ := HK.out.bd v hvN
          have e0 : wr.cell? ⟨d.tb, 0, none⟩ = some (.slice (some ⟨d.gn, 0, none⟩) N ct) := by rw [cell_of_row wr _ 0 _ 63 (0, 0) HT.out.2.2.2.2.2.t]; exact t0
          have f0 : wr.cell? ⟨d.gn, v * 4, none⟩ = some (.int .u32 (fst v : Nat)) := by rw [cell_of_row wr _ _ _ 88 (0, 0) HT.out.2.2.2.2.2.n]; exact m0
          have f1 : wr.cell? ⟨d.gn, v * 4 + 1, none⟩ = some (.int .u32 (cnt v : Nat)) := by rw [cell_of_row wr _ _ _ 88 (0, 0) HT.out.2.2.2.2.2.n]; exact m1
          have f2 : wr.cell? ⟨d.gn, v * 4 + 2, none⟩ = some (.int .u32 x2) := by rw [cell_of_row wr _ _ _ 88 (0, 0) HT.out.2.2.2.2.2.n]; exact m2
          have f3 : wr.cell? ⟨d.gn, v * 4 + 3, none⟩ = some (.int .u32 x3) := by rw [cell_of_row wr _ _ _ 88 (0, 0) HT.out.2.2.2.2.2.n]; exact m3
          have HE1 := hide (HE.out.2 hv0)
          clear HE t0 m0 m1 m2 m3
          generalize fst v = f at *
          generalize cnt v = c at *
          go_wp2_with fail
          obtain ⟨V, hV⟩ : ∃ V : World, V = wr.alloc (.cells #[.int .u32 (f : Int), .int .u32 (c : Int), .int .u32 x2, .int .u32 x3] 88) := ⟨_, rfl⟩
          rw [← hV]
          have HV := hide (show wG.grownBy V (some lb9) ∧ V.heap[lb9]? = some (.cells cs1 86 (0, 0)) ∧ V.ownsRow wG.heap.size 72 2 (.slice ao3 L cap3) L (waitV S0.1) ∧ V.heap[wr.heap.size]? = some (.cells #[.int .u32 (f : Int), .int .u32 (c : Int), .int .u32 x2, .int .u32 x3] 88 (0, 0)) from by
            rw [hV]
            exact ⟨grow_mix HT.out.1 (World.grownBy_alloc wr _ none) (by simp), blk_none (World.grownBy_alloc wr _ none) HT.out.2.1, HT.out.2.2.2.2.1.alloc _, heap_alloc_new wr _⟩)
          clear hV r0 r1 r2 e0 f0 f1 f2 f3
          generalize wr.heap.size = nb at *
          go_loopg [36, 31] c (fun g u s wr => ∃ (j L cap3 : Nat) (ao3 : Option Addr), j ≤ c ∧ g = c - j ∧ u = .int .i64 (j : Int) ∧ s = .slice ao3 L cap3 ∧ Hid (∃ cs, wG.grownBy wr (some lb9) ∧ wr.heap[lb9]? = some (.cells cs 86 (0, 0)) ∧ LastC cs 11 (nodeTo ch f j S0).2 ∧ L = (nodeTo ch f j S0).1.length ∧ wr.ownsRow wG.heap.size 72 2 (.slice ao3 L cap3) L (waitV (nodeTo ch f j S0).1) ∧ wr.heap[nb]? = some (.cells #[.int .u32 (f : Int), .int .u32 (c : Int), .int .u32 x2, .int .u32 x3] 88 (0, 0))))
          case atStart => exact ⟨0, L, cap3, ao3, Nat.zero_le _, rfl, rfl, rfl, cs1, HV.out.1, HV.out.2.1, HT.out.2.2.1, HT.out.2.2.2.1, HV.out.2.2.1, HV.out.2.2.2⟩
          case round =>
            obtain ⟨j, L1, cap1, ao1, hj, rfl, rfl, rfl, HJ⟩ := hrel
            by_cases hjc : j < c
            · obtain ⟨cs2, hg2, hC2, hc2, hL2, hO2, hN2⟩ := HJ.out
              have q0 : wr.cell? ⟨nb, 0, none⟩ = some (.int .u32 (f : Int)) := by rw [cell_of_row wr _ 0 _ 88 (0, 0) hN2]; rfl
              have q1 : wr.cell? ⟨nb, 1, none⟩ = some (.int .u32 (c : Int)) := by rw [cell_of_row wr _ 1 _ 88 (0, 0) hN2]; rfl
              have hst2 := HS.out.1.other hg2 HS.out.2.2.1
              obtain ⟨ce, t1⟩ := HK.out.t1
              have hcm := HK.out.tb (f + j) (by omega)
              have s1 : wr.cell? ⟨d.tb, 1, none⟩ = some (.slice (some ⟨d.ge, 0, none⟩) E ce) := by rw [cell_of_row wr _ 1 _ 63 (0, 0) hst2.t]; exact t1
              have s2 : wr.cell? ⟨d.ge, f + j, none⟩ = some (.int .i32 (ch (f + j) : Nat)) := by rw [cell_of_row wr _ _ _ 21 (0, 0) hst2.e]; exact HK.out.e0 (f + j) (by omega)
              have hlen1 := nodeTo_len ch f S0 j
              have hstep : nodeTo ch f (j + 1) S0 = stepE (ch (f + j)) (f + 1 + j) (nodeTo ch f j S0) := rfl
              generalize hcc : ch (f + j) = cc at *
              have hclt := tab_lt cc hcm
              generalize nodeTo ch f j S0 = T at *
              have HST := hide hstep
              have HC := hide hcm
              have HJ2 := hide (And.intro hg2 (And.intro hC2 (And.intro hc2 (And.intro hL2 (And.intro hO2 hN2)))))
              have hL1b : L1 ≤ 800 := by omega
              have hszG := hg2.size
              clear HJ hst2 t1 hstep hcm hg2 hC2 hc2 hN2 hL2 hlen1
              go_wp2_with fail
              refine (kind_any cc HC.out _).mono ?_
              rintro e wk ⟨rfl, hwk⟩
              subst wk
              cases hkb : kB cc
              · have HE2 := hide (HST.out.trans (stepE_no hkb))
                go_wp2_with fail
                go_roundg (c - (j + 1))
                case measure => omega
                case rel =>
                  refine ⟨j + 1, L1, cap1, ao1, hjc, rfl, by go_num, rfl, cs2, ?_⟩
                  rw [HE2.out]
                  exact ⟨HJ2.out.1, HJ2.out.2.1, HJ2.out.2.2.1, HJ2.out.2.2.2.1, HJ2.out.2.2.2.2.1, HJ2.out.2.2.2.2.2⟩
              · have hk11 := (iN_noise HC.out hkb).2
                have HE2 := hide (HST.out.trans (stepE_yes hkb))
                clear hkb HST
                generalize kN cc = kk at *
                have z0 : wr.cell? ⟨lb9, kk, none⟩ = some (.int .i32 (T.2 kk)) := by rw [cell_of_row wr _ _ _ 86 (0, 0) HJ2.out.2.1]; exact HJ2.out.2.2.1.2 kk hk11
                obtain ⟨j1, hi1, hz10, hz11, hz12⟩ := info_parts info72
                go_wp2_with (at_builtin; refine isAt 244 ?_; refine wpList_append_shape _ rfl (.tmp 237) (.tmp 243) 70 rfl wG.heap.size 72 j1 _ 2 8 Ybad.underlying70 hi1 hz10 hz11 hz12 rfl (by decide) (.slice ao1 L1 cap1) L1 (waitV T.1) rfl (hO2.alloc _) ⟨wr.heap.size, 0, none⟩ 1 1 [.int .u32 ((f : Int) + 1 + (j : Int)), .int .i32 (T.2 kk)] rfl rfl (new_cells wr [.int .u32 ((f : Int) + 1 + (j : Int)), .int .i32 (T.2 kk)] 72) (rw_oneCell _ _) (by unfold maxLen; omega) (by omega) (by simp; omega) (by decide) ?_; intro g7 c7 w7 hown7 hgrow7; have S7 := hide (exp_step (u := f + 1 + j) HJ2.out.1 HJ2.out.2.1 HJ2.out.2.2.1 HJ2.out.2.2.2.1 HJ2.out.2.2.2.2.1 HJ2.out.2.2.2.2.2 hk11 (by simpa using hown7) hgrow7); have d0 : w7.cell? ⟨lb9, kk, none⟩ = some (.int .i32 (T.2 kk)) := (by rw [cell_of_row w7 _ _ _ 86 (0, 0) S7.out.1]; exact HJ2.out.2.2.1.2 kk hk11); have df := frozen_of_row w7 lb9 kk _ 86 S7.out.1; clear hown7 hgrow7)
                clear hi1 hz10 hz11 hz12
                go_roundg (c - (j + 1))
                case measure => omega
                case rel =>
                  refine ⟨j + 1, L1 + 1, c7, _, hjc, rfl, by go_num, rfl, cs2.setIfInBounds kk (.int .i32 (L1 : Int)), ?_⟩
                  rw [HE2.out]
                  exact S7.out.2
            · obtain rfl : j = c := by omega
              have q1 : wr.cell? ⟨nb, 1, none⟩ = some (.int .u32 (j : Int)) := by obtain ⟨_, _, _, _, _, _, hN2⟩ := HJ.out; rw [cell_of_row wr _ 1 _ 88 (0, 0) hN2]; rfl
              go_wp2_with fail
              go_roundg (Ns - (i + 1))
              case measure => omega
              case rel =>
                obtain ⟨cs2, hg2, hC2, hc2, hL2, hO2, _⟩ := HJ.out
                refine ⟨i + 1, L1, cap1, ao1, hiN, rfl, by go_num, rfl, cs2, ?_⟩
                rw [HE1.out]
                exact ⟨hg2, hC2, hc2, hL2, hO2⟩
      · obtain rfl : i = Ns := by omega
        go_wp2_with fail
        go_meet
        case rel => exact ⟨ao3, L, cap3, rfl, HI.out⟩
  case rest =>
    obtain ⟨ao3, L, cap3, rfl, HL⟩ := hcut
    obtain ⟨cs', hg, hC, hc, hL, hO⟩ := HL.out
    have hlen := allTo_lenTo ch fst cnt (fun i => nd (sa i)) ([], fun _ => -1) Ns (fun j hj => (HK.out.bd _ (HK.out.an _ (hsa j hj))).2) Ns (Nat.le_refl _)
    refine (‹∀ (a : Act) (w : World), Code.wp Ybad.prog _ _ a w → _› : ∀ (a : Act) (w : World), Code.wp Ybad.prog _ _ a w → _) _ _ ?_
    exact tail3 w wc base sb lb9 gx gw n cw L cap3 wG.heap.size ao3 an ns _ cs' hL (by simp at hlen; omega) hn (HS.out.2.2.2.2.1.other hg HS.out.2.2.1) hC hc hO (HS.out.2.2.2.2.2.grown hg hbG (fun i e => by simp at e; omega)) _ _ _ _ _ _ _ _ _ _ _ _ _ _ _ _ _ _ _ _ _ _ _ _ _ _ _ _ _ _ _ _ _ _ _ _ _ _ _ _ _ _ _ _ _ _ _ _ _ _ _ _ _ _ _ _ _ _ _ _ _ _ _ _ _ _ _ _ _ _ _ _ _ _ _ _ _ _ _ _ _ _ _ _ _ _ _ _ _ _ _ _ _ _ _ _ _ _ _ _ _ _ _ _ _ _ _ _ _ _ _ _ _ _ _ _ _ _ _ _ _ _ _ _ _ _ _ _ _ _ _ _ _ _ _ _ _ _ _ _ _ _ _ _ _ _ _ _ _ _ _ _ _ _ _ _ _ _ _ _ _ _ _ _ _ _ _ _ _ _ _ _ _ _ _ _ _ _ _ _ _ _ _ _ _ _ _ _ _ _ _ _ _ _ _ _ _ _ _ _ _ _ _ _ _ _ _ _ _ _ _ _ _ _ _ _ _ _ _ _ _ _ _ _ _ _ _ _ _ _ _ _ _ _ _ _ _ _ _ _ _ _ _ _ _ _ _ _ _ _ _ _ _ _ _ _ _ _ _ _ _ _ _ _ _ _ _ _ _ _ _ _ _ _ _ _ _ _ _ _ _ _ _ _ _ _ _ _ _ _ _ _ _ _ _ _ _ _ _ _ _ _ _ _ _ _ _ _ _ _ _ _ _ _ _ _ _ _ _ _ _ _ _ _ _ _ _ _ _ _ _ _ _ _ _ _ _ _ _ _ _ _ _ _ _ _ _ _ _ _
end Go.Proofs.YbulktjyDoor
