/-
  LawS0150BRoute: THE LOOP OF THE CODECS KEPT, AND THE TESTS AHEAD OF IT.
-/
import Derived.Test.YbulkcbuRouteT1
namespace Go.Proofs.Ybulkcbu
open Go.RowKit

set_option maxRecDepth 100000 in
set_option maxHeartbeats 4000000 in
theorem t19 {w wx : World} {b4 bc br b6 B g capg cw : Nat} {p q : Int} {aw : Option Addr} {cs : List Nat} {st : List Value} {b18 b19 : Nat} {x0 x1 x2 x8 x9 x10 x11 x12 x13 x14 x15 x16 x17 x21 x22 x23 x24 x25 x26 x27 x28 x29 x30 x31 x32 x33 x34 x35 x36 x37 x38 x39 x40 x41 x42 x43 x44 x45 x46 x47 x48 x49 x50 x51 x52 x53 x54 x55 x56 x57 x58 x59 x60 x61 x62 x63 x64 x65 x66 x67 x68 x69 x70 x71 x72 x73 x74 x75 x76 x77 x78 x79 x80 x81 x82 x83 x84 x85 x86 x87 x88 x89 x90 x91 x92 x93 x94 x95 x96 x97 x98 x99 x100 x101 x102 x103 x104 x105 x106 x107 x108 x109 x110 x111 x112 x113 x114 x115 x116 x117 x118 x119 x120 x121 x122 x123 x124 x125 x126 x127 x128 x129 x130 x131 x132 x133 x134 x135 x136 x137 x138 x139 x140 x141 x142 x143 x144 x145 x146 x147 x148 x149 x150 x151 x152 x153 x154 x155 x156 x157 x158 x159 x160 x161 x162 x163 x164 x165 x166 x167 x168 x169 x170 x171 x172 x173 x174 x175 x176 x177 x178 x179 x180 x181 x182 x183 x184 x185 x186 x187 x188 x189 x190 x191 x192 x193 x194 x195 x196 x197 x198 x199 x200 x201 x202 x203 x204 x205 x206 x207 x208 x209 x210 x211 x212 x213 x214 x215 x216 x217 x218 x219 x220 x221 x222 x223 x224 x225 x226 x227 x228 x229 x230 x231 x232 x233 x234 x235 x236 x237 x238 x239 x240 x241 x242 x243 x244 x245 x246 x247 x248 x249 x250 x251 x252 x253 x254 x255 x256 x257 x258 x259 x260 x261 x262 x263 : Value}
    (hG : Hid (Given cs p q st)) (hL : Hid (Late w wx b4 bc br b6 B g capg p q aw cs st b18 b19)) (h0 : 0 < (svcsOf cs).length) :
    (tailC 19).wp Yba.prog (bodyPost Yba.prog Yba.f3 fun e w' => e = .returned (.bool true) ∧ Below w.heap.size w w')
      ⟨#[x0, x1, x2, .slice aw cs.length cw, .pointer (some ⟨b4, 0, none⟩), .pointer (some ⟨br, 0, none⟩), .pointer (some ⟨b6, 0, none⟩), .pointer (some ⟨b6 + 1, 0, none⟩), x8, x9, x10, x11, x12, x13, x14, x15, x16, x17, .pointer (some ⟨b18, 0, none⟩), .pointer (some ⟨b19, 0, none⟩), .slice none 0 0, x21, x22, x23, x24, x25, x26, x27, x28, x29, x30, x31, x32, x33, x34, x35, x36, x37, x38, x39, x40, x41, x42, x43, x44, x45, x46, x47, x48, x49, x50, x51, x52, x53, x54, x55, x56, x57, x58, x59, x60, x61, x62, x63, x64, x65, x66, x67, x68, x69, x70, x71, x72, x73, x74, x75, x76, x77, x78, x79, x80, x81, x82, x83, x84, x85, x86, x87, x88, x89, x90, x91, x92, x93, x94, x95, x96, x97, x98, x99, x100, x101, x102, x103, x104, x105, x106, x107, x108, x109, x110, x111, x112, x113, x114, x115, x116, x117, x118, x119, x120, x121, x122, x123, x124, x125, x126, x127, x128, x129, x130, x131, x132, x133, x134, x135, x136, x137, x138, x139, x140, x141, x142, x143, x144, x145, x146, x147, x148, x149, x150, x151, x152, x153, x154, x155, x156, x157, x158, x159, x160, x161, x162, x163, x164, x165, x166, x167, x168, x169, x170, x171, x172, x173, x174, x175, x176, x177, x178, x179, x180, x181, x182, x183, x184, x185, x186, x187, x188, x189, x190, x191, x192, x193, x194, x195, x196, x197, x198, x199, x200, x201, x202, x203, x204, x205, x206, x207, x208, x209, x210, x211, x212, x213, x214, x215, x216, x217, x218, x219, x220, x221, x222, x223, x224, x225, x226, x227, x228, x229, x230, x231, x232, x233, x234, x235, x236, x237, x238, x239, x240, x241, x242, x243, x244, x245, x246, x247, x248, x249, x250, x251, x252, x253, x254, x255, x256, x257, x258, x259, x260, x261, x262, x263], []⟩ wx := by
  refine tail_step 19 20 open19 ?_
  conv => arg 2; whnf
  obtain ⟨i0, hi, hz0, hz1, hz2⟩ := info_parts info68
  have hl15 := hG.out.fit.2
  go_wp2_with fail
  go_loopw [20, 185] (fun v i wr => ∃ k : Nat, k ≤ cs.length ∧ i = .int .i64 k ∧ Kept wx wr v (cs.take k)) (fun _ i _ => cs.length - (intOf i).toNat)
  case atStart => exact ⟨0, Nat.zero_le _, rfl, ⟨Below.refl _ _, World.ownsRow_nil _ _ _ _⟩⟩
  case round =>
    obtain ⟨k, hk, rfl, hA⟩ := hrel
    by_cases hlt : k < cs.length
    · have htk : Hid (cs.take (k + 1) = cs.take k ++ [cs[k]]) := List.take_succ_eq_append_getElem hlt
      have hlen : Hid ((cs.take k).length = k) := List.length_take_of_le hk
      have hbv : Hid (hasB (svcsOf cs) (svc cs[k]) = true) := five_all cs _ (List.getElem_mem hlt)
      generalize cs.take k = S at *
      obtain ⟨ga, rfl, hcell⟩ := (hL.out.post.row.on hA.low) k hlt
      have c6 := (hL.out.post.o6.on hA.low).1
      obtain ⟨aS, cS, rfl, hrowS⟩ := row_form hA.own
      have HA : Hid (Kept wx wr (.slice aS S.length cS) S) := hA
      clear hA hrowS
      generalize cs[k] = c at *
      go_upto_region 42 with fail
      go_region_with (first
        | (go_at_call 6; refine (zsvc_any _ _).mono ?_; rintro e w2 ⟨rfl, hw2⟩; have hw3 := hw2.symm; subst hw3)
        | (go_at_call 11; refine (has_q (svcsOf cs) q hG.out.hq (svcsOf_five cs).fits.1 (svc c) hbv.out _).mono ?_; rintro e w3 ⟨rfl, hB3⟩))
      all_goals
        have hB4 : Below wr.heap.size wr w3 := (Below.refl _ _).drew.trans hB3
        have hS15 : S.length < 15 := by have := hlen.out; omega
        have hsz := hB4.size
        go_wp2_with (at_builtin; refine wpList_append_lies _ rfl (.tmp 193) (.tmp 195) 23 rfl wx.heap.size 68 i0 (.int .u8 0) 1 1 Yba.underlying23 hi hz0 hz1 hz2 rfl (by decide) (.slice aS S.length cS) S.length (u8s S) rfl ((own_on HA.out.own hB4).alloc _) ⟨w3.heap.size, 0, none⟩ 1 1 [.int .u8 (c : Int)] rfl rfl (cell_one_new _ _ _) (cell_u8 c) (by decide) (by unfold maxLen; omega) (by omega) (by have := HA.out.low.size; simp; omega) _ rfl ?_; intro g2 cap2 w4 hown4 hgrow4 hat4 hlt4)
        go_roundw
        case rel => exact ⟨k + 1, by omega, by go_num, by rw [htk.out]; exact HA.out.grown hB4 hown4 hgrow4⟩
        case measure => simp [intOf]; omega
    · have hke : Hid (cs.take k = cs) := List.take_of_length_le (by omega)
      rw [hke.out] at hA
      obtain ⟨aK, cK, rfl, hrowK⟩ := row_form hA.own
      have hRK : Hid (RowAt wr aK cs) := hrowK
      have hL2 : Hid (Late w wr b4 bc br b6 B g capg p q aw cs st b18 b19) := hL.out.on hA.low
      clear hA hrowK
      go_wp2_with fail
      exact t20 hG hL2 h0 hRK


end Go.Proofs.Ybulkcbu
