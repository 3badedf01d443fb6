/-
  LawS0150BRoute FROM ITS LAST TESTS ON.
-/
import Derived.Test.YbulkcbuRouteA
namespace Go.Proofs.Ybulkcbu
open Go.RowKit

theorem eq15 (w : World) : Sem.run Yba.prog (Op.equalIn 9999 79 (.agg #[Value.int .u8 0, Value.int .u8 0, Value.int .u8 0, Value.int .u8 0, Value.int .u8 0, Value.int .u8 0, Value.int .u8 0, Value.int .u8 0, Value.int .u8 0, Value.int .u8 0, Value.int .u8 0, Value.int .u8 0, Value.int .u8 0, Value.int .u8 0, Value.int .u8 0]) (.agg #[Value.int .u8 0, Value.int .u8 0, Value.int .u8 0, Value.int .u8 0, Value.int .u8 0, Value.int .u8 0, Value.int .u8 0, Value.int .u8 0, Value.int .u8 0, Value.int .u8 0, Value.int .u8 0, Value.int .u8 0, Value.int .u8 0, Value.int .u8 0, Value.int .u8 0])) w = .ok true w := by kernel_rfl
theorem fwd17 : noFwd = [Value.int .u8 0, Value.int .u8 0, Value.int .u8 0, Value.int .u8 0, Value.int .u8 0, Value.int .u8 0, Value.int .u8 0, Value.int .u8 0, Value.int .u8 0, Value.int .u8 0, Value.int .u8 0, Value.int .u8 0, Value.int .u8 0, Value.int .u8 0, Value.int .u8 0, Value.int .u8 0, Value.int .u8 0] := by kernel_rfl
theorem size17 : (Yba.prog.info? 81).map (·.size) = some [Value.int .u8 0, Value.int .u8 0, Value.int .u8 0, Value.int .u8 0, Value.int .u8 0, Value.int .u8 0, Value.int .u8 0, Value.int .u8 0, Value.int .u8 0, Value.int .u8 0, Value.int .u8 0, Value.int .u8 0, Value.int .u8 0, Value.int .u8 0, Value.int .u8 0, Value.int .u8 0, Value.int .u8 0].length := by kernel_rfl
theorem fwd_drop : ((sigL 11 2 0).drop 11).take 17 = noFwd := by kernel_rfl
theorem fwd_at {j : Nat} {v : Value} (h : noFwd[j]? = some v) : (sigL 11 2 0)[11 + j]? = some v := by
  have hj : j < 17 := (List.getElem?_eq_some_iff.1 h).1
  rw [← h, ← fwd_drop, List.getElem?_take_of_lt hj, List.getElem?_drop]

set_option maxRecDepth 100000 in
set_option maxHeartbeats 4000000 in
theorem t22 {w wx : World} {b4 bc br b6 B g capg cw : Nat} {p q : Int} {aw : Option Addr} {cs : List Nat} {st : List Value} {b18 b19 : Nat} {x0 x1 x2 x8 x9 x10 x11 x12 x13 x14 x15 x16 x17 x20 x21 x22 x23 x24 x25 x26 x27 x28 x29 x30 x31 x32 x33 x34 x35 x36 x37 x38 x39 x40 x41 x42 x43 x44 x45 x46 x47 x48 x49 x50 x51 x52 x53 x54 x55 x56 x57 x58 x59 x60 x61 x62 x63 x64 x65 x66 x67 x68 x69 x70 x71 x72 x73 x74 x75 x76 x77 x78 x79 x80 x81 x82 x83 x84 x85 x86 x87 x88 x89 x90 x91 x92 x93 x94 x95 x96 x97 x98 x99 x100 x101 x102 x103 x104 x105 x106 x107 x108 x109 x110 x111 x112 x113 x114 x115 x116 x117 x118 x119 x120 x121 x122 x123 x124 x125 x126 x127 x128 x129 x130 x131 x132 x133 x134 x135 x136 x137 x138 x139 x140 x141 x142 x143 x144 x145 x146 x147 x148 x149 x150 x151 x152 x153 x154 x155 x156 x157 x158 x159 x160 x161 x162 x163 x164 x165 x166 x167 x168 x169 x170 x171 x172 x173 x174 x175 x176 x177 x178 x179 x180 x181 x182 x183 x184 x185 x186 x187 x188 x189 x190 x191 x192 x193 x194 x195 x196 x197 x198 x199 x200 x201 x202 x203 x204 x205 x206 x207 x208 x209 x210 x211 x212 x213 x214 x215 x216 x217 x218 x219 x220 x221 x222 x223 x224 x225 x226 x227 x228 x229 x230 x231 x232 x233 x234 x235 x236 x237 x238 x239 x240 x241 x242 x243 x244 x245 x246 x247 x248 x249 x250 x251 x252 x253 x254 x255 x256 x257 x258 x259 x260 x261 x262 x263 : Value}
    (hG : Hid (Given cs p q st)) (hL : Hid (Late w wx b4 bc br b6 B g capg p q aw cs st b18 b19)) (h0 : 0 < (svcsOf cs).length) :
    (tailC 22).wp Yba.prog (bodyPost Yba.prog Yba.f3 fun e w' => e = .returned (.bool true) ∧ Below w.heap.size w w')
      ⟨#[x0, x1, x2, .slice aw cs.length cw, .pointer (some ⟨b4, 0, none⟩), .pointer (some ⟨br, 0, none⟩), .pointer (some ⟨b6, 0, none⟩), .pointer (some ⟨b6 + 1, 0, none⟩), x8, x9, x10, x11, x12, x13, x14, x15, x16, x17, .pointer (some ⟨b18, 0, none⟩), .pointer (some ⟨b19, 0, none⟩), x20, x21, x22, x23, x24, x25, x26, x27, x28, x29, x30, x31, x32, x33, x34, x35, x36, x37, x38, x39, x40, x41, x42, x43, x44, x45, x46, x47, x48, x49, x50, x51, x52, x53, x54, x55, x56, x57, x58, x59, x60, x61, x62, x63, x64, x65, x66, x67, x68, x69, x70, x71, x72, x73, x74, x75, x76, x77, x78, x79, x80, x81, x82, x83, x84, x85, x86, x87, x88, x89, x90, x91, x92, x93, x94, x95, x96, x97, x98, x99, x100, x101, x102, x103, x104, x105, x106, x107, x108, x109, x110, x111, x112, x113, x114, x115, x116, x117, x118, x119, x120, x121, x122, x123, x124, x125, x126, x127, x128, x129, x130, x131, x132, x133, x134, x135, x136, x137, x138, x139, x140, x141, x142, x143, x144, x145, x146, x147, x148, x149, x150, x151, x152, x153, x154, x155, x156, x157, x158, x159, x160, x161, x162, x163, x164, x165, x166, x167, x168, x169, x170, x171, x172, x173, x174, x175, x176, x177, x178, x179, x180, x181, x182, x183, x184, x185, x186, x187, x188, x189, x190, x191, x192, x193, x194, x195, x196, x197, x198, x199, x200, x201, x202, x203, x204, x205, x206, x207, x208, x209, x210, x211, x212, x213, x214, x215, x216, x217, x218, x219, x220, x221, x222, x223, x224, x225, x226, x227, x228, x229, x230, x231, x232, x233, x234, x235, x236, x237, x238, x239, x240, x241, x242, x243, x244, x245, x246, x247, x248, x249, x250, x251, x252, x253, x254, x255, x256, x257, x258, x259, x260, x261, x262, x263], []⟩ wx := by
  refine tail_step 22 23 open22 ?_
  conv => arg 2; whnf
  have hst : Hid (st = (sigL 11 2 0).set 4 (.int .u64 p)) := hG.out.some h0
  have e1 := hL.out.post.r1
  have e2 := hL.out.post.fwd
  have c1 := hL.out.s19.cell (o := 1) (u := .int .u8 2) (by rw [hst.out]; rfl)
  have tf : wx.rangeAt b19 11 [Value.int .u8 0, Value.int .u8 0, Value.int .u8 0, Value.int .u8 0, Value.int .u8 0, Value.int .u8 0, Value.int .u8 0, Value.int .u8 0, Value.int .u8 0, Value.int .u8 0, Value.int .u8 0, Value.int .u8 0, Value.int .u8 0, Value.int .u8 0, Value.int .u8 0, Value.int .u8 0, Value.int .u8 0] := by
    rw [← fwd17]
    intro j v hj
    refine hL.out.s19.cell ?_
    rw [hst.out, List.getElem?_set_ne (by omega), fwd_at hj]
  have h15 := eq15
  go_wp2_with (refine BigFrame.wpList_want rfl fun _ hK => wp_load_mid 81 (.tmp 231) rfl b19 11 rfl _ _ tf Yba.underlying81 rfl size17 (hK _ _ ?_); conv => arg 5; simp only [Act.put, List.setIfInBounds_toArray, List.set_cons_succ, List.set_cons_zero])
  go_ret
  exact ⟨rfl, hL.out.post.low⟩


set_option maxRecDepth 100000 in
set_option maxHeartbeats 4000000 in
theorem t21 {w wx : World} {b4 bc br b6 B g capg cw : Nat} {p q : Int} {aw : Option Addr} {cs : List Nat} {st : List Value} {b18 b19 : Nat} {x0 x1 x2 x8 x9 x10 x11 x12 x13 x14 x15 x16 x17 x20 x21 x22 x23 x24 x25 x26 x27 x28 x29 x30 x31 x32 x33 x34 x35 x36 x37 x38 x39 x40 x41 x42 x43 x44 x45 x46 x47 x48 x49 x50 x51 x52 x53 x54 x55 x56 x57 x58 x59 x60 x61 x62 x63 x64 x65 x66 x67 x68 x69 x70 x71 x72 x73 x74 x75 x76 x77 x78 x79 x80 x81 x82 x83 x84 x85 x86 x87 x88 x89 x90 x91 x92 x93 x94 x95 x96 x97 x98 x99 x100 x101 x102 x103 x104 x105 x106 x107 x108 x109 x110 x111 x112 x113 x114 x115 x116 x117 x118 x119 x120 x121 x122 x123 x124 x125 x126 x127 x128 x129 x130 x131 x132 x133 x134 x135 x136 x137 x138 x139 x140 x141 x142 x143 x144 x145 x146 x147 x148 x149 x150 x151 x152 x153 x154 x155 x156 x157 x158 x159 x160 x161 x162 x163 x164 x165 x166 x167 x168 x169 x170 x171 x172 x173 x174 x175 x176 x177 x178 x179 x180 x181 x182 x183 x184 x185 x186 x187 x188 x189 x190 x191 x192 x193 x194 x195 x196 x197 x198 x199 x200 x201 x202 x203 x204 x205 x206 x207 x208 x209 x210 x211 x212 x213 x214 x215 x216 x217 x218 x219 x220 x221 x222 x223 x224 x225 x226 x227 x228 x229 x230 x231 x232 x233 x234 x235 x236 x237 x238 x239 x240 x241 x242 x243 x244 x245 x246 x247 x248 x249 x250 x251 x252 x253 x254 x255 x256 x257 x258 x259 x260 x261 x262 x263 : Value}
    (hG : Hid (Given cs p q st)) (hL : Hid (Late w wx b4 bc br b6 B g capg p q aw cs st b18 b19)) (h0 : 0 < (svcsOf cs).length) :
    (tailC 21).wp Yba.prog (bodyPost Yba.prog Yba.f3 fun e w' => e = .returned (.bool true) ∧ Below w.heap.size w w')
      ⟨#[x0, x1, x2, .slice aw cs.length cw, .pointer (some ⟨b4, 0, none⟩), .pointer (some ⟨br, 0, none⟩), .pointer (some ⟨b6, 0, none⟩), .pointer (some ⟨b6 + 1, 0, none⟩), x8, x9, x10, x11, x12, x13, x14, x15, x16, x17, .pointer (some ⟨b18, 0, none⟩), .pointer (some ⟨b19, 0, none⟩), x20, x21, x22, x23, x24, x25, x26, x27, x28, x29, x30, x31, x32, x33, x34, x35, x36, x37, x38, x39, x40, x41, x42, x43, x44, x45, x46, x47, x48, x49, x50, x51, x52, x53, x54, x55, x56, x57, x58, x59, x60, x61, x62, x63, x64, x65, x66, x67, x68, x69, x70, x71, x72, x73, x74, x75, x76, x77, x78, x79, x80, x81, x82, x83, x84, x85, x86, x87, x88, x89, x90, x91, x92, x93, x94, x95, x96, x97, x98, x99, x100, x101, x102, x103, x104, x105, x106, x107, x108, x109, x110, x111, x112, x113, x114, x115, x116, x117, x118, x119, x120, x121, x122, x123, x124, x125, x126, x127, x128, x129, x130, x131, x132, x133, x134, x135, x136, x137, x138, x139, x140, x141, x142, x143, x144, x145, x146, x147, x148, x149, x150, x151, x152, x153, x154, x155, x156, x157, x158, x159, x160, x161, x162, x163, x164, x165, x166, x167, x168, x169, x170, x171, x172, x173, x174, x175, x176, x177, x178, x179, x180, x181, x182, x183, x184, x185, x186, x187, x188, x189, x190, x191, x192, x193, x194, x195, x196, x197, x198, x199, x200, x201, x202, x203, x204, x205, x206, x207, x208, x209, x210, x211, x212, x213, x214, x215, x216, x217, x218, x219, x220, x221, x222, x223, x224, x225, x226, x227, x228, x229, x230, x231, x232, x233, x234, x235, x236, x237, x238, x239, x240, x241, x242, x243, x244, x245, x246, x247, x248, x249, x250, x251, x252, x253, x254, x255, x256, x257, x258, x259, x260, x261, x262, x263], []⟩ wx := by
  refine tail_step 21 22 open21 ?_
  conv => arg 2; whnf
  have hst : Hid (st = (sigL 11 2 0).set 4 (.int .u64 p)) := hG.out.some h0
  have c0 := hL.out.s19.cell (o := 0) (u := .int .u8 11) (by rw [hst.out]; rfl)
  have c6 := hL.out.s19.cell (o := 6) (u := .int .u8 0) (by rw [hst.out]; rfl)
  have c4 := hL.out.s19.cell (o := 4) (u := .int .u64 p) (by rw [hst.out]; rfl)
  have c7 := hL.out.post.o7.1
  go_wp2_with fail
  exact t22 hG hL h0


set_option maxRecDepth 100000 in
set_option maxHeartbeats 4000000 in
theorem t20 {w wx : World} {b4 bc br b6 B g capg cw : Nat} {p q : Int} {aw : Option Addr} {cs : List Nat} {st : List Value} {b18 b19 cK : Nat} {aK : Option Addr} {x0 x1 x2 x8 x9 x10 x11 x12 x13 x14 x15 x16 x17 x21 x22 x23 x24 x25 x26 x27 x28 x29 x30 x31 x32 x33 x34 x35 x36 x37 x38 x39 x40 x41 x42 x43 x44 x45 x46 x47 x48 x49 x50 x51 x52 x53 x54 x55 x56 x57 x58 x59 x60 x61 x62 x63 x64 x65 x66 x67 x68 x69 x70 x71 x72 x73 x74 x75 x76 x77 x78 x79 x80 x81 x82 x83 x84 x85 x86 x87 x88 x89 x90 x91 x92 x93 x94 x95 x96 x97 x98 x99 x100 x101 x102 x103 x104 x105 x106 x107 x108 x109 x110 x111 x112 x113 x114 x115 x116 x117 x118 x119 x120 x121 x122 x123 x124 x125 x126 x127 x128 x129 x130 x131 x132 x133 x134 x135 x136 x137 x138 x139 x140 x141 x142 x143 x144 x145 x146 x147 x148 x149 x150 x151 x152 x153 x154 x155 x156 x157 x158 x159 x160 x161 x162 x163 x164 x165 x166 x167 x168 x169 x170 x171 x172 x173 x174 x175 x176 x177 x178 x179 x180 x181 x182 x183 x184 x185 x186 x187 x188 x189 x190 x191 x192 x193 x194 x195 x196 x197 x198 x199 x200 x201 x202 x203 x204 x205 x206 x207 x208 x209 x210 x211 x212 x213 x214 x215 x216 x217 x218 x219 x220 x221 x222 x223 x224 x225 x226 x227 x228 x229 x230 x231 x232 x233 x234 x235 x236 x237 x238 x239 x240 x241 x242 x243 x244 x245 x246 x247 x248 x249 x250 x251 x252 x253 x254 x255 x256 x257 x258 x259 x260 x261 x262 x263 : Value}
    (hG : Hid (Given cs p q st)) (hL : Hid (Late w wx b4 bc br b6 B g capg p q aw cs st b18 b19)) (h0 : 0 < (svcsOf cs).length) (hK : Hid (RowAt wx aK cs)) :
    (tailC 20).wp Yba.prog (bodyPost Yba.prog Yba.f3 fun e w' => e = .returned (.bool true) ∧ Below w.heap.size w w')
      ⟨#[x0, x1, x2, .slice aw cs.length cw, .pointer (some ⟨b4, 0, none⟩), .pointer (some ⟨br, 0, none⟩), .pointer (some ⟨b6, 0, none⟩), .pointer (some ⟨b6 + 1, 0, none⟩), x8, x9, x10, x11, x12, x13, x14, x15, x16, x17, .pointer (some ⟨b18, 0, none⟩), .pointer (some ⟨b19, 0, none⟩), .slice aK cs.length cK, x21, x22, x23, x24, x25, x26, x27, x28, x29, x30, x31, x32, x33, x34, x35, x36, x37, x38, x39, x40, x41, x42, x43, x44, x45, x46, x47, x48, x49, x50, x51, x52, x53, x54, x55, x56, x57, x58, x59, x60, x61, x62, x63, x64, x65, x66, x67, x68, x69, x70, x71, x72, x73, x74, x75, x76, x77, x78, x79, x80, x81, x82, x83, x84, x85, x86, x87, x88, x89, x90, x91, x92, x93, x94, x95, x96, x97, x98, x99, x100, x101, x102, x103, x104, x105, x106, x107, x108, x109, x110, x111, x112, x113, x114, x115, x116, x117, x118, x119, x120, x121, x122, x123, x124, x125, x126, x127, x128, x129, x130, x131, x132, x133, x134, x135, x136, x137, x138, x139, x140, x141, x142, x143, x144, x145, x146, x147, x148, x149, x150, x151, x152, x153, x154, x155, x156, x157, x158, x159, x160, x161, x162, x163, x164, x165, x166, x167, x168, x169, x170, x171, x172, x173, x174, x175, x176, x177, x178, x179, x180, x181, x182, x183, x184, x185, x186, x187, x188, x189, x190, x191, x192, x193, x194, x195, x196, x197, x198, x199, x200, x201, x202, x203, x204, x205, x206, x207, x208, x209, x210, x211, x212, x213, x214, x215, x216, x217, x218, x219, x220, x221, x222, x223, x224, x225, x226, x227, x228, x229, x230, x231, x232, x233, x234, x235, x236, x237, x238, x239, x240, x241, x242, x243, x244, x245, x246, x247, x248, x249, x250, x251, x252, x253, x254, x255, x256, x257, x258, x259, x260, x261, x262, x263], []⟩ wx := by
  refine tail_step 20 21 open20 ?_
  conv => arg 2; whnf
  have c7 := hL.out.post.o7.1
  go_wp2_with (go_at_call 12; refine (eqc_q cs p hG.out.hp hG.out.fit aK cK _ hK.out).mono ?_; rintro e w2 ⟨rfl, hB2⟩)
  exact t21 hG (hL.out.on hB2) h0


end Go.Proofs.Ybulkcbu
