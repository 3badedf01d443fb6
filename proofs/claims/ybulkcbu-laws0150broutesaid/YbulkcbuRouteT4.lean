/-
  LawS0150BRoute: THE THREE STEPS OF THE LADDER.
-/
import Derived.Test.YbulkcbuRouteT3
namespace Go.Proofs.Ybulkcbu
open Go.RowKit

set_option maxRecDepth 100000 in
set_option maxHeartbeats 4000000 in
theorem t14 {w wx : World} {b4 bc br b6 B g capg cw : Nat} {p q : Int} {aw : Option Addr} {cs : List Nat} {st : List Value} {b18 : Nat} {x0 x1 x2 x9 x10 x11 x12 x13 x14 x15 x16 x17 x19 x20 x21 x22 x23 x24 x25 x26 x27 x28 x29 x30 x31 x32 x33 x34 x35 x36 x37 x38 x39 x40 x41 x42 x43 x44 x45 x46 x47 x48 x49 x50 x51 x52 x53 x54 x55 x56 x57 x58 x59 x60 x61 x62 x63 x64 x65 x66 x67 x68 x69 x70 x71 x72 x73 x74 x75 x76 x77 x78 x79 x80 x81 x82 x83 x84 x85 x86 x87 x88 x89 x90 x91 x92 x93 x94 x95 x96 x97 x98 x99 x100 x101 x102 x103 x104 x105 x106 x107 x108 x109 x110 x111 x112 x113 x114 x115 x116 x117 x118 x119 x120 x121 x122 x123 x124 x125 x126 x127 x128 x129 x130 x131 x132 x133 x134 x135 x136 x137 x138 x139 x140 x141 x142 x143 x144 x145 x146 x147 x148 x149 x150 x151 x152 x153 x154 x155 x156 x157 x158 x159 x160 x161 x162 x163 x164 x165 x166 x167 x168 x169 x170 x171 x172 x173 x174 x175 x176 x177 x178 x179 x180 x181 x182 x183 x184 x185 x186 x187 x188 x189 x190 x191 x192 x193 x194 x195 x196 x197 x198 x199 x200 x201 x202 x203 x204 x205 x206 x207 x208 x209 x210 x211 x212 x213 x214 x215 x216 x217 x218 x219 x220 x221 x222 x223 x224 x225 x226 x227 x228 x229 x230 x231 x232 x233 x234 x235 x236 x237 x238 x239 x240 x241 x242 x243 x244 x245 x246 x247 x248 x249 x250 x251 x252 x253 x254 x255 x256 x257 x258 x259 x260 x261 x262 x263 : Value}
    (hG : Hid (Given cs p q st)) (hP : Hid (Post w wx b4 bc br b6 (b6 + 1) B g capg p q aw cs st)) (o18 : Hid (One wx b18 (.int .u64 q))) :
    (tailC 14).wp Yba.prog (bodyPost Yba.prog Yba.f3 fun e w' => e = .returned (.bool true) ∧ Below w.heap.size w w')
      ⟨#[x0, x1, x2, .slice aw cs.length cw, .pointer (some ⟨b4, 0, none⟩), .pointer (some ⟨br, 0, none⟩), .pointer (some ⟨b6, 0, none⟩), .pointer (some ⟨b6 + 1, 0, none⟩), .slice (some ⟨g, 0, none⟩) 3 capg, x9, x10, x11, x12, x13, x14, x15, x16, x17, .pointer (some ⟨b18, 0, none⟩), x19, x20, x21, x22, x23, x24, x25, x26, x27, x28, x29, x30, x31, x32, x33, x34, x35, x36, x37, x38, x39, x40, x41, x42, x43, x44, x45, x46, x47, x48, x49, x50, x51, x52, x53, x54, x55, x56, x57, x58, x59, x60, x61, x62, x63, x64, x65, x66, x67, x68, x69, x70, x71, x72, x73, x74, x75, x76, x77, x78, x79, x80, x81, x82, x83, x84, x85, x86, x87, x88, x89, x90, x91, x92, x93, x94, x95, x96, x97, x98, x99, x100, x101, x102, x103, x104, x105, x106, x107, x108, x109, x110, x111, x112, x113, x114, x115, x116, x117, x118, x119, x120, x121, x122, x123, x124, x125, x126, x127, x128, x129, x130, x131, x132, x133, x134, x135, x136, x137, x138, x139, x140, x141, x142, x143, x144, x145, x146, x147, x148, x149, x150, x151, x152, x153, x154, x155, x156, x157, x158, x159, x160, x161, x162, x163, x164, x165, x166, x167, x168, x169, x170, x171, x172, x173, x174, x175, x176, x177, x178, x179, x180, x181, x182, x183, x184, x185, x186, x187, x188, x189, x190, x191, x192, x193, x194, x195, x196, x197, x198, x199, x200, x201, x202, x203, x204, x205, x206, x207, x208, x209, x210, x211, x212, x213, x214, x215, x216, x217, x218, x219, x220, x221, x222, x223, x224, x225, x226, x227, x228, x229, x230, x231, x232, x233, x234, x235, x236, x237, x238, x239, x240, x241, x242, x243, x244, x245, x246, x247, x248, x249, x250, x251, x252, x253, x254, x255, x256, x257, x258, x259, x260, x261, x262, x263], []⟩ wx := by
  refine tail_step 14 15 open14 ?_
  conv => arg 2; whnf
  obtain ⟨A, hA⟩ : ∃ A, A = st := ⟨_, rfl⟩
  have lA : A.length = 45 := by rw [hA]; exact hG.out.len
  have oA : ∀ v ∈ A, v.oneCell' = true := by rw [hA]; exact hG.out.one
  have sA : (Yba.prog.info? 85).map (·.size) = some A.length := by rw [lA]; exact size85
  have lz : zstep.toArray.size = A.length := by rw [lA]; rfl
  have HA : Hid (A = st) := hA
  have t1 : wx.rangeAt g 90 A := by rw [hA]; exact (hP.out.step hG.out.len).2.2
  clear hA
  go_wp2_with (first
    | (refine wpList_load_mid rfl 85 (.tmp 124) rfl g 90 rfl A _ t1 Yba.underlying85 rfl sA ?_; conv => arg 5; simp only [Act.put, List.setIfInBounds_toArray, List.set_cons_succ, List.set_cons_zero])
    | (refine wpList_alloc_wide rfl 85 rfl zstep 45 zero85 ?_; intro wa hba hla hsa; conv => arg 5; simp only [Act.put, List.setIfInBounds_toArray, List.set_cons_succ, List.set_cons_zero])
    | (refine wpList_store_wide rfl 85 (.tmp 19) (.tmp 125) rfl wx.heap.size zstep.toArray 85 A hba rfl rfl lz sA oA ?_; intro wb hbb hgb; conv => arg 5; simp only [Act.put, List.setIfInBounds_toArray, List.set_cons_succ, List.set_cons_zero]))
  have hB : Below wx.heap.size wx wb := hla.grown hgb (by omega) (fun k hk => by cases hk; exact Nat.le_refl _)
  have S : StepAt wb wx.heap.size A := hbb
  rw [HA.out] at S
  exact t15 hG ⟨hP.out.on hB, o18.out.on hB, S⟩


set_option maxRecDepth 100000 in
set_option maxHeartbeats 4000000 in
theorem t13 {w wx : World} {b4 bc br b6 B g capg cw : Nat} {p q : Int} {aw : Option Addr} {cs : List Nat} {st : List Value} {b17 : Nat} {x0 x1 x2 x9 x10 x11 x12 x13 x14 x15 x16 x18 x19 x20 x21 x22 x23 x24 x25 x26 x27 x28 x29 x30 x31 x32 x33 x34 x35 x36 x37 x38 x39 x40 x41 x42 x43 x44 x45 x46 x47 x48 x49 x50 x51 x52 x53 x54 x55 x56 x57 x58 x59 x60 x61 x62 x63 x64 x65 x66 x67 x68 x69 x70 x71 x72 x73 x74 x75 x76 x77 x78 x79 x80 x81 x82 x83 x84 x85 x86 x87 x88 x89 x90 x91 x92 x93 x94 x95 x96 x97 x98 x99 x100 x101 x102 x103 x104 x105 x106 x107 x108 x109 x110 x111 x112 x113 x114 x115 x116 x117 x118 x119 x120 x121 x122 x123 x124 x125 x126 x127 x128 x129 x130 x131 x132 x133 x134 x135 x136 x137 x138 x139 x140 x141 x142 x143 x144 x145 x146 x147 x148 x149 x150 x151 x152 x153 x154 x155 x156 x157 x158 x159 x160 x161 x162 x163 x164 x165 x166 x167 x168 x169 x170 x171 x172 x173 x174 x175 x176 x177 x178 x179 x180 x181 x182 x183 x184 x185 x186 x187 x188 x189 x190 x191 x192 x193 x194 x195 x196 x197 x198 x199 x200 x201 x202 x203 x204 x205 x206 x207 x208 x209 x210 x211 x212 x213 x214 x215 x216 x217 x218 x219 x220 x221 x222 x223 x224 x225 x226 x227 x228 x229 x230 x231 x232 x233 x234 x235 x236 x237 x238 x239 x240 x241 x242 x243 x244 x245 x246 x247 x248 x249 x250 x251 x252 x253 x254 x255 x256 x257 x258 x259 x260 x261 x262 x263 : Value}
    (hG : Hid (Given cs p q st)) (hP : Hid (Post w wx b4 bc br b6 (b6 + 1) B g capg p q aw cs st)) (c175 : wx.cell? ⟨b17, 5, none⟩ = some (.int .u64 q)) :
    (tailC 13).wp Yba.prog (bodyPost Yba.prog Yba.f3 fun e w' => e = .returned (.bool true) ∧ Below w.heap.size w w')
      ⟨#[x0, x1, x2, .slice aw cs.length cw, .pointer (some ⟨b4, 0, none⟩), .pointer (some ⟨br, 0, none⟩), .pointer (some ⟨b6, 0, none⟩), .pointer (some ⟨b6 + 1, 0, none⟩), .slice (some ⟨g, 0, none⟩) 3 capg, x9, x10, x11, x12, x13, x14, x15, x16, .pointer (some ⟨b17, 0, none⟩), x18, x19, x20, x21, x22, x23, x24, x25, x26, x27, x28, x29, x30, x31, x32, x33, x34, x35, x36, x37, x38, x39, x40, x41, x42, x43, x44, x45, x46, x47, x48, x49, x50, x51, x52, x53, x54, x55, x56, x57, x58, x59, x60, x61, x62, x63, x64, x65, x66, x67, x68, x69, x70, x71, x72, x73, x74, x75, x76, x77, x78, x79, x80, x81, x82, x83, x84, x85, x86, x87, x88, x89, x90, x91, x92, x93, x94, x95, x96, x97, x98, x99, x100, x101, x102, x103, x104, x105, x106, x107, x108, x109, x110, x111, x112, x113, x114, x115, x116, x117, x118, x119, x120, x121, x122, x123, x124, x125, x126, x127, x128, x129, x130, x131, x132, x133, x134, x135, x136, x137, x138, x139, x140, x141, x142, x143, x144, x145, x146, x147, x148, x149, x150, x151, x152, x153, x154, x155, x156, x157, x158, x159, x160, x161, x162, x163, x164, x165, x166, x167, x168, x169, x170, x171, x172, x173, x174, x175, x176, x177, x178, x179, x180, x181, x182, x183, x184, x185, x186, x187, x188, x189, x190, x191, x192, x193, x194, x195, x196, x197, x198, x199, x200, x201, x202, x203, x204, x205, x206, x207, x208, x209, x210, x211, x212, x213, x214, x215, x216, x217, x218, x219, x220, x221, x222, x223, x224, x225, x226, x227, x228, x229, x230, x231, x232, x233, x234, x235, x236, x237, x238, x239, x240, x241, x242, x243, x244, x245, x246, x247, x248, x249, x250, x251, x252, x253, x254, x255, x256, x257, x258, x259, x260, x261, x262, x263], []⟩ wx := by
  refine tail_step 13 14 open13 ?_
  conv => arg 2; whnf
  go_wp2_with fail
  refine t14 hG (hP.out.on ?_) ?_
  · exact (Below.refl _ _).alloc (Nat.le_refl _) _
  · exact ⟨by go_simp, by go_simp⟩


set_option maxRecDepth 100000 in
set_option maxHeartbeats 4000000 in
theorem t12 {w wx : World} {b4 bc br b6 B g capg cw : Nat} {p q : Int} {aw : Option Addr} {cs : List Nat} {st : List Value} {b17 : Nat} {x0 x1 x2 x9 x10 x11 x12 x13 x14 x15 x16 x18 x19 x20 x21 x22 x23 x24 x25 x26 x27 x28 x29 x30 x31 x32 x33 x34 x35 x36 x37 x38 x39 x40 x41 x42 x43 x44 x45 x46 x47 x48 x49 x50 x51 x52 x53 x54 x55 x56 x57 x58 x59 x60 x61 x62 x63 x64 x65 x66 x67 x68 x69 x70 x71 x72 x73 x74 x75 x76 x77 x78 x79 x80 x81 x82 x83 x84 x85 x86 x87 x88 x89 x90 x91 x92 x93 x94 x95 x96 x97 x98 x99 x100 x101 x102 x103 x104 x105 x106 x107 x108 x109 x110 x111 x112 x113 x114 x115 x116 x117 x118 x119 x120 x121 x122 x123 x124 x125 x126 x127 x128 x129 x130 x131 x132 x133 x134 x135 x136 x137 x138 x139 x140 x141 x142 x143 x144 x145 x146 x147 x148 x149 x150 x151 x152 x153 x154 x155 x156 x157 x158 x159 x160 x161 x162 x163 x164 x165 x166 x167 x168 x169 x170 x171 x172 x173 x174 x175 x176 x177 x178 x179 x180 x181 x182 x183 x184 x185 x186 x187 x188 x189 x190 x191 x192 x193 x194 x195 x196 x197 x198 x199 x200 x201 x202 x203 x204 x205 x206 x207 x208 x209 x210 x211 x212 x213 x214 x215 x216 x217 x218 x219 x220 x221 x222 x223 x224 x225 x226 x227 x228 x229 x230 x231 x232 x233 x234 x235 x236 x237 x238 x239 x240 x241 x242 x243 x244 x245 x246 x247 x248 x249 x250 x251 x252 x253 x254 x255 x256 x257 x258 x259 x260 x261 x262 x263 : Value}
    (hG : Hid (Given cs p q st)) (hP : Hid (Post w wx b4 bc br b6 (b6 + 1) B g capg p q aw cs st)) (s17 : Hid (StepAt wx b17 ((sigL 12 11 10).set 5 (Value.int .u64 q)))) :
    (tailC 12).wp Yba.prog (bodyPost Yba.prog Yba.f3 fun e w' => e = .returned (.bool true) ∧ Below w.heap.size w w')
      ⟨#[x0, x1, x2, .slice aw cs.length cw, .pointer (some ⟨b4, 0, none⟩), .pointer (some ⟨br, 0, none⟩), .pointer (some ⟨b6, 0, none⟩), .pointer (some ⟨b6 + 1, 0, none⟩), .slice (some ⟨g, 0, none⟩) 3 capg, x9, x10, x11, x12, x13, x14, x15, x16, .pointer (some ⟨b17, 0, none⟩), x18, x19, x20, x21, x22, x23, x24, x25, x26, x27, x28, x29, x30, x31, x32, x33, x34, x35, x36, x37, x38, x39, x40, x41, x42, x43, x44, x45, x46, x47, x48, x49, x50, x51, x52, x53, x54, x55, x56, x57, x58, x59, x60, x61, x62, x63, x64, x65, x66, x67, x68, x69, x70, x71, x72, x73, x74, x75, x76, x77, x78, x79, x80, x81, x82, x83, x84, x85, x86, x87, x88, x89, x90, x91, x92, x93, x94, x95, x96, x97, x98, x99, x100, x101, x102, x103, x104, x105, x106, x107, x108, x109, x110, x111, x112, x113, x114, x115, x116, x117, x118, x119, x120, x121, x122, x123, x124, x125, x126, x127, x128, x129, x130, x131, x132, x133, x134, x135, x136, x137, x138, x139, x140, x141, x142, x143, x144, x145, x146, x147, x148, x149, x150, x151, x152, x153, x154, x155, x156, x157, x158, x159, x160, x161, x162, x163, x164, x165, x166, x167, x168, x169, x170, x171, x172, x173, x174, x175, x176, x177, x178, x179, x180, x181, x182, x183, x184, x185, x186, x187, x188, x189, x190, x191, x192, x193, x194, x195, x196, x197, x198, x199, x200, x201, x202, x203, x204, x205, x206, x207, x208, x209, x210, x211, x212, x213, x214, x215, x216, x217, x218, x219, x220, x221, x222, x223, x224, x225, x226, x227, x228, x229, x230, x231, x232, x233, x234, x235, x236, x237, x238, x239, x240, x241, x242, x243, x244, x245, x246, x247, x248, x249, x250, x251, x252, x253, x254, x255, x256, x257, x258, x259, x260, x261, x262, x263], []⟩ wx := by
  refine tail_step 12 13 open12 ?_
  conv => arg 2; whnf
  have c170 := s17.out.cell (o := 0) (u := .int .u8 12) rfl
  have c171 := s17.out.cell (o := 1) (u := .int .u8 11) rfl
  have c176 := s17.out.cell (o := 6) (u := .int .u8 10) rfl
  have c175 := s17.out.cell (o := 5) (u := .int .u64 q) rfl
  go_wp2_with fail
  exact t13 hG hP c175


set_option maxRecDepth 100000 in
set_option maxHeartbeats 4000000 in
theorem t11 {w wx : World} {b4 bc br b6 B g capg cw : Nat} {p q : Int} {aw : Option Addr} {cs : List Nat} {st : List Value}  {x0 x1 x2 x9 x10 x11 x12 x13 x14 x15 x16 x17 x18 x19 x20 x21 x22 x23 x24 x25 x26 x27 x28 x29 x30 x31 x32 x33 x34 x35 x36 x37 x38 x39 x40 x41 x42 x43 x44 x45 x46 x47 x48 x49 x50 x51 x52 x53 x54 x55 x56 x57 x58 x59 x60 x61 x62 x63 x64 x65 x66 x67 x68 x69 x70 x71 x72 x73 x74 x75 x76 x77 x78 x79 x80 x81 x82 x83 x84 x85 x86 x87 x88 x89 x90 x91 x92 x93 x94 x95 x96 x97 x98 x99 x100 x101 x102 x103 x104 x105 x106 x107 x108 x109 x110 x111 x112 x113 x114 x115 x116 x117 x118 x119 x120 x121 x122 x123 x124 x125 x126 x127 x128 x129 x130 x131 x132 x133 x134 x135 x136 x137 x138 x139 x140 x141 x142 x143 x144 x145 x146 x147 x148 x149 x150 x151 x152 x153 x154 x155 x156 x157 x158 x159 x160 x161 x162 x163 x164 x165 x166 x167 x168 x169 x170 x171 x172 x173 x174 x175 x176 x177 x178 x179 x180 x181 x182 x183 x184 x185 x186 x187 x188 x189 x190 x191 x192 x193 x194 x195 x196 x197 x198 x199 x200 x201 x202 x203 x204 x205 x206 x207 x208 x209 x210 x211 x212 x213 x214 x215 x216 x217 x218 x219 x220 x221 x222 x223 x224 x225 x226 x227 x228 x229 x230 x231 x232 x233 x234 x235 x236 x237 x238 x239 x240 x241 x242 x243 x244 x245 x246 x247 x248 x249 x250 x251 x252 x253 x254 x255 x256 x257 x258 x259 x260 x261 x262 x263 : Value}
    (hG : Hid (Given cs p q st)) (hP : Hid (Post w wx b4 bc br b6 (b6 + 1) B g capg p q aw cs st)) :
    (tailC 11).wp Yba.prog (bodyPost Yba.prog Yba.f3 fun e w' => e = .returned (.bool true) ∧ Below w.heap.size w w')
      ⟨#[x0, x1, x2, .slice aw cs.length cw, .pointer (some ⟨b4, 0, none⟩), .pointer (some ⟨br, 0, none⟩), .pointer (some ⟨b6, 0, none⟩), .pointer (some ⟨b6 + 1, 0, none⟩), .slice (some ⟨g, 0, none⟩) 3 capg, x9, x10, x11, x12, x13, x14, x15, x16, x17, x18, x19, x20, x21, x22, x23, x24, x25, x26, x27, x28, x29, x30, x31, x32, x33, x34, x35, x36, x37, x38, x39, x40, x41, x42, x43, x44, x45, x46, x47, x48, x49, x50, x51, x52, x53, x54, x55, x56, x57, x58, x59, x60, x61, x62, x63, x64, x65, x66, x67, x68, x69, x70, x71, x72, x73, x74, x75, x76, x77, x78, x79, x80, x81, x82, x83, x84, x85, x86, x87, x88, x89, x90, x91, x92, x93, x94, x95, x96, x97, x98, x99, x100, x101, x102, x103, x104, x105, x106, x107, x108, x109, x110, x111, x112, x113, x114, x115, x116, x117, x118, x119, x120, x121, x122, x123, x124, x125, x126, x127, x128, x129, x130, x131, x132, x133, x134, x135, x136, x137, x138, x139, x140, x141, x142, x143, x144, x145, x146, x147, x148, x149, x150, x151, x152, x153, x154, x155, x156, x157, x158, x159, x160, x161, x162, x163, x164, x165, x166, x167, x168, x169, x170, x171, x172, x173, x174, x175, x176, x177, x178, x179, x180, x181, x182, x183, x184, x185, x186, x187, x188, x189, x190, x191, x192, x193, x194, x195, x196, x197, x198, x199, x200, x201, x202, x203, x204, x205, x206, x207, x208, x209, x210, x211, x212, x213, x214, x215, x216, x217, x218, x219, x220, x221, x222, x223, x224, x225, x226, x227, x228, x229, x230, x231, x232, x233, x234, x235, x236, x237, x238, x239, x240, x241, x242, x243, x244, x245, x246, x247, x248, x249, x250, x251, x252, x253, x254, x255, x256, x257, x258, x259, x260, x261, x262, x263], []⟩ wx := by
  refine tail_step 11 12 open11 ?_
  conv => arg 2; whnf
  obtain ⟨A, hA⟩ : ∃ A, A = (sigL 12 11 10).set 5 (Value.int .u64 q) := ⟨_, rfl⟩
  have lA : A.length = 45 := by rw [hA]; simp [sigL_len]
  have oA : ∀ v ∈ A, v.oneCell' = true := by rw [hA]; exact sig_one _ _ _ _ _ rfl
  have sA : (Yba.prog.info? 85).map (·.size) = some A.length := by rw [lA]; exact size85
  have lz : zstep.toArray.size = A.length := by rw [lA]; rfl
  have HA : Hid (A = (sigL 12 11 10).set 5 (Value.int .u64 q)) := hA
  have t1 : wx.rangeAt g 45 A := by rw [hA]; exact (hP.out.step hG.out.len).2.1
  clear hA
  go_wp2_with (first
    | (refine wpList_load_mid rfl 85 (.tmp 104) rfl g 45 rfl A _ t1 Yba.underlying85 rfl sA ?_; conv => arg 5; simp only [Act.put, List.setIfInBounds_toArray, List.set_cons_succ, List.set_cons_zero])
    | (refine wpList_alloc_wide rfl 85 rfl zstep 45 zero85 ?_; intro wa hba hla hsa; conv => arg 5; simp only [Act.put, List.setIfInBounds_toArray, List.set_cons_succ, List.set_cons_zero])
    | (refine wpList_store_wide rfl 85 (.tmp 17) (.tmp 105) rfl wx.heap.size zstep.toArray 85 A hba rfl rfl lz sA oA ?_; intro wb hbb hgb; conv => arg 5; simp only [Act.put, List.setIfInBounds_toArray, List.set_cons_succ, List.set_cons_zero]))
  have hB : Below wx.heap.size wx wb := hla.grown hgb (by omega) (fun k hk => by cases hk; exact Nat.le_refl _)
  have S : StepAt wb wx.heap.size A := hbb
  rw [HA.out] at S
  exact t12 hG (hP.out.on hB) S


set_option maxRecDepth 100000 in
set_option maxHeartbeats 4000000 in
theorem t10 {w wx : World} {b4 bc br b6 B g capg cw : Nat} {p q : Int} {aw : Option Addr} {cs : List Nat} {st : List Value} {b16 cS : Nat} {aS : Option Addr} {x0 x1 x2 x10 x11 x12 x13 x14 x15 x17 x18 x19 x20 x21 x22 x23 x24 x25 x26 x27 x28 x29 x30 x31 x32 x33 x34 x35 x36 x37 x38 x39 x40 x41 x42 x43 x44 x45 x46 x47 x48 x49 x50 x51 x52 x53 x54 x55 x56 x57 x58 x59 x60 x61 x62 x63 x64 x65 x66 x67 x68 x69 x70 x71 x72 x73 x74 x75 x76 x77 x78 x79 x80 x81 x82 x83 x84 x85 x86 x87 x88 x89 x90 x91 x92 x93 x94 x95 x96 x97 x98 x99 x100 x101 x102 x103 x104 x105 x106 x107 x108 x109 x110 x111 x112 x113 x114 x115 x116 x117 x118 x119 x120 x121 x122 x123 x124 x125 x126 x127 x128 x129 x130 x131 x132 x133 x134 x135 x136 x137 x138 x139 x140 x141 x142 x143 x144 x145 x146 x147 x148 x149 x150 x151 x152 x153 x154 x155 x156 x157 x158 x159 x160 x161 x162 x163 x164 x165 x166 x167 x168 x169 x170 x171 x172 x173 x174 x175 x176 x177 x178 x179 x180 x181 x182 x183 x184 x185 x186 x187 x188 x189 x190 x191 x192 x193 x194 x195 x196 x197 x198 x199 x200 x201 x202 x203 x204 x205 x206 x207 x208 x209 x210 x211 x212 x213 x214 x215 x216 x217 x218 x219 x220 x221 x222 x223 x224 x225 x226 x227 x228 x229 x230 x231 x232 x233 x234 x235 x236 x237 x238 x239 x240 x241 x242 x243 x244 x245 x246 x247 x248 x249 x250 x251 x252 x253 x254 x255 x256 x257 x258 x259 x260 x261 x262 x263 : Value}
    (hG : Hid (Given cs p q st)) (hP : Hid (Post w wx b4 bc br b6 (b6 + 1) B g capg p q aw cs st)) (hR : Hid (RowAt wx aS (svcsOf cs))) (s16 : Hid (StepAt wx b16 ((sigL 11 12 9).set 5 (Value.int .u64 q)))) :
    (tailC 10).wp Yba.prog (bodyPost Yba.prog Yba.f3 fun e w' => e = .returned (.bool true) ∧ Below w.heap.size w w')
      ⟨#[x0, x1, x2, .slice aw cs.length cw, .pointer (some ⟨b4, 0, none⟩), .pointer (some ⟨br, 0, none⟩), .pointer (some ⟨b6, 0, none⟩), .pointer (some ⟨b6 + 1, 0, none⟩), .slice (some ⟨g, 0, none⟩) 3 capg, .slice aS (svcsOf cs).length cS, x10, x11, x12, x13, x14, x15, .pointer (some ⟨b16, 0, none⟩), x17, x18, x19, x20, x21, x22, x23, x24, x25, x26, x27, x28, x29, x30, x31, x32, x33, x34, x35, x36, x37, x38, x39, x40, x41, x42, x43, x44, x45, x46, x47, x48, x49, x50, x51, x52, x53, x54, x55, x56, x57, x58, x59, x60, x61, x62, x63, x64, x65, x66, x67, x68, x69, x70, x71, x72, x73, x74, x75, x76, x77, x78, x79, x80, x81, x82, x83, x84, x85, x86, x87, x88, x89, x90, x91, x92, x93, x94, x95, x96, x97, x98, x99, x100, x101, x102, x103, x104, x105, x106, x107, x108, x109, x110, x111, x112, x113, x114, x115, x116, x117, x118, x119, x120, x121, x122, x123, x124, x125, x126, x127, x128, x129, x130, x131, x132, x133, x134, x135, x136, x137, x138, x139, x140, x141, x142, x143, x144, x145, x146, x147, x148, x149, x150, x151, x152, x153, x154, x155, x156, x157, x158, x159, x160, x161, x162, x163, x164, x165, x166, x167, x168, x169, x170, x171, x172, x173, x174, x175, x176, x177, x178, x179, x180, x181, x182, x183, x184, x185, x186, x187, x188, x189, x190, x191, x192, x193, x194, x195, x196, x197, x198, x199, x200, x201, x202, x203, x204, x205, x206, x207, x208, x209, x210, x211, x212, x213, x214, x215, x216, x217, x218, x219, x220, x221, x222, x223, x224, x225, x226, x227, x228, x229, x230, x231, x232, x233, x234, x235, x236, x237, x238, x239, x240, x241, x242, x243, x244, x245, x246, x247, x248, x249, x250, x251, x252, x253, x254, x255, x256, x257, x258, x259, x260, x261, x262, x263], []⟩ wx := by
  refine tail_step 10 11 open10 ?_
  conv => arg 2; whnf
  have c160 := s16.out.cell (o := 0) (u := .int .u8 11) rfl
  have c161 := s16.out.cell (o := 1) (u := .int .u8 12) rfl
  have c166 := s16.out.cell (o := 6) (u := .int .u8 9) rfl
  have c165 := s16.out.cell (o := 5) (u := .int .u64 q) rfl
  have H7 := eqs_q (svcsOf cs) q hG.out.hq (svcsOf_five cs).fits.1 aS cS wx hR.out
  go_wp2_with (go_at_call 7; refine H7.mono ?_; rintro e w2 ⟨rfl, hB2⟩)
  exact t11 hG (hP.out.on hB2)


set_option maxRecDepth 100000 in
set_option maxHeartbeats 4000000 in
theorem t9 {w wx : World} {b4 bc br b6 B g capg cw : Nat} {p q : Int} {aw : Option Addr} {cs : List Nat} {st : List Value} {cS : Nat} {aS : Option Addr} {x0 x1 x2 x10 x11 x12 x13 x14 x15 x16 x17 x18 x19 x20 x21 x22 x23 x24 x25 x26 x27 x28 x29 x30 x31 x32 x33 x34 x35 x36 x37 x38 x39 x40 x41 x42 x43 x44 x45 x46 x47 x48 x49 x50 x51 x52 x53 x54 x55 x56 x57 x58 x59 x60 x61 x62 x63 x64 x65 x66 x67 x68 x69 x70 x71 x72 x73 x74 x75 x76 x77 x78 x79 x80 x81 x82 x83 x84 x85 x86 x87 x88 x89 x90 x91 x92 x93 x94 x95 x96 x97 x98 x99 x100 x101 x102 x103 x104 x105 x106 x107 x108 x109 x110 x111 x112 x113 x114 x115 x116 x117 x118 x119 x120 x121 x122 x123 x124 x125 x126 x127 x128 x129 x130 x131 x132 x133 x134 x135 x136 x137 x138 x139 x140 x141 x142 x143 x144 x145 x146 x147 x148 x149 x150 x151 x152 x153 x154 x155 x156 x157 x158 x159 x160 x161 x162 x163 x164 x165 x166 x167 x168 x169 x170 x171 x172 x173 x174 x175 x176 x177 x178 x179 x180 x181 x182 x183 x184 x185 x186 x187 x188 x189 x190 x191 x192 x193 x194 x195 x196 x197 x198 x199 x200 x201 x202 x203 x204 x205 x206 x207 x208 x209 x210 x211 x212 x213 x214 x215 x216 x217 x218 x219 x220 x221 x222 x223 x224 x225 x226 x227 x228 x229 x230 x231 x232 x233 x234 x235 x236 x237 x238 x239 x240 x241 x242 x243 x244 x245 x246 x247 x248 x249 x250 x251 x252 x253 x254 x255 x256 x257 x258 x259 x260 x261 x262 x263 : Value}
    (hG : Hid (Given cs p q st)) (hP : Hid (Post w wx b4 bc br b6 (b6 + 1) B g capg p q aw cs st)) (hR : Hid (RowAt wx aS (svcsOf cs))) :
    (tailC 9).wp Yba.prog (bodyPost Yba.prog Yba.f3 fun e w' => e = .returned (.bool true) ∧ Below w.heap.size w w')
      ⟨#[x0, x1, x2, .slice aw cs.length cw, .pointer (some ⟨b4, 0, none⟩), .pointer (some ⟨br, 0, none⟩), .pointer (some ⟨b6, 0, none⟩), .pointer (some ⟨b6 + 1, 0, none⟩), .slice (some ⟨g, 0, none⟩) 3 capg, .slice aS (svcsOf cs).length cS, x10, x11, x12, x13, x14, x15, x16, x17, x18, x19, x20, x21, x22, x23, x24, x25, x26, x27, x28, x29, x30, x31, x32, x33, x34, x35, x36, x37, x38, x39, x40, x41, x42, x43, x44, x45, x46, x47, x48, x49, x50, x51, x52, x53, x54, x55, x56, x57, x58, x59, x60, x61, x62, x63, x64, x65, x66, x67, x68, x69, x70, x71, x72, x73, x74, x75, x76, x77, x78, x79, x80, x81, x82, x83, x84, x85, x86, x87, x88, x89, x90, x91, x92, x93, x94, x95, x96, x97, x98, x99, x100, x101, x102, x103, x104, x105, x106, x107, x108, x109, x110, x111, x112, x113, x114, x115, x116, x117, x118, x119, x120, x121, x122, x123, x124, x125, x126, x127, x128, x129, x130, x131, x132, x133, x134, x135, x136, x137, x138, x139, x140, x141, x142, x143, x144, x145, x146, x147, x148, x149, x150, x151, x152, x153, x154, x155, x156, x157, x158, x159, x160, x161, x162, x163, x164, x165, x166, x167, x168, x169, x170, x171, x172, x173, x174, x175, x176, x177, x178, x179, x180, x181, x182, x183, x184, x185, x186, x187, x188, x189, x190, x191, x192, x193, x194, x195, x196, x197, x198, x199, x200, x201, x202, x203, x204, x205, x206, x207, x208, x209, x210, x211, x212, x213, x214, x215, x216, x217, x218, x219, x220, x221, x222, x223, x224, x225, x226, x227, x228, x229, x230, x231, x232, x233, x234, x235, x236, x237, x238, x239, x240, x241, x242, x243, x244, x245, x246, x247, x248, x249, x250, x251, x252, x253, x254, x255, x256, x257, x258, x259, x260, x261, x262, x263], []⟩ wx := by
  refine tail_step 9 10 open9 ?_
  conv => arg 2; whnf
  obtain ⟨A, hA⟩ : ∃ A, A = (sigL 11 12 9).set 5 (Value.int .u64 q) := ⟨_, rfl⟩
  have lA : A.length = 45 := by rw [hA]; simp [sigL_len]
  have oA : ∀ v ∈ A, v.oneCell' = true := by rw [hA]; exact sig_one _ _ _ _ _ rfl
  have sA : (Yba.prog.info? 85).map (·.size) = some A.length := by rw [lA]; exact size85
  have lz : zstep.toArray.size = A.length := by rw [lA]; rfl
  have HA : Hid (A = (sigL 11 12 9).set 5 (Value.int .u64 q)) := hA
  have t1 : wx.rangeAt g 0 A := by rw [hA]; exact (hP.out.step hG.out.len).1
  clear hA
  go_wp2_with (first
    | (refine wpList_load_mid rfl 85 (.tmp 79) rfl g 0 rfl A _ t1 Yba.underlying85 rfl sA ?_; conv => arg 5; simp only [Act.put, List.setIfInBounds_toArray, List.set_cons_succ, List.set_cons_zero])
    | (refine wpList_alloc_wide rfl 85 rfl zstep 45 zero85 ?_; intro wa hba hla hsa; conv => arg 5; simp only [Act.put, List.setIfInBounds_toArray, List.set_cons_succ, List.set_cons_zero])
    | (refine wpList_store_wide rfl 85 (.tmp 16) (.tmp 80) rfl wx.heap.size zstep.toArray 85 A hba rfl rfl lz sA oA ?_; intro wb hbb hgb; conv => arg 5; simp only [Act.put, List.setIfInBounds_toArray, List.set_cons_succ, List.set_cons_zero]))
  have hB : Below wx.heap.size wx wb := hla.grown hgb (by omega) (fun k hk => by cases hk; exact Nat.le_refl _)
  have S : StepAt wb wx.heap.size A := hbb
  rw [HA.out] at S
  exact t10 hG (hP.out.on hB) (hR.out.on hB) S


end Go.Proofs.Ybulkcbu
