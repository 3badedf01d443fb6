/-
  LawS0150BRoute: THE LOOP OF THE SERVICES ASKED FOR, AND THE STATEMENTS AHEAD OF IT.
-/
import Derived.Test.YbulkcbuRouteT4
namespace Go.Proofs.Ybulkcbu
open Go.RowKit

theorem open0 : tailC 0 = .seq (stmtC 0) (tailC 1) := by kernel_rfl
theorem open1 : tailC 1 = .seq (stmtC 1) (tailC 2) := by kernel_rfl
theorem open2 : tailC 2 = .seq (stmtC 2) (tailC 3) := by kernel_rfl
theorem open3 : tailC 3 = .seq (stmtC 3) (tailC 4) := by kernel_rfl
theorem open4 : tailC 4 = .seq (stmtC 4) (tailC 5) := by kernel_rfl
theorem open5 : tailC 5 = .seq (stmtC 5) (tailC 6) := by kernel_rfl
theorem open6 : tailC 6 = .seq (stmtC 6) (tailC 7) := by kernel_rfl
theorem open7 : tailC 7 = .seq (stmtC 7) (tailC 8) := by kernel_rfl
theorem open8 : tailC 8 = .seq (stmtC 8) (tailC 9) := by kernel_rfl

set_option maxRecDepth 100000 in
set_option maxHeartbeats 4000000 in
theorem t8 {w wx : World} {b4 bc br b6 B g capg cw : Nat} {p q : Int} {aw : Option Addr} {cs : List Nat} {st : List Value}  {x0 x1 x2 x10 x11 x12 x13 x14 x15 x16 x17 x18 x19 x20 x21 x22 x23 x24 x25 x26 x27 x28 x29 x30 x31 x32 x33 x34 x35 x36 x37 x38 x39 x40 x41 x42 x43 x44 x45 x46 x47 x48 x49 x50 x51 x52 x53 x54 x55 x56 x57 x58 x59 x60 x61 x62 x63 x64 x65 x66 x67 x68 x69 x70 x71 x72 x73 x74 x75 x76 x77 x78 x79 x80 x81 x82 x83 x84 x85 x86 x87 x88 x89 x90 x91 x92 x93 x94 x95 x96 x97 x98 x99 x100 x101 x102 x103 x104 x105 x106 x107 x108 x109 x110 x111 x112 x113 x114 x115 x116 x117 x118 x119 x120 x121 x122 x123 x124 x125 x126 x127 x128 x129 x130 x131 x132 x133 x134 x135 x136 x137 x138 x139 x140 x141 x142 x143 x144 x145 x146 x147 x148 x149 x150 x151 x152 x153 x154 x155 x156 x157 x158 x159 x160 x161 x162 x163 x164 x165 x166 x167 x168 x169 x170 x171 x172 x173 x174 x175 x176 x177 x178 x179 x180 x181 x182 x183 x184 x185 x186 x187 x188 x189 x190 x191 x192 x193 x194 x195 x196 x197 x198 x199 x200 x201 x202 x203 x204 x205 x206 x207 x208 x209 x210 x211 x212 x213 x214 x215 x216 x217 x218 x219 x220 x221 x222 x223 x224 x225 x226 x227 x228 x229 x230 x231 x232 x233 x234 x235 x236 x237 x238 x239 x240 x241 x242 x243 x244 x245 x246 x247 x248 x249 x250 x251 x252 x253 x254 x255 x256 x257 x258 x259 x260 x261 x262 x263 : Value}
    (hG : Hid (Given cs p q st)) (hP : Hid (Post w wx b4 bc br b6 (b6 + 1) B g capg p q aw cs st)) :
    (tailC 8).wp Yba.prog (bodyPost Yba.prog Yba.f3 fun e w' => e = .returned (.bool true) ∧ Below w.heap.size w w')
      ⟨#[x0, x1, x2, .slice aw cs.length cw, .pointer (some ⟨b4, 0, none⟩), .pointer (some ⟨br, 0, none⟩), .pointer (some ⟨b6, 0, none⟩), .pointer (some ⟨b6 + 1, 0, none⟩), .slice (some ⟨g, 0, none⟩) 3 capg, .slice none 0 0, x10, x11, x12, x13, x14, x15, x16, x17, x18, x19, x20, x21, x22, x23, x24, x25, x26, x27, x28, x29, x30, x31, x32, x33, x34, x35, x36, x37, x38, x39, x40, x41, x42, x43, x44, x45, x46, x47, x48, x49, x50, x51, x52, x53, x54, x55, x56, x57, x58, x59, x60, x61, x62, x63, x64, x65, x66, x67, x68, x69, x70, x71, x72, x73, x74, x75, x76, x77, x78, x79, x80, x81, x82, x83, x84, x85, x86, x87, x88, x89, x90, x91, x92, x93, x94, x95, x96, x97, x98, x99, x100, x101, x102, x103, x104, x105, x106, x107, x108, x109, x110, x111, x112, x113, x114, x115, x116, x117, x118, x119, x120, x121, x122, x123, x124, x125, x126, x127, x128, x129, x130, x131, x132, x133, x134, x135, x136, x137, x138, x139, x140, x141, x142, x143, x144, x145, x146, x147, x148, x149, x150, x151, x152, x153, x154, x155, x156, x157, x158, x159, x160, x161, x162, x163, x164, x165, x166, x167, x168, x169, x170, x171, x172, x173, x174, x175, x176, x177, x178, x179, x180, x181, x182, x183, x184, x185, x186, x187, x188, x189, x190, x191, x192, x193, x194, x195, x196, x197, x198, x199, x200, x201, x202, x203, x204, x205, x206, x207, x208, x209, x210, x211, x212, x213, x214, x215, x216, x217, x218, x219, x220, x221, x222, x223, x224, x225, x226, x227, x228, x229, x230, x231, x232, x233, x234, x235, x236, x237, x238, x239, x240, x241, x242, x243, x244, x245, x246, x247, x248, x249, x250, x251, x252, x253, x254, x255, x256, x257, x258, x259, x260, x261, x262, x263], []⟩ wx := by
  refine tail_step 8 9 open8 ?_
  conv => arg 2; whnf
  obtain ⟨i0, hi, hz0, hz1, hz2⟩ := info_parts info52
  have hl15 := hG.out.fit.2
  go_wp2_with fail
  go_loopw [9, 55] (fun v9 i wr => ∃ k : Nat, k ≤ cs.length ∧ i = .int .i64 k ∧ Asked wx wr v9 (svcsOf (cs.take k))) (fun _ i _ => cs.length - (intOf i).toNat)
  case atStart => exact ⟨0, Nat.zero_le _, rfl, ⟨Below.refl _ _, World.ownsRow_nil _ _ _ _⟩⟩
  case round =>
    obtain ⟨k, hk, rfl, hA⟩ := hrel
    by_cases hlt : k < cs.length
    · have hsn : Hid (svcsOf (cs.take (k + 1)) = stepS (svcsOf (cs.take k)) cs[k]) := by
        rw [List.take_succ_eq_append_getElem hlt]; exact svcsOf_snoc _ _
      have h5 := svcsOf_five (cs.take k)
      generalize svcsOf (cs.take k) = S at *
      obtain ⟨ga, rfl, hcell⟩ := (hP.out.row.on hA.low) k hlt
      obtain ⟨aS, cS, rfl, hrowS⟩ := row_form hA.own
      have HA : Hid (Asked wx wr (.slice aS S.length cS) S) := hA
      have HR : Hid (∀ j (hj : j < S.length), ∃ g, aS = some ⟨g, 0, none⟩ ∧ wr.cell? ⟨g, j, none⟩ = some (.int .u8 ((S[j] : Nat) : Int))) := hrowS
      have h52 := h5.fits.2
      clear hA hrowS h5
      go_wp2_with (go_at_call 6; refine (zsvc_any _ _).mono ?_; rintro e w2 ⟨rfl, hw2⟩; have hw3 := hw2.symm; subst hw3)
      go_loopw [13, 63] (fun d j wq => ∃ m : Nat, m ≤ S.length ∧ j = .int .i64 m ∧ d = .bool (hasB (S.take m) (svc cs[k])) ∧ wq = wr) (fun _ j _ => S.length - (intOf j).toNat)
      case atStart => exact ⟨0, Nat.zero_le _, rfl, rfl, rfl⟩
      case round =>
        obtain ⟨m, hm, rfl, rfl, rfl⟩ := hrel
        by_cases hml : m < S.length
        · have htk : Hid (hasB (S.take (m + 1)) (svc cs[k]) = (hasB (S.take m) (svc cs[k]) || (S[m] == svc cs[k]))) := hasB_take hml
          obtain ⟨gS, rfl, hcS⟩ := HR.out m hml
          generalize svc cs[k] = x at *
          generalize hasB (S.take m) x = bd at *
          generalize S[m] = y at *
          by_cases hyx : y = x
          · subst hyx
            go_wp2_with fail
            go_roundw
            case rel => exact ⟨m + 1, by omega, by go_num, by rw [htk.out]; simp, trivial⟩
            case measure => simp [intOf]; omega
          · have hyx' : (((y : Nat) : Int) == (x : Int)) = false := by simp; omega
            go_wp2_with fail
            go_roundw
            case rel => exact ⟨m + 1, by omega, by go_num, by rw [htk.out]; simp [hyx], trivial⟩
            case measure => simp [intOf]; omega
        · have hall : Hid (S.take m = S) := List.take_of_length_le (by omega)
          rw [hall.out]
          have hst : Hid (svcsOf (cs.take (k + 1)) = stepS S cs[k]) := hsn
          cases hh : hasB S (svc cs[k])
          · have hst2 : Hid (svcsOf (cs.take (k + 1)) = S ++ [svc cs[k]]) := by have := hst.out; rw [stepS, hh] at this; exact this
            generalize svc cs[k] = x at *
            go_wp2_with (at_builtin; refine wpList_append_lies _ rfl (.tmp 73) (.tmp 75) 39 rfl wx.heap.size 52 i0 (.int .u8 0) 1 1 Yba.underlying39 hi hz0 hz1 hz2 rfl (by decide) (.slice aS S.length cS) S.length (u8s S) rfl (HA.out.own.alloc _) ⟨wr.heap.size, 0, none⟩ 1 1 [.int .u8 (x : Int)] rfl rfl (cell_one_new _ _ _) (cell_u8 x) (by decide) (by unfold maxLen; omega) (by omega) (by have := HA.out.low.size; simp; omega) _ rfl ?_; intro g2 cap2 w2 hown2 hgrow2 hat2 hlt2)
            go_roundw
            case rel => exact ⟨k + 1, by omega, by go_num, by rw [hst2.out]; exact HA.out.grown hown2 hgrow2⟩
            case measure => simp [intOf]; omega
          · have hst2 : Hid (svcsOf (cs.take (k + 1)) = S) := by have := hst.out; rw [stepS, hh] at this; exact this
            go_wp2_with fail
            go_roundw
            case rel => exact ⟨k + 1, by omega, by go_num, by rw [hst2.out]; exact HA.out⟩
            case measure => simp [intOf]; omega
    · have hke : Hid (cs.take k = cs) := List.take_of_length_le (by omega)
      rw [hke.out] at hA
      obtain ⟨aS, cS, rfl, hrowS⟩ := row_form hA.own
      have hRS : Hid (RowAt wr aS (svcsOf cs)) := hrowS
      have hP2 : Hid (Post w wr b4 bc br b6 (b6 + 1) B g capg p q aw cs st) := hP.out.on hA.low
      clear hA hrowS
      go_wp2_with fail
      exact t9 hG hP2 hRS


set_option maxRecDepth 100000 in
set_option maxHeartbeats 4000000 in
theorem t7 {w wx : World} {b4 bc br b6 B g capg cw : Nat} {p q : Int} {aw : Option Addr} {cs : List Nat} {st : List Value}  {x0 x1 x2 x9 x10 x11 x12 x13 x14 x15 x16 x17 x18 x19 x20 x21 x22 x23 x24 x25 x26 x27 x28 x29 x30 x31 x32 x33 x34 x35 x36 x37 x38 x39 x40 x41 x42 x43 x44 x45 x46 x47 x48 x49 x50 x51 x52 x53 x54 x55 x56 x57 x58 x59 x60 x61 x62 x63 x64 x65 x66 x67 x68 x69 x70 x71 x72 x73 x74 x75 x76 x77 x78 x79 x80 x81 x82 x83 x84 x85 x86 x87 x88 x89 x90 x91 x92 x93 x94 x95 x96 x97 x98 x99 x100 x101 x102 x103 x104 x105 x106 x107 x108 x109 x110 x111 x112 x113 x114 x115 x116 x117 x118 x119 x120 x121 x122 x123 x124 x125 x126 x127 x128 x129 x130 x131 x132 x133 x134 x135 x136 x137 x138 x139 x140 x141 x142 x143 x144 x145 x146 x147 x148 x149 x150 x151 x152 x153 x154 x155 x156 x157 x158 x159 x160 x161 x162 x163 x164 x165 x166 x167 x168 x169 x170 x171 x172 x173 x174 x175 x176 x177 x178 x179 x180 x181 x182 x183 x184 x185 x186 x187 x188 x189 x190 x191 x192 x193 x194 x195 x196 x197 x198 x199 x200 x201 x202 x203 x204 x205 x206 x207 x208 x209 x210 x211 x212 x213 x214 x215 x216 x217 x218 x219 x220 x221 x222 x223 x224 x225 x226 x227 x228 x229 x230 x231 x232 x233 x234 x235 x236 x237 x238 x239 x240 x241 x242 x243 x244 x245 x246 x247 x248 x249 x250 x251 x252 x253 x254 x255 x256 x257 x258 x259 x260 x261 x262 x263 : Value}
    (hG : Hid (Given cs p q st)) (hP : Hid (Post w wx b4 bc br b6 (b6 + 1) B g capg p q aw cs st)) :
    (tailC 7).wp Yba.prog (bodyPost Yba.prog Yba.f3 fun e w' => e = .returned (.bool true) ∧ Below w.heap.size w w')
      ⟨#[x0, x1, x2, .slice aw cs.length cw, .pointer (some ⟨b4, 0, none⟩), .pointer (some ⟨br, 0, none⟩), .pointer (some ⟨b6, 0, none⟩), .pointer (some ⟨b6 + 1, 0, none⟩), .slice (some ⟨g, 0, none⟩) 3 capg, x9, x10, x11, x12, x13, x14, x15, x16, x17, x18, x19, x20, x21, x22, x23, x24, x25, x26, x27, x28, x29, x30, x31, x32, x33, x34, x35, x36, x37, x38, x39, x40, x41, x42, x43, x44, x45, x46, x47, x48, x49, x50, x51, x52, x53, x54, x55, x56, x57, x58, x59, x60, x61, x62, x63, x64, x65, x66, x67, x68, x69, x70, x71, x72, x73, x74, x75, x76, x77, x78, x79, x80, x81, x82, x83, x84, x85, x86, x87, x88, x89, x90, x91, x92, x93, x94, x95, x96, x97, x98, x99, x100, x101, x102, x103, x104, x105, x106, x107, x108, x109, x110, x111, x112, x113, x114, x115, x116, x117, x118, x119, x120, x121, x122, x123, x124, x125, x126, x127, x128, x129, x130, x131, x132, x133, x134, x135, x136, x137, x138, x139, x140, x141, x142, x143, x144, x145, x146, x147, x148, x149, x150, x151, x152, x153, x154, x155, x156, x157, x158, x159, x160, x161, x162, x163, x164, x165, x166, x167, x168, x169, x170, x171, x172, x173, x174, x175, x176, x177, x178, x179, x180, x181, x182, x183, x184, x185, x186, x187, x188, x189, x190, x191, x192, x193, x194, x195, x196, x197, x198, x199, x200, x201, x202, x203, x204, x205, x206, x207, x208, x209, x210, x211, x212, x213, x214, x215, x216, x217, x218, x219, x220, x221, x222, x223, x224, x225, x226, x227, x228, x229, x230, x231, x232, x233, x234, x235, x236, x237, x238, x239, x240, x241, x242, x243, x244, x245, x246, x247, x248, x249, x250, x251, x252, x253, x254, x255, x256, x257, x258, x259, x260, x261, x262, x263], []⟩ wx := by
  refine tail_step 7 8 open7 ?_
  conv => arg 2; whnf
  go_wp2_with fail
  exact t8 hG hP


set_option maxRecDepth 100000 in
set_option maxHeartbeats 4000000 in
theorem t6 {w wx : World} {b4 bc br b6 B g capg cw : Nat} {p q : Int} {aw : Option Addr} {cs : List Nat} {st : List Value}  {x0 x1 x2 x9 x10 x11 x12 x13 x14 x15 x16 x17 x18 x19 x20 x21 x22 x23 x24 x25 x26 x27 x28 x29 x30 x31 x32 x33 x34 x35 x36 x37 x38 x39 x40 x41 x42 x43 x44 x45 x46 x47 x48 x49 x50 x51 x52 x53 x54 x55 x56 x57 x58 x59 x60 x61 x62 x63 x64 x65 x66 x67 x68 x69 x70 x71 x72 x73 x74 x75 x76 x77 x78 x79 x80 x81 x82 x83 x84 x85 x86 x87 x88 x89 x90 x91 x92 x93 x94 x95 x96 x97 x98 x99 x100 x101 x102 x103 x104 x105 x106 x107 x108 x109 x110 x111 x112 x113 x114 x115 x116 x117 x118 x119 x120 x121 x122 x123 x124 x125 x126 x127 x128 x129 x130 x131 x132 x133 x134 x135 x136 x137 x138 x139 x140 x141 x142 x143 x144 x145 x146 x147 x148 x149 x150 x151 x152 x153 x154 x155 x156 x157 x158 x159 x160 x161 x162 x163 x164 x165 x166 x167 x168 x169 x170 x171 x172 x173 x174 x175 x176 x177 x178 x179 x180 x181 x182 x183 x184 x185 x186 x187 x188 x189 x190 x191 x192 x193 x194 x195 x196 x197 x198 x199 x200 x201 x202 x203 x204 x205 x206 x207 x208 x209 x210 x211 x212 x213 x214 x215 x216 x217 x218 x219 x220 x221 x222 x223 x224 x225 x226 x227 x228 x229 x230 x231 x232 x233 x234 x235 x236 x237 x238 x239 x240 x241 x242 x243 x244 x245 x246 x247 x248 x249 x250 x251 x252 x253 x254 x255 x256 x257 x258 x259 x260 x261 x262 x263 : Value}
    (hG : Hid (Given cs p q st)) (hP : Hid (Post w wx b4 bc br b6 (b6 + 1) B g capg p q aw cs st)) :
    (tailC 6).wp Yba.prog (bodyPost Yba.prog Yba.f3 fun e w' => e = .returned (.bool true) ∧ Below w.heap.size w w')
      ⟨#[x0, x1, x2, .slice aw cs.length cw, .pointer (some ⟨b4, 0, none⟩), .pointer (some ⟨br, 0, none⟩), .pointer (some ⟨b6, 0, none⟩), .pointer (some ⟨b6 + 1, 0, none⟩), .slice (some ⟨g, 0, none⟩) 3 capg, x9, x10, x11, x12, x13, x14, x15, x16, x17, x18, x19, x20, x21, x22, x23, x24, x25, x26, x27, x28, x29, x30, x31, x32, x33, x34, x35, x36, x37, x38, x39, x40, x41, x42, x43, x44, x45, x46, x47, x48, x49, x50, x51, x52, x53, x54, x55, x56, x57, x58, x59, x60, x61, x62, x63, x64, x65, x66, x67, x68, x69, x70, x71, x72, x73, x74, x75, x76, x77, x78, x79, x80, x81, x82, x83, x84, x85, x86, x87, x88, x89, x90, x91, x92, x93, x94, x95, x96, x97, x98, x99, x100, x101, x102, x103, x104, x105, x106, x107, x108, x109, x110, x111, x112, x113, x114, x115, x116, x117, x118, x119, x120, x121, x122, x123, x124, x125, x126, x127, x128, x129, x130, x131, x132, x133, x134, x135, x136, x137, x138, x139, x140, x141, x142, x143, x144, x145, x146, x147, x148, x149, x150, x151, x152, x153, x154, x155, x156, x157, x158, x159, x160, x161, x162, x163, x164, x165, x166, x167, x168, x169, x170, x171, x172, x173, x174, x175, x176, x177, x178, x179, x180, x181, x182, x183, x184, x185, x186, x187, x188, x189, x190, x191, x192, x193, x194, x195, x196, x197, x198, x199, x200, x201, x202, x203, x204, x205, x206, x207, x208, x209, x210, x211, x212, x213, x214, x215, x216, x217, x218, x219, x220, x221, x222, x223, x224, x225, x226, x227, x228, x229, x230, x231, x232, x233, x234, x235, x236, x237, x238, x239, x240, x241, x242, x243, x244, x245, x246, x247, x248, x249, x250, x251, x252, x253, x254, x255, x256, x257, x258, x259, x260, x261, x262, x263], []⟩ wx := by
  refine tail_step 6 7 open6 ?_
  conv => arg 2; whnf
  go_wp2_with fail
  exact t7 hG hP


set_option maxRecDepth 100000 in
set_option maxHeartbeats 4000000 in
theorem t5 {w wx : World} {b4 bc br b6 B g capg cw : Nat} {p q : Int} {aw : Option Addr} {cs : List Nat} {st : List Value}  {x0 x1 x2 x8 x9 x10 x11 x12 x13 x14 x15 x16 x17 x18 x19 x20 x21 x22 x23 x24 x25 x26 x27 x28 x29 x30 x31 x32 x33 x34 x35 x36 x37 x38 x39 x40 x41 x42 x43 x44 x45 x46 x47 x48 x49 x50 x51 x52 x53 x54 x55 x56 x57 x58 x59 x60 x61 x62 x63 x64 x65 x66 x67 x68 x69 x70 x71 x72 x73 x74 x75 x76 x77 x78 x79 x80 x81 x82 x83 x84 x85 x86 x87 x88 x89 x90 x91 x92 x93 x94 x95 x96 x97 x98 x99 x100 x101 x102 x103 x104 x105 x106 x107 x108 x109 x110 x111 x112 x113 x114 x115 x116 x117 x118 x119 x120 x121 x122 x123 x124 x125 x126 x127 x128 x129 x130 x131 x132 x133 x134 x135 x136 x137 x138 x139 x140 x141 x142 x143 x144 x145 x146 x147 x148 x149 x150 x151 x152 x153 x154 x155 x156 x157 x158 x159 x160 x161 x162 x163 x164 x165 x166 x167 x168 x169 x170 x171 x172 x173 x174 x175 x176 x177 x178 x179 x180 x181 x182 x183 x184 x185 x186 x187 x188 x189 x190 x191 x192 x193 x194 x195 x196 x197 x198 x199 x200 x201 x202 x203 x204 x205 x206 x207 x208 x209 x210 x211 x212 x213 x214 x215 x216 x217 x218 x219 x220 x221 x222 x223 x224 x225 x226 x227 x228 x229 x230 x231 x232 x233 x234 x235 x236 x237 x238 x239 x240 x241 x242 x243 x244 x245 x246 x247 x248 x249 x250 x251 x252 x253 x254 x255 x256 x257 x258 x259 x260 x261 x262 x263 : Value}
    (hG : Hid (Given cs p q st)) (hP : Hid (Post w wx b4 bc br b6 (b6 + 1) B g capg p q aw cs st)) :
    (tailC 5).wp Yba.prog (bodyPost Yba.prog Yba.f3 fun e w' => e = .returned (.bool true) ∧ Below w.heap.size w w')
      ⟨#[x0, x1, x2, .slice aw cs.length cw, .pointer (some ⟨b4, 0, none⟩), .pointer (some ⟨br, 0, none⟩), .pointer (some ⟨b6, 0, none⟩), .pointer (some ⟨b6 + 1, 0, none⟩), x8, x9, x10, x11, x12, x13, x14, x15, x16, x17, x18, x19, x20, x21, x22, x23, x24, x25, x26, x27, x28, x29, x30, x31, x32, x33, x34, x35, x36, x37, x38, x39, x40, x41, x42, x43, x44, x45, x46, x47, x48, x49, x50, x51, x52, x53, x54, x55, x56, x57, x58, x59, x60, x61, x62, x63, x64, x65, x66, x67, x68, x69, x70, x71, x72, x73, x74, x75, x76, x77, x78, x79, x80, x81, x82, x83, x84, x85, x86, x87, x88, x89, x90, x91, x92, x93, x94, x95, x96, x97, x98, x99, x100, x101, x102, x103, x104, x105, x106, x107, x108, x109, x110, x111, x112, x113, x114, x115, x116, x117, x118, x119, x120, x121, x122, x123, x124, x125, x126, x127, x128, x129, x130, x131, x132, x133, x134, x135, x136, x137, x138, x139, x140, x141, x142, x143, x144, x145, x146, x147, x148, x149, x150, x151, x152, x153, x154, x155, x156, x157, x158, x159, x160, x161, x162, x163, x164, x165, x166, x167, x168, x169, x170, x171, x172, x173, x174, x175, x176, x177, x178, x179, x180, x181, x182, x183, x184, x185, x186, x187, x188, x189, x190, x191, x192, x193, x194, x195, x196, x197, x198, x199, x200, x201, x202, x203, x204, x205, x206, x207, x208, x209, x210, x211, x212, x213, x214, x215, x216, x217, x218, x219, x220, x221, x222, x223, x224, x225, x226, x227, x228, x229, x230, x231, x232, x233, x234, x235, x236, x237, x238, x239, x240, x241, x242, x243, x244, x245, x246, x247, x248, x249, x250, x251, x252, x253, x254, x255, x256, x257, x258, x259, x260, x261, x262, x263], []⟩ wx := by
  refine tail_step 5 6 open5 ?_
  conv => arg 2; whnf
  have e1 := hP.out.r1
  have e2 := hP.out.lad
  go_wp2_with fail
  exact t6 hG hP


end Go.Proofs.Ybulkcbu
