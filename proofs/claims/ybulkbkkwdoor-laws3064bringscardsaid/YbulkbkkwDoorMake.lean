/-
  LawS3064BRings (function 4): what it makes before it calls withdrawAll.
-/
import Derived.Test.YbulkbkkwDoorRings
import Derived.Test.YbulkbkkwDoorPairD
namespace Go.Proofs.YbulkbkkwDoor
open Go.RowKit
set_option linter.unusedVariables false

theorem code_chain4 {c : Code} {Q : Exit → Act → World → Prop} {a : Act} (w : World) (o0 o1 o2 o3 : Obj) (h : ∀ V, Below w.heap.size w V → V.heap.size = w.heap.size + 1 + 1 + 1 + 1 → V.heap[w.heap.size]? = some o0 → V.heap[w.heap.size + 1]? = some o1 → V.heap[w.heap.size + 1 + 1]? = some o2 → V.heap[w.heap.size + 1 + 1 + 1]? = some o3 → Code.wp Ybad.prog c Q a V) : Code.wp Ybad.prog c Q a ((((w.alloc o0).alloc o1).alloc o2).alloc o3) := by
  refine h _ (((((Below.refl _ _).alloc (by simp <;> omega) _).alloc (by simp <;> omega) _).alloc (by simp <;> omega) _).alloc (by simp <;> omega) _) (by simp) ?_ ?_ ?_ ?_
  · exact ((Below.heap_alloc _ _ _ (by simp <;> omega)).trans ((Below.heap_alloc _ _ _ (by simp <;> omega)).trans ((Below.heap_alloc _ _ _ (by simp <;> omega)).trans (heap_at _ _ _ (by simp)))))
  · exact ((Below.heap_alloc _ _ _ (by simp <;> omega)).trans ((Below.heap_alloc _ _ _ (by simp <;> omega)).trans (heap_at _ _ _ (by simp))))
  · exact ((Below.heap_alloc _ _ _ (by simp <;> omega)).trans (heap_at _ _ _ (by simp)))
  · exact (heap_at _ _ _ (by simp))

theorem frame4 {x0 x1 x2 x3 x4 x5 x6 x7 x8 x9 x10 x11 x12 x13 x14 x15 x16 x17 x18 x19 x20 x21 x22 x23 x24 x25 x26 x27 x28 x29 x30 x31 x32 x33 x34 x35 x36 x37 x38 x39 x40 x41 x42 x43 x44 x45 x46 x47 x48 x49 x50 x51 x52 x53 x54 x55 x56 x57 x58 x59 x60 x61 x62 x63 x64 x65 x66 x67 x68 x69 x70 x71 x72 x73 x74 x75 x76 x77 x78 x79 x80 x81 x82 x83 x84 x85 x86 x87 x88 x89 x90 x91 x92 x93 x94 x95 x96 x97 x98 x99 x100 x101 x102 x103 x104 x105 x106 x107 x108 x109 x110 x111 x112 x113 x114 x115 x116 x117 x118 x119 x120 x121 x122 x123 x124 x125 x126 x127 x128 x129 x130 x131 x132 x133 x134 x135 x136 x137 x138 x139 x140 x141 x142 x143 x144 x145 x146 x147 x148 x149 x150 x151 x152 x153 x154 x155 x156 x157 x158 x159 x160 x161 x162 x163 x164 x165 x166 x167 x168 x169 x170 x171 x172 x173 x174 x175 x176 x177 x178 x179 x180 x181 x182 x183 x184 x185 x186 x187 x188 x189 x190 x191 x192 x193 x194 x195 x196 x197 x198 x199 x200 x201 x202 x203 x204 x205 x206 x207 x208 x209 x210 x211 x212 x213 x214 x215 x216 x217 x218 x219 x220 x221 x222 x223 x224 x225 x226 x227 x228 x229 x230 x231 x232 x233 x234 x235 x236 x237 x238 x239 x240 : Value} {a : Act} (h : Rest [55, 56, 57, 58, 59, 60, 61, 62, 63] ⟨#[x0, x1, x2, x3, x4, x5, x6, x7, x8, x9, x10, x11, x12, x13, x14, x15, x16, x17, x18, x19, x20, x21, x22, x23, x24, x25, x26, x27, x28, x29, x30, x31, x32, x33, x34, x35, x36, x37, x38, x39, x40, x41, x42, x43, x44, x45, x46, x47, x48, x49, x50, x51, x52, x53, x54, x55, x56, x57, x58, x59, x60, x61, x62, x63, x64, x65, x66, x67, x68, x69, x70, x71, x72, x73, x74, x75, x76, x77, x78, x79, x80, x81, x82, x83, x84, x85, x86, x87, x88, x89, x90, x91, x92, x93, x94, x95, x96, x97, x98, x99, x100, x101, x102, x103, x104, x105, x106, x107, x108, x109, x110, x111, x112, x113, x114, x115, x116, x117, x118, x119, x120, x121, x122, x123, x124, x125, x126, x127, x128, x129, x130, x131, x132, x133, x134, x135, x136, x137, x138, x139, x140, x141, x142, x143, x144, x145, x146, x147, x148, x149, x150, x151, x152, x153, x154, x155, x156, x157, x158, x159, x160, x161, x162, x163, x164, x165, x166, x167, x168, x169, x170, x171, x172, x173, x174, x175, x176, x177, x178, x179, x180, x181, x182, x183, x184, x185, x186, x187, x188, x189, x190, x191, x192, x193, x194, x195, x196, x197, x198, x199, x200, x201, x202, x203, x204, x205, x206, x207, x208, x209, x210, x211, x212, x213, x214, x215, x216, x217, x218, x219, x220, x221, x222, x223, x224, x225, x226, x227, x228, x229, x230, x231, x232, x233, x234, x235, x236, x237, x238, x239, x240], []⟩ a) : ∃ us : Nat → Value, a = ⟨#[x0, x1, x2, x3, x4, x5, x6, x7, x8, x9, x10, x11, x12, x13, x14, x15, x16, x17, x18, x19, x20, x21, x22, x23, x24, x25, x26, x27, x28, x29, x30, x31, x32, x33, x34, x35, x36, x37, x38, x39, x40, x41, x42, x43, x44, x45, x46, x47, x48, x49, x50, x51, x52, x53, x54, us 55, us 56, us 57, us 58, us 59, us 60, us 61, us 62, us 63, x64, x65, x66, x67, x68, x69, x70, x71, x72, x73, x74, x75, x76, x77, x78, x79, x80, x81, x82, x83, x84, x85, x86, x87, x88, x89, x90, x91, x92, x93, x94, x95, x96, x97, x98, x99, x100, x101, x102, x103, x104, x105, x106, x107, x108, x109, x110, x111, x112, x113, x114, x115, x116, x117, x118, x119, x120, x121, x122, x123, x124, x125, x126, x127, x128, x129, x130, x131, x132, x133, x134, x135, x136, x137, x138, x139, x140, x141, x142, x143, x144, x145, x146, x147, x148, x149, x150, x151, x152, x153, x154, x155, x156, x157, x158, x159, x160, x161, x162, x163, x164, x165, x166, x167, x168, x169, x170, x171, x172, x173, x174, x175, x176, x177, x178, x179, x180, x181, x182, x183, x184, x185, x186, x187, x188, x189, x190, x191, x192, x193, x194, x195, x196, x197, x198, x199, x200, x201, x202, x203, x204, x205, x206, x207, x208, x209, x210, x211, x212, x213, x214, x215, x216, x217, x218, x219, x220, x221, x222, x223, x224, x225, x226, x227, x228, x229, x230, x231, x232, x233, x234, x235, x236, x237, x238, x239, x240], []⟩ := by
  obtain ⟨us, rfl⟩ := frame_of h
  exact ⟨us, by kernel_rfl⟩

theorem g_ixo {o : Oper} {a : Act} {w1 : World} {s r g off n c i : Nat} (ho : o.op = .indexAddr 91 (.tmp s) (.tmp r)) (h1 : a.tmps[s]? = some (.slice (some ⟨g, off, none⟩) n c)) (h2 : a.tmps[r]? = some (.int .i64 i)) (hi : i < n) : (execOp a.eval o).run Ybad.prog w1 = .ok (.value (.pointer (some ⟨g, off + i * 3, none⟩))) w1 := by
  unfold execOp
  rw [ho]
  have h3 : (i : Int) < (n : Int) := by omega
  have h4 : (0 : Int) ≤ (i : Int) := by omega
  go_simp
theorem g_ixa {o : Oper} {a : Act} {w1 : World} {s g off : Nat} (ho : o.op = .indexAddr 72 (.tmp s) (.const (.int .i64 0))) (h1 : a.tmps[s]? = some (.pointer (some ⟨g, off, none⟩))) : (execOp a.eval o).run Ybad.prog w1 = .ok (.value (.pointer (some ⟨g, off, none⟩))) w1 := by
  unfold execOp
  rw [ho]
  go_simp
theorem g_fld79 {o : Oper} {a : Act} {w1 : World} {b i s : Nat} (ho : o.op = .fieldAddr 79 (.tmp s) 5) (h1 : a.tmps[s]? = some (.pointer (some ⟨b, i, none⟩))) : (execOp a.eval o).run Ybad.prog w1 = .ok (.value (.pointer (some ⟨b, i + 33, none⟩))) w1 := by
  unfold execOp
  rw [ho]
  go_simp
theorem g_store5 {o : Oper} {a : Act} {w1 : World} {b i s r : Nat} {v : Int} {u : Value} (ho : o.op = .store 5 (.tmp s) (.tmp r)) (h1 : a.tmps[s]? = some (.pointer (some ⟨b, i, none⟩))) (h2 : a.tmps[r]? = some (.int .u8 v)) (hc : w1.cell? ⟨b, i, none⟩ = some u) (hf : w1.frozen? ⟨b, i, none⟩ = false) :
    (execOp a.eval o).run Ybad.prog w1 = .ok .skip (w1.setCell ⟨b, i, none⟩ (.int .u8 v)) := by
  unfold execOp
  rw [ho]
  go_simp
theorem make54 (len : Nat) (hl : len ≤ 1024) : ∃ arr : Array Value, arr.size = len ∧ ∀ w, (Instr.makeSlice 54 (.int .i64 len) (.int .i64 len)).run Ybad.prog w = .ok (.slice (some ⟨w.heap.size, 0, none⟩) len len) (w.alloc (.cells arr 65)) := by
  have hi : (Ybad.prog.info? 65).map (fun i => (i.zero, i.size, i.bytes)) = some (some (.pointer none), 1, 8) := by kernel_rfl
  obtain ⟨i, hi, hz, hs, hb⟩ := info_parts hi
  refine ⟨madeCells (Value.pointer none).cells (len * i.size), ?_, fun w => ?_⟩
  · rw [hs]; simp [madeCells]
  · have := run_make (P := Ybad.prog) w 54 65 i _ Ybad.underlying54 hi hz .i64 .i64 len len (by omega) (by omega) (by rw [hb]; omega) (by omega)
    simpa using this
end Go.Proofs.YbulkbkkwDoor
