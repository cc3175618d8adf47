/-
  THE ZERO VALUES of this program's structs, cell by cell, as the kernel reads them off the program.
-/
import Derived.Test.YbulkbkkwGreatDoorRows
import Derived.WalkKit
namespace Go.Proofs.YbulkbkkwGreatDoor
open Go.RowKit
set_option maxRecDepth 100000

def z28 : Array Value := #[.string ⟨#[]⟩, .bool false, .int .i64 0, .string ⟨#[]⟩, .bool false, .slice none 0 0, .int .i64 0, .int .i64 0, .int .i64 0, .bool false, .bool false, .slice none 0 0]
theorem zv28 (w : World) : (zeroValue 28).run Ybaz.prog w = .ok (.agg z28) w := by kernel_rfl
theorem zs28 : z28.size = 12 := rfl

def z45 : Array Value := #[.string ⟨#[]⟩, .int .i32 0, .int .u32 0, .slice none 0 0, .slice none 0 0, .int .i64 0, .int .i64 0, .pointer none, .bool false, .bool false, .bool false, .int .i32 0, .int .i32 0, .int .i32 0, .int .i32 0, .int .i32 0, .int .i32 0, .int .i32 0, .int .i32 0, .int .i32 0, .int .i32 0, .int .i32 0, .int .i32 0, .slice none 0 0, .slice none 0 0, .slice none 0 0, .slice none 0 0, .slice none 0 0, .int .u8 0, .int .u8 0, .int .u8 0, .int .u8 0, .int .u8 0, .int .u8 0, .int .u8 0, .int .u8 0, .int .u8 0, .int .u8 0, .int .u8 0, .int .u8 0, .int .u8 0, .int .u8 0, .int .u8 0, .int .u8 0, .pointer none, .int .u8 0, .int .u8 0, .int .u8 0, .int .u8 0, .int .u8 0, .int .u8 0, .int .u8 0, .int .u8 0, .int .u8 0, .int .u8 0, .int .u8 0, .int .u8 0, .int .u8 0, .int .u8 0, .int .u8 0, .int .u8 0, .slice none 0 0, .slice none 0 0, .slice none 0 0, .slice none 0 0, .slice none 0 0, .int .u64 0, .int .u64 0]
theorem zv45 (w : World) : (zeroValue 45).run Ybaz.prog w = .ok (.agg z45) w := by kernel_rfl
theorem zs45 : z45.size = 68 := rfl

def z50 : Array Value := #[.string ⟨#[]⟩, .int .i64 0, .slice none 0 0, .bool false, .slice none 0 0, .int .i64 0, .slice none 0 0, .slice none 0 0, .slice none 0 0, .slice none 0 0, .slice none 0 0]
theorem zv50 (w : World) : (zeroValue 50).run Ybaz.prog w = .ok (.agg z50) w := by kernel_rfl
theorem zs50 : z50.size = 11 := rfl

def z54 : Array Value := #[.pointer none, .pointer none, .slice none 0 0, .int .i64 0, .int .i64 0, .bool false, .pointer none, .bool false, .bool false, .int .i64 0, .int .u32 0, .int .i32 0, .int .i32 0, .slice none 0 0]
theorem zv54 (w : World) : (zeroValue 54).run Ybaz.prog w = .ok (.agg z54) w := by kernel_rfl
theorem zs54 : z54.size = 14 := rfl

def z63 : Array Value := #[.bool false, .int .i32 0, .int .i64 0, .int .i64 0, .pointer none, .int .i64 0, .pointer none, .int .i64 0, .string ⟨#[]⟩, .pointer none, .bool false, .int .u8 0, .int .u32 0, .bool false, .bool false, .bool false, .bool false, .int .i32 0, .pointer none, .pointer none, .pointer none, .pointer none, .pointer none, .int .u64 0, .int .i32 0, .pointer none, .int .i64 0, .pointer none, .int .i64 0]
theorem zv63 (w : World) : (zeroValue 63).run Ybaz.prog w = .ok (.agg z63) w := by kernel_rfl
theorem zs63 : z63.size = 29 := rfl

def z68 : Array Value := #[.string ⟨#[]⟩, .int .i64 0, .float .f64 0, .bool false, .int .i64 0, .int .u8 0]
theorem zv68 (w : World) : (zeroValue 68).run Ybaz.prog w = .ok (.agg z68) w := by kernel_rfl
theorem zs68 : z68.size = 6 := rfl

def z97 : Array Value := #[.slice none 0 0, .nilIface, .pointer none, .int .i32 0, .bool false, .bool false, .bool false, .bool false, .string ⟨#[]⟩, .int .i64 0, .float .f64 0, .bool false, .int .i64 0, .int .u8 0, .int .u64 0, .string ⟨#[]⟩, .int .i64 0, .map none, .slice none 0 0, .slice none 0 0, .map none, .slice none 0 0, .int .i64 0, .int .i64 0, .slice none 0 0, .bool false, .slice none 0 0, .slice none 0 0, .slice none 0 0, .int .i64 0, .map none, .int .u32 0, .int .u64 0, .map none, .map none, .int .i64 0, .map none, .map none, .nilFunc, .int .u32 0, .int .u32 0, .slice none 0 0, .int .i64 0, .int .u64 0, .slice none 0 0, .slice none 0 0, .slice none 0 0, .slice none 0 0, .int .i64 0, .bool false, .int .i64 0, .slice none 0 0, .slice none 0 0, .int .u64 0, .slice none 0 0, .slice none 0 0, .map none, .int .i64 0, .int .i64 0, .int .u64 0, .map none, .map none, .int .u64 0, .int .u64 0, .int .u64 0, .int .u64 0, .int .u64 0, .int .u64 0, .int .u64 0, .int .u64 0, .int .u64 0, .int .u64 0, .int .u64 0, .int .u64 0, .int .u64 0, .int .u64 0, .int .u64 0, .int .u64 0, .int .u64 0, .int .u64 0, .int .u64 0, .int .u64 0, .int .u64 0, .int .u64 0, .int .u64 0, .int .u64 0, .int .u64 0, .int .u64 0, .int .u64 0, .int .u64 0, .int .u64 0, .int .u64 0, .int .u64 0, .int .u64 0, .int .u64 0, .int .u64 0, .int .u64 0, .int .u64 0, .int .u64 0, .int .u64 0, .int .u64 0, .int .u64 0, .int .u64 0, .int .u64 0, .int .u64 0, .int .u64 0, .int .u64 0, .int .u64 0, .int .u64 0, .int .u64 0, .int .u64 0, .int .u64 0, .int .u64 0, .int .u64 0, .int .u64 0, .int .u64 0, .int .u64 0, .int .u64 0, .int .u64 0, .int .u64 0, .int .u64 0, .int .u64 0, .int .u64 0, .int .u64 0, .int .u64 0, .int .u64 0]
theorem zv97 (w : World) : (zeroValue 97).run Ybaz.prog w = .ok (.agg z97) w := by kernel_rfl
theorem zs97 : z97.size = 126 := rfl

end Go.Proofs.YbulkbkkwGreatDoor
