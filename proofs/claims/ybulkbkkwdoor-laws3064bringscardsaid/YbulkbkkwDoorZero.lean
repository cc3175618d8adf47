/-
  THE ZERO VALUES of this program's structs, cell by cell, as the kernel reads them off the program.
-/
import Derived.Test.YbulkbkkwDoorRows
import Derived.WalkKit
namespace Go.Proofs.YbulkbkkwDoor
open Go.RowKit
set_option maxRecDepth 100000

def z26 : Array Value := #[.slice none 0 0, .slice none 0 0]
theorem zv26 (w : World) : (zeroValue 26).run Ybad.prog w = .ok (.agg z26) w := by kernel_rfl
theorem zs26 : z26.size = 2 := rfl

def z40 : Array Value := #[.string ⟨#[]⟩, .slice none 0 0, .slice none 0 0, .map none, .bool false, .int .i64 0, .string ⟨#[]⟩, .int .i64 0, .float .f64 0, .bool false, .int .i64 0, .int .u8 0, .slice none 0 0, .bool false, .pointer none, .nilIface, .nilFunc, .int .i32 0]
theorem zv40 (w : World) : (zeroValue 40).run Ybad.prog w = .ok (.agg z40) w := by kernel_rfl
theorem zs40 : z40.size = 18 := rfl

def z48 : Array Value := #[.string ⟨#[]⟩, .int .i64 0, .slice none 0 0, .bool false, .slice none 0 0, .int .i64 0, .slice none 0 0, .slice none 0 0, .slice none 0 0, .slice none 0 0, .slice none 0 0]
theorem zv48 (w : World) : (zeroValue 48).run Ybad.prog w = .ok (.agg z48) w := by kernel_rfl
theorem zs48 : z48.size = 11 := rfl

def z64 : Array Value := #[.string ⟨#[]⟩, .int .i32 0, .int .u32 0, .slice none 0 0, .slice none 0 0, .int .i64 0, .int .i64 0, .pointer none, .bool false, .bool false, .bool false, .int .i32 0, .int .i32 0, .int .i32 0, .int .i32 0, .int .i32 0, .int .i32 0, .int .i32 0, .int .i32 0, .int .i32 0, .int .i32 0, .int .i32 0, .int .i32 0, .slice none 0 0, .slice none 0 0, .slice none 0 0, .slice none 0 0, .slice none 0 0, .int .u8 0, .int .u8 0, .int .u8 0, .int .u8 0, .int .u8 0, .int .u8 0, .int .u8 0, .int .u8 0, .int .u8 0, .int .u8 0, .int .u8 0, .int .u8 0, .int .u8 0, .int .u8 0, .int .u8 0, .int .u8 0, .pointer none, .int .u8 0, .int .u8 0, .int .u8 0, .int .u8 0, .int .u8 0, .int .u8 0, .int .u8 0, .int .u8 0, .int .u8 0, .int .u8 0, .int .u8 0, .int .u8 0, .int .u8 0, .int .u8 0, .int .u8 0, .int .u8 0, .slice none 0 0, .slice none 0 0, .slice none 0 0, .slice none 0 0, .slice none 0 0, .int .u64 0, .int .u64 0]
theorem zv64 (w : World) : (zeroValue 64).run Ybad.prog w = .ok (.agg z64) w := by kernel_rfl
theorem zs64 : z64.size = 68 := rfl

def z71 : Array Value := #[.bool false, .int .i32 0, .int .i64 0, .int .i64 0, .pointer none, .int .i64 0, .pointer none, .int .i64 0, .string ⟨#[]⟩, .pointer none, .bool false, .int .u8 0, .int .u32 0, .bool false, .bool false, .bool false, .bool false, .int .i32 0, .pointer none, .pointer none, .pointer none, .pointer none, .pointer none, .int .u64 0, .int .i32 0, .pointer none, .int .i64 0, .pointer none, .int .i64 0]
theorem zv71 (w : World) : (zeroValue 71).run Ybad.prog w = .ok (.agg z71) w := by kernel_rfl
theorem zs71 : z71.size = 29 := rfl

def z72 : Array Value := #[.int .u8 0, .int .u8 0, .int .u8 0, .int .u8 0, .int .u8 0, .int .u8 0, .int .u8 0, .int .u8 0, .int .u8 0, .int .u8 0, .int .u8 0, .int .u8 0, .int .u8 0, .int .u8 0, .int .u8 0, .int .u8 0]
theorem zv72 (w : World) : (zeroValue 72).run Ybad.prog w = .ok (.agg z72) w := by kernel_rfl
theorem zs72 : z72.size = 16 := rfl

def z79 : Array Value := #[.int .u8 0, .bool false, .pointer none, .pointer none, .bool false, .int .i32 0, .int .i64 0, .int .i64 0, .pointer none, .int .i64 0, .pointer none, .int .i64 0, .string ⟨#[]⟩, .pointer none, .bool false, .int .u8 0, .int .u32 0, .bool false, .bool false, .bool false, .bool false, .int .i32 0, .pointer none, .pointer none, .pointer none, .pointer none, .pointer none, .int .u64 0, .int .i32 0, .pointer none, .int .i64 0, .pointer none, .int .i64 0, .int .u8 0, .int .u8 0, .int .u8 0, .int .u8 0, .int .u8 0, .int .u8 0, .int .u8 0, .int .u8 0, .int .u8 0, .int .u8 0, .int .u8 0, .int .u8 0, .int .u8 0, .int .u8 0, .int .u8 0, .int .u8 0, .slice none 0 0, .int .u8 0, .int .u8 0, .int .u8 0, .int .u8 0, .int .u8 0, .int .u8 0, .int .u8 0, .int .u8 0, .int .u8 0, .int .u8 0, .int .u8 0, .int .u8 0, .int .u8 0, .int .u8 0, .int .u8 0, .int .u8 0, .int .u32 0, .slice none 0 0, .pointer none, .bool false, .bool false, .bool false, .bool false, .int .u32 0, .int .u64 0, .pointer none, .int .i64 0, .int .i32 0, .int .i32 0, .int .i32 0, .int .i32 0, .bool false]
theorem zv79 (w : World) : (zeroValue 79).run Ybad.prog w = .ok (.agg z79) w := by kernel_rfl
theorem zs79 : z79.size = 82 := rfl

def z84 : Array Value := #[.pointer none, .pointer none, .slice none 0 0, .int .i64 0, .int .i64 0, .bool false, .pointer none, .bool false, .bool false, .int .i64 0, .int .u32 0, .int .i32 0, .int .i32 0, .slice none 0 0]
theorem zv84 (w : World) : (zeroValue 84).run Ybad.prog w = .ok (.agg z84) w := by kernel_rfl
theorem zs84 : z84.size = 14 := rfl

def z89 : Array Value := #[.int .u8 0, .int .i32 0, .string ⟨#[]⟩, .int .i64 0, .slice none 0 0, .slice none 0 0, .int .u8 0, .int .u8 0, .int .u8 0, .int .u8 0, .int .u8 0, .int .u8 0, .int .u8 0, .int .u8 0, .int .u8 0, .int .u8 0, .int .u8 0, .int .u8 0, .int .u8 0, .int .u8 0, .int .u8 0, .int .u8 0, .int .u8 0, .int .u8 0, .int .u8 0, .int .u8 0, .int .u8 0, .int .u8 0, .int .u8 0, .int .u8 0, .int .u8 0, .int .u8 0, .int .u8 0, .int .u8 0, .int .u8 0, .int .u8 0, .int .u8 0, .int .u8 0, .int .u32 0]
theorem zv89 (w : World) : (zeroValue 89).run Ybad.prog w = .ok (.agg z89) w := by kernel_rfl
theorem zs89 : z89.size = 39 := rfl

def z115 : Array Value := #[.slice none 0 0, .slice none 0 0, .int .u64 0, .slice none 0 0, .slice none 0 0, .map none, .int .i64 0, .int .i64 0, .int .u64 0, .map none, .map none, .int .u64 0, .int .u64 0, .int .u64 0, .int .u64 0, .int .u64 0, .int .u64 0, .int .u64 0, .int .u64 0, .int .u64 0, .int .u64 0, .int .u64 0, .int .u64 0, .int .u64 0, .int .u64 0, .int .u64 0, .int .u64 0, .int .u64 0, .int .u64 0, .int .u64 0, .int .u64 0, .int .u64 0, .int .u64 0, .int .u64 0, .int .u64 0, .int .u64 0, .int .u64 0, .int .u64 0, .int .u64 0, .int .u64 0, .int .u64 0, .int .u64 0, .int .u64 0, .int .u64 0, .int .u64 0, .int .u64 0, .int .u64 0, .int .u64 0, .int .u64 0, .int .u64 0, .int .u64 0, .int .u64 0, .int .u64 0, .int .u64 0, .int .u64 0, .int .u64 0, .int .u64 0, .int .u64 0, .int .u64 0, .int .u64 0, .int .u64 0, .int .u64 0, .int .u64 0, .int .u64 0, .int .u64 0, .int .u64 0, .int .u64 0, .int .u64 0, .int .u64 0, .int .u64 0, .int .u64 0, .int .u64 0, .int .u64 0, .int .u64 0, .int .u64 0]
theorem zv115 (w : World) : (zeroValue 115).run Ybad.prog w = .ok (.agg z115) w := by kernel_rfl
theorem zs115 : z115.size = 75 := rfl

def z121 : Array Value := #[.slice none 0 0, .nilIface, .pointer none, .int .i32 0, .bool false, .bool false, .bool false, .bool false, .string ⟨#[]⟩, .int .i64 0, .float .f64 0, .bool false, .int .i64 0, .int .u8 0, .int .u64 0, .string ⟨#[]⟩, .int .i64 0, .map none, .slice none 0 0, .slice none 0 0, .map none, .slice none 0 0, .int .i64 0, .int .i64 0, .slice none 0 0, .bool false, .slice none 0 0, .slice none 0 0, .slice none 0 0, .int .i64 0, .map none, .int .u32 0, .int .u64 0, .map none, .map none, .int .i64 0, .map none, .map none, .nilFunc, .int .u32 0, .int .u32 0, .slice none 0 0, .int .i64 0, .int .u64 0, .slice none 0 0, .slice none 0 0, .slice none 0 0, .slice none 0 0, .int .i64 0, .bool false, .int .i64 0, .slice none 0 0, .slice none 0 0, .int .u64 0, .slice none 0 0, .slice none 0 0, .map none, .int .i64 0, .int .i64 0, .int .u64 0, .map none, .map none, .int .u64 0, .int .u64 0, .int .u64 0, .int .u64 0, .int .u64 0, .int .u64 0, .int .u64 0, .int .u64 0, .int .u64 0, .int .u64 0, .int .u64 0, .int .u64 0, .int .u64 0, .int .u64 0, .int .u64 0, .int .u64 0, .int .u64 0, .int .u64 0, .int .u64 0, .int .u64 0, .int .u64 0, .int .u64 0, .int .u64 0, .int .u64 0, .int .u64 0, .int .u64 0, .int .u64 0, .int .u64 0, .int .u64 0, .int .u64 0, .int .u64 0, .int .u64 0, .int .u64 0, .int .u64 0, .int .u64 0, .int .u64 0, .int .u64 0, .int .u64 0, .int .u64 0, .int .u64 0, .int .u64 0, .int .u64 0, .int .u64 0, .int .u64 0, .int .u64 0, .int .u64 0, .int .u64 0, .int .u64 0, .int .u64 0, .int .u64 0, .int .u64 0, .int .u64 0, .int .u64 0, .int .u64 0, .int .u64 0, .int .u64 0, .int .u64 0, .int .u64 0, .int .u64 0, .int .u64 0, .int .u64 0, .int .u64 0, .int .u64 0, .int .u64 0]
theorem zv121 (w : World) : (zeroValue 121).run Ybad.prog w = .ok (.agg z121) w := by kernel_rfl
theorem zs121 : z121.size = 126 := rfl

end Go.Proofs.YbulkbkkwDoor
