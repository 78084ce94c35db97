/-
  fmt.Errorf at this dump, where its one %w is a sentinel of errors.New's make: what it hands back is a new *fmt.wrapError that holds that sentinel. The text is whatever the stop answers: nothing here looks into it. A contract a format that the roads come to.
-/
import Derived.Test.YbulkuieFmtChecked
import Derived.WalkKit
import Derived.Stop.CallBack
import Derived.Stop.IfaceNil
import GoSem.ClaimData
namespace Go.Proofs.YbulkuieFmt
open Go.RowKit Go.Extern.Stop Go.Stop Go.Extern

theorem call33 (args : Array Value) (w : World) : (callFunc 33 args).run Ybaf.prog w = ((FmtStop.errorf #[9, 91] #[30] args).run Ybaf.prog w).andThen fun v w' => .ok (.value v) w' :=
  run_callFunc_extern Ybaf.func33 (by kernel_rfl) (by kernel_rfl) (by kernel_rfl) (by kernel_rfl) args w
theorem guardF (name : String) (w : World) : (FmtStop.guard name).run Ybaf.prog w = .ok () w := by kernel_rfl
theorem ptr93 (w : World) : (FmtStop.ptrTo "fmt.wrapError").run Ybaf.prog w = .ok 93 w := by kernel_rfl
theorem elem93 (w : World) : (elemOf 93).run Ybaf.prog w = .ok 129 w := by kernel_rfl
theorem isError99 (w : World) : (FmtDoors.textMethod 99 "Error").run Ybaf.prog w = .ok true w := by kernel_rfl

def plain99 : List UInt8 := 14 :: FmtStop.pack "*errors.errorString".toUTF8.data.toList
theorem opSentinel (name : String) (a : Addr) (s : ByteArray) (w : World) (hc : w.cell? a = some (.string s)) :
    (FmtStop.operand name true 119 false (.iface 99 (.pointer (some a)))).run Ybaf.prog w = .ok (plain99, s.data.toList) w := by
  have h1 : (typeStr 99).run Ybaf.prog w = .ok "*errors.errorString" w := by kernel_rfl
  have d2 : Ybaf.t99.desc = .pointer 101 := rfl
  have d3 : Ybaf.t101.desc = .named "errors.errorString" 100 := rfl
  simp [FmtStop.operand, h1, d2, d3, run_load, hc, plain99]

def shapeI : List UInt8 := 5 :: FmtStop.pack "int".toUTF8.data.toList
def shapeL : List UInt8 := 5 :: FmtStop.pack "int64".toUTF8.data.toList
def shapeU : List UInt8 := 9 :: FmtStop.pack "uint64".toUTF8.data.toList
def shapeS : List UInt8 := 12 :: FmtStop.pack "string".toUTF8.data.toList
theorem opInt (name : String) (x : Int) (w : World) : (FmtStop.operand name true 100 false (.iface 3 (.int .i64 x))).run Ybaf.prog w = .ok (shapeI, Go.Extern.Stop.digits 8 (x % 2 ^ 64).toNat) w := by kernel_rfl
theorem opI64 (name : String) (x : Int) (w : World) : (FmtStop.operand name true 100 false (.iface 2 (.int .i64 x))).run Ybaf.prog w = .ok (shapeL, Go.Extern.Stop.digits 8 (x % 2 ^ 64).toNat) w := by kernel_rfl
theorem opU64 (name : String) (x : Int) (w : World) : (FmtStop.operand name true 100 false (.iface 24 (.int .u64 x))).run Ybaf.prog w = .ok (shapeU, Go.Extern.Stop.digits 8 (x % 2 ^ 64).toNat) w := by kernel_rfl
theorem opU64x (name : String) (x : Int) (w : World) : (FmtStop.operand name true 120 true (.iface 24 (.int .u64 x))).run Ybaf.prog w = .ok (shapeU, Go.Extern.Stop.digits 8 (x % 2 ^ 64).toNat) w := by kernel_rfl
theorem opStr (name : String) (x : ByteArray) (w : World) : (FmtStop.operand name true 115 false (.iface 9 (.string x))).run Ybaf.prog w = .ok (shapeS, FmtStop.pack x.data.toList) w := by kernel_rfl

def fIdx : ByteArray := ⟨#[37, 119, 58, 32, 37, 115, 32, 37, 100, 32, 111, 102, 32, 37, 100]⟩
theorem fIdx_p (w : World) : (FmtDoors.printed fIdx 4).run Ybaf.prog w = .ok [(0, 119, false), (1, 115, false), (2, 100, false), (3, 100, false)] w := by kernel_rfl
theorem fIdx_c : fIdx.data.contains 37 = true := by simp [fIdx]
theorem errorf_idx (b : Nat) (a : Addr) (s : ByteArray) (x1 : ByteArray) (x2 : Int) (x3 : Int) (w : World) (hs : w.cell? a = some (.string s)) (h0 : w.cell? ⟨b, 0, none⟩ = some (.iface 99 (.pointer (some a))))
    (h1 : w.cell? ⟨b, 1, none⟩ = some (.iface 9 (.string x1))) (h2 : w.cell? ⟨b, 2, none⟩ = some (.iface 3 (.int .i64 x2))) (h3 : w.cell? ⟨b, 3, none⟩ = some (.iface 3 (.int .i64 x3))) :
    Calls Ybaf.prog 22 #[.string fIdx, .slice (some ⟨b, 0, none⟩) 4 4] w fun e w' => ∃ txt : ByteArray, e = .returned (.iface 93 (.pointer (some ⟨w.heap.size, 0, none⟩))) ∧ w' = (w.alloc (.cells #[.string txt, .iface 99 (.pointer (some a))] 129)).drew := by
  have k1 := call33
  have k2 := guardF
  have k3 := ptr93
  have k4 := elem93
  have k5 := isError99
  have o1 := opSentinel "fmt.errorf" a s w hs
  have q0 := opInt
  have q1 := opStr
  have p1 := fIdx_p
  have p2 := fIdx_c
  go_enter Ybaf.func22, Ybaf.ntmps22
  go_wp2
  go_ret
  exact ⟨_, rfl, rfl⟩

def fHeap : ByteArray := ⟨#[37, 119, 58, 32, 37, 35, 120, 32, 105, 115, 32, 97, 32, 114, 101, 102, 101, 114, 101, 110, 99, 101, 32, 111, 102, 32, 97, 110, 111, 116, 104, 101, 114, 32, 104, 101, 97, 112]⟩
theorem fHeap_p (w : World) : (FmtDoors.printed fHeap 2).run Ybaf.prog w = .ok [(0, 119, false), (1, 120, true)] w := by kernel_rfl
theorem fHeap_c : fHeap.data.contains 37 = true := by simp [fHeap]
theorem errorf_heap (b : Nat) (a : Addr) (s : ByteArray) (x1 : Int) (w : World) (hs : w.cell? a = some (.string s)) (h0 : w.cell? ⟨b, 0, none⟩ = some (.iface 99 (.pointer (some a))))
    (h1 : w.cell? ⟨b, 1, none⟩ = some (.iface 24 (.int .u64 x1))) :
    Calls Ybaf.prog 22 #[.string fHeap, .slice (some ⟨b, 0, none⟩) 2 2] w fun e w' => ∃ txt : ByteArray, e = .returned (.iface 93 (.pointer (some ⟨w.heap.size, 0, none⟩))) ∧ w' = (w.alloc (.cells #[.string txt, .iface 99 (.pointer (some a))] 129)).drew := by
  have k1 := call33
  have k2 := guardF
  have k3 := ptr93
  have k4 := elem93
  have k5 := isError99
  have o1 := opSentinel "fmt.errorf" a s w hs
  have q0 := opU64x
  have p1 := fHeap_p
  have p2 := fHeap_c
  go_enter Ybaf.func22, Ybaf.ntmps22
  go_wp2
  go_ret
  exact ⟨_, rfl, rfl⟩

def fStale : ByteArray := ⟨#[37, 119, 58, 32, 37, 35, 120, 32, 119, 97, 115, 32, 111, 98, 116, 97, 105, 110, 101, 100, 32, 98, 101, 102, 111, 114, 101, 32, 116, 104, 101, 32, 108, 97, 116, 101, 115, 116, 32, 99, 111, 108, 108, 101, 99, 116, 105, 111, 110]⟩
theorem fStale_p (w : World) : (FmtDoors.printed fStale 2).run Ybaf.prog w = .ok [(0, 119, false), (1, 120, true)] w := by kernel_rfl
theorem fStale_c : fStale.data.contains 37 = true := by simp [fStale]
theorem errorf_stale (b : Nat) (a : Addr) (s : ByteArray) (x1 : Int) (w : World) (hs : w.cell? a = some (.string s)) (h0 : w.cell? ⟨b, 0, none⟩ = some (.iface 99 (.pointer (some a))))
    (h1 : w.cell? ⟨b, 1, none⟩ = some (.iface 24 (.int .u64 x1))) :
    Calls Ybaf.prog 22 #[.string fStale, .slice (some ⟨b, 0, none⟩) 2 2] w fun e w' => ∃ txt : ByteArray, e = .returned (.iface 93 (.pointer (some ⟨w.heap.size, 0, none⟩))) ∧ w' = (w.alloc (.cells #[.string txt, .iface 99 (.pointer (some a))] 129)).drew := by
  have k1 := call33
  have k2 := guardF
  have k3 := ptr93
  have k4 := elem93
  have k5 := isError99
  have o1 := opSentinel "fmt.errorf" a s w hs
  have q0 := opU64x
  have p1 := fStale_p
  have p2 := fStale_c
  go_enter Ybaf.func22, Ybaf.ntmps22
  go_wp2
  go_ret
  exact ⟨_, rfl, rfl⟩

def fNone : ByteArray := ⟨#[37, 119, 58, 32, 37, 35, 120, 32, 110, 97, 109, 101, 115, 32, 110, 111, 32, 111, 98, 106, 101, 99, 116]⟩
theorem fNone_p (w : World) : (FmtDoors.printed fNone 2).run Ybaf.prog w = .ok [(0, 119, false), (1, 120, true)] w := by kernel_rfl
theorem fNone_c : fNone.data.contains 37 = true := by simp [fNone]
theorem errorf_none (b : Nat) (a : Addr) (s : ByteArray) (x1 : Int) (w : World) (hs : w.cell? a = some (.string s)) (h0 : w.cell? ⟨b, 0, none⟩ = some (.iface 99 (.pointer (some a))))
    (h1 : w.cell? ⟨b, 1, none⟩ = some (.iface 24 (.int .u64 x1))) :
    Calls Ybaf.prog 22 #[.string fNone, .slice (some ⟨b, 0, none⟩) 2 2] w fun e w' => ∃ txt : ByteArray, e = .returned (.iface 93 (.pointer (some ⟨w.heap.size, 0, none⟩))) ∧ w' = (w.alloc (.cells #[.string txt, .iface 99 (.pointer (some a))] 129)).drew := by
  have k1 := call33
  have k2 := guardF
  have k3 := ptr93
  have k4 := elem93
  have k5 := isError99
  have o1 := opSentinel "fmt.errorf" a s w hs
  have q0 := opU64x
  have p1 := fNone_p
  have p2 := fNone_c
  go_enter Ybaf.func22, Ybaf.ntmps22
  go_wp2
  go_ret
  exact ⟨_, rfl, rfl⟩

def fCount : ByteArray := ⟨#[37, 119, 58, 32, 37, 100, 32, 111, 98, 106, 101, 99, 116, 115, 44, 32, 98, 117, 116, 32, 37, 100, 32, 111, 98, 106, 101, 99, 116, 32, 115, 116, 97, 114, 116, 115, 32, 97, 114, 101, 32, 114, 101, 99, 111, 114, 100, 101, 100]⟩
theorem fCount_p (w : World) : (FmtDoors.printed fCount 3).run Ybaf.prog w = .ok [(0, 119, false), (1, 100, false), (2, 100, false)] w := by kernel_rfl
theorem fCount_c : fCount.data.contains 37 = true := by simp [fCount]
theorem errorf_count (b : Nat) (a : Addr) (s : ByteArray) (x1 : Int) (x2 : Int) (w : World) (hs : w.cell? a = some (.string s)) (h0 : w.cell? ⟨b, 0, none⟩ = some (.iface 99 (.pointer (some a))))
    (h1 : w.cell? ⟨b, 1, none⟩ = some (.iface 3 (.int .i64 x1))) (h2 : w.cell? ⟨b, 2, none⟩ = some (.iface 3 (.int .i64 x2))) :
    Calls Ybaf.prog 22 #[.string fCount, .slice (some ⟨b, 0, none⟩) 3 3] w fun e w' => ∃ txt : ByteArray, e = .returned (.iface 93 (.pointer (some ⟨w.heap.size, 0, none⟩))) ∧ w' = (w.alloc (.cells #[.string txt, .iface 99 (.pointer (some a))] 129)).drew := by
  have k1 := call33
  have k2 := guardF
  have k3 := ptr93
  have k4 := elem93
  have k5 := isError99
  have o1 := opSentinel "fmt.errorf" a s w hs
  have q0 := opInt
  have p1 := fCount_p
  have p2 := fCount_c
  go_enter Ybaf.func22, Ybaf.ntmps22
  go_wp2
  go_ret
  exact ⟨_, rfl, rfl⟩

def fFoot : ByteArray := ⟨#[37, 119, 58, 32, 102, 111, 111, 116, 112, 114, 105, 110, 116, 32, 105, 115, 32, 37, 100, 32, 98, 121, 116, 101, 115, 44, 32, 111, 98, 106, 101, 99, 116, 115, 32, 97, 110, 100, 32, 116, 104, 101, 32, 99, 111, 108, 108, 101, 99, 116, 111, 114, 39, 115, 32, 100, 97, 116, 97, 32, 116, 97, 107, 101, 32, 37, 100]⟩
theorem fFoot_p (w : World) : (FmtDoors.printed fFoot 3).run Ybaf.prog w = .ok [(0, 119, false), (1, 100, false), (2, 100, false)] w := by kernel_rfl
theorem fFoot_c : fFoot.data.contains 37 = true := by simp [fFoot]
theorem errorf_foot (b : Nat) (a : Addr) (s : ByteArray) (x1 : Int) (x2 : Int) (w : World) (hs : w.cell? a = some (.string s)) (h0 : w.cell? ⟨b, 0, none⟩ = some (.iface 99 (.pointer (some a))))
    (h1 : w.cell? ⟨b, 1, none⟩ = some (.iface 2 (.int .i64 x1))) (h2 : w.cell? ⟨b, 2, none⟩ = some (.iface 2 (.int .i64 x2))) :
    Calls Ybaf.prog 22 #[.string fFoot, .slice (some ⟨b, 0, none⟩) 3 3] w fun e w' => ∃ txt : ByteArray, e = .returned (.iface 93 (.pointer (some ⟨w.heap.size, 0, none⟩))) ∧ w' = (w.alloc (.cells #[.string txt, .iface 99 (.pointer (some a))] 129)).drew := by
  have k1 := call33
  have k2 := guardF
  have k3 := ptr93
  have k4 := elem93
  have k5 := isError99
  have o1 := opSentinel "fmt.errorf" a s w hs
  have q0 := opI64
  have p1 := fFoot_p
  have p2 := fFoot_c
  go_enter Ybaf.func22, Ybaf.ntmps22
  go_wp2
  go_ret
  exact ⟨_, rfl, rfl⟩

def fRoot : ByteArray := ⟨#[37, 119, 58, 32, 114, 111, 111, 116, 32, 37, 100, 32, 104, 111, 108, 100, 115, 32, 37, 100, 44, 32, 119, 104, 105, 99, 104, 32, 110, 97, 109, 101, 115, 32, 110, 111, 32, 111, 98, 106, 101, 99, 116]⟩
theorem fRoot_p (w : World) : (FmtDoors.printed fRoot 3).run Ybaf.prog w = .ok [(0, 119, false), (1, 100, false), (2, 100, false)] w := by kernel_rfl
theorem fRoot_c : fRoot.data.contains 37 = true := by simp [fRoot]
theorem errorf_root (b : Nat) (a : Addr) (s : ByteArray) (x1 : Int) (x2 : Int) (w : World) (hs : w.cell? a = some (.string s)) (h0 : w.cell? ⟨b, 0, none⟩ = some (.iface 99 (.pointer (some a))))
    (h1 : w.cell? ⟨b, 1, none⟩ = some (.iface 3 (.int .i64 x1))) (h2 : w.cell? ⟨b, 2, none⟩ = some (.iface 24 (.int .u64 x2))) :
    Calls Ybaf.prog 22 #[.string fRoot, .slice (some ⟨b, 0, none⟩) 3 3] w fun e w' => ∃ txt : ByteArray, e = .returned (.iface 93 (.pointer (some ⟨w.heap.size, 0, none⟩))) ∧ w' = (w.alloc (.cells #[.string txt, .iface 99 (.pointer (some a))] 129)).drew := by
  have k1 := call33
  have k2 := guardF
  have k3 := ptr93
  have k4 := elem93
  have k5 := isError99
  have o1 := opSentinel "fmt.errorf" a s w hs
  have q0 := opInt
  have q1 := opU64
  have p1 := fRoot_p
  have p2 := fRoot_c
  go_enter Ybaf.func22, Ybaf.ntmps22
  go_wp2
  go_ret
  exact ⟨_, rfl, rfl⟩

def fList : ByteArray := ⟨#[37, 119, 58, 32, 116, 104, 101, 32, 108, 105, 115, 116, 32, 111, 102, 32, 102, 114, 101, 101, 32, 98, 108, 111, 99, 107, 115, 32, 111, 102, 32, 37, 100, 32, 119, 111, 114, 100, 115, 32, 105, 115, 32, 109, 97, 114, 107, 101, 100, 32, 119, 114, 111, 110, 103, 108, 121, 32, 97, 115, 32, 101, 109, 112, 116, 121, 32, 111, 114, 32, 110, 111, 116]⟩
theorem fList_p (w : World) : (FmtDoors.printed fList 2).run Ybaf.prog w = .ok [(0, 119, false), (1, 100, false)] w := by kernel_rfl
theorem fList_c : fList.data.contains 37 = true := by simp [fList]
theorem errorf_list (b : Nat) (a : Addr) (s : ByteArray) (x1 : Int) (w : World) (hs : w.cell? a = some (.string s)) (h0 : w.cell? ⟨b, 0, none⟩ = some (.iface 99 (.pointer (some a))))
    (h1 : w.cell? ⟨b, 1, none⟩ = some (.iface 3 (.int .i64 x1))) :
    Calls Ybaf.prog 22 #[.string fList, .slice (some ⟨b, 0, none⟩) 2 2] w fun e w' => ∃ txt : ByteArray, e = .returned (.iface 93 (.pointer (some ⟨w.heap.size, 0, none⟩))) ∧ w' = (w.alloc (.cells #[.string txt, .iface 99 (.pointer (some a))] 129)).drew := by
  have k1 := call33
  have k2 := guardF
  have k3 := ptr93
  have k4 := elem93
  have k5 := isError99
  have o1 := opSentinel "fmt.errorf" a s w hs
  have q0 := opInt
  have p1 := fList_p
  have p2 := fList_c
  go_enter Ybaf.func22, Ybaf.ntmps22
  go_wp2
  go_ret
  exact ⟨_, rfl, rfl⟩

end Go.Proofs.YbulkuieFmt
