/- What the laws' frames share: the listed variables, a world that holds them, the keeping of arguments. -/
import Derived.Test.YtgfcnjfmmjcodaaGreatDoorCards
import Derived.Test.YtgfcnjfmmjcodaaGreatDoorTie
import Derived.ProofKit
import Derived.OpenShut
import Derived.Deep.DeepHandedRow
import Derived.Test.YtgfcnjfmmjcodaaGreatDoorP34
set_option linter.all false
set_option maxRecDepth 100000
set_option maxHeartbeats 1000000
open Go.Lib (hid)
namespace Go.Proofs.YtgfcnjfmmjcodaaGreatDoor
open Go Go.ChangeShapes Go.WideShapes Go.ChangeAt Go.RowKit
theorem Bgj : ownKnob Tryz.prog.godebug = none := by kernel_rfl
theorem Bdi : laidOutB Tryz.prog = true := by kernel_rfl
theorem Up {H : Type} {enc : TypeId × Value → H} {W W' : World} (hb : Below W.heap.size W W') {sp : Nat → Bool} : ∀ {ts : List TypeId} {vs : List Value} {ds : List (DataW H)} {ps : List MemPlace}, (∀ t ∈ ts, Tryz.prog.readableRec t = true ∧ t < Tryz.prog.types.size) →
    DataW.TrodAll enc Tryz.prog W 0 (fun _ => true) true ts vs ds ps → (∀ p ∈ ps, p.block < W.heap.size) → (∀ p ∈ ps, sp p.block = true) → DataW.TrodAll enc Tryz.prog W' 0 sp true ts vs ds ps
  | [], [], [], _, _, h, _, _ => h
  | t :: _, _ :: _, _ :: _, _, hT, ⟨p, q, h1, h2, e⟩, hl, hs =>
    ⟨p, q, WideElems.Trod_stays Bdi (hT t (List.mem_cons_self ..)).1 (hT t (List.mem_cons_self ..)).2 h1 (fun x hx => hb.same (hl x (by rw [e]; exact List.mem_append_left _ hx))) (fun x hx => hs x (by rw [e]; exact List.mem_append_left _ hx)),
      Up hb (fun t ht => hT t (List.mem_cons_of_mem _ ht)) h2 (fun x hx => hl x (by rw [e]; exact List.mem_append_right _ hx)) (fun x hx => hs x (by rw [e]; exact List.mem_append_right _ hx)), e⟩
noncomputable def Bgp : Nat := (World.holding Tryz.prog default ⟨#[], #[], []⟩).heap.size
def errTexts : List (List UInt8) := [[118, 97, 108, 117, 101, 32, 111, 117, 116, 32, 111, 102, 32, 114, 97, 110, 103, 101], [105, 110, 118, 97, 108, 105, 100, 32, 115, 121, 110, 116, 97, 120], [115, 104, 111, 114, 116, 32, 98, 117, 102, 102, 101, 114], [69, 79, 70], [117, 110, 101, 120, 112, 101, 99, 116, 101, 100, 32, 69, 79, 70], [98, 121, 116, 101, 115, 46, 66, 117, 102, 102, 101, 114, 58, 32, 116, 111, 111, 32, 108, 97, 114, 103, 101], [97, 114, 99, 104, 105, 118, 101, 47, 116, 97, 114, 58, 32, 105, 110, 118, 97, 108, 105, 100, 32, 116, 97, 114, 32, 104, 101, 97, 100, 101, 114], [97, 114, 99, 104, 105, 118, 101, 47, 116, 97, 114, 58, 32, 119, 114, 105, 116, 101, 32, 116, 111, 111, 32, 108, 111, 110, 103], [97, 114, 99, 104, 105, 118, 101, 47, 116, 97, 114, 58, 32, 104, 101, 97, 100, 101, 114, 32, 102, 105, 101, 108, 100, 32, 116, 111, 111, 32, 108, 111, 110, 103], [97, 114, 99, 104, 105, 118, 101, 47, 116, 97, 114, 58, 32, 119, 114, 105, 116, 101, 32, 97, 102, 116, 101, 114, 32, 99, 108, 111, 115, 101], [97, 114, 99, 104, 105, 118, 101, 47, 116, 97, 114, 58, 32, 105, 110, 115, 101, 99, 117, 114, 101, 32, 102, 105, 108, 101, 32, 112, 97, 116, 104], [97, 114, 99, 104, 105, 118, 101, 47, 116, 97, 114, 58, 32, 115, 112, 97, 114, 115, 101, 32, 109, 97, 112, 32, 116, 111, 111, 32, 108, 111, 110, 103]]
def errGlobals : List Nat := [13, 12, 10, 0, 5, 16, 1, 2, 3, 4, 6, 8]
def Bdj : List (Nat × List Value) := [(17, [.int .u8 0, .int .u8 1, .int .u8 28, .int .u8 2, .int .u8 29, .int .u8 14, .int .u8 24, .int .u8 3, .int .u8 30, .int .u8 22, .int .u8 20, .int .u8 15, .int .u8 25, .int .u8 17, .int .u8 4, .int .u8 8, .int .u8 31, .int .u8 27, .int .u8 13, .int .u8 23, .int .u8 21, .int .u8 19, .int .u8 16, .int .u8 7, .int .u8 26, .int .u8 12, .int .u8 18, .int .u8 6, .int .u8 11, .int .u8 5, .int .u8 10, .int .u8 9]), (18, [.int .u8 0, .int .u8 1, .int .u8 56, .int .u8 2, .int .u8 57, .int .u8 49, .int .u8 28, .int .u8 3, .int .u8 61, .int .u8 58, .int .u8 42, .int .u8 50, .int .u8 38, .int .u8 29, .int .u8 17, .int .u8 4, .int .u8 62, .int .u8 47, .int .u8 59, .int .u8 36, .int .u8 45, .int .u8 43, .int .u8 51, .int .u8 22, .int .u8 53, .int .u8 39, .int .u8 33, .int .u8 30, .int .u8 24, .int .u8 18, .int .u8 12, .int .u8 5, .int .u8 63, .int .u8 55, .int .u8 48, .int .u8 27, .int .u8 60, .int .u8 41, .int .u8 37, .int .u8 16, .int .u8 46, .int .u8 35, .int .u8 44, .int .u8 21, .int .u8 52, .int .u8 32, .int .u8 23, .int .u8 11, .int .u8 54, .int .u8 26, .int .u8 40, .int .u8 15, .int .u8 34, .int .u8 20, .int .u8 31, .int .u8 10, .int .u8 25, .int .u8 14, .int .u8 19, .int .u8 9, .int .u8 13, .int .u8 8, .int .u8 7, .int .u8 6]), (11, [.int .u64 1, .int .u64 10, .int .u64 100, .int .u64 1000, .int .u64 10000, .int .u64 100000, .int .u64 1000000, .int .u64 10000000, .int .u64 100000000, .int .u64 1000000000, .int .u64 10000000000, .int .u64 100000000000, .int .u64 1000000000000, .int .u64 10000000000000, .int .u64 100000000000000, .int .u64 1000000000000000, .int .u64 10000000000000000, .int .u64 100000000000000000, .int .u64 1000000000000000000, .int .u64 10000000000000000000]), (15, [.int .u8 128, .int .u8 191, .int .u8 160, .int .u8 191, .int .u8 128, .int .u8 159, .int .u8 144, .int .u8 191, .int .u8 128, .int .u8 143, .int .u8 0, .int .u8 0, .int .u8 0, .int .u8 0, .int .u8 0, .int .u8 0, .int .u8 0, .int .u8 0, .int .u8 0, .int .u8 0, .int .u8 0, .int .u8 0, .int .u8 0, .int .u8 0, .int .u8 0, .int .u8 0, .int .u8 0, .int .u8 0, .int .u8 0, .int .u8 0, .int .u8 0, .int .u8 0]), (14, (List.range 256).map fun c => Value.int .u8 (Lib.firstT c : Int))]
def Xk (h : Array Obj) : List (Nat × List Value) → Array Obj
  | [] => h
  | (g, cs) :: r => Xk (h.modify g fun
      | .cells _ t frozen => .cells cs.toArray t frozen
      | o => o) r
noncomputable def Bfs (os : Os) : World :=
  let w0 := World.holding Tryz.prog os ⟨(errTexts.map fun s => Obj.cells #[.string ⟨s.toArray⟩] 329).toArray, #[], []⟩
  { w0 with heap := Xk w0.heap (((errGlobals.zipIdx 0).map fun x => (x.1, [Value.iface 327 (.pointer (some ⟨Bgp + x.2, 0, none⟩))])) ++ Bdj) }
end Go.Proofs.YtgfcnjfmmjcodaaGreatDoor
