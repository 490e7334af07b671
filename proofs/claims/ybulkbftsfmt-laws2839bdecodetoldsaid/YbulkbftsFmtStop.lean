/-
  fmt.Errorf at the one format of (*ActionKind).UnmarshalText, by the model's stop: whatever text fmt gives, a new error of errors.New's make comes back.
-/
import Derived.Test.YbulkbftsFmtKinds
import Derived.Stop.CallBack
import Derived.Stop.IfaceNil
import Derived.WalkSpells
import Derived.Laws.Cells
import Derived.Stop.FmtTextSlices
import Derived.Lib.SlBytesRow
import GoSem.ClaimData
namespace Go.Proofs.YbulkbftsFmt
open Go.RowKit Go.Extern.Stop Go.Stop Go.Extern

theorem call14 (args : Array Value) (w : World) : (callFunc 14 args).run Ybaf.prog w = ((FmtStop.errorf #[9, 43] #[27] args).run Ybaf.prog w).andThen fun v w' => .ok (.value v) w' :=
  run_callFunc_extern Ybaf.func14 (by kernel_rfl) (by kernel_rfl) (by kernel_rfl) (by kernel_rfl) args w
theorem guard0 (name : String) (w : World) : (FmtStop.guard name).run Ybaf.prog w = .ok () w := by kernel_rfl
/-- "unknown kind of action %q; known: %s" -/
def fmtB : ByteArray := ⟨#[117, 110, 107, 110, 111, 119, 110, 32, 107, 105, 110, 100, 32, 111, 102, 32, 97, 99, 116, 105, 111, 110, 32, 37, 113, 59, 32, 107, 110, 111, 119, 110, 58, 32, 37, 115]⟩
theorem printed0 : FmtStop.printed? fmtB 2 = some [(0, 113, false), (1, 115, false)] := by kernel_rfl
theorem printedR (w : World) : (FmtDoors.printed fmtB 2).run Ybaf.prog w = .ok [(0, 113, false), (1, 115, false)] w := by kernel_rfl
def shape9 : List UInt8 := [12, 6, 0, 0, 0, 0, 0, 0, 0, 115, 116, 114, 105, 110, 103]
theorem op9_115 (name : String) (x : ByteArray) (w : World) : (FmtStop.operand name true 115 false (.iface 9 (.string x))).run Ybaf.prog w = .ok (shape9, FmtStop.pack x.data.toList) w := by kernel_rfl
theorem ptr52 (w : World) : (FmtStop.ptrTo "errors.errorString").run Ybaf.prog w = .ok 52 w := by kernel_rfl
theorem elem52 (w : World) : (elemOf 52).run Ybaf.prog w = .ok 54 w := by kernel_rfl
theorem isError52 (w : World) : (FmtDoors.textMethod 52 "Error").run Ybaf.prog w = .ok true w := by kernel_rfl

def shape22 : List UInt8 := 13 :: (FmtStop.pack [91, 93, 117, 105, 110, 116, 56] ++ 6 :: FmtStop.pack "uint8".toUTF8.data.toList)
theorem value5 (name : String) (x : Int) (w : World) : (FmtStop.value name FmtStop.depth 5 [.int .u8 x]).run Ybaf.prog w = .ok (digits 8 (x % 2 ^ 64).toNat) w := by kernel_rfl
theorem values5 (name : String) (w : World) : ∀ xs : List Int, (List.mapM ((fun c => FmtStop.value name FmtStop.depth 5 [c]) ∘ Value.int IntKind.u8) xs).run Ybaf.prog w = .ok (xs.map fun x => digits 8 (x % 18446744073709551616).toNat) w
  | [] => by simp [List.mapM_nil]
  | x :: xs => by
    have ih := values5 name w xs
    have h := value5 name x w
    simp [List.mapM_cons, h, ih, Result.andThen]

theorem opBytes_113 (name : String) (a : Addr) (cap : Nat) (xs : List Int) (w : World) (hc : ∀ j v, (xs.map (Value.int .u8))[j]? = some v → w.cell? (a.add j) = some v) :
    (FmtStop.operand name true 113 false (.iface 22 (.slice (some a) xs.length cap))).run Ybaf.prog w = .ok (shape22, 1 :: (digits 8 xs.length ++ FmtText.intValues xs)) w := by
  have h0 : Ybaf.t22.str.toByteArray.data.toList = [91, 93, 117, 105, 110, 116, 56] := by kernel_rfl
  have h1 : (typeStr 22).run Ybaf.prog w = .ok Ybaf.t22.str w := by kernel_rfl
  have d2 : Ybaf.t22.desc = .slice 5 := rfl
  have hb : (FmtStop.bare (FmtStop.asked true 113 false) 22).run Ybaf.prog w = .ok true w := by kernel_rfl
  have hs : (FmtStop.scalar 5).run Ybaf.prog w = .ok true w := by kernel_rfl
  have hy : (Extern.Stop.isByte 5).run Ybaf.prog w = .ok true w := by kernel_rfl
  have hw : Ybaf.prog.funcs.any (·.name == FmtStop.writeWord) = true := by kernel_rfl
  have hsh : (FmtStop.shape name (FmtStop.asked true 113 false) FmtStop.depth 5).run Ybaf.prog w = .ok (6 :: FmtStop.pack "uint8".toUTF8.data.toList) w := by kernel_rfl
  have hl := run_loadCells_list (P := Ybaf.prog) w a (xs.map (Value.int .u8)) hc
  rw [List.length_map] at hl
  simp [FmtStop.operand, h0, h1, hb, hs, hy, hsh, hl, values5, shape22, FmtText.intValues]
  intro hno
  obtain ⟨i, hi, _, _, he⟩ := Array.any_iff_exists.1 hw
  exact absurd (by simpa using he) (hno i hi)

theorem byteAt (s : ByteArray) (j : Nat) (h : j < s.size) : s.data.toList[j]? = some s[j] := by
  rw [Array.getElem?_toList, Array.getElem?_eq_getElem (show j < s.data.size from h)]
  rfl

/-- The numbers of a string's bytes. -/
def numsOf (s : ByteArray) : List Int := s.data.toList.map fun b => (b.toNat : Int)
theorem numsOf_length (s : ByteArray) : (numsOf s).length = s.size := by simp [numsOf]

theorem opText_113 (name : String) (b cap : Nat) (s : ByteArray) (w : World) (hc : Lib.Bytes w b 0 s) :
    (FmtStop.operand name true 113 false (.iface 22 (.slice (some ⟨b, 0, none⟩) s.size cap))).run Ybaf.prog w = .ok (shape22, 1 :: (digits 8 s.size ++ FmtText.intValues (numsOf s))) w := by
  have h := opBytes_113 name ⟨b, 0, none⟩ cap (numsOf s) w (fun j v hj => by
    have hj' : j < s.size := by
      have := (List.getElem?_eq_some_iff.1 hj).1
      simpa [numsOf] using this
    have := hc j hj'
    rw [Nat.zero_add] at this
    have e : (⟨b, 0, none⟩ : Addr).add j = ⟨b, j, none⟩ := by unfold Addr.add; split <;> simp_all
    rw [e, this]
    have e2 : s.data.toList[j]? = some s[j] := byteAt s j hj'
    simp [numsOf, List.getElem?_map, e2] at hj
    rw [← hj])
  rw [numsOf_length] at h
  exact h

set_option maxHeartbeats 1000000 in
set_option maxRecDepth 100000 in
/-- fmt.Errorf at this format: a new error, not nil. -/
theorem errorf_of (F : Interp) (b cap v : Nat) (s t : ByteArray) (w : World) (hF : F.answers w.tape) (hb : Lib.Bytes w b 0 s)
    (h0 : w.cell? ⟨v, 0, none⟩ = some (.iface 22 (.slice (some ⟨b, 0, none⟩) s.size cap))) (h1 : w.cell? ⟨v, 1, none⟩ = some (.iface 9 (.string t))) :
    Calls Ybaf.prog 11 #[.string fmtB, .slice (some ⟨v, 0, none⟩) 2 2] w fun e w' => (∃ q, e = .returned (.iface 52 (.pointer (some q)))) ∧ Below w.heap.size w w' := by
  have hF' := answers_open hF
  have x0 := call14
  have x1 := guard0
  have x2 := printed0
  have x3 := printedR
  have x4 := op9_115
  have x5 := ptr52
  have x6 := elem52
  have x7 := isError52
  have x8 := fun name => opText_113 name b cap s w hb
  clear hb
  go_enter Ybaf.func11, Ybaf.ntmps11
  go_wp2
  go_ret
  exact ⟨⟨_, rfl⟩, ((Below.refl _ w).alloc (Nat.le_refl _) _).drew⟩

end Go.Proofs.YbulkbftsFmt
