import Derived.Test.Qxb6612378aDoorRows
import Derived.Test.Qxb6612378aDoorShelf
import Derived.Shelf.Strconv.ErrVarParseInt
import Derived.Lib.AtoiErrMem
import Derived.Lib.ParseIntBTie
import Derived.WalkKit
import Derived.WalkSpells
import Derived.WalkLawsBesides
import Derived.BigCall
namespace Go.Proofs.Qxb6612378aDoor
open Go.RowKit Go.Shelf

/-- What strconv.ParseInt(s, 10, 64) gives, the error left out. -/
def val (l : List UInt8) : Int :=
  match Lib.parseIntB 64 l with
  | .ok v => v
  | .range => Lib.intSat 64 l
  | _ => 0

/-- The two sentinels lie where the program has laid them. -/
def Errs (w : World) : Prop := (∃ tp p, w.var? Tryd.prog "strconv.ErrSyntax" = some #[.iface tp p]) ∧ (∃ tp p, w.var? Tryd.prog "strconv.ErrRange" = some #[.iface tp p])

theorem parse64 (s : ByteArray) (hlim : s.size ≤ 1048576) (w : World) (hE : Errs w) :
    Calls Tryd.prog 20 #[.string s, .int .i64 10, .int .i64 64] w fun e w' => ∃ ev : Value, e = .returned (.tuple #[.int .i64 (val s.data.toList), ev]) ∧ Below w.heap.size w w' := by
  obtain ⟨⟨t0, p0, h0⟩, ⟨t1, p1, h1⟩⟩ := hE
  cases h : Lib.parseIntB 64 s.data.toList
  · rename_i v
    have hv : val s.data.toList = v := by unfold val; rw [h]
    rw [hv]
    refine (show Calls Tryd.prog 20 _ _ _ from Any.strconv_ParseInt_10_at64_ok Tryd.laysC174 s (by omega) _ h w).mono ?_
    rintro e w' ⟨rfl, hw⟩
    refine ⟨_, rfl, ?_⟩
    rcases hw with rfl | ⟨t, rfl⟩
    · exact Below.refl _ _
    · exact Lib.bytesWorld_below _ _ _
  · have hv : val s.data.toList = 0 := by unfold val; rw [h]
    rw [hv]
    refine (show Calls Tryd.prog 20 _ _ _ from Any.strconv_ParseInt_10_at64_syntax_var Tryd.laysC174 s (by omega) h t0 p0 w h0).mono ?_
    rintro e w' ⟨N, rfl, -, -, hb⟩
    exact ⟨_, rfl, hb⟩
  · have hv : val s.data.toList = Lib.intSat 64 s.data.toList := by unfold val; rw [h]
    rw [hv]
    refine (show Calls Tryd.prog 20 _ _ _ from Any.strconv_ParseInt_10_at64_range_var Tryd.laysC174 s (by omega) h t1 p1 w h1).mono ?_
    rintro e w' ⟨N, rfl, -, -, hb⟩
    exact ⟨_, rfl, hb⟩

theorem int64_any (s : ByteArray) (hlim : s.size ≤ 1048576) (w : World) (hE : Errs w) :
    Calls Tryd.prog 19 #[.string s] w fun e w' => ∃ ev : Value, e = .returned (.tuple #[.int .i64 (val s.data.toList), ev]) ∧ Below w.heap.size w w' := by
  go_enter Tryd.func19, Tryd.ntmps19
  go_wp2_with fail
  refine (parse64 s hlim _ hE).mono ?_
  rintro e w1 ⟨ev, rfl, hb⟩
  go_wp2
  go_ret2
  exact ⟨_, rfl, hb⟩

theorem ta34_num (s : ByteArray) (w : World) : (Instr.typeAssert (.iface 34 (.string s)) 20 34 true).run Tryd.prog w = .ok (.tuple #[.string s, .bool true]) w := by kernel_rfl
theorem ta34_str (s : ByteArray) (w : World) : (Instr.typeAssert (.iface 9 (.string s)) 20 34 true).run Tryd.prog w = .ok (.tuple #[.string ⟨#[]⟩, .bool false]) w := by kernel_rfl
theorem ta34_int (n : Int) (w : World) : (Instr.typeAssert (.iface 2 (.int .i64 n)) 20 34 true).run Tryd.prog w = .ok (.tuple #[.string ⟨#[]⟩, .bool false]) w := by kernel_rfl
theorem ta34_nil (w : World) : (Instr.typeAssert .nilIface 20 34 true).run Tryd.prog w = .ok (.tuple #[.string ⟨#[]⟩, .bool false]) w := by kernel_rfl

theorem value_num (s : ByteArray) (hlim : s.size ≤ 1048576) (w : World) (hE : Errs w) :
    Calls Tryd.prog 16 #[.iface 34 (.string s)] w fun e w' => e = .returned (.int .i64 (val s.data.toList)) ∧ Below w.heap.size w w' := by
  have t := ta34_num
  go_enter Tryd.func16, Tryd.ntmps16
  go_wp2_with fail
  refine (int64_any s hlim _ hE).mono ?_
  rintro e w1 ⟨ev, rfl, hb⟩
  go_wp2
  go_ret
  exact ⟨rfl, hb⟩

theorem value_str (s : ByteArray) (w : World) : Calls Tryd.prog 16 #[.iface 9 (.string s)] w fun e w' => e = .returned (.int .i64 0) ∧ w = w' := by
  have t := ta34_str
  go_enter Tryd.func16, Tryd.ntmps16
  go_wp2
  go_ret
  exact ⟨rfl, rfl⟩
theorem value_int (n : Int) (w : World) : Calls Tryd.prog 16 #[.iface 2 (.int .i64 n)] w fun e w' => e = .returned (.int .i64 0) ∧ w = w' := by
  have t := ta34_int
  go_enter Tryd.func16, Tryd.ntmps16
  go_wp2
  go_ret
  exact ⟨rfl, rfl⟩
theorem value_nil (w : World) : Calls Tryd.prog 16 #[.nilIface] w fun e w' => e = .returned (.int .i64 0) ∧ w = w' := by
  have t := ta34_nil
  go_enter Tryd.func16, Tryd.ntmps16
  go_wp2
  go_ret
  exact ⟨rfl, rfl⟩

theorem zzNumber (s : ByteArray) (hlim : s.size ≤ 1048576) (w : World) (hE : Errs w) :
    Calls Tryd.prog 7 #[.string s] w fun e w' => e = .returned (.int .i64 (val s.data.toList)) ∧ Below w.heap.size w w' := by
  go_enter Tryd.func7, Tryd.ntmps7
  go_wp2_with fail
  refine (value_num s hlim _ hE).mono ?_
  rintro e w1 ⟨rfl, hb⟩
  go_wp2
  go_ret
  exact ⟨rfl, hb⟩
theorem zzString (s : ByteArray) (w : World) : Calls Tryd.prog 10 #[.string s] w fun e w' => e = .returned (.int .i64 0) ∧ w = w' := by
  go_enter Tryd.func10, Tryd.ntmps10
  go_wp2_with fail
  refine (value_str s _).mono ?_
  rintro e w1 ⟨rfl, rfl⟩
  go_wp2
  go_ret
  exact ⟨rfl, rfl⟩
theorem zzInt64 (n : Int) (w : World) : Calls Tryd.prog 11 #[.int .i64 n] w fun e w' => e = .returned (.int .i64 0) ∧ w = w' := by
  go_enter Tryd.func11, Tryd.ntmps11
  go_wp2_with fail
  refine (value_int n _).mono ?_
  rintro e w1 ⟨rfl, rfl⟩
  go_wp2
  go_ret
  exact ⟨rfl, rfl⟩

end Go.Proofs.Qxb6612378aDoor
