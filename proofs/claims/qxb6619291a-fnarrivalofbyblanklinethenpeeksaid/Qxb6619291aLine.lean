/-
  THE WALKS of lineEmpty (14) and lineLeft (15).
-/
import Derived.Test.Qxb6619291aRows
import Derived.Test.Qxb6619291aPlain
import Derived.WalkKit
import Derived.ProofKit
import Derived.WalkLawsBesides
import Derived.WalkSpells
import Derived.Outline
namespace Go.Proofs.Qxb6619291a
open Go.ChangeShapes Go.WideShapes Go.ChangeAt Go.RowKit
open Plain

theorem ret_bool {a b : Bool} (h : a = b) : Ending.returned (.bool a) = .returned (.bool b) := by rw [h]
theorem ret_int {k : IntKind} {a b : Int} (h : a = b) : Ending.returned (.int k a) = .returned (.int k b) := by rw [h]

/-- The first cell of a slice that has one. -/
def Head (w : World) (a : Option Addr) (seg : List Int) : Prop :=
  0 < seg.length → ∃ b off, a = some ⟨b, off, none⟩ ∧ w.cell? ⟨b, off, none⟩ = some (.int .u8 (seg.getD 0 0))

theorem lineEmpty_any (line : Int) (first : Bool) (a : Option Addr) (n cap : Nat) (seg : List Int) (w : World) (hn : seg.length = n) (hh : Head w a seg) :
    Calls Try.prog 14 #[.int .i64 line, .bool first, .slice a n cap] w fun e w' => e = .returned (.bool (lEmpty line first seg)) ∧ w' = w := by
  by_cases h0 : seg.length = 0
  · obtain rfl : n = 0 := by omega
    obtain ⟨r, hr⟩ : ∃ r, r = lEmpty line first seg := ⟨_, rfl⟩
    have HR : Hid (r = lEmpty line first seg) := hr
    rw [← hr]
    clear hr hh
    go_enter Try.func14, Try.ntmps14
    go_wp2
    all_goals
      go_ret
      refine ⟨ret_bool ?_, rfl⟩
      rw [HR.out]
      simp_all [lEmpty] <;> rfl
  · obtain ⟨b, off, rfl, hc⟩ := hh (by omega)
    obtain ⟨c, hcc⟩ : ∃ c, c = seg.getD 0 0 := ⟨_, rfl⟩
    rw [← hcc] at hc
    obtain ⟨r, hr⟩ : ∃ r, r = lEmpty line first seg := ⟨_, rfl⟩
    have HR : Hid (r = lEmpty line first seg) := hr
    have HC : Hid (c = seg.getD 0 0) := hcc
    rw [← hr]
    clear hr hh hcc
    by_cases h1 : n = 1
    · subst h1
      have HN : Hid (seg.length = 1) := hn
      clear hn
      go_enter Try.func14, Try.ntmps14
      go_wp2
      all_goals
        go_ret
        refine ⟨ret_bool ?_, rfl⟩
        rw [HR.out]
        have := HC.out
        have := HN.out
        simp_all [lEmpty] <;> rfl
    · have hb0 : ((n : Int) == 0) = false := by simp; omega
      have hb1 : ((n : Int) == 1) = false := by simp; omega
      go_enter Try.func14, Try.ntmps14
      go_wp2
      all_goals
        go_ret
        refine ⟨ret_bool ?_, rfl⟩
        rw [HR.out]
        have := HC.out
        simp_all [lEmpty] <;> rfl

theorem lineLeft_any (line : Int) (first : Bool) (a : Option Addr) (n cap : Nat) (seg : List Int) (w : World) (hn : seg.length = n) (hh : Head w a seg) :
    Calls Try.prog 15 #[.int .i64 line, .bool first, .slice a n cap] w fun e w' => e = .returned (.int .i64 (lLeft line first seg)) ∧ w' = w := by
  by_cases h0 : seg.length = 0
  · obtain rfl : n = 0 := by omega
    obtain ⟨r, hr⟩ : ∃ r, r = lLeft line first seg := ⟨_, rfl⟩
    have HR : Hid (r = lLeft line first seg) := hr
    rw [← hr]
    clear hr hh
    go_enter Try.func15, Try.ntmps15
    go_wp2
    all_goals
      go_ret
      refine ⟨ret_int ?_, rfl⟩
      rw [HR.out]
      simp_all [lLeft]
  · obtain ⟨b, off, rfl, hc⟩ := hh (by omega)
    obtain ⟨c, hcc⟩ : ∃ c, c = seg.getD 0 0 := ⟨_, rfl⟩
    rw [← hcc] at hc
    obtain ⟨r, hr⟩ : ∃ r, r = lLeft line first seg := ⟨_, rfl⟩
    have HR : Hid (r = lLeft line first seg) := hr
    have HC : Hid (c = seg.getD 0 0) := hcc
    rw [← hr]
    clear hr hh hcc
    by_cases h1 : n = 1
    · subst h1
      have HN : Hid (seg.length = 1) := hn
      clear hn
      go_enter Try.func15, Try.ntmps15
      go_wp2
      all_goals
        go_ret
        refine ⟨ret_int ?_, rfl⟩
        rw [HR.out]
        have := HC.out
        have := HN.out
        simp_all [lLeft]
    · have hb0 : ((n : Int) == 0) = false := by simp; omega
      have hb1 : ((n : Int) == 1) = false := by simp; omega
      go_enter Try.func15, Try.ntmps15
      go_wp2
      all_goals
        go_ret
        refine ⟨ret_int ?_, rfl⟩
        rw [HR.out]
        have := HC.out
        simp_all [lLeft]

end Go.Proofs.Qxb6619291a
