/- Contracts of the hash's writers of numbers. -/
import Derived.WalkKit
import Derived.WalkSpells
import Derived.WalkLawsBesides
import Derived.Handy
import Derived.LoopTactic
import Derived.Lib.Hide
import Derived.Test.YtfkaldaflnmfiaaGreatDoorKNat2
namespace Go.Proofs.YtfkaldaflnmfiaaGreatDoor
set_option linter.unusedSimpArgs false
set_option linter.unusedVariables false
open Go Go.RowKit

/-- The first i bytes of f, from place off on. -/
def bytesPut (cs : Array Value) (off : Nat) (f : Nat → Int) : Nat → Array Value
  | 0 => cs
  | i + 1 => (bytesPut cs off f i).setIfInBounds (off + i) (.int .u8 (f i))
theorem bytesPut_size (cs : Array Value) (off : Nat) (f : Nat → Int) (i : Nat) : (bytesPut cs off f i).size = cs.size := by
  induction i with
  | zero => rfl
  | succ i ih => simp [bytesPut, ih]

theorem blk_some {w : World} {b : Nat} {cs : Array Value} {t : TypeId} (h : Blk w b cs t) {j : Nat} (hj : j < cs.size) : ∃ v, w.cell? ⟨b, j, none⟩ = some v :=
  ⟨cs[j], h.cell (Array.getElem?_eq_getElem hj)⟩

def be4 (v : Int) : Nat → Int
  | 0 => v / 16777216
  | 1 => v / 65536 % 256
  | 2 => v / 256 % 256
  | _ => v % 256

theorem put32_any (b off n c : Nat) (v : Int) (cs : Array Value) (t : TypeId) (w : World) (hb : Blk w b cs t) (hn : 4 ≤ n) (hc : off + 4 ≤ cs.size) (hv : 0 ≤ v) (hv2 : v ≤ 4294967295) :
    Calls Tryz.prog 117 #[.slice (some ⟨b, off, none⟩) n c, .int .u32 v] w fun e w' => e = .returned (.tuple #[]) ∧ Blk w' b (bytesPut cs off (be4 v) 4) t ∧ Kp [b] w w' := by
  obtain ⟨y0, c0⟩ := blk_some hb (j := off) (by omega)
  obtain ⟨y1, c1⟩ := blk_some hb (j := off + 1) (by omega)
  obtain ⟨y2, c2⟩ := blk_some hb (j := off + 2) (by omega)
  obtain ⟨y3, c3⟩ := blk_some hb (j := off + 3) (by omega)
  have f0 := hb.free off
  have f1 := hb.free (off + 1)
  have f2 := hb.free (off + 2)
  have f3 := hb.free (off + 3)
  have HB := Lib.hid hb
  have l0 : 0 < n := by omega
  have l1 : 1 < n := by omega
  have l2 : 2 < n := by omega
  have l3 : 3 < n := by omega
  clear hb
  go_enter Tryz.func117, Tryz.ntmps117
  go_wp2
  go_end0
  exact ⟨rfl, (((HB.out.set off _).set (off + 1) _).set (off + 2) _).set (off + 3) _, ((((Kp.refl [b] w).set (.inl (by simp)) _).set (.inl (by simp)) _).set (.inl (by simp)) _).set (.inl (by simp)) _⟩

def be8 (v : Int) (i : Nat) : Int := v / 2 ^ (56 - 8 * i) % 256

theorem put64_any (b off n c : Nat) (v : Int) (cs : Array Value) (t : TypeId) (w : World) (hb : Blk w b cs t) (hn : 8 ≤ n) (hc : off + 8 ≤ cs.size) (hv : 0 ≤ v) (hv2 : v ≤ 18446744073709551615) :
    Calls Tryz.prog 116 #[.slice (some ⟨b, off, none⟩) n c, .int .u64 v] w fun e w' => e = .returned (.tuple #[]) ∧ Blk w' b (bytesPut cs off (be8 v) 8) t ∧ Kp [b] w w' := by
  obtain ⟨y7, c7⟩ := blk_some hb (j := off + 7) (by omega)
  have HB := Lib.hid hb
  clear hb
  go_enter Tryz.func116, Tryz.ntmps116
  go_wp2
  go_loopw [4] (fun s4 wr => ∃ i : Nat, i ≤ 8 ∧ s4 = .int .i64 i ∧ Blk wr b (bytesPut cs off (be8 v) i) t ∧ Kp [b] w wr) (fun s4 _ => 8 - (intOf s4).toNat)
  case atStart => exact ⟨0, by omega, rfl, HB.out, Kp.refl _ _⟩
  case round =>
    obtain ⟨i, hi, rfl, hb1, hk1⟩ := hrel
    have HB1 := Lib.hid hb1
    have HK1 := Lib.hid hk1
    clear hb1 hk1
    by_cases hlt : i < 8
    · obtain ⟨y, cy⟩ := blk_some HB1.out (j := off + i) (by rw [bytesPut_size]; omega)
      have fy := HB1.out.free (off + i)
      have hin : i < n := by omega
      go_wp2
      go_roundw
      case rel => exact ⟨i + 1, by omega, by go_num, HB1.out.set (off + i) _, HK1.out.set (.inl (by simp)) _⟩
      case measure => simp [intOf]; omega
    · have hi8 : i = 8 := by omega
      subst hi8
      go_wp2
      go_end0
      exact ⟨rfl, HB1.out, HK1.out⟩

end Go.Proofs.YtfkaldaflnmfiaaGreatDoor
