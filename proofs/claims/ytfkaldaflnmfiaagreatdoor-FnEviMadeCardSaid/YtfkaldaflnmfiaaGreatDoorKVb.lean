/- The contracts of the Equals of part set headers and of block IDs. -/
import Derived.WalkKit
import Derived.WalkSpells
import Derived.WalkLawsBesides
import Derived.Handy
import Derived.Lib.Hide
import Derived.IntWalk
import Derived.LoopTactic
import Derived.Deep.QuietTactic
import Derived.Deep.RegionWith
import Derived.Deep.RegionHeld3
import Derived.BigRegion
import Derived.BigQuiet
import Derived.Test.YtfkaldaflnmfiaaGreatDoorKToSet
namespace Go.Proofs.YtfkaldaflnmfiaaGreatDoor
set_option linter.unusedSimpArgs false
set_option linter.unusedVariables false
open Go Go.RowKit


set_option maxRecDepth 100000 in
theorem partEq_any (t t' : Int) (v v' : Value) (h h' : List Int) (w : World) (hv : Byt w v h) (hv' : Byt w v' h') (hb : Bs h) (hb' : Bs h') :
    Calls Tryz.prog 67 #[.agg #[.int .u32 t, v], .agg #[.int .u32 t', v']] w fun e w' => e = .returned (.bool (decide (t = t' ∧ h = h'))) ∧ Kp [] w w' := by
  obtain ⟨a, n, c, rfl⟩ := hv.form
  obtain ⟨a', n', c', rfl⟩ := hv'.form
  have H := Lib.hid (And.intro hv (And.intro hv' (And.intro hb hb')))
  clear hv hv' hb hb'
  by_cases ht : t = t'
  · subst ht
    go_enter Tryz.func67, Tryz.ntmps67
    go_wp2_with fail
    have k0 := ((Kp.refl [] w).alloc (.cells #[.int .u32 t, .slice a n c] 101)).alloc (.cells #[.int .u32 t, .slice a' n' c'] 101)
    generalize (w.alloc (.cells #[.int .u32 t, .slice a n c] 101)).alloc (.cells #[.int .u32 t, .slice a' n' c'] 101) = w1 at *
    have K0 := Lib.hid k0
    clear k0
    refine (bytesEqual_any _ _ h h' w1 (H.out.1.kp K0.out) (H.out.2.1.kp K0.out) H.out.2.2.1 H.out.2.2.2).mono ?_
    rintro e w' ⟨rfl, rfl⟩
    go_wp2_with fail
    go_ret
    exact ⟨by simp, K0.out⟩
  · have hq : (t == t') = false := by rw [beq_eq_false_iff_ne]; exact ht
    go_enter Tryz.func67, Tryz.ntmps67
    go_wp2_with fail
    go_ret
    exact ⟨by simp [ht], ((Kp.refl [] w).alloc _).alloc _⟩

set_option maxRecDepth 100000 in
theorem idEq_any (t t' : Int) (vh vh' vp vp' : Value) (h h' m m' : List Int) (w : World) (hh : Byt w vh h) (hh' : Byt w vh' h') (hm : Byt w vp m) (hm' : Byt w vp' m') (bh : Bs h) (bh' : Bs h') (bm : Bs m) (bm' : Bs m') :
    Calls Tryz.prog 41 #[.agg #[vh, .int .u32 t, vp], .agg #[vh', .int .u32 t', vp']] w fun e w' => e = .returned (.bool (decide (h = h' ∧ t = t' ∧ m = m'))) ∧ Kp [] w w' := by
  obtain ⟨a, n, c, rfl⟩ := hh.form
  obtain ⟨a', n', c', rfl⟩ := hh'.form
  obtain ⟨ap, np, cp, rfl⟩ := hm.form
  obtain ⟨ap', np', cp', rfl⟩ := hm'.form
  have H := Lib.hid (And.intro hh (And.intro hh' (And.intro hm (And.intro hm' (And.intro bh (And.intro bh' (And.intro bm bm')))))))
  clear hh hh' hm hm' bh bh' bm bm'
  by_cases hq : h = h'
  · have hd := decide_eq_true hq
    go_enter Tryz.func41, Tryz.ntmps41
    go_wp2_with fail
    have k0 := ((Kp.refl [] w).alloc (.cells #[.slice a n c, .int .u32 t, .slice ap np cp] 103)).alloc (.cells #[.slice a' n' c', .int .u32 t', .slice ap' np' cp'] 103)
    have K0 := Lib.hid k0
    clear k0
    refine (bytesEqual_any _ _ h h' _ (H.out.1.kp K0.out) (H.out.2.1.kp K0.out) H.out.2.2.2.2.1 H.out.2.2.2.2.2.1).mono ?_
    rintro e w' ⟨rfl, rfl⟩
    go_wp2_with fail
    refine (partEq_any t t' _ _ m m' _ (H.out.2.2.1.kp K0.out) (H.out.2.2.2.1.kp K0.out) H.out.2.2.2.2.2.2.1 H.out.2.2.2.2.2.2.2).mono ?_
    rintro e w2 ⟨rfl, k2⟩
    go_wp2_with fail
    go_ret
    exact ⟨by simp [hq], K0.out.trans k2⟩
  · have hd := decide_eq_false hq
    go_enter Tryz.func41, Tryz.ntmps41
    go_wp2_with fail
    have k0 := ((Kp.refl [] w).alloc (.cells #[.slice a n c, .int .u32 t, .slice ap np cp] 103)).alloc (.cells #[.slice a' n' c', .int .u32 t', .slice ap' np' cp'] 103)
    have K0 := Lib.hid k0
    clear k0
    refine (bytesEqual_any _ _ h h' _ (H.out.1.kp K0.out) (H.out.2.1.kp K0.out) H.out.2.2.2.2.1 H.out.2.2.2.2.2.1).mono ?_
    rintro e w' ⟨rfl, rfl⟩
    go_wp2_with fail
    go_ret
    exact ⟨by simp [hq], K0.out⟩
end Go.Proofs.YtfkaldaflnmfiaaGreatDoor
/- The contracts of the looks at a vote's parts: errors.New, IsVoteTypeValid, ValidateHash, the part set header's and the block ID's ValidateBasic, IsZero, IsNil, IsComplete: at votes whose block is whole or none. -/
namespace Go.Proofs.YtfkaldaflnmfiaaGreatDoor
set_option linter.unusedSimpArgs false
set_option linter.unusedVariables false
open Go Go.RowKit
set_option maxRecDepth 100000

/-- An error that is not nil. -/
theorem newErr_any (s : ByteArray) (w : World) : Calls Tryz.prog 43 #[.string s] w fun e w' => ∃ g, e = .returned (.iface 134 (.pointer (some ⟨g, 0, none⟩))) ∧ Kp [] w w' := by
  go_enter Tryz.func43, Tryz.ntmps43
  go_wp2
  go_ret
  exact ⟨_, rfl, (Kp.refl [] w).alloc _⟩
theorem typeValid_any (t : Int) (h : t = 1 ∨ t = 2) (w : World) : Calls Tryz.prog 48 #[.int .i32 t] w fun e w' => e = .returned (.bool true) ∧ Kp [] w w' := by
  rcases h with rfl | rfl
  · go_enter Tryz.func48, Tryz.ntmps48
    go_wp2
    go_ret
    exact ⟨rfl, Kp.refl [] w⟩
  · go_enter Tryz.func48, Tryz.ntmps48
    go_wp2
    go_ret
    exact ⟨rfl, Kp.refl [] w⟩
theorem hashValid_any (a : Option Addr) (n c : Nat) (h : n = 0 ∨ n = 32) (w : World) : Calls Tryz.prog 71 #[.slice a n c] w fun e w' => e = .returned .nilIface ∧ Kp [] w w' := by
  rcases h with rfl | rfl
  · go_enter Tryz.func71, Tryz.ntmps71
    go_wp2
    go_ret
    exact ⟨rfl, Kp.refl [] w⟩
  · go_enter Tryz.func71, Tryz.ntmps71
    go_wp2
    go_ret
    exact ⟨rfl, Kp.refl [] w⟩
theorem hdrValid_any (t : Int) (a : Option Addr) (n c : Nat) (h : n = 0 ∨ n = 32) (w : World) : Calls Tryz.prog 72 #[.agg #[.int .u32 t, .slice a n c]] w fun e w' => e = .returned .nilIface ∧ Kp [] w w' := by
  go_enter Tryz.func72, Tryz.ntmps72
  go_wp2_with fail
  refine (hashValid_any a n c h _).mono ?_
  rintro e w1 ⟨rfl, k1⟩
  go_wp2
  go_ret
  exact ⟨rfl, ((Kp.refl [] w).alloc _).trans k1⟩
/-- A block that is whole, or none. -/
def Whole (nh : Nat) (t : Int) (np : Nat) : Prop := (nh = 0 ∧ t = 0 ∧ np = 0) ∨ (nh = 32 ∧ 0 < t ∧ np = 32)
theorem idValid_any (t : Int) (ah ap : Option Addr) (nh ch np cp : Nat) (h : Whole nh t np) (w : World) : Calls Tryz.prog 49 #[.agg #[.slice ah nh ch, .int .u32 t, .slice ap np cp]] w fun e w' => e = .returned .nilIface ∧ Kp [] w w' := by
  have h1 : nh = 0 ∨ nh = 32 := by rcases h with h | h <;> omega
  have h2 : np = 0 ∨ np = 32 := by rcases h with h | h <;> omega
  have H := Lib.hid (And.intro h1 h2)
  clear h h1 h2
  go_enter Tryz.func49, Tryz.ntmps49
  go_wp2_with fail
  have hb := Blk.new w #[.slice ah nh ch, .int .u32 t, .slice ap np cp] 103
  have k0 := (Kp.refl [] w).alloc (.cells #[.slice ah nh ch, .int .u32 t, .slice ap np cp] 103)
  generalize w.alloc (.cells #[.slice ah nh ch, .int .u32 t, .slice ap np cp] 103) = wA at *
  obtain ⟨p, ep⟩ : ∃ p, p = w.heap.size := ⟨_, rfl⟩
  rw [← ep] at hb ⊢
  have c1 : ∀ W, Kp [] wA W → W.cell? ⟨p, 1, none⟩ = some (.int .u32 t) := hb.all 1 rfl
  have c2 : ∀ W, Kp [] wA W → W.cell? ⟨p, 2, none⟩ = some (.slice ap np cp) := hb.all 2 rfl
  have K0 := Lib.hid k0
  clear k0 ep hb
  refine (hashValid_any ah nh ch H.out.1 wA).mono ?_
  rintro e w1 ⟨rfl, k1⟩
  go_wp2_with fail
  refine (hdrValid_any t ap np cp H.out.2 w1).mono ?_
  rintro e w2 ⟨rfl, k2⟩
  go_wp2
  go_ret
  exact ⟨rfl, K0.out.trans (k1.trans k2)⟩
theorem isZero_any (t : Int) (a : Option Addr) (n c : Nat) (w : World) : Calls Tryz.prog 73 #[.agg #[.int .u32 t, .slice a n c]] w fun e w' => e = .returned (.bool (decide (t = 0 ∧ n = 0))) ∧ Kp [] w w' := by
  by_cases h : t = 0
  · subst h
    go_enter Tryz.func73, Tryz.ntmps73
    go_wp2
    go_ret
    refine ⟨?_, (Kp.refl [] w).alloc _⟩
    by_cases hn : n = 0
    · subst hn
      rfl
    · have : ((n : Int) == 0) = false := by rw [beq_eq_false_iff_ne]; omega
      simp [this, hn]
  · have q : (t == 0) = false := by rw [beq_eq_false_iff_ne]; exact h
    go_enter Tryz.func73, Tryz.ntmps73
    go_wp2
    go_ret
    exact ⟨by simp [h], (Kp.refl [] w).alloc _⟩
theorem idNil_any (t : Int) (ah ap : Option Addr) (nh ch np cp : Nat) (h : Whole nh t np) (w : World) : Calls Tryz.prog 50 #[.agg #[.slice ah nh ch, .int .u32 t, .slice ap np cp]] w fun e w' => e = .returned (.bool (decide (nh = 0))) ∧ Kp [] w w' := by
  rcases h with ⟨rfl, rfl, rfl⟩ | ⟨rfl, h, rfl⟩
  · go_enter Tryz.func50, Tryz.ntmps50
    go_wp2_with fail
    refine (isZero_any 0 ap 0 cp _).mono ?_
    rintro e w1 ⟨rfl, k1⟩
    go_wp2
    go_ret
    exact ⟨by simp, ((Kp.refl [] w).alloc _).trans k1⟩
  · go_enter Tryz.func50, Tryz.ntmps50
    go_wp2
    go_ret
    exact ⟨by simp, (Kp.refl [] w).alloc _⟩
theorem isWhole_any (t : Int) (ah ap : Option Addr) (nh ch np cp : Nat) (h : Whole nh t np) (w : World) : Calls Tryz.prog 51 #[.agg #[.slice ah nh ch, .int .u32 t, .slice ap np cp]] w fun e w' => e = .returned (.bool (decide (nh = 32))) ∧ Kp [] w w' := by
  rcases h with ⟨rfl, rfl, rfl⟩ | ⟨rfl, h, rfl⟩
  · go_enter Tryz.func51, Tryz.ntmps51
    go_wp2
    go_ret
    exact ⟨by simp, (Kp.refl [] w).alloc _⟩
  · have q : decide (0 < t) = true := decide_eq_true h
    go_enter Tryz.func51, Tryz.ntmps51
    go_wp2
    go_ret
    exact ⟨by simp, (Kp.refl [] w).alloc _⟩
end Go.Proofs.YtfkaldaflnmfiaaGreatDoor
/- The contract of a vote's ValidateBasic: a vote that is as the law makes it is valid. -/
namespace Go.Proofs.YtfkaldaflnmfiaaGreatDoor
set_option linter.unusedSimpArgs false
set_option linter.unusedVariables false
open Go Go.RowKit
set_option maxRecDepth 100000

theorem Byt.formL {w : World} {v : Value} {l : List Int} (h : Byt w v l) : ∃ a c, v = .slice a l.length c := by
  rcases h with ⟨rfl, rfl⟩ | ⟨b, o, c, rfl, _⟩
  · exact ⟨_, _, rfl⟩
  · exact ⟨_, _, rfl⟩
/-- A vote that is valid. -/
structure VD.fit (V : VD) : Prop where
  typ : V.typ = 1 ∨ V.typ = 2
  height : 0 < V.height
  round : 0 ≤ V.round
  id : Whole V.hash.length V.total V.parts.length
  addr : V.addr.length = 20
  index : 0 ≤ V.index
  sig : V.sig.length = 32

set_option maxHeartbeats 4000000 in
theorem voteValid_any (V : VD) (h : V.fit) (g : Nat) (vh vp va vs : Value) (w : World) (hg : Blk w g (voteC V vh vp va vs) 105) (hB : VoteB w V vh vp va vs) :
    Calls Tryz.prog 29 #[.pointer (some ⟨g, 0, none⟩)] w fun e w' => e = .returned .nilIface ∧ Kp [] w w' := by
  obtain ⟨ah, ch, rfl⟩ := hB.hash.formL
  obtain ⟨ap, cp, rfl⟩ := hB.parts.formL
  obtain ⟨aa, ca, rfl⟩ := hB.addr.formL
  obtain ⟨az, cs, rfl⟩ := hB.sig.formL
  obtain ⟨typ, height, round, hash, total, parts, time, addr, index, sig⟩ := V
  obtain ⟨h1, h2, h3, h4, h5, h6, h7⟩ := h
  simp only at h1 h2 h3 h4 h5 h6 h7
  unfold voteC at hg
  simp only at hg
  rw [h5, h7] at hg
  clear hB
  generalize hash.length = nh at *
  generalize parts.length = np at *
  have c0 : ∀ W, Kp [] w W → W.cell? ⟨g, 0, none⟩ = some (.int .i32 typ) := hg.all 0 rfl
  have c1 : ∀ W, Kp [] w W → W.cell? ⟨g, 1, none⟩ = some (.int .i64 height) := hg.all 1 rfl
  have c2 : ∀ W, Kp [] w W → W.cell? ⟨g, 2, none⟩ = some (.int .i32 round) := hg.all 2 rfl
  have c3 : ∀ W, Kp [] w W → W.cell? ⟨g, 3, none⟩ = some (.slice ah nh ch) := hg.all 3 rfl
  have c4 : ∀ W, Kp [] w W → W.cell? ⟨g, 4, none⟩ = some (.int .u32 total) := hg.all 4 rfl
  have c5 : ∀ W, Kp [] w W → W.cell? ⟨g, 5, none⟩ = some (.slice ap np cp) := hg.all 5 rfl
  have c7 : ∀ W, Kp [] w W → W.cell? ⟨g, 7, none⟩ = some (.slice aa 20 ca) := hg.all 7 rfl
  have c8 : ∀ W, Kp [] w W → W.cell? ⟨g, 8, none⟩ = some (.int .i32 index) := hg.all 8 rfl
  have c9 : ∀ W, Kp [] w W → W.cell? ⟨g, 9, none⟩ = some (.slice az 32 cs) := hg.all 9 rfl
  have c10 : ∀ W, Kp [] w W → W.cell? ⟨g, 10, none⟩ = some (.slice none 0 0) := hg.all 10 rfl
  have c11 : ∀ W, Kp [] w W → W.cell? ⟨g, 11, none⟩ = some (.slice none 0 0) := hg.all 11 rfl
  clear hg
  have H := Lib.hid (And.intro h1 h4)
  have q2 : decide (height ≤ 0) = false := decide_eq_false (by omega)
  have q3 : decide (round < 0) = false := decide_eq_false (by omega)
  have q6 : decide (index < 0) = false := decide_eq_false (by omega)
  clear h1 h2 h3 h4 h5 h6 h7
  go_enter Tryz.func29, Tryz.ntmps29
  go_wp2_with fail
  refine (typeValid_any typ H.out.1 w).mono ?_
  rintro e w1 ⟨rfl, k1⟩
  go_wp2_with fail
  refine (idValid_any total ah ap nh ch np cp H.out.2 w1).mono ?_
  rintro e w2 ⟨rfl, k2⟩
  have k2 := k1.trans k2
  clear k1
  go_wp2_with fail
  refine (idNil_any total ah ap nh ch np cp H.out.2 w2).mono ?_
  rintro e w3 ⟨rfl, k3⟩
  have k3 := k2.trans k3
  clear k2
  rcases H.out.2 with ⟨rfl, rfl, rfl⟩ | ⟨rfl, h, rfl⟩
  · rcases H.out.1 with rfl | rfl
    · go_wp2_with fail
      go_ret
      exact ⟨rfl, k3⟩
    · go_wp2_with fail
      refine (idNil_any 0 ah ap 0 ch 0 cp H.out.2 w3).mono ?_
      rintro e w4 ⟨rfl, k4⟩
      have k4 := k3.trans k4
      clear k3
      go_wp2_with fail
      refine (idNil_any 0 ah ap 0 ch 0 cp H.out.2 w4).mono ?_
      rintro e w5 ⟨rfl, k5⟩
      have k5 := k4.trans k5
      clear k4
      go_wp2_with fail
      go_ret
      exact ⟨rfl, k5⟩
  · clear h
    go_wp2_with fail
    refine (isWhole_any total ah ap 32 ch 32 cp H.out.2 w3).mono ?_
    rintro e w4 ⟨rfl, k4⟩
    have k4 := k3.trans k4
    clear k3
    rcases H.out.1 with rfl | rfl
    · go_wp2_with fail
      go_ret
      exact ⟨rfl, k4⟩
    · go_wp2_with fail
      refine (idNil_any total ah ap 32 ch 32 cp H.out.2 w4).mono ?_
      rintro e w5 ⟨rfl, k5⟩
      have k5 := k4.trans k5
      clear k4
      go_wp2_with fail
      refine (idNil_any total ah ap 32 ch 32 cp H.out.2 w5).mono ?_
      rintro e w6 ⟨rfl, k6⟩
      have k6 := k5.trans k6
      clear k5
      go_wp2_with fail
      go_ret
      exact ⟨rfl, k6⟩
end Go.Proofs.YtfkaldaflnmfiaaGreatDoor
