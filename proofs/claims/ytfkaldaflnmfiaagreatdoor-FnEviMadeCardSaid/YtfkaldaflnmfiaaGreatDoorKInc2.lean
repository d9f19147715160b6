/- The contract of the mean of the priorities, where all are alike. -/
import Derived.WalkKit
import Derived.WalkSpells
import Derived.WalkLawsBesides
import Derived.Handy
import Derived.Lib.Hide
import Derived.IntWalk
import Derived.LoopTactic
import Derived.Deep.QuietTactic
import Derived.Deep.RegionWith
import Derived.Deep.RegionHeld3
import Derived.BigRegion
import Derived.BigQuiet
import Derived.Test.YtfkaldaflnmfiaaGreatDoorKBig4
import Derived.Test.YtfkaldaflnmfiaaGreatDoorKApp
namespace Go.Proofs.YtfkaldaflnmfiaaGreatDoor
set_option linter.unusedSimpArgs false
set_option linter.unusedVariables false
open Go Go.RowKit


theorem new_of (q : Int) (w : World) (hq : 0 ≤ q ∧ q ≤ 2000000000) : Calls Tryz.prog 108 #[.int .i64 (-q)] w fun e w' => ∃ p, e = .returned (.pointer (some ⟨p, 0, none⟩)) ∧ w.heap.size ≤ p ∧ Big w' p (decide (0 < q)) q ∧ Kp [] w w' := by
  by_cases h : 0 < q
  · rw [decide_eq_true h]
    exact newNeg q w ⟨h, hq.2⟩
  · obtain rfl : q = 0 := by omega
    exact newPos 0 w (by omega)
theorem acc_add (p b : Nat) (i : Nat) (q : Int) (w : World) (hq : 0 ≤ q) (hl : ((i + 1 : Nat) : Int) * q ≤ 2000000000) (hp : Big w p (decide (0 < (i : Int) * q)) (i * q)) (hb : Big w b (decide (0 < q)) q) :
    Calls Tryz.prog 109 #[.pointer (some ⟨p, 0, none⟩), .pointer (some ⟨p, 0, none⟩), .pointer (some ⟨b, 0, none⟩)] w (AddRes p (decide (0 < ((i + 1 : Nat) : Int) * q)) (((i + 1 : Nat) : Int) * q) w) := by
  have e1 : ((i + 1 : Nat) : Int) * q = i * q + q := by rw [Int.natCast_add, Int.add_mul]; simp
  rw [e1] at hl ⊢
  by_cases h : 0 < q
  · rw [decide_eq_true h] at hb
    by_cases hi : i = 0
    · subst hi
      simp only [Int.natCast_zero, Int.zero_mul, Int.zero_add, show decide ((0 : Int) < 0) = false from rfl] at hp ⊢
      rw [decide_eq_true h]
      exact add_first p b q w h hp hb
    · have h2 : q ≤ (i : Int) * q := by
        have := Int.mul_le_mul_of_nonneg_right (show (1 : Int) ≤ i by omega) hq
        omega
      rw [decide_eq_true (show 0 < (i : Int) * q by omega)] at hp
      rw [decide_eq_true (show 0 < (i : Int) * q + q by omega)]
      exact add_more p b (i * q) q w h h2 hl hp hb
  · obtain rfl : q = 0 := by omega
    simp only [Int.mul_zero, Int.add_zero, show decide ((0 : Int) < 0) = false from rfl] at hp hb ⊢
    exact add_zero p b w hp hb
theorem mean_of (p y : Nat) (k q : Int) (w : World) (hk : 0 < k) (hk1 : k ≤ 1000000) (hq : 0 ≤ q) (hkq : k * q ≤ 2000000000) (hp : Big w p (decide (0 < k * q)) (k * q)) (hy : Big w y false k) :
    Calls Tryz.prog 110 #[.pointer (some ⟨p, 0, none⟩), .pointer (some ⟨p, 0, none⟩), .pointer (some ⟨y, 0, none⟩)] w fun e w' => e = .returned (.pointer (some ⟨p, 0, none⟩)) ∧ Big w' p (decide (0 < q)) q ∧ Kp [p] w w' := by
  by_cases h : 0 < q
  · rw [decide_eq_true (Int.mul_pos hk h)] at hp
    rw [decide_eq_true h]
    exact div_mean p y k q w hk hk1 h hkq hp hy
  · obtain rfl : q = 0 := by omega
    simp only [Int.mul_zero, show decide ((0 : Int) < 0) = false from rfl] at hp ⊢
    exact div_zero p y k w hk hp hy
theorem isInt_of (p : Nat) (q : Int) (w : World) (hq : 0 ≤ q) (hp : Big w p (decide (0 < q)) q) : Calls Tryz.prog 111 #[.pointer (some ⟨p, 0, none⟩)] w fun e w' => e = .returned (.bool true) ∧ w = w' := by
  by_cases h : 0 < q
  · rw [decide_eq_true h] at hp
    exact isInt_neg p q w hp h
  · obtain rfl : q = 0 := by omega
    exact isInt_zero p w hp
theorem int_of (p : Nat) (q : Int) (w : World) (hq : 0 ≤ q) (hp : Big w p (decide (0 < q)) q) : Calls Tryz.prog 112 #[.pointer (some ⟨p, 0, none⟩)] w fun e w' => e = .returned (.int .i64 (-q)) ∧ w = w' := by
  by_cases h : 0 < q
  · rw [decide_eq_true h] at hp
    exact int_neg p q w hp h
  · obtain rfl : q = 0 := by omega
    exact int_zero p w hp

set_option maxRecDepth 100000 in
theorem avg_any (kt : Nat → Int) (q : Int) (s b c n : Nat) (pp : Option Addr) (tvp : Int) (ak : Bool) (L : List Vl) (w : World) (hs : Blk w s (setC (rowV b n c) pp tvp ak) 112) (hb : Blk w b (ptrs L) 96) (hL : ∀ V ∈ L, VlAt kt (fun _ => -q) w V) (hn : n = L.length) (hn0 : 0 < n) (hn1 : n ≤ 1000) (hq : 0 ≤ q ∧ q ≤ 1000000) :
    Calls Tryz.prog 100 #[.pointer (some ⟨s, 0, none⟩)] w fun e w' => e = .returned (.int .i64 (-q)) ∧ Kp [] w w' := by
  obtain ⟨q0, q1⟩ := hq
  have e0 : ∀ W, Kp [] w W → W.cell? ⟨s, 0, none⟩ = some (.slice (some ⟨b, 0, none⟩) n c) := hs.all 0 rfl
  have H := Lib.hid (And.intro hs (And.intro hb hL))
  have HN := Lib.hid hn
  clear hs hb hL hn
  go_enter Tryz.func100, Tryz.ntmps100
  go_wp2_with fail
  refine (newPos 0 w (by omega)).mono ?_
  rintro e w1 ⟨p, rfl, hp, hB, k1⟩
  have HP := Lib.hid (And.intro hp hB)
  clear hp hB
  go_wp2_with fail
  go_loopw [19] (fun s19 wr => ∃ i : Nat, i ≤ n ∧ s19 = .int .i64 i ∧ Big wr p (decide (0 < (i : Int) * q)) (i * q) ∧ Kp [] w wr) (fun s19 _ => n - (intOf s19).toNat)
  case atStart => exact ⟨0, by omega, rfl, by simpa using HP.out.2, k1⟩
  case round =>
    obtain ⟨i, hi, rfl, hg, hk⟩ := hrel
    have HG := Lib.hid hg
    clear hg
    by_cases hlt : i < n
    · obtain ⟨V, hVm, hVi⟩ := get_lt (L := L) (i := i) (by rw [← HN.out]; exact hlt)
      have ci : wr.cell? ⟨b, i, none⟩ = some (.pointer (some ⟨V.p, 0, none⟩)) := (hk.blk H.out.2.1 (by simp)).cell (ptrs_some hVi)
      have c3 : wr.cell? ⟨V.p, 3, none⟩ = some (.int .i64 (-q)) := (hk.blk (H.out.2.2 V hVm).blk (by simp)).cell rfl
      clear hVi hVm
      go_wp2_with fail
      refine (new_of q wr ⟨q0, by omega⟩).mono ?_
      rintro e w2 ⟨b2, rfl, hb2, hB2, k2⟩
      have hl : ((i + 1 : Nat) : Int) * q ≤ 2000000000 := by
        have := Int.mul_le_mul_of_nonneg_right (show ((i + 1 : Nat) : Int) ≤ 1000 by omega) q0
        omega
      have HA := Lib.hid (acc_add p b2 i q w2 q0 hl (HG.out.kp k2) hB2)
      clear hb2 hB2 hl
      go_wp2_with fail
      refine HA.out.mono ?_
      rintro e w3 ⟨rfl, hB3, k3⟩
      have HB3 := Lib.hid hB3
      clear hB3 HA
      go_wp2_with fail
      exact ⟨⟨i + 1, by omega, by go_num, HB3.out, (hk.trans k2).then k3 (by intro j hj hm; simp at hm; have := HP.out.1; omega)⟩, by simp [intOf]; omega⟩
    · obtain rfl : i = n := by omega
      go_wp2_with fail
      refine (newPos i wr (by omega)).mono ?_
      rintro e w2 ⟨b2, rfl, hb2, hB2, k2⟩
      have hl : (i : Int) * q ≤ 2000000000 := by
        have := Int.mul_le_mul_of_nonneg_right (show (i : Int) ≤ 1000 by omega) q0
        omega
      have HA := Lib.hid (mean_of p b2 i q w2 (by omega) (by omega) q0 hl (HG.out.kp k2) hB2)
      clear hb2 hB2 hl
      go_wp2_with fail
      refine HA.out.mono ?_
      rintro e w3 ⟨rfl, hB3, k3⟩
      have HB3 := Lib.hid hB3
      have HK := Lib.hid (Kp.then (hk.trans k2) k3 (by intro j hj hm; simp at hm; have := HP.out.1; omega))
      clear hB3 HA k3
      go_wp2_with fail
      refine (isInt_of p q w3 q0 HB3.out).mono ?_
      rintro e w4 ⟨rfl, rfl⟩
      go_wp2_with fail
      refine (int_of p q w3 q0 HB3.out).mono ?_
      rintro e w4 ⟨rfl, rfl⟩
      go_wp2_with fail
      go_ret
      exact ⟨rfl, HK.out⟩
end Go.Proofs.YtfkaldaflnmfiaaGreatDoor
/- Contracts of the shift by the mean, of the greatest difference, of the rescaling. -/
namespace Go.Proofs.YtfkaldaflnmfiaaGreatDoor
set_option linter.unusedSimpArgs false
set_option linter.unusedVariables false
open Go Go.RowKit


set_option maxRecDepth 100000 in
theorem shift_any (kt : Nat → Int) (q : Int) (s b c n : Nat) (pp : Option Addr) (tvp : Int) (ak : Bool) (L : List Vl) (w : World) (hs : Blk w s (setC (rowV b n c) pp tvp ak) 112) (hb : Blk w b (ptrs L) 96) (hL : ∀ V ∈ L, VlAt kt (fun _ => -q) w V) (hn : n = L.length) (hn0 : 0 < n) (hn1 : n ≤ 1000) (hd : (L.map Vl.p).Nodup) (hq : 0 ≤ q ∧ q ≤ 1000000) :
    Calls Tryz.prog 85 #[.pointer (some ⟨s, 0, none⟩)] w fun e w' => e = .returned (.tuple #[]) ∧ (∀ V ∈ L, VlAt kt (fun _ => 0) w' V) ∧ Kp (L.map Vl.p) w w' := by
  obtain ⟨q0, q1⟩ := hq
  have e0 : ∀ W, Kp [] w W → W.cell? ⟨s, 0, none⟩ = some (.slice (some ⟨b, 0, none⟩) n c) := hs.all 0 rfl
  have hsd : ∀ V ∈ L, V.p ≠ s := fun V hV e => by
    have := (hL V hV).blk.uniq (e ▸ hs)
    exact absurd this.2 (by decide)
  have hbd : ∀ V ∈ L, V.p ≠ b := fun V hV e => by
    have := (hL V hV).blk.uniq (e ▸ hb)
    exact absurd this.2 (by decide)
  have H := Lib.hid (And.intro hs (And.intro hb (And.intro hL (And.intro hd (And.intro hsd hbd)))))
  have HN := Lib.hid hn
  clear hs hb hL hd hsd hbd hn
  have HA := Lib.hid (avg_any kt q s b c n pp tvp ak L w H.out.1 H.out.2.1 H.out.2.2.1 HN.out hn0 hn1 ⟨q0, q1⟩)
  go_enter Tryz.func85, Tryz.ntmps85
  go_wp2_with (go_at_call 87; refine (isNil_any s b n c pp tvp ak _ hn0 H.out.1).mono ?_; rintro e w' ⟨rfl, rfl⟩)
  refine HA.out.mono ?_
  rintro e w1 ⟨rfl, k1⟩
  go_wp2_with fail
  go_loopw [15] (fun s15 wr => ∃ i : Nat, i ≤ n ∧ s15 = .int .i64 i ∧ Half kt 0 (-q) L i w wr) (fun s15 _ => n - (intOf s15).toNat)
  case atStart => exact ⟨0, by omega, rfl, by simp, fun V hV => (H.out.2.2.1 V (by simpa using hV)).kp k1, k1.mono (by simp)⟩
  case round =>
    obtain ⟨i, hi, rfl, hh⟩ := hrel
    have HH := Lib.hid hh
    clear hh
    by_cases hlt : i < n
    · obtain ⟨V, hVm, hVi⟩ := get_lt (L := L) (i := i) (by rw [← HN.out]; exact hlt)
      have hbr := HH.out.kp.blk H.out.2.1 (by simp only [List.mem_map]; rintro ⟨U, hU, e⟩; exact H.out.2.2.2.2.2 U hU e)
      have ci : wr.cell? ⟨b, i, none⟩ = some (.pointer (some ⟨V.p, 0, none⟩)) := hbr.cell (ptrs_some hVi)
      have hV : VlAt kt (fun _ => -q) wr V := HH.out.tail V (by
        obtain ⟨hl, e⟩ := List.getElem?_eq_some_iff.1 hVi
        rw [List.drop_eq_getElem_cons hl, e]
        simp)
      have c3 : wr.cell? ⟨V.p, 3, none⟩ = some (.int .i64 (-q)) := hV.blk.cell rfl
      have f3 := hV.blk.free 3
      have HS := Lib.hid hVi
      have hz : -q - -q = 0 := by omega
      clear hbr hV hVi hVm
      go_wp2_with (go_at_call 101; refine (safeSubClip_any (-q) (-q) _ (by omega) (by omega)).mono ?_; rintro e w' ⟨rfl, rfl⟩)
      refine ⟨⟨i + 1, by omega, by go_num, ?_⟩, by simp [intOf]; omega⟩
      exact HH.out.step H.out.2.2.2.1 HS.out
    · go_wp2
      go_end0
      have := HH.out.head
      rw [List.take_of_length_le (by have := HN.out; omega)] at this
      exact ⟨rfl, this, HH.out.kp⟩

set_option maxRecDepth 100000 in
theorem diff_any (kt : Nat → Int) (q : Int) (s b c n : Nat) (pp : Option Addr) (tvp : Int) (ak : Bool) (L : List Vl) (w : World) (hs : Blk w s (setC (rowV b n c) pp tvp ak) 112) (hb : Blk w b (ptrs L) 96) (hL : ∀ V ∈ L, VlAt kt (fun _ => -q) w V) (hn : n = L.length) (hn0 : 0 < n) (hn1 : n ≤ 1000) (hq : 0 ≤ q ∧ q ≤ 1000000) :
    Calls Tryz.prog 99 #[.pointer (some ⟨s, 0, none⟩)] w fun e w' => e = .returned (.int .i64 0) ∧ w = w' := by
  obtain ⟨q0, q1⟩ := hq
  have e0 : w.cell? ⟨s, 0, none⟩ = some (.slice (some ⟨b, 0, none⟩) n c) := hs.cell rfl
  have H := Lib.hid (And.intro hs (And.intro hb hL))
  have HN := Lib.hid hn
  clear hs hb hL hn
  go_enter Tryz.func99, Tryz.ntmps99
  go_wp2_with (go_at_call 87; refine (isNil_any s b n c pp tvp ak _ hn0 H.out.1).mono ?_; rintro e w' ⟨rfl, rfl⟩)
  have l1 : decide (-q < 9223372036854775807) = true := by simp; omega
  have l2 : decide (-9223372036854775808 < -q) = true := by simp; omega
  have l3 : -q < 9223372036854775807 := by omega
  have l4 : -9223372036854775808 < -q := by omega
  go_loop [3, 4, 16] (fun s3 s4 s16 => ∃ i : Nat, i ≤ n ∧ s16 = .int .i64 i ∧ ((i = 0 ∧ s3 = .int .i64 (-9223372036854775808) ∧ s4 = .int .i64 9223372036854775807) ∨ (0 < i ∧ s3 = .int .i64 (-q) ∧ s4 = .int .i64 (-q)))) (fun s3 s4 s16 => n - (intOf s16).toNat)
  case atStart => exact ⟨0, by omega, rfl, .inl ⟨rfl, rfl, rfl⟩⟩
  case round =>
    obtain ⟨i, hi, rfl, hc⟩ := hrel
    by_cases hlt : i < n
    · obtain ⟨V, hVm, hVi⟩ := get_lt (L := L) (i := i) (by rw [← HN.out]; exact hlt)
      have ci : w.cell? ⟨b, i, none⟩ = some (.pointer (some ⟨V.p, 0, none⟩)) := H.out.2.1.cell (ptrs_some hVi)
      have c3 : w.cell? ⟨V.p, 3, none⟩ = some (.int .i64 (-q)) := (H.out.2.2 V hVm).blk.cell rfl
      clear hVi hVm
      rcases hc with ⟨h1, rfl, rfl⟩ | ⟨h1, rfl, rfl⟩
      · have h1' := Lib.hid h1; clear h1
        go_wp2_with fail
        exact ⟨⟨i + 1, by omega, by go_num, .inr ⟨by omega, rfl, rfl⟩⟩, by simp [intOf]; omega⟩
      · have h1' := Lib.hid h1; clear h1
        go_wp2_with fail
        exact ⟨⟨i + 1, by omega, by go_num, .inr ⟨by omega, rfl, rfl⟩⟩, by simp [intOf]; omega⟩
    · rcases hc with ⟨h1, rfl, rfl⟩ | ⟨h1, rfl, rfl⟩
      · omega
      · have h1' := Lib.hid h1; clear h1
        have hz : -q - -q = 0 := by omega
        go_wp2_with fail
        go_ret
        exact ⟨rfl, rfl⟩

set_option maxRecDepth 100000 in
theorem rescale_any (kt : Nat → Int) (q m : Int) (s b c n : Nat) (pp : Option Addr) (tvp : Int) (ak : Bool) (L : List Vl) (w : World) (hs : Blk w s (setC (rowV b n c) pp tvp ak) 112) (hb : Blk w b (ptrs L) 96) (hL : ∀ V ∈ L, VlAt kt (fun _ => -q) w V) (hn : n = L.length) (hn0 : 0 < n) (hn1 : n ≤ 1000) (hq : 0 ≤ q ∧ q ≤ 1000000) (hm : 0 < m ∧ m ≤ 1000000000) :
    Calls Tryz.prog 84 #[.pointer (some ⟨s, 0, none⟩), .int .i64 m] w fun e w' => e = .returned (.tuple #[]) ∧ w = w' := by
  obtain ⟨m0, m1⟩ := hm
  have H := Lib.hid (And.intro hs (And.intro hb hL))
  have HN := Lib.hid hn
  have HD := Lib.hid (diff_any kt q s b c n pp tvp ak L w hs hb hL hn hn0 hn1 hq)
  clear hs hb hL hn
  have d1 := decide_eq_false (p := m ≤ 0) (by omega)
  have d2 := decide_eq_false (p := m < 0) (by omega)
  have n1 : ¬ m ≤ 0 := by omega
  have n2 : ¬ m < 0 := by omega
  have hne : m ≠ 0 := by omega
  go_enter Tryz.func84, Tryz.ntmps84
  go_wp2_with (go_at_call 87; refine (isNil_any s b n c pp tvp ak _ hn0 H.out.1).mono ?_; rintro e w' ⟨rfl, rfl⟩)
  refine HD.out.mono ?_
  rintro e w' ⟨rfl, rfl⟩
  go_wp2_with fail
  go_end0
  exact ⟨rfl, rfl⟩
end Go.Proofs.YtfkaldaflnmfiaaGreatDoor
/- The contract of updateWithChangeSet on a set that is new. -/
namespace Go.Proofs.YtfkaldaflnmfiaaGreatDoor
set_option linter.unusedSimpArgs false
set_option linter.unusedVariables false
open Go Go.RowKit


theorem setC_far {w : World} {s : Nat} {a : Option Addr} {n c : Nat} {pp : Option Addr} {tvp : Int} {ak : Bool} (h : Blk w s (setC (.slice a n c) pp tvp ak) 112) : Far w s := ⟨_, _, h, by decide, fun j x e => by
  simp only [setC, List.getElem?_toArray] at e
  have := List.mem_of_getElem? e
  simp at this⟩
theorem VlAt.set {kt pr : Nat → Int} {w w' : World} {V : Vl} {s : Nat} {a : Option Addr} {n c : Nat} {pp : Option Addr} {tvp : Int} {ak : Bool} (h : VlAt kt pr w V) (hs : Blk w s (setC (.slice a n c) pp tvp ak) 112) (k : Kp [s] w w') : VlAt kt pr w' V := by
  refine h.far k ?_ ?_
  · intro b hm
    simp at hm
    subst hm
    exact setC_far hs
  · intro hm
    simp at hm
    exact absurd (h.blk.uniq (hm ▸ hs)).2 (by decide)
/-- A set of validators in memory. -/
structure SetAt (kt pr : Nat → Int) (s b n : Nat) (pp : Option Addr) (tvp : Int) (ak : Bool) (L : List Vl) (w : World) : Prop where
  set : Blk w s (setC (rowV b n n) pp tvp ak) 112
  row : Blk w b (ptrs L) 96
  at_ : ∀ V ∈ L, VlAt kt pr w V
  nodup : (L.map Vl.p).Nodup
  len : n = L.length
theorem SetAt.notS {kt pr : Nat → Int} {s b n : Nat} {pp : Option Addr} {tvp : Int} {ak : Bool} {L : List Vl} {w : World} (h : SetAt kt pr s b n pp tvp ak L w) : s ∉ L.map Vl.p := by
  simp only [List.mem_map]
  rintro ⟨U, hU, e⟩
  exact absurd ((h.at_ U hU).blk.uniq (e ▸ h.set)).2 (by decide)
theorem SetAt.notB {kt pr : Nat → Int} {s b n : Nat} {pp : Option Addr} {tvp : Int} {ak : Bool} {L : List Vl} {w : World} (h : SetAt kt pr s b n pp tvp ak L w) : b ∉ L.map Vl.p := by
  simp only [List.mem_map]
  rintro ⟨U, hU, e⟩
  exact absurd ((h.at_ U hU).blk.uniq (e ▸ h.row)).2 (by decide)
/-- Another set's cells. -/
theorem SetAt.cells {kt pr : Nat → Int} {s b n : Nat} {pp pp' : Option Addr} {tvp tvp' : Int} {ak ak' : Bool} {L : List Vl} {w w' : World} (h : SetAt kt pr s b n pp tvp ak L w) (k : Kp [s] w w') (hs : Blk w' s (setC (rowV b n n) pp' tvp' ak') 112) : SetAt kt pr s b n pp' tvp' ak' L w' :=
  ⟨hs, k.blk h.row (by simpa using Blk.ne h.row h.set (by decide)), fun V hV => (h.at_ V hV).set h.set k, h.nodup, h.len⟩
/-- Other priorities. -/
theorem SetAt.prios {kt pr pr' : Nat → Int} {s b n : Nat} {pp : Option Addr} {tvp : Int} {ak : Bool} {L : List Vl} {w w' : World} (h : SetAt kt pr s b n pp tvp ak L w) (k : Kp (L.map Vl.p) w w') (hV : ∀ V ∈ L, VlAt kt pr' w' V) : SetAt kt pr' s b n pp tvp ak L w' :=
  ⟨k.blk h.set h.notS, k.blk h.row h.notB, hV, h.nodup, h.len⟩
/-- What the list has of keys and powers, in some order. -/
def Same (L L' : List Vl) : Prop := ∃ P : List Vl, P.Perm L' ∧ P.map dat = L.map dat
theorem Same.len {L L' : List Vl} (h : Same L L') : L'.length = L.length := by
  obtain ⟨P, h1, h2⟩ := h
  rw [← h1.length_eq]
  simpa using congrArg List.length h2
theorem Same.pows {L L' : List Vl} (h : Same L L') (hp : Pows L) : Pows L' := by
  obtain ⟨P, h1, h2⟩ := h
  exact fun V hV => pows_dat h2 hp V (h1.mem_iff.2 hV)
theorem Same.sum {L L' : List Vl} (h : Same L L') : sumP L' = sumP L := by
  obtain ⟨P, h1, h2⟩ := h
  rw [← sumP_perm h1]
  exact sumP_dat h2
theorem Same.apart {kt : Nat → Int} {L L' : List Vl} (h : Same L L') (ha : Apart kt L) : Apart kt L' := by
  obtain ⟨P, h1, h2⟩ := h
  exact (Apart.perm h1.symm (Apart.dat h2 ha))
theorem Same.perm {L L' L'' : List Vl} (h : Same L L') (hp : L''.Perm L') : Same L L'' := by
  obtain ⟨P, h1, h2⟩ := h
  exact ⟨P, h1.trans hp.symm, h2⟩

set_option maxHeartbeats 1000000 in
set_option maxRecDepth 100000 in
theorem upd_any (kt : Nat → Int) (z : Int) (s b c n : Nat) (L : List Vl) (w : World) (hs : Blk w s (setC (.slice none 0 0) none 0 true) 112) (hb : Blk w b (ptrs L) 96) (hL : ∀ V ∈ L, VlAt kt (fun _ => z) w V) (hn : n = L.length) (hn0 : 0 < n) (hn1 : n ≤ 100) (hp : Pows L) (ha : Apart kt L) :
    Calls Tryz.prog 58 #[.pointer (some ⟨s, 0, none⟩), rowV b n c, .bool false] w fun e w' => e = .returned .nilIface ∧ ∃ b2 L', SetAt kt (fun _ => 0) s b2 n none (sumP L) true L' w' ∧ Same L L' ∧ (∀ V ∈ L', w.heap.size ≤ V.p) ∧ w.heap.size ≤ b2 ∧ Kp [s] w w' := by
  have HC := Lib.hid (procChanges_any kt z b c n L w hb hL hn (by omega) hp ha)
  have H := Lib.hid (And.intro hs (And.intro hb (And.intro hp ha)))
  have HN := Lib.hid hn
  have hne : ((n : Int) == 0) = false := by rw [beq_eq_false_iff_ne]; omega
  clear hs hb hL hp ha hn
  unfold rowV
  go_enter Tryz.func58, Tryz.ntmps58
  go_wp2_with fail
  refine HC.out.mono ?_
  rintro e w1 ⟨bu, br, L1, rfl, hc⟩
  have hsm : Same L L1 := hc.dat
  have hl1 : n = L1.length := by rw [hsm.len]; exact HN.out
  have hT := sumP_bd (hsm.pows H.out.2.2.1)
  have HD := Lib.hid (And.intro hc (And.intro hsm (And.intro hl1 hT)))
  have h1 := Lib.hid (hc.kp.blk H.out.1 (by simp))
  clear hc HC hsm hl1 hT
  unfold rowV
  go_wp2_with fail
  refine (numNew_any kt (fun _ => z) s bu n n none 0 true L1 w1 h1.out HD.out.1.row HD.out.1.at_ HD.out.2.2.1 (by omega)).mono ?_
  rintro e w' ⟨rfl, rfl⟩
  go_wp2_with fail
  refine (verRem_any s br n none 0 0 none 0 true w1 h1.out).mono ?_
  rintro e w' ⟨rfl, rfl⟩
  go_wp2_with fail
  refine (verUpd_any kt z s bu n n none true L1 w1 h1.out HD.out.1.row HD.out.1.at_ HD.out.2.2.1 (by omega) (HD.out.2.1.pows H.out.2.2.1)).mono ?_
  rintro e w2 ⟨rfl, hs2, k2⟩
  have H2 := Lib.hid (And.intro hs2 (And.intro k2 (And.intro (k2.blk HD.out.1.row (by simpa using Blk.ne HD.out.1.row h1.out (by decide))) (fun V (hV : V ∈ L1) => (HD.out.1.at_ V hV).set h1.out k2))))
  clear hs2 k2
  go_wp2_with fail
  refine (newPrios_any kt z (sumP L1) s bu n n none 0 true L1 w2 H2.out.1 H2.out.2.2.1 H2.out.2.2.2 HD.out.2.2.1 (by omega) HD.out.1.nodup (by have := HD.out.2.2.2; have := HD.out.2.2.1; omega)).mono ?_
  rintro e w3 ⟨rfl, hv3, k3⟩
  have hns : s ∉ L1.map Vl.p := by
    simp only [List.mem_map]
    rintro ⟨U, hU, e⟩
    exact absurd ((H2.out.2.2.2 U hU).blk.uniq (e ▸ H2.out.1)).2 (by decide)
  have hnb : bu ∉ L1.map Vl.p := by
    simp only [List.mem_map]
    rintro ⟨U, hU, e⟩
    exact absurd ((H2.out.2.2.2 U hU).blk.uniq (e ▸ H2.out.2.2.1)).2 (by decide)
  have K3 : Kp [s] w w3 := (((HD.out.1.kp.mono (S' := [s]) (by simp)).trans H2.out.2.1)).then k3 (by
    intro i hi hm
    simp only [List.mem_map] at hm
    obtain ⟨U, hU, e⟩ := hm
    have := HD.out.1.new U hU
    omega)
  have H3 := Lib.hid (And.intro (k3.blk H2.out.1 hns) (And.intro (k3.blk H2.out.2.2.1 hnb) (And.intro hv3 K3)))
  clear hv3 k3 hns hnb K3
  go_wp2_with fail
  refine (applyUpd_any s bu n n none 0 true L1 w3 H3.out.1 H3.out.2.1 HD.out.2.2.1 (by omega)).mono ?_
  rintro e w4 ⟨rfl, b2, hb2, hr4, hs4, k4⟩
  have S4 : SetAt kt (fun _ => -(sumP L1 + sumP L1 / 8)) s b2 n none 0 true L1 w4 := ⟨hs4, hr4, fun V hV => (H3.out.2.2.1 V hV).set H3.out.1 k4, HD.out.1.nodup, HD.out.2.2.1⟩
  have H4 := Lib.hid (And.intro S4 (H3.out.2.2.2.trans k4))
  clear hb2 hr4 hs4 k4 S4
  go_wp2_with fail
  refine (applyRem_any s b2 n n br n none 0 true L1 w4 H4.out.1.set H4.out.1.row HD.out.2.2.1 (by omega)).mono ?_
  rintro e w5 ⟨rfl, b3, hb3, hr5, hs5, k5⟩
  have S5 : SetAt kt (fun _ => -(sumP L1 + sumP L1 / 8)) s b3 n none 0 true L1 w5 := ⟨hs5, hr5, fun V hV => (H4.out.1.at_ V hV).set H4.out.1.set k5, HD.out.1.nodup, HD.out.2.2.1⟩
  have hb3' : w.heap.size ≤ b3 := Nat.le_trans H4.out.2.size hb3
  have H5 := Lib.hid (And.intro S5 (And.intro (H4.out.2.trans k5) hb3'))
  clear hb3 hr5 hs5 k5 S5 hb3'
  go_wp2_with fail
  refine (checkAll_any kt _ s b3 n n none 0 true L1 w5 H5.out.1.set H5.out.1.row H5.out.1.at_ HD.out.2.2.1 (by omega) (by omega)).mono ?_
  rintro e w6 ⟨rfl, hs6, k6⟩
  have H6 := Lib.hid (And.intro (H5.out.1.cells k6 hs6) (H5.out.2.1.trans k6))
  clear hs6 k6
  go_wp2_with fail
  refine (updTotal_any kt _ s b3 n n none 0 true L1 w6 H6.out.1.set H6.out.1.row H6.out.1.at_ HD.out.2.2.1 (by omega) (HD.out.2.1.pows H.out.2.2.1)).mono ?_
  rintro e w7 ⟨rfl, hs7, k7⟩
  have H7 := Lib.hid (And.intro (H6.out.1.cells k7 hs7) (H6.out.2.trans k7))
  clear hs7 k7
  have hT1 : (1 : Int) ≤ sumP L1 ∧ sumP L1 ≤ 100000 := by have := HD.out.2.2.2; have := HD.out.2.2.1; omega
  obtain ⟨hT1, hT2⟩ := hT1
  go_wp2_with fail
  refine (total_known s (rowV b3 n n) none (sumP L1) true w7 H7.out.1.set (by omega)).mono ?_
  rintro e w' ⟨rfl, rfl⟩
  go_wp2_with fail
  refine (rescale_any kt (sumP L1 + sumP L1 / 8) (2 * sumP L1) s b3 n n none (sumP L1) true L1 w7 H7.out.1.set H7.out.1.row H7.out.1.at_ HD.out.2.2.1 hn0 (by omega) (by omega) (by omega)).mono ?_
  rintro e w' ⟨rfl, rfl⟩
  go_wp2_with fail
  refine (shift_any kt (sumP L1 + sumP L1 / 8) s b3 n n none (sumP L1) true L1 w7 H7.out.1.set H7.out.1.row H7.out.1.at_ HD.out.2.2.1 hn0 (by omega) HD.out.1.nodup (by omega)).mono ?_
  rintro e w8 ⟨rfl, hv8, k8⟩
  have K8 : Kp [s] w w8 := H7.out.2.then k8 (by
    intro i hi hm
    simp only [List.mem_map] at hm
    obtain ⟨U, hU, e⟩ := hm
    have := HD.out.1.new U hU
    omega)
  have H8 := Lib.hid (And.intro (H7.out.1.prios k8 hv8) K8)
  have c0 : w8.cell? ⟨s, 0, none⟩ = some (.slice (some ⟨b3, 0, none⟩) n n) := H8.out.1.set.cell rfl
  clear hv8 k8 K8
  go_wp2_with fail
  refine (sortP_any kt (fun _ => 0) b3 n n L1 w8 H8.out.1.row H8.out.1.at_ HD.out.2.2.1 (by omega)).mono ?_
  rintro e w9 ⟨rfl, L2, hp9, hr9, k9⟩
  have hsb : s ≠ b3 := H8.out.1.set.ne H8.out.1.row (by decide)
  have S9 : SetAt kt (fun _ => 0) s b3 n none (sumP L) true L2 w9 := by
    refine ⟨?_, hr9, fun V hV => (H8.out.1.at_ V (hp9.mem_iff.1 hV)).row H8.out.1.row k9, ?_, ?_⟩
    · have := k9.blk H8.out.1.set (by simpa using hsb)
      rwa [HD.out.2.1.sum] at this
    · exact (hp9.map _).nodup_iff.2 HD.out.1.nodup
    · rw [hp9.length_eq]
      exact HD.out.2.2.1
  have H9 := Lib.hid (And.intro S9 (And.intro hp9 (H8.out.2.then k9 (by intro i hi hm; simp at hm; have := H5.out.2.2; omega))))
  clear S9 hp9 k9 hr9
  go_wp2_with fail
  go_ret
  exact ⟨rfl, b3, L2, H9.out.1, HD.out.2.1.perm H9.out.2.1, fun V hV => HD.out.1.new V (H9.out.2.1.mem_iff.1 hV), H5.out.2.2, H9.out.2.2⟩
end Go.Proofs.YtfkaldaflnmfiaaGreatDoor
/- The contracts of the rotation of the proposer. -/
namespace Go.Proofs.YtfkaldaflnmfiaaGreatDoor
set_option linter.unusedSimpArgs false
set_option linter.unusedVariables false
open Go Go.RowKit


set_option maxRecDepth 100000 in
theorem cmpP_nil (V : Vl) (w : World) : Calls Tryz.prog 114 #[.pointer none, .pointer (some ⟨V.p, 0, none⟩)] w fun e w' => e = .returned (ptr V) ∧ w = w' := by
  go_enter Tryz.func114, Tryz.ntmps114
  go_wp2
  go_ret
  exact ⟨rfl, rfl⟩
def OneOf (V U : Vl) (w : World) (e : Ending) (w' : World) : Prop := (e = .returned (ptr V) ∨ e = .returned (ptr U)) ∧ Kp [] w w'
set_option maxHeartbeats 1000000 in
set_option maxRecDepth 100000 in
theorem cmpP_any (kt pr : Nat → Int) (V U : Vl) (w : World) (hV : VlAt kt pr w V) (hU : VlAt kt pr w U) (hne : addr kt V.key ≠ addr kt U.key) :
    Calls Tryz.prog 114 #[.pointer (some ⟨V.p, 0, none⟩), .pointer (some ⟨U.p, 0, none⟩)] w (OneOf V U w) := by
  have a1 : ∀ W, Kp [] w W → W.cell? ⟨V.p, 0, none⟩ = some (.slice (some ⟨V.ab, 0, none⟩) 20 V.ac) := hV.blk.all 0 rfl
  have b1 : ∀ W, Kp [] w W → W.cell? ⟨U.p, 0, none⟩ = some (.slice (some ⟨U.ab, 0, none⟩) 20 U.ac) := hU.blk.all 0 rfl
  have a3 : ∀ W, Kp [] w W → W.cell? ⟨V.p, 3, none⟩ = some (.int .i64 (pr V.p)) := hV.blk.all 3 rfl
  have b3 : ∀ W, Kp [] w W → W.cell? ⟨U.p, 3, none⟩ = some (.int .i64 (pr U.p)) := hU.blk.all 3 rfl
  have hc0 : cmpB (addr kt V.key) (addr kt U.key) ≠ 0 := fun e => hne ((cmpB_zero (addr_bs _ _) (addr_bs _ _)).1 e)
  have H := Lib.hid (And.intro hV.ok.addr hU.ok.addr)
  generalize pr V.p = x at *
  generalize pr U.p = y at *
  clear hV hU
  rcases Int.lt_trichotomy y x with h1 | h1 | h1
  · have hd := decide_eq_true (p := y < x) h1
    go_enter Tryz.func114, Tryz.ntmps114
    go_wp2_with fail
    go_quiet (fail)
    go_wp2_with fail
    go_ret
    exact ⟨.inl rfl, (Kp.refl [] w).drewN _⟩
  · have hd := decide_eq_false (p := y < x) (by omega)
    have hd2 := decide_eq_false (p := x < y) (by omega)
    go_enter Tryz.func114, Tryz.ntmps114
    go_wp2_with fail
    go_quiet (fail)
    have k1 := (Kp.refl [] w).drewN nq
    generalize w.drewN nq = w1 at *
    go_wp2_with fail
    go_quiet (fail)
    have k2 := k1.drewN nq
    generalize w1.drewN nq = w2 at *
    rcases Int.lt_trichotomy (cmpB (addr kt V.key) (addr kt U.key)) 0 with g1 | g1 | g1
    · have gd := decide_eq_true (p := cmpB (addr kt V.key) (addr kt U.key) < 0) g1
      go_wp2_with fail
      go_quiet ((go_at_call 97; exact Calls.quiet_of_same ((bytes_compare _ _ (addr kt V.key) (addr kt U.key) _ (H.out.1.kp (k2.drewN _)) (H.out.2.kp (k2.drewN _))).mono fun _ _ ⟨h, k⟩ => ⟨h, k.symm⟩)))
      go_wp2_with fail
      go_ret
      exact ⟨.inl rfl, k2.drewN _⟩
    · exact absurd g1 hc0
    · have gd := decide_eq_false (p := cmpB (addr kt V.key) (addr kt U.key) < 0) (by omega)
      have gd2 := decide_eq_true (p := 0 < cmpB (addr kt V.key) (addr kt U.key)) g1
      go_wp2_with fail
      go_quiet ((go_at_call 97; exact Calls.quiet_of_same ((bytes_compare _ _ (addr kt V.key) (addr kt U.key) _ (H.out.1.kp (k2.drewN _)) (H.out.2.kp (k2.drewN _))).mono fun _ _ ⟨h, k⟩ => ⟨h, k.symm⟩)))
      go_wp2_with fail
      go_ret
      exact ⟨.inr rfl, k2.drewN _⟩
  · have hd := decide_eq_false (p := y < x) (by omega)
    have hd2 := decide_eq_true (p := x < y) (by omega)
    go_enter Tryz.func114, Tryz.ntmps114
    go_wp2_with fail
    go_quiet (fail)
    have k1 := (Kp.refl [] w).drewN nq
    generalize w.drewN nq = w1 at *
    go_wp2_with fail
    go_quiet (fail)
    go_wp2_with fail
    go_ret
    exact ⟨.inr rfl, k1.drewN _⟩

/-- The validator of the greatest priority: one of them. -/
theorem most_any (kt pr : Nat → Int) (s b n : Nat) (pp : Option Addr) (tvp : Int) (ak : Bool) (L : List Vl) (w : World) (hs : SetAt kt pr s b n pp tvp ak L w) (hn0 : 0 < n) (hn1 : n ≤ 1000) (ha : Apart kt L) :
    Calls Tryz.prog 102 #[.pointer (some ⟨s, 0, none⟩)] w fun e w' => (∃ V ∈ L, e = .returned (ptr V)) ∧ Kp [] w w' := by
  have e0 : w.cell? ⟨s, 0, none⟩ = some (.slice (some ⟨b, 0, none⟩) n n) := hs.set.cell rfl
  have H := Lib.hid (And.intro hs ha)
  clear hs ha
  go_enter Tryz.func102, Tryz.ntmps102
  go_wp2
  go_loopw [3, 11] (fun s3 s11 wr => ∃ i : Nat, i ≤ n ∧ s11 = .int .i64 i ∧ ((i = 0 ∧ s3 = .pointer none) ∨ ∃ (j : Nat) (V : Vl), j < i ∧ L[j]? = some V ∧ s3 = .pointer (some ⟨V.p, 0, none⟩)) ∧ Kp [] w wr) (fun s3 s11 _ => n - (intOf s11).toNat)
  case atStart => exact ⟨0, by omega, rfl, .inl ⟨rfl, rfl⟩, Kp.refl _ _⟩
  case round =>
    obtain ⟨i, hi, rfl, hc, hk⟩ := hrel
    have HK := Lib.hid hk
    clear hk
    by_cases hlt : i < n
    · obtain ⟨V, hVm, hVi⟩ := get_lt (L := L) (i := i) (by rw [← H.out.1.len]; exact hlt)
      have ci : wr.cell? ⟨b, i, none⟩ = some (.pointer (some ⟨V.p, 0, none⟩)) := (HK.out.blk H.out.1.row (by simp)).cell (ptrs_some hVi)
      have HV := Lib.hid hVi
      clear hVi hVm
      rcases hc with ⟨h1, rfl⟩ | ⟨j, U, h1, hU, rfl⟩
      · have h1' := Lib.hid h1; clear h1
        go_wp2_with fail
        refine (cmpP_nil V wr).mono ?_
        rintro e w' ⟨rfl, rfl⟩
        unfold ptr
        go_wp2_with fail
        exact ⟨⟨i + 1, by omega, by go_num, .inr ⟨i, V, by omega, HV.out, rfl⟩, HK.out⟩, by simp [intOf]; omega⟩
      · have h1' := Lib.hid (And.intro h1 hU)
        clear h1 hU
        go_wp2_with fail
        refine (cmpP_any kt pr U V wr ((H.out.1.at_ U (List.mem_of_getElem? h1'.out.2)).kp HK.out) ((H.out.1.at_ V (List.mem_of_getElem? HV.out)).kp HK.out) (H.out.2.ne h1'.out.2 HV.out (by have := h1'.out.1; omega))).mono ?_
        rintro e w' ⟨h, k⟩
        have HK2 := Lib.hid (HK.out.trans k)
        clear k
        rcases h with rfl | rfl
        · unfold ptr
          go_wp2_with fail
          exact ⟨⟨i + 1, by omega, by go_num, .inr ⟨j, U, by have := h1'.out.1; omega, h1'.out.2, rfl⟩, HK2.out⟩, by simp [intOf]; omega⟩
        · unfold ptr
          go_wp2_with fail
          exact ⟨⟨i + 1, by omega, by go_num, .inr ⟨i, V, by omega, HV.out, rfl⟩, HK2.out⟩, by simp [intOf]; omega⟩
    · rcases hc with ⟨h1, rfl⟩ | ⟨j, U, h1, hU, rfl⟩
      · omega
      · have h1' := Lib.hid (And.intro h1 hU)
        clear h1 hU
        go_wp2_with fail
        go_ret
        exact ⟨⟨U, List.mem_of_getElem? h1'.out.2, rfl⟩, HK.out⟩
end Go.Proofs.YtfkaldaflnmfiaaGreatDoor
/- The contracts of incrementProposerPriority. -/
namespace Go.Proofs.YtfkaldaflnmfiaaGreatDoor
set_option linter.unusedSimpArgs false
set_option linter.unusedVariables false
open Go Go.RowKit


/-- One priority is written. -/
theorem prs_step {kt pr : Nat → Int} {L : List Vl} {w : World} {V : Vl} (x : Int) (h : ∀ U ∈ L, VlAt kt pr w U) (hd : (L.map Vl.p).Nodup) (hV : V ∈ L) :
    ∀ U ∈ L, VlAt kt (fun p => if p = V.p then x else pr p) (w.setCell ⟨V.p, 3, none⟩ (.int .i64 x)) U := by
  intro U hU
  have hVb := (h V hV).blk
  by_cases e : U.p = V.p
  · have hUV : U = V := by
      obtain ⟨i, hi, rfl⟩ := List.getElem_of_mem hU
      obtain ⟨j, hj, rfl⟩ := List.getElem_of_mem hV
      have hp := List.pairwise_iff_getElem.1 hd
      rcases Nat.lt_trichotomy i j with g | g | g
      · exact absurd (by rw [List.getElem_map, List.getElem_map]; exact e) (hp i j (by simpa using hi) (by simpa using hj) g)
      · subst g; rfl
      · exact absurd (by rw [List.getElem_map, List.getElem_map]; exact e.symm) (hp j i (by simpa using hj) (by simpa using hi) g)
    subst hUV
    refine ⟨(h U hU).ok.store hVb ((Kp.refl _ _).set (.inl (by simp)) _), ?_⟩
    have := hVb.set 3 (.int .i64 x)
    rw [cells_prio] at this
    simpa using this
  · have := (h U hU).store hVb ((Kp.refl [V.p] w).set (p := ⟨V.p, 3, none⟩) (.inl (by simp)) (.int .i64 x)) e
    exact ⟨this.ok, by simpa [e] using this.blk⟩
theorem nodup_ne {L : List Vl} (hd : (L.map Vl.p).Nodup) {i j : Nat} {V U : Vl} (hV : L[i]? = some V) (hU : L[j]? = some U) (h : i ≠ j) : U.p ≠ V.p := by
  intro e
  obtain ⟨hi, rfl⟩ := List.getElem?_eq_some_iff.1 hV
  obtain ⟨hj, rfl⟩ := List.getElem?_eq_some_iff.1 hU
  have hp := List.pairwise_iff_getElem.1 hd
  rcases Nat.lt_or_gt_of_ne h with h | h
  · exact hp i j (by simpa using hi) (by simpa using hj) h (by simpa using e.symm)
  · exact hp j i (by simpa using hj) (by simpa using hi) h (by simpa using e)
theorem SetAt.kp {kt pr : Nat → Int} {s b n : Nat} {pp : Option Addr} {tvp : Int} {ak : Bool} {L : List Vl} {w w' : World} (h : SetAt kt pr s b n pp tvp ak L w) (k : Kp [] w w') : SetAt kt pr s b n pp tvp ak L w' :=
  ⟨k.blk h.set (by simp), k.blk h.row (by simp), fun V hV => (h.at_ V hV).kp k, h.nodup, h.len⟩

/-- Some of the list has its new priority. -/
structure Inc (kt : Nat → Int) (L : List Vl) (w : World) (i : Nat) (wr : World) (pr : Nat → Int) : Prop where
  at_ : ∀ V ∈ L, VlAt kt pr wr V
  head : ∀ j V, L[j]? = some V → j < i → 0 ≤ pr V.p ∧ pr V.p ≤ 1000
  tail : ∀ j V, L[j]? = some V → i ≤ j → pr V.p = 0
  kp : Kp (L.map Vl.p) w wr
theorem Inc.more {kt : Nat → Int} {L : List Vl} {w wr w2 : World} {i : Nat} {pr : Nat → Int} (h : Inc kt L w i wr pr) (k : Kp [] wr w2) : Inc kt L w i w2 pr :=
  ⟨fun V hV => (h.at_ V hV).kp k, h.head, h.tail, h.kp.then k (by simp)⟩
theorem Inc.step {kt : Nat → Int} {L : List Vl} {w wr : World} {i : Nat} {pr : Nat → Int} {V : Vl} (h : Inc kt L w i wr pr) (hd : (L.map Vl.p).Nodup) (hV : L[i]? = some V) (x : Int) (hx : 0 ≤ x ∧ x ≤ 1000) :
    Inc kt L w (i + 1) (wr.setCell ⟨V.p, 3, none⟩ (.int .i64 x)) (fun p => if p = V.p then x else pr p) := by
  have hm := List.mem_of_getElem? hV
  refine ⟨prs_step x h.at_ hd hm, ?_, ?_, h.kp.set (.inl (List.mem_map_of_mem hm)) _⟩
  · intro j U hU hj
    by_cases e : U.p = V.p
    · simpa [e] using hx
    · have hji : j ≠ i := fun g => e (by subst g; rw [hV] at hU; injection hU with g; rw [g])
      simpa [e] using h.head j U hU (by omega)
  · intro j U hU hj
    have e := nodup_ne hd hV hU (by omega)
    simpa [e] using h.tail j U hU (by omega)

theorem incr_end {kt pr : Nat → Int} {s b n : Nat} {pp : Option Addr} {tvp : Int} {ak : Bool} {L : List Vl} {w w2 : World} {V : Vl} (x : Int) (hs : SetAt kt pr s b n pp tvp ak L w2) (hV : V ∈ L) (K : Kp (L.map Vl.p) w w2) :
    ∃ V' pr', V' ∈ L ∧ Ending.returned (ptr V) = Ending.returned (ptr V') ∧ SetAt kt pr' s b n pp tvp ak L (w2.setCell ⟨V.p, 3, none⟩ (.int .i64 x)).drew ∧ Kp (L.map Vl.p) w (w2.setCell ⟨V.p, 3, none⟩ (.int .i64 x)).drew :=
  ⟨V, _, hV, rfl, (hs.prios (Kp.set (p := ⟨V.p, 3, none⟩) (Kp.refl _ _) (.inl (List.mem_map_of_mem (f := Vl.p) hV)) (.int .i64 x)) (prs_step x hs.at_ hs.nodup hV)).kp (Kp.refl [] _).drew, (K.set (p := ⟨V.p, 3, none⟩) (.inl (List.mem_map_of_mem (f := Vl.p) hV)) _).drew⟩

set_option maxHeartbeats 1000000 in
set_option maxRecDepth 100000 in
theorem incr_any (kt : Nat → Int) (s b n : Nat) (pp : Option Addr) (tvp : Int) (ak : Bool) (L : List Vl) (w : World) (hs : SetAt kt (fun _ => 0) s b n pp tvp ak L w) (hn0 : 0 < n) (hn1 : n ≤ 100) (hp : Pows L) (ha : Apart kt L) (ht : 0 < tvp ∧ tvp ≤ 100000) :
    Calls Tryz.prog 88 #[.pointer (some ⟨s, 0, none⟩)] w fun e w' => ∃ V pr, V ∈ L ∧ e = .returned (ptr V) ∧ SetAt kt pr s b n pp tvp ak L w' ∧ Kp (L.map Vl.p) w w' := by
  obtain ⟨t0, t1⟩ := ht
  have e0 : w.cell? ⟨s, 0, none⟩ = some (.slice (some ⟨b, 0, none⟩) n n) := hs.set.cell rfl
  have H := Lib.hid (And.intro hs (And.intro ha (And.intro hs.notS (And.intro hs.notB hp))))
  clear hs ha hp
  go_enter Tryz.func88, Tryz.ntmps88
  go_wp2_with fail
  go_loopw [12] (fun s12 wr => ∃ i : Nat, i ≤ n ∧ s12 = .int .i64 i ∧ ∃ pr, Inc kt L w i wr pr) (fun s12 _ => n - (intOf s12).toNat)
  case atStart => exact ⟨0, by omega, rfl, fun _ => 0, H.out.1.at_, by simp, by simp, Kp.refl _ _⟩
  case round =>
    obtain ⟨i, hi, rfl, pr, hc⟩ := hrel
    have HC := Lib.hid hc
    clear hc
    by_cases hlt : i < n
    · obtain ⟨V, hVm, hVi⟩ := get_lt (L := L) (i := i) (by rw [← H.out.1.len]; exact hlt)
      have ci : wr.cell? ⟨b, i, none⟩ = some (.pointer (some ⟨V.p, 0, none⟩)) := (HC.out.kp.blk H.out.1.row H.out.2.2.2.1).cell (ptrs_some hVi)
      have hb := (HC.out.at_ V hVm).blk
      rw [HC.out.tail i V hVi (by omega)] at hb
      have c2 : wr.cell? ⟨V.p, 2, none⟩ = some (.int .i64 V.pow) := hb.cell rfl
      have c3 : wr.cell? ⟨V.p, 3, none⟩ = some (.int .i64 0) := hb.cell rfl
      have f3 := hb.free 3
      have d3 : ∀ n, (wr.drewN n).cell? ⟨V.p, 3, none⟩ = some (.int .i64 0) := fun n => c3
      have g3 : ∀ n, (wr.drewN n).frozen? ⟨V.p, 3, none⟩ = false := fun n => f3
      have hpw := H.out.2.2.2.2 V hVm
      have HV := Lib.hid (And.intro hVi hpw)
      clear hVi hVm hb hpw
      go_wp2_with fail
      go_quiet ((go_at_call 92; exact Calls.quiet_of_same ((safeAddClip_any 0 V.pow _ (by omega) (by have := HV.out.2; omega)).mono fun _ _ ⟨h, k⟩ => ⟨h, k.symm⟩)))
      have HC2 := Lib.hid (HC.out.more ((Kp.refl [] wr).drewN nq))
      have c3' := d3 nq
      have f3' := g3 nq
      clear HC c2 c3 f3 d3 g3 ci
      generalize wr.drewN nq = w2 at *
      go_wp2_with fail
      exact ⟨⟨i + 1, by omega, by go_num, _, HC2.out.step H.out.1.nodup HV.out.1 V.pow (by have := HV.out.2; omega)⟩, by simp [intOf]; omega⟩
    · obtain rfl : i = n := by omega
      have HS := Lib.hid (H.out.1.prios HC.out.kp HC.out.at_)
      go_wp2_with fail
      refine (most_any kt pr s b i pp tvp ak L wr HS.out hn0 (by omega) H.out.2.1).mono ?_
      rintro e w2 ⟨⟨V, hV, rfl⟩, k2⟩
      have HS2 := Lib.hid (HS.out.kp k2)
      have hx : 0 ≤ pr V.p ∧ pr V.p ≤ 1000 := by
        obtain ⟨j, hj, rfl⟩ := List.getElem_of_mem hV
        exact HC.out.head j _ (by simp [hj]) (by rw [H.out.1.len]; exact hj)
      have c3 : ∀ W, Kp [] w2 W → W.cell? ⟨V.p, 3, none⟩ = some (.int .i64 (pr V.p)) := (HS2.out.at_ V hV).blk.all 3 rfl
      have f3 : ∀ W, Kp [] w2 W → W.frozen? ⟨V.p, 3, none⟩ = false := fun W k => (k.blk (HS2.out.at_ V hV).blk (by simp)).free 3
      have HX := Lib.hid (And.intro hx hV)
      have HK := Lib.hid (HC.out.kp.then k2 (by simp))
      clear hx hV k2
      unfold ptr
      go_wp2_with fail
      go_region_with (first | (go_at_call 42; refine (total_known s (rowV b i i) pp tvp ak _ (by first | exact HS2.out.set | exact HS2.out.set.drew | exact HS2.out.set.drew.drew | exact HS2.out.set.drew.drew.drew) t0).mono ?_; rintro e w' ⟨rfl, rfl⟩) | (go_at_call 101; refine (safeSubClip_any (pr V.p) tvp _ (by have := HX.out.1; omega) (by omega)).mono ?_; rintro e w' ⟨rfl, rfl⟩))
      all_goals (
        go_wp2_with fail
        go_ret
        obtain ⟨V', pr', h1, h2, h3⟩ := incr_end (pr V.p - tvp) HS2.out HX.out.2 HK.out
        exact ⟨V', pr', h1, h2, h3⟩)
end Go.Proofs.YtfkaldaflnmfiaaGreatDoor
