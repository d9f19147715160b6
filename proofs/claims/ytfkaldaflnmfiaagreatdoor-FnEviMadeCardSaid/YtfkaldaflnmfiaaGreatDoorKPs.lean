/- The contract of a block ID's Key. -/
import Derived.WalkKit
import Derived.WalkSpells
import Derived.WalkLawsBesides
import Derived.Handy
import Derived.Lib.Hide
import Derived.IntWalk
import Derived.Deep.RegionHeld3
import Derived.Deep.RegionWith
import Derived.Deep.QuietTactic
import Derived.Deep.DeepCutAuto
import Derived.Test.YtfkaldaflnmfiaaGreatDoorKVb
import Derived.Test.YtfkaldaflnmfiaaGreatDoorKTl
import Derived.Lib.Bytealg
import Derived.Lib.BytesEntry
namespace Go.Proofs.YtfkaldaflnmfiaaGreatDoor
set_option linter.unusedSimpArgs false
set_option linter.unusedVariables false
open Go Go.RowKit
set_option maxRecDepth 100000

theorem strOf_append (a b : List Int) : strOfNums a ++ strOfNums b = strOfNums (a ++ b) := by
  apply ByteArray.ext
  simp [strOfNums, ByteArray.data_append]
/-- What a block's ID is ordered by. -/
def keyL (h : List Int) (t : Int) (m : List Int) : List Int := h ++ hdr t m
theorem key_any (t : Int) (vh vp : Value) (h m : List Int) (w : World) (hh : Byt w vh h) (hm : Byt w vp m) (h0 : 0 ≤ t) (h1 : t ≤ 4294967295) (hl : m.length ≤ 100000) (hlh : h.length ≤ 100000) :
    Calls Tryz.prog 45 #[.agg #[vh, .int .u32 t, vp]] w fun e w' => e = .returned (.string (strOfNums (keyL h t m))) ∧ Kp [] w w' := by
  obtain ⟨ah, nh, ch, rfl⟩ := hh.form
  obtain ⟨ap, np, cp, rfl⟩ := hm.form
  go_enter Tryz.func45, Tryz.ntmps45
  go_upto_region 1 with fail
  have hb := Blk.new w #[.slice ah nh ch, .int .u32 t, .slice ap np cp] 103
  have k1 := (Kp.refl [] w).alloc (.cells #[.slice ah nh ch, .int .u32 t, .slice ap np cp] 103)
  generalize w.alloc (.cells #[.slice ah nh ch, .int .u32 t, .slice ap np cp] 103) = wA at *
  obtain ⟨p, ep⟩ : ∃ p, p = w.heap.size := ⟨_, rfl⟩
  rw [← ep] at hb ⊢
  have HS := Lib.hid (fun (W : World) (k : Kp [] wA W) => And.intro (k.blk hb (by simp)) (hh.kp (k1.trans k)))
  have HM := Lib.hid (hm.kp k1)
  have K1 := Lib.hid k1
  have hS0 : (Blk wA.drew p #[.slice ah nh ch, .int .u32 t, .slice ap np cp] 103 ∧ Byt wA.drew (.slice ah nh ch) h) := HS.out _ (Kp.refl [] wA).drew
  clear hb hm hh k1 ep
  refine wp_region_noPanic ?_
  refine wp_region_last (fun W => Blk W p #[.slice ah nh ch, .int .u32 t, .slice ap np cp] 103 ∧ Byt W (.slice ah nh ch) h) (by kernel_rfl) ?_
  refine wpAnyL_take (i := 0) (v := _) rfl (by kernel_rfl) (by kernel_rfl) (by kernel_rfl) (fun _ _ _ h => h) (Or.inl ⟨by rfl, fun W hSW => by go_simp; try with_reducible rfl⟩) hS0 ?_
  try simp only [Act.put, List.setIfInBounds_toArray, List.set_cons_zero, List.set_cons_succ]
  refine wpAnyL_take (i := 1) (v := .slice ah nh ch) rfl (by kernel_rfl) (by kernel_rfl) (by kernel_rfl) (fun _ _ _ h => h) (Or.inl ⟨by rfl, fun W hSW => by have c0 : W.cell? ⟨p, 0, none⟩ = some (.slice ah nh ch) := hSW.1.cell rfl; go_simp; try with_reducible rfl⟩) hS0 ?_
  try simp only [Act.put, List.setIfInBounds_toArray, List.set_cons_zero, List.set_cons_succ]
  refine wpAnyL_take (i := 2) (v := .string (strOfNums h)) rfl (by kernel_rfl) (by kernel_rfl) (by kernel_rfl) (fun _ _ _ h => h) (Or.inl ⟨by rfl, fun W hSW => by have c9 := run_string W hSW.2 89 Tryz.underlying89; go_simp; try with_reducible rfl⟩) hS0 ?_
  try simp only [Act.put, List.setIfInBounds_toArray, List.set_cons_zero, List.set_cons_succ]
  refine wpAnyL_take (i := 3) (v := _) rfl (by kernel_rfl) (by kernel_rfl) (by kernel_rfl) (fun _ _ _ h => h) (Or.inl ⟨by rfl, fun W hSW => by go_simp; try with_reducible rfl⟩) hS0 ?_
  try simp only [Act.put, List.setIfInBounds_toArray, List.set_cons_zero, List.set_cons_succ]
  refine wpAnyL_take (i := 4) (v := .agg #[.int .u32 t, .slice ap np cp]) rfl (by kernel_rfl) (by kernel_rfl) (by kernel_rfl) (fun _ _ _ h => h) (Or.inl ⟨by rfl, fun W hSW => by have c1 : W.cell? ⟨p, 1, none⟩ = some (.int .u32 t) := hSW.1.cell rfl; have c2 : W.cell? ⟨p, 2, none⟩ = some (.slice ap np cp) := hSW.1.cell rfl; go_simp; try with_reducible rfl⟩) hS0 ?_
  try simp only [Act.put, List.setIfInBounds_toArray, List.set_cons_zero, List.set_cons_succ]
  refine wpAnyL_one (i := 5) (by kernel_rfl) rfl (fun K' hK' => ?_)
  go_simp
  refine (zzHeader_any t (.slice ap np cp) m wA.drew (HM.out.kp ((Kp.refl [] wA).drew)) h0 h1 hl).mono ?_
  rintro e W2 ⟨v2, rfl, ho2, hb1⟩
  obtain ⟨a2, n2, c2, rfl⟩ := ho2.byt.form
  have hb2 := (Kp.refl [] wA).drew.trans hb1
  have H2 := Lib.hid (And.intro ho2.byt hb2)
  clear ho2 hb1 hb2
  go_wp2_with fail
  refine hK'.out _ _ (HS.out _ H2.out.2) ?_
  clear hK' K' hS0
  try simp only [Act.put, List.setIfInBounds_toArray, List.set_cons_zero, List.set_cons_succ]
  refine wpAnyL_mono (S := fun W => (Blk W p #[.slice ah nh ch, .int .u32 t, .slice ap np cp] 103 ∧ Byt W (.slice ah nh ch) h) ∧ Byt W (.slice a2 n2 c2) (hdr t m)) (fun W h => h.1) ?_
  have hS0 := And.intro (HS.out _ H2.out.2) H2.out.1
  refine wpAnyL_take (i := 6) (v := .string (strOfNums (hdr t m))) rfl (by kernel_rfl) (by kernel_rfl) (by kernel_rfl) (fun _ _ _ h => h) (Or.inl ⟨by rfl, fun W hSW => by have c9 := run_string W hSW.2 22 Tryz.underlying22; go_simp; try with_reducible rfl⟩) hS0 ?_
  try simp only [Act.put, List.setIfInBounds_toArray, List.set_cons_zero, List.set_cons_succ]
  have c9 : strOfNums h ++ strOfNums (hdr t m) = strOfNums (keyL h t m) := strOf_append h (hdr t m)
  have c8 : ¬ 9223372036854775807 < (strOfNums h).size + (strOfNums (hdr t m)).size := by
    rw [strOfNums_size, strOfNums_size, hdr_length]
    omega
  refine wpAnyL_take (i := 7) (v := .string (strOfNums (keyL h t m))) rfl (by kernel_rfl) (by kernel_rfl) (by kernel_rfl) (fun _ _ _ h => h) (Or.inl ⟨by rfl, fun W hSW => by go_simp; try with_reducible rfl⟩) hS0 ?_
  try simp only [Act.put, List.setIfInBounds_toArray, List.set_cons_zero, List.set_cons_succ]
  refine wpAnyL_end (i := 8) (by kernel_rfl) (by kernel_rfl) (by kernel_rfl) rfl (fun K' hK' => ?_)
  go_simp
  refine hK'.out _ _ (NoPanic.normal ?_)
  change (Exit.then _ _) Exit.normal ⟨#[_, _, _, _, _, _, _, _, _, _, _], []⟩ W2
  go_wp2_with fail
  go_ret
  exact ⟨rfl, K1.out.trans H2.out.2⟩
end Go.Proofs.YtfkaldaflnmfiaaGreatDoor
/- The contract of strings.Compare; how the order of keys and the equality of block IDs hang together. -/
namespace Go.Proofs.YtfkaldaflnmfiaaGreatDoor
set_option linter.unusedSimpArgs false
set_option linter.unusedVariables false
open Go Go.RowKit
set_option maxRecDepth 100000

theorem run_cmpstring (w : World) (a b : List Int) : (callFunc 93 #[.string (strOfNums a), .string (strOfNums b)]).run Tryz.prog w = .ok (.value (.int .i64 (cmpB a b))) w := by
  rw [run_callFunc_extern Tryz.func93 (by kernel_rfl) (by kernel_rfl) (by kernel_rfl) (e := Extern.BytealgCompare.compare) (by kernel_rfl)]
  have e : (Extern.BytealgCompare.compare #[.string (strOfNums a), .string (strOfNums b)]).run Tryz.prog w = .ok (.int .i64 (cmpB a b)) w := by
    change Sem.run Tryz.prog (do pure (goInt (Extern.BytealgCompare.cmp (← Extern.Bytes.bytesOf (.string (strOfNums a))) (← Extern.Bytes.bytesOf (.string (strOfNums b)))))) w = _
    simp only [Extern.Bytes.bytesOf, Sem.run_bind, Sem.run_pure, Result.andThen]
    rw [show strOfNums a = ⟨(Lib.bytesOf a).toArray⟩ from rfl, show strOfNums b = ⟨(Lib.bytesOf b).toArray⟩ from rfl, Lib.cmp_eq]
    rfl
  rw [e]
  rfl
theorem cmpString_any (a b : List Int) (w : World) : Calls Tryz.prog 69 #[.string (strOfNums a), .string (strOfNums b)] w fun e w' => e = .returned (.int .i64 (cmpB a b)) ∧ w = w' := by
  have hc := run_cmpstring w a b
  go_enter Tryz.func69, Tryz.ntmps69
  go_wp2
  go_ret
  exact ⟨rfl, rfl⟩
theorem strCompare_any (a b : List Int) (w : World) : Calls Tryz.prog 44 #[.string (strOfNums a), .string (strOfNums b)] w fun e w' => e = .returned (.int .i64 (cmpB a b)) ∧ w = w' := by
  go_enter Tryz.func44, Tryz.ntmps44
  go_wp2_with fail
  refine (cmpString_any a b w).mono ?_
  rintro e w1 ⟨rfl, rfl⟩
  go_wp2
  go_ret
  exact ⟨rfl, rfl⟩
theorem compareBytes_rev : ∀ a b : List UInt8, Lib.compareBytes b a = - Lib.compareBytes a b
  | [], [] => by simp [Lib.compareBytes]
  | [], _ :: _ => by simp [Lib.compareBytes]
  | _ :: _, [] => by simp [Lib.compareBytes]
  | x :: a, y :: b => by
    unfold Lib.compareBytes
    by_cases h : x < y
    · have h2 : ¬ y < x := fun h' => absurd (UInt8.lt_trans h h') (UInt8.lt_irrefl x)
      simp [h, h2]
    · by_cases h' : y < x
      · simp [h, h']
      · simp [h, h', compareBytes_rev a b]
theorem compareBytes_three : ∀ a b : List UInt8, Lib.compareBytes a b = -1 ∨ Lib.compareBytes a b = 0 ∨ Lib.compareBytes a b = 1
  | [], [] => by simp [Lib.compareBytes]
  | [], _ :: _ => by simp [Lib.compareBytes]
  | _ :: _, [] => by simp [Lib.compareBytes]
  | x :: a, y :: b => by
    unfold Lib.compareBytes
    by_cases h : x < y
    · simp [h]
    · by_cases h' : y < x
      · simp [h, h']
      · simpa [h, h'] using compareBytes_three a b
theorem cmpB_rev (a b : List Int) : cmpB b a = - cmpB a b := compareBytes_rev _ _
theorem cmpB_three (a b : List Int) : cmpB a b = -1 ∨ cmpB a b = 0 ∨ cmpB a b = 1 := compareBytes_three _ _
end Go.Proofs.YtfkaldaflnmfiaaGreatDoor
/- Equal keys, equal block IDs. -/
namespace Go.Proofs.YtfkaldaflnmfiaaGreatDoor
set_option linter.unusedSimpArgs false
set_option linter.unusedVariables false
open Go Go.RowKit
theorem le8_inj {x y : Int} (h0 : 0 ≤ x) (h1 : x ≤ 60000) (k0 : 0 ≤ y) (k1 : y ≤ 60000) (h : le8 x = le8 y) : x = y := by
  unfold le8 at h
  simp only [List.cons.injEq] at h
  obtain ⟨a, b, _⟩ := h
  omega
theorem keyL_length (h : List Int) (t : Int) (m : List Int) : (keyL h t m).length = h.length + (m.length + 16) := by
  simp [keyL, hdr_length]
/-- Keys are equal where the blocks' IDs are. -/
theorem keyL_eq {h h' m m' : List Int} {t t' : Int} (L : (h.length = 0 ∧ m.length = 0) ∨ (h.length = 32 ∧ m.length = 32)) (L' : (h'.length = 0 ∧ m'.length = 0) ∨ (h'.length = 32 ∧ m'.length = 32))
    (t0 : 0 ≤ t ∧ t ≤ 1000) (t1 : 0 ≤ t' ∧ t' ≤ 1000) : keyL h t m = keyL h' t' m' ↔ (h = h' ∧ t = t' ∧ m = m') := by
  refine ⟨fun e => ?_, fun e => by rw [e.1, e.2.1, e.2.2]⟩
  have hl := congrArg List.length e
  rw [keyL_length, keyL_length] at hl
  have hh : h.length = h'.length := by omega
  obtain ⟨e1, e2⟩ := List.append_inj (show h ++ hdr t m = h' ++ hdr t' m' from e) hh
  obtain ⟨e3, e4⟩ := List.append_inj (show le8 t ++ txt m = le8 t' ++ txt m' from e2) (by rw [le8_length, le8_length])
  obtain ⟨_, e6⟩ := List.append_inj (show le8 (m.length : Int) ++ m = le8 (m'.length : Int) ++ m' from e4) (by rw [le8_length, le8_length])
  exact ⟨e1, le8_inj (by omega) (by omega) (by omega) (by omega) e3, e6⟩
theorem keyL_bs {h m : List Int} {t : Int} (hh : Bs h) (hm : Bs m) (t0 : 0 ≤ t ∧ t ≤ 1000) (hl : m.length ≤ 1000000) : Bs (keyL h t m) := hh.append (hdr_bs t0.1 (by omega) hm hl)
end Go.Proofs.YtfkaldaflnmfiaaGreatDoor
