/- Contracts of the hash of a text, of addresses and of signatures. -/
import Derived.WalkKit
import Derived.WalkSpells
import Derived.WalkLawsBesides
import Derived.Handy
import Derived.Lib.Hide
import Derived.IntWalk
import Derived.Deep.RegionHeld3
import Derived.Test.YtfkaldaflnmfiaaGreatDoorKSum
import Derived.Test.YtfkaldaflnmfiaaGreatDoorKSig
import Derived.Deep.DeepCutAuto
import Derived.Lib.Bytealg
import Derived.Lib.BytesEntry
import Derived.Deep.QuietTactic
import Derived.BigQuiet
namespace Go.Proofs.YtfkaldaflnmfiaaGreatDoor
set_option linter.unusedSimpArgs false
set_option linter.unusedVariables false
open Go Go.RowKit

/-- The 32 bytes of eight words. -/
def outL (s : St) : List Int := [be4 s.a 0, be4 s.a 1, be4 s.a 2, be4 s.a 3, be4 s.b 0, be4 s.b 1, be4 s.b 2, be4 s.b 3, be4 s.c 0, be4 s.c 1, be4 s.c 2, be4 s.c 3, be4 s.d 0, be4 s.d 1, be4 s.d 2, be4 s.d 3, be4 s.e 0, be4 s.e 1, be4 s.e 2, be4 s.e 3, be4 s.f 0, be4 s.f 1, be4 s.f 2, be4 s.f 3, be4 s.g 0, be4 s.g 1, be4 s.g 2, be4 s.g 3, be4 s.h 0, be4 s.h 1, be4 s.h 2, be4 s.h 3]
theorem outL_length (s : St) : (outL s).length = 32 := rfl
theorem outCells_eq (s : St) : outCells s = (u8s (outL s)).toArray := by kernel_rfl
theorem be4_bs (v : Int) (h : 0 ≤ v ∧ v ≤ 4294967295) : (0 ≤ be4 v 0 ∧ be4 v 0 ≤ 255) ∧ (0 ≤ be4 v 1 ∧ be4 v 1 ≤ 255) ∧ (0 ≤ be4 v 2 ∧ be4 v 2 ≤ 255) ∧ (0 ≤ be4 v 3 ∧ be4 v 3 ≤ 255) := by
  simp only [be4]
  omega
theorem outL_bs (s : St) (h : s.ok) : Bs (outL s) := by
  obtain ⟨ha, hb, hc, hd, he, hf, hg, hh⟩ := h
  have a := be4_bs _ ha
  have b := be4_bs _ hb
  have c := be4_bs _ hc
  have d := be4_bs _ hd
  have e := be4_bs _ he
  have f := be4_bs _ hf
  have g := be4_bs _ hg
  have i := be4_bs _ hh
  intro x hx
  simp only [outL, List.mem_cons, List.not_mem_nil, or_false] at hx
  rcases hx with rfl | rfl | rfl | rfl | rfl | rfl | rfl | rfl | rfl | rfl | rfl | rfl | rfl | rfl | rfl | rfl | rfl | rfl | rfl | rfl | rfl | rfl | rfl | rfl | rfl | rfl | rfl | rfl | rfl | rfl | rfl | rfl <;> simp only [a, b, c, d, e, f, g, i, and_self]

/-- The hash of a text. -/
def sha (kt : Nat → Int) (l : List Int) : List Int := outL (endOf kt l)
theorem sha_length (kt : Nat → Int) (l : List Int) : (sha kt l).length = 32 := rfl
theorem sha_bs (kt : Nat → Int) (l : List Int) : Bs (sha kt l) := outL_bs _ (shaBlk_ok _ _ _ _ _ _)

theorem splice_at (x l : List Int) (r j : Nat) (hx : Bs x) (hl : Bs l) : 0 ≤ (splice x r l).getD j 0 ∧ (splice x r l).getD j 0 ≤ 255 := by
  refine Bs.at ?_ j
  intro y hy
  simp only [splice, List.mem_append] at hy
  rcases hy with h | h | h
  · exact hx y (List.mem_of_mem_take h)
  · exact hl y h
  · exact hx y (List.mem_of_mem_drop h)
theorem zero64_bs : Bs zero64 := by
  intro x hx
  have := List.eq_of_mem_replicate hx
  omega
theorem bufOf_bs {l : List Int} (hl : Bs l) : Bs (bufOf l) := by
  intro y hy
  simp only [bufOf, splice, List.mem_append] at hy
  rcases hy with h | h | h
  · exact zero64_bs y (List.mem_of_mem_take h)
  · exact hl y (List.mem_of_mem_drop h)
  · exact zero64_bs y (List.mem_of_mem_drop h)
theorem padL_bs (r : Nat) (L : Int) : Bs (padL r L) := by
  intro y hy
  simp only [padL, List.mem_map] at hy
  obtain ⟨j, _, rfl⟩ := hy
  unfold padAt
  split
  · split <;> omega
  · unfold be8
    omega

set_option maxRecDepth 100000 in
theorem digSum_any (kt : Nat → Int) (g : Nat) (l : List Int) (w : World) (hg : Blk w g (digL (midOf kt l) (bufOf l) (l.length % 64 : Nat) l.length).toArray 171) (hn : Len l.length) (hT : Tab kt w) (hl : Bs l) :
    Calls Tryz.prog 91 #[.pointer (some ⟨g, 0, none⟩), .slice none 0 0] w (Fresh w (sha kt l)) := by
  have hr : 0 < l.length % 64 ∧ l.length % 64 < 56 ∧ l.length ≤ 65000 := by unfold Len at hn; omega
  have hbl := bufOf_length l
  have hi : (Tryz.prog.info? 171).map (·.size) = some (digL (midOf kt l) (bufOf l) (l.length % 64 : Nat) l.length).toArray.size := by
    rw [List.size_toArray, digL_length hbl]
    kernel_rfl
  have h1 : ((digL (midOf kt l) (bufOf l) (l.length % 64 : Nat) l.length).toArray).all (·.oneCell') = true := by
    rw [List.all_toArray, List.all_eq_true]
    intro u hu
    simp only [digL, List.mem_append, List.mem_cons, List.mem_map, List.not_mem_nil, or_false] at hu
    rcases hu with hu | ⟨_, _, rfl⟩ | hu
    · rcases hu with rfl | rfl | rfl | rfl | rfl | rfl | rfl | rfl <;> rfl
    · rfl
    · rcases hu with rfl | rfl | rfl <;> rfl
  obtain ⟨cs, ecs⟩ : ∃ cs, cs = (digL (midOf kt l) (bufOf l) (l.length % 64 : Nat) l.length).toArray := ⟨_, rfl⟩
  rw [← ecs] at hg hi h1
  have hz : Tryz.zeroCells171.size = cs.size := (show Tryz.zeroCells171.size = 75 by kernel_rfl).trans (by rw [ecs, List.size_toArray, digL_length hbl])
  have HG := Lib.hid hg
  have HI := Lib.hid hi
  have H1 := Lib.hid h1
  have HZ := Lib.hid hz
  have EC := Lib.hid ecs
  have HB := Lib.hid hbl
  have HT := Lib.hid hT
  clear hg hi h1 hz ecs hbl hT hn
  go_enter Tryz.func91, Tryz.ntmps91
  go_wp2_with (first | (refine kit_load rfl 171 (.tmp 8) rfl (some 9) rfl g rfl cs 171 HG.out _ Tryz.underlying171 rfl HI.out ?_) | (refine kit_store_last rfl 171 (.tmp 5) (.tmp 9) rfl rfl w.heap.size cs Tryz.zeroCells171 rfl rfl rfl HI.out HZ.out H1.out ?_))
  have hb := Blk.new w cs 171
  have kA := (Kp.refl [] w).alloc (.cells cs 171)
  generalize w.alloc (.cells cs 171) = wA at *
  rw [EC.out] at hb
  have h10 : 10 < w.heap.size := HT.out.1
  have hxr : ∀ j, 0 ≤ (lastOf l).getD j 0 ∧ (lastOf l).getD j 0 ≤ 255 := fun j => by unfold lastOf; exact splice_at _ _ _ _ (bufOf_bs hl) (padL_bs _ _)
  have hC := checkSum_any w.heap.size (l.length % 64) (midOf kt l) (endOf kt l) kt (bufOf l) (lastOf l) l.length (by rw [lastOf]) wA HB.out hb hr.1 hr.2.1 hr.2.2 rfl (by have := kA.size; omega) (by omega) hxr (HT.out.kp kA).2 (by rw [endOf])
  refine hC.mono ?_
  clear hC
  rintro e w1 ⟨rfl, k1, e74⟩
  have hK : Kp [] w w1 := kA.then k1 (fun i hi hm => by simp at hm; omega)
  have hne : w.heap.size < w1.heap.size := World.block_lt_of_cell? w1 _ e74
  clear hb kA k1 hxr
  have hi3 : (Tryz.prog.info? 173).map (·.size) = some (outCells (endOf kt l)).size := by rw [outCells_size]; kernel_rfl
  have hz3 : zero32.size = (outCells (endOf kt l)).size := by rw [outCells_size]; kernel_rfl
  have h13 := outCells_one (endOf kt l)
  have eo := outCells_eq (endOf kt l)
  generalize outCells (endOf kt l) = oc at *
  have HI3 := Lib.hid (And.intro hi3 (And.intro hz3 h13))
  have EO := Lib.hid eo
  clear hi3 hz3 h13 eo
  go_wp2_with (first | (refine kit_store_last rfl 173 (.tmp 6) (.tmp 10) rfl rfl w1.heap.size oc zero32 rfl rfl rfl HI3.out.1 HI3.out.2.1 HI3.out.2.2 ?_) | (at_builtin; refine kit_append rfl _ _ 22 Tryz.underlying22 rfl (B := w.heap.size) (l := []) (m := sha kt l) rfl (Own.nil _ _) rfl ?c1 ?c2 ?c3 ?_))
  case c1 =>
    refine Byt.of_cells (l := sha kt l) (by rw [sha_length]; omega) (by simp) ?_
    intro j hj
    rw [Nat.zero_add, (Blk.new w1 oc 173).cell (j := j) (v := .int .u8 ((sha kt l).getD j 0)) ?_]
    rw [EO.out, List.getElem?_toArray]
    simp [u8s, sha] at hj ⊢
    simp [hj]
  case c2 => rw [sha_length]; simp
  case c3 => have := hK.size; simp; omega
  intro v2 w2 ho ha
  have HO := Lib.hid ho
  have HA := Lib.hid (hK.trans (((Kp.refl [] w1).alloc _).trans ha.nil))
  clear ho ha
  go_wp2
  go_ret
  exact ⟨v2, rfl, HO.out, HA.out⟩
end Go.Proofs.YtfkaldaflnmfiaaGreatDoor
/- Contracts of addresses, signatures and their check. -/
namespace Go.Proofs.YtfkaldaflnmfiaaGreatDoor
set_option linter.unusedSimpArgs false
set_option linter.unusedVariables false
open Go Go.RowKit

theorem Fresh.kp {w0 w w' : World} {l : List Int} {e : Ending} (h : Fresh w l e w') (k : Kp [] w0 w) : Fresh w0 l e w' := by
  obtain ⟨v, h1, h2, h3⟩ := h
  exact ⟨v, h1, h2.mono k.size, k.trans h3⟩
theorem Byt.pos {w : World} {v : Value} {l : List Int} (h : Byt w v l) (hl : 0 < l.length) : ∃ b o c, v = .slice (some ⟨b, o, none⟩) l.length c ∧ l.length ≤ c ∧ b < w.heap.size ∧ ∀ j, j < l.length → w.cell? ⟨b, o + j, none⟩ = some (.int .u8 (l.getD j 0)) := by
  rcases h with ⟨_, rfl⟩ | h
  · simp at hl
  · exact h
theorem Own.pos {w : World} {B : Nat} {v : Value} {l : List Int} (h : Own w B v l) (hl : 0 < l.length) : ∃ b c, v = .slice (some ⟨b, 0, none⟩) l.length c ∧ l.length ≤ c ∧ B ≤ b ∧ b < w.heap.size := by
  obtain ⟨h1, h2 | ⟨g, cap, cur, rfl, h2, h3, h4, h5, h6, h7⟩⟩ := h
  · omega
  · exact ⟨g, cap, rfl, h4, h2, (Array.getElem?_eq_some_iff.1 h3).1⟩
/-- The beginning of a slice. -/
theorem Byt.take {w : World} {b o n c : Nat} {l : List Int} (h : Byt w (.slice (some ⟨b, o, none⟩) n c) l) (k : Nat) (hk : k ≤ n) : Byt w (.slice (some ⟨b, o, none⟩) k c) (l.take k) := by
  rcases h with ⟨h, _⟩ | ⟨b', o', c', e, h1, h2, h3⟩
  · cases h
  · injection e with e1 e2 e3
    injection e1 with e1
    injection e1 with e4 e5
    subst e4 e5 e3 e2
    have hl : (l.take k).length = k := by rw [List.length_take]; omega
    have := Byt.of_cells (w := w) (l := l.take k) (b := b) (o := o) (c := c) (by omega) h2 (fun j hj => by
      rw [hl] at hj
      rw [h3 j (by omega)]
      simp [List.getD_eq_getElem?_getD, List.getElem?_take, hj])
    rwa [hl] at this

set_option maxRecDepth 100000 in
theorem sum_any (kt : Nat → Int) (v : Value) (l : List Int) (w : World) (hv : Byt w v l) (hn : Len l.length) (hT : Tab kt w) (hl : Bs l) :
    Calls Tryz.prog 61 #[v] w (Fresh w (sha kt l)) := by
  have hp : 0 < l.length := by unfold Len at hn; omega
  obtain ⟨b, o, c, rfl, hc, hb, hcell⟩ := hv.pos hp
  have H := Lib.hid (And.intro hv (And.intro hn (And.intro hT (And.intro hl hcell))))
  clear hv hn hT hl hcell
  go_enter Tryz.func61, Tryz.ntmps61
  go_wp2_with fail
  refine (new_any w).mono ?_
  rintro e w1 ⟨rfl, hg, k1⟩
  have HG := Lib.hid hg
  clear hg
  go_wp2_with fail
  refine (write_any kt w.heap.size b o c l w1 HG.out H.out.2.1 (by omega) (by have := k1.size; omega) (H.out.2.2.1.kp k1) (by have := H.out.2.2.1.1; omega) hc H.out.2.2.2.1 (fun j hj => (k1.cell (p := ⟨b, o + j, none⟩) hb (by simp)).trans (H.out.2.2.2.2 j hj))).mono ?_
  rintro e w2 ⟨rfl, hg2, k2⟩
  have HG2 := Lib.hid hg2
  have k3 : Kp [] w w2 := k1.then k2 (fun i hi hm => by simp at hm; omega)
  clear hg2 k1 k2 HG
  go_wp2_with fail
  refine (digSum_any kt w.heap.size l w2 HG2.out H.out.2.1 (H.out.2.2.1.kp k3) H.out.2.2.2.1).mono ?_
  rintro e w3 h3
  obtain ⟨v3, rfl, ho, hk⟩ := h3.kp k3
  have HO := Lib.hid (And.intro ho hk)
  clear ho hk h3
  go_wp2
  go_ret
  exact ⟨v3, rfl, HO.out⟩

/-- The address of a key. -/
def addr (kt : Nat → Int) (k : List Int) : List Int := (sha kt k).take 20
theorem addr_length (kt : Nat → Int) (k : List Int) : (addr kt k).length = 20 := rfl
theorem addr_bs (kt : Nat → Int) (k : List Int) : Bs (addr kt k) := (sha_bs kt k).take 20
/-- A slice of bytes that reads as l; nothing else has turned. -/
def Reads (w : World) (l : List Int) (e : Ending) (w' : World) : Prop := ∃ b c, e = .returned (.slice (some ⟨b, 0, none⟩) l.length c) ∧ Byt w' (.slice (some ⟨b, 0, none⟩) l.length c) l ∧ Kp [] w w'

set_option maxRecDepth 100000 in
theorem sumTrunc_any (kt : Nat → Int) (v : Value) (l : List Int) (w : World) (hv : Byt w v l) (hn : Len l.length) (hT : Tab kt w) (hl : Bs l) :
    Calls Tryz.prog 163 #[v] w (Reads w (addr kt l)) := by
  have H := Lib.hid (sum_any kt v l w hv hn hT hl)
  clear hv hn hT hl
  go_enter Tryz.func163, Tryz.ntmps163
  go_wp2_with fail
  refine H.out.mono ?_
  rintro e w1 ⟨v1, rfl, ho, hk⟩
  obtain ⟨b, c, rfl, hc, _, hb⟩ := ho.pos (by rw [sha_length]; omega)
  simp only [sha_length] at ho hc ⊢
  have HO := Lib.hid (And.intro (ho.byt.take 20 (by omega)) hk)
  clear ho hk
  have hc20 : (20 : Int) ≤ (c : Int) := by omega
  go_wp2
  go_ret
  exact ⟨b, c, rfl, HO.out⟩

/-- A plain key in memory. -/
def KeyAt (w : World) (b : Nat) (vk : Value) (k : List Int) : Prop := Blk w b #[vk] 129 ∧ Byt w vk k
theorem KeyAt.kp {w w' : World} {b : Nat} {vk : Value} {k : List Int} (h : KeyAt w b vk k) (hk : Kp [] w w') : KeyAt w' b vk k := ⟨hk.blk h.1 (by simp), h.2.kp hk⟩

theorem keyAddress_any (kt : Nat → Int) (b : Nat) (vk : Value) (k : List Int) (w : World) (hb : KeyAt w b vk k) (hn : k.length = 2) (hT : Tab kt w) (hl : Bs k) :
    Calls Tryz.prog 159 #[.pointer (some ⟨b, 0, none⟩)] w (Reads w (addr kt k)) := by
  have c0 : w.cell? ⟨b, 0, none⟩ = some vk := hb.1.cell rfl
  have H := Lib.hid (sumTrunc_any kt vk k w hb.2 (.inl hn) hT hl)
  clear hb hn hT hl
  go_enter Tryz.func159, Tryz.ntmps159
  go_wp2_with fail
  refine H.out.mono ?_
  rintro e w1 ⟨b1, c1, rfl, hr⟩
  have HR := Lib.hid hr
  clear hr
  go_wp2
  go_ret
  exact ⟨b1, c1, rfl, HR.out⟩

theorem keyBytes_any (b : Nat) (vk : Value) (w : World) (hb : Blk w b #[vk] 129) : Calls Tryz.prog 160 #[.pointer (some ⟨b, 0, none⟩)] w fun e w' => e = .returned vk ∧ w = w' := by
  have c0 : w.cell? ⟨b, 0, none⟩ = some vk := hb.cell rfl
  clear hb
  go_enter Tryz.func160, Tryz.ntmps160
  go_wp2
  go_ret
  exact ⟨rfl, rfl⟩

theorem keyType_any (b : Nat) (w : World) : Calls Tryz.prog 161 #[.pointer (some ⟨b, 0, none⟩)] w fun e w' => e = .returned (.string ⟨#[112, 108, 97, 105, 110]⟩) ∧ w = w' := by
  go_enter Tryz.func161, Tryz.ntmps161
  go_wp2
  go_ret
  exact ⟨rfl, rfl⟩

theorem str_list {a b : List Int} (ha : Bs a) (hb : Bs b) : (strOfNums a).toList = (strOfNums b).toList ↔ a = b := by
  rw [ByteArray.toList_eq, ByteArray.toList_eq, strOfNums_data, strOfNums_data]
  exact ⟨eq_of_Bs ha hb, fun h => by rw [h]⟩
theorem str_beq {a b : List Int} (ha : Bs a) (hb : Bs b) : ((strOfNums a).toList == (strOfNums b).toList) = decide (a = b) := by
  rw [Bool.eq_iff_iff]
  simp [str_list ha hb]

/-- bytes.Equal. -/
theorem bytesEqual_any (va vb : Value) (a b : List Int) (w : World) (ha : Byt w va a) (hb : Byt w vb b) (ha1 : Bs a) (hb1 : Bs b) :
    Calls Tryz.prog 40 #[va, vb] w fun e w' => e = .returned (.bool (decide (a = b))) ∧ w = w' := by
  have hca := run_string w ha 22 Tryz.underlying22
  have hcb := run_string w hb 22 Tryz.underlying22
  have HE := Lib.hid (str_beq ha1 hb1)
  clear ha hb ha1 hb1
  go_enter Tryz.func40, Tryz.ntmps40
  go_wp2
  go_ret
  exact ⟨by rw [HE.out]; rfl, rfl⟩

/-- What a key signs of a text. -/
def sgn (kt : Nat → Int) (k m : List Int) : List Int := sha kt (txt k ++ txt m)
theorem sgn_length (kt : Nat → Int) (k m : List Int) : (sgn kt k m).length = 32 := rfl
theorem sgn_bs (kt : Nat → Int) (k m : List Int) : Bs (sgn kt k m) := sha_bs _ _

set_option maxRecDepth 100000 in
theorem zzSign_any (kt : Nat → Int) (vk vm : Value) (k m : List Int) (w : World) (hk : Byt w vk k) (hm : Byt w vm m) (hkl : k.length = 2) (hml : m.length = 60 ∨ m.length = 124) (hT : Tab kt w) (hkb : Bs k) (hmb : Bs m) :
    Calls Tryz.prog 37 #[vk, vm] w (Fresh w (sgn kt k m)) := by
  have h1 := Lib.hid (zzText_nil vk k w hk (by omega))
  have H := Lib.hid (And.intro hm (And.intro hT hml))
  have HS := Lib.hid (show Bs (txt k ++ txt m) ∧ Len (txt k ++ txt m).length from ⟨(txt_bs hkb (by omega)).append (txt_bs hmb (by omega)), by rw [List.length_append, txt_length, txt_length, hkl]; unfold Len; omega⟩)
  have hlt := hm.lt
  have HL := Lib.hid hlt
  have HK := Lib.hid hkl
  clear hk hm hT hkb hmb hlt hml hkl
  go_enter Tryz.func37, Tryz.ntmps37
  go_wp2_with fail
  refine h1.out.mono ?_
  rintro e w1 ⟨v1, rfl, ho, hk1⟩
  have HO := Lib.hid ho
  have HM := Lib.hid (H.out.1.kp hk1)
  clear ho h1
  go_wp2_with fail
  refine (zzText_any w.heap.size v1 vm (txt k) m w1 HO.out HM.out hk1.size (fun b h1 h2 => by have := HO.out.ge b h2; have := HL.out b h1; omega) (by rw [txt_length, HK.out]; omega) (by have := H.out.2.2; omega)).mono ?_
  rintro e w2 ⟨v2, rfl, ho, ha⟩
  have k2 : Kp [] w w2 := ha.own hk1 HO.out (Nat.le_refl _)
  have HO2 := Lib.hid ho.byt
  clear ho ha
  go_wp2_with fail
  refine (sum_any kt v2 (txt k ++ txt m) w2 HO2.out HS.out.2 (H.out.2.1.kp k2) HS.out.1).mono ?_
  rintro e w3 h3
  obtain ⟨v3, rfl, ho, hk⟩ := h3.kp k2
  have HO3 := Lib.hid (And.intro ho hk)
  clear ho hk h3
  go_wp2
  go_ret
  exact ⟨v3, rfl, HO3.out⟩

set_option maxRecDepth 100000 in
theorem verifySig_any (kt : Nat → Int) (b : Nat) (vk vm vs : Value) (k m s : List Int) (w : World) (hb : KeyAt w b vk k) (hm : Byt w vm m) (hs : Byt w vs s) (hkl : k.length = 2) (hml : m.length = 60 ∨ m.length = 124) (hT : Tab kt w) (hkb : Bs k) (hmb : Bs m) (hsb : Bs s) :
    Calls Tryz.prog 162 #[.pointer (some ⟨b, 0, none⟩), vm, vs] w fun e w' => e = .returned (.bool (decide (sgn kt k m = s))) ∧ Kp [] w w' := by
  have c0 : w.cell? ⟨b, 0, none⟩ = some vk := hb.1.cell rfl
  have H := Lib.hid (zzSign_any kt vk vm k m w hb.2 hm hkl hml hT hkb hmb)
  have HS := Lib.hid (And.intro hs hsb)
  clear hb hm hT hs hsb
  go_enter Tryz.func162, Tryz.ntmps162
  go_wp2_with fail
  refine H.out.mono ?_
  rintro e w1 ⟨v1, rfl, ho, hk⟩
  have HO := Lib.hid (And.intro ho.byt hk)
  clear ho
  go_wp2_with fail
  refine (bytesEqual_any v1 vs (sgn kt k m) s w1 HO.out.1 (HS.out.1.kp hk) (sgn_bs _ _ _) HS.out.2).mono ?_
  rintro e w2 ⟨rfl, rfl⟩
  go_wp2
  go_ret
  exact ⟨rfl, HO.out.2⟩
end Go.Proofs.YtfkaldaflnmfiaaGreatDoor
/- Contracts of votes: turned into the package's, and signed. -/
namespace Go.Proofs.YtfkaldaflnmfiaaGreatDoor
set_option linter.unusedSimpArgs false
set_option linter.unusedVariables false
open Go Go.RowKit

/-- A vote of the thin package, as a value. -/
def voteV (V : VD) (vh vp va vs : Value) : Array Value := #[.int .i64 V.typ, .int .i64 V.height, .int .i64 V.round, vh, .int .i64 V.total, vp, .int .i64 V.time, va, .int .i64 V.index, vs, .slice none 0 0, .slice none 0 0]
/-- A vote of the package, as its cells. -/
def voteC (V : VD) (vh vp va vs : Value) : Array Value := #[.int .i32 V.typ, .int .i64 V.height, .int .i32 V.round, vh, .int .u32 V.total, vp, .int .i64 V.time, va, .int .i32 V.index, vs, .slice none 0 0, .slice none 0 0]
/-- The slices of a vote read as they must. -/
structure VoteB (w : World) (V : VD) (vh vp va vs : Value) : Prop where
  hash : Byt w vh V.hash
  parts : Byt w vp V.parts
  addr : Byt w va V.addr
  sig : Byt w vs V.sig
theorem VoteB.kp {w w' : World} {V : VD} {vh vp va vs : Value} (h : VoteB w V vh vp va vs) (k : Kp [] w w') : VoteB w' V vh vp va vs := ⟨h.hash.kp k, h.parts.kp k, h.addr.kp k, h.sig.kp k⟩

theorem Byt.form {w : World} {v : Value} {l : List Int} (h : Byt w v l) : ∃ a n c, v = .slice a n c := by
  rcases h with ⟨rfl, _⟩ | ⟨b, o, c, rfl, _⟩
  · exact ⟨_, _, _, rfl⟩
  · exact ⟨_, _, _, rfl⟩

theorem toID_any (t : Int) (ah ap : Option Addr) (nh ch np cp : Nat) (w : World) (h0 : 0 ≤ t) (h1 : t ≤ 1000) :
    Calls Tryz.prog 46 #[.agg #[.slice ah nh ch, .int .i64 t, .slice ap np cp]] w fun e w' => e = .returned (.agg #[.slice ah nh ch, .int .u32 t, .slice ap np cp]) ∧ Kp [] w w' := by
  go_enter Tryz.func46, Tryz.ntmps46
  go_wp2
  go_returns
  refine ⟨rfl, ?_⟩
  exact ((Kp.refl [] w).alloc _).alloc _

set_option maxRecDepth 100000 in
theorem toVote_any (V : VD) (hV : V.ok) (vh vp va vs : Value) (w : World) (hB : VoteB w V vh vp va vs) :
    Calls Tryz.prog 27 #[.agg (voteV V vh vp va vs)] w fun e w' => ∃ g, e = .returned (.pointer (some ⟨g, 0, none⟩)) ∧ w.heap.size ≤ g ∧ Blk w' g (voteC V vh vp va vs) 105 ∧ Kp [] w w' := by
  have w1 : IntKind.i32.wrap V.typ = V.typ := IntWalk.i32_in _ (by have := hV.typ; omega)
  have w2 : IntKind.i32.wrap V.round = V.round := IntWalk.i32_in _ (by have := hV.round; omega)
  have w3 : IntKind.i32.wrap V.index = V.index := IntWalk.i32_in _ (by have := hV.index; omega)
  have HV := Lib.hid hV
  obtain ⟨ah, nh, ch, rfl⟩ := hB.hash.form
  obtain ⟨ap, np, cp, rfl⟩ := hB.parts.form
  obtain ⟨aa, na, ca, rfl⟩ := hB.addr.form
  obtain ⟨az, ns, cs, rfl⟩ := hB.sig.form
  clear hV hB
  unfold voteV
  go_enter Tryz.func27, Tryz.ntmps27
  go_wp2_with fail
  have hb := Blk.new w (voteV V (.slice ah nh ch) (.slice ap np cp) (.slice aa na ca) (.slice az ns cs)) 35
  have k1 := (Kp.refl [] w).alloc (.cells (voteV V (.slice ah nh ch) (.slice ap np cp) (.slice aa na ca) (.slice az ns cs)) 35)
  unfold voteV at hb k1
  generalize w.alloc (.cells #[.int .i64 V.typ, .int .i64 V.height, .int .i64 V.round, .slice ah nh ch, .int .i64 V.total, .slice ap np cp, .int .i64 V.time, .slice aa na ca, .int .i64 V.index, .slice az ns cs, .slice none 0 0, .slice none 0 0] 35) = wA at *
  obtain ⟨p, ep⟩ : ∃ p, p = w.heap.size := ⟨_, rfl⟩
  rw [← ep] at hb ⊢
  have hlt := hb.lt
  have hb := Lib.hid hb
  have S : ∀ W, Kp [] wA W → W.cell? ⟨p, 0, none⟩ = some (.int .i64 V.typ) ∧ W.cell? ⟨p, 1, none⟩ = some (.int .i64 V.height) ∧ W.cell? ⟨p, 2, none⟩ = some (.int .i64 V.round) ∧ W.cell? ⟨p, 3, none⟩ = some (.slice ah nh ch) ∧ W.cell? ⟨p, 4, none⟩ = some (.int .i64 V.total) ∧ W.cell? ⟨p, 5, none⟩ = some (.slice ap np cp) ∧ W.cell? ⟨p, 6, none⟩ = some (.int .i64 V.time) ∧ W.cell? ⟨p, 7, none⟩ = some (.slice aa na ca) ∧ W.cell? ⟨p, 8, none⟩ = some (.int .i64 V.index) ∧ W.cell? ⟨p, 9, none⟩ = some (.slice az ns cs) ∧ W.cell? ⟨p, 10, none⟩ = some (.slice none 0 0) ∧ W.cell? ⟨p, 11, none⟩ = some (.slice none 0 0) := fun W k =>
    ⟨hb.out.all 0 rfl W k, hb.out.all 1 rfl W k, hb.out.all 2 rfl W k, hb.out.all 3 rfl W k, hb.out.all 4 rfl W k, hb.out.all 5 rfl W k, hb.out.all 6 rfl W k, hb.out.all 7 rfl W k, hb.out.all 8 rfl W k, hb.out.all 9 rfl W k, hb.out.all 10 rfl W k, hb.out.all 11 rfl W k⟩
  have HS := Lib.hid S
  have HK := Lib.hid (And.intro k1 ep)
  clear S k1 ep
  go_region_held3 (fun W => W.cell? ⟨p, 0, none⟩ = some (.int .i64 V.typ) ∧ W.cell? ⟨p, 1, none⟩ = some (.int .i64 V.height) ∧ W.cell? ⟨p, 2, none⟩ = some (.int .i64 V.round) ∧ W.cell? ⟨p, 3, none⟩ = some (.slice ah nh ch) ∧ W.cell? ⟨p, 4, none⟩ = some (.int .i64 V.total) ∧ W.cell? ⟨p, 5, none⟩ = some (.slice ap np cp) ∧ W.cell? ⟨p, 6, none⟩ = some (.int .i64 V.time) ∧ W.cell? ⟨p, 7, none⟩ = some (.slice aa na ca) ∧ W.cell? ⟨p, 8, none⟩ = some (.int .i64 V.index) ∧ W.cell? ⟨p, 9, none⟩ = some (.slice az ns cs) ∧ W.cell? ⟨p, 10, none⟩ = some (.slice none 0 0) ∧ W.cell? ⟨p, 11, none⟩ = some (.slice none 0 0))
    (first | exact HS.out _ (Kp.refl [] wA).drew | exact HS.out _ hk2 | exact HS.out _ (hk2.alloc _))
    (first | (go_at_call 46; refine (toID_any V.total ah ap nh ch np cp wA.drew HV.out.total.1 HV.out.total.2).mono ?_; rintro e W ⟨rfl, hk1⟩; have hk2 := (Kp.refl [] wA).drew.trans hk1))
  go_wp2
  go_ret
  refine ⟨W.heap.size, rfl, ?_, Blk.new W _ 105, (HK.out.1.trans hk2).alloc _⟩
  have := (HK.out.1.trans hk2).size
  omega

end Go.Proofs.YtfkaldaflnmfiaaGreatDoor
/- Contracts of a vote's signing, of addresses as texts, and of a validator's making. -/
namespace Go.Proofs.YtfkaldaflnmfiaaGreatDoor
set_option linter.unusedSimpArgs false
set_option linter.unusedVariables false
open Go Go.RowKit

/-- The signature of a vote by a key. -/
def VD.signed (kt : Nat → Int) (k : List Int) (V : VD) : VD := { V with sig := sgn kt k (sb V) }
theorem sb_length (V : VD) (hV : V.ok) : (sb V).length = 60 + V.hash.length + V.parts.length := by
  simp [sb, le8_length, idb_length, txt_length, evi]
  omega
theorem sb_bs (V : VD) (hV : V.ok) : Bs (sb V) := by
  have h1 := hV.typ
  have h2 := hV.height
  have h3 := hV.round
  have h4 := hV.time
  have h5 := hV.total
  have hh := hV.hash
  have hp := hV.parts
  unfold sb
  refine ((((Bs.append ?_ (le8_bs _ h2.1 (by omega))).append (le8_bs _ h3.1 (by omega))).append ((txt_bs hh.1 (by omega)).append (hdr_bs h5.1 (by omega) hp.1 (by omega)))).append (le8_bs _ h4.1 (by omega))).append (txt_bs (by intro x hx; simp [evi] at hx; omega) (by decide))
  intro x hx
  simp at hx
  omega

set_option maxRecDepth 100000 in
theorem signVote_any (kt : Nat → Int) (V : VD) (hV : V.ok) (hlen : (V.hash.length = 0 ∧ V.parts.length = 0) ∨ (V.hash.length = 32 ∧ V.parts.length = 32)) (vh vp va vs vk : Value) (k : List Int) (w : World) (hB : VoteB w V vh vp va vs) (hk : Byt w vk k) (hkl : k.length = 2) (hkb : Bs k) (hT : Tab kt w) :
    Calls Tryz.prog 22 #[.string ⟨#[101, 118, 105]⟩, .agg (voteV V vh vp va vs), vk] w fun e w' => ∃ vs', e = .returned (.agg (voteV V vh vp va vs')) ∧ Own w' w.heap.size vs' (sgn kt k (sb V)) ∧ Kp [] w w' := by
  obtain ⟨ah, nh, ch, rfl⟩ := hB.hash.form
  obtain ⟨ap, np, cp, rfl⟩ := hB.parts.form
  obtain ⟨aa, na, ca, rfl⟩ := hB.addr.form
  obtain ⟨az, ns, cs, rfl⟩ := hB.sig.form
  have HB := Lib.hid hB
  have HV := Lib.hid hV
  have H := Lib.hid (And.intro hk (And.intro hkl (And.intro hkb (And.intro hT hlen))))
  clear hB hV hk hkl hkb hT hlen
  have hz := Lib.hid (show (Tryz.prog.info? 35).map (·.size) = some 12 by kernel_rfl)
  unfold voteV
  go_enter Tryz.func22, Tryz.ntmps22
  go_wp2_with fail
  have hbp := (Blk.new w (voteV V (.slice ah nh ch) (.slice ap np cp) (.slice aa na ca) (.slice az ns cs)) 35)
  unfold voteV at hbp
  have hs0 : (w.alloc (.cells #[.int .i64 V.typ, .int .i64 V.height, .int .i64 V.round, .slice ah nh ch, .int .i64 V.total, .slice ap np cp, .int .i64 V.time, .slice aa na ca, .int .i64 V.index, .slice az ns cs, .slice none 0 0, .slice none 0 0] 35)).heap.size = w.heap.size + 1 := by simp
  have k0 := (Kp.refl [] w).alloc (.cells #[.int .i64 V.typ, .int .i64 V.height, .int .i64 V.round, .slice ah nh ch, .int .i64 V.total, .slice ap np cp, .int .i64 V.time, .slice aa na ca, .int .i64 V.index, .slice az ns cs, .slice none 0 0, .slice none 0 0] 35)
  generalize w.alloc (.cells #[.int .i64 V.typ, .int .i64 V.height, .int .i64 V.round, .slice ah nh ch, .int .i64 V.total, .slice ap np cp, .int .i64 V.time, .slice aa na ca, .int .i64 V.index, .slice az ns cs, .slice none 0 0, .slice none 0 0] 35) = w0 at *
  have hbr := Blk.new w0 #[.int .i64 0, .int .i64 0, .int .i64 0, .slice none 0 0, .int .i64 0, .slice none 0 0, .int .i64 0, .slice none 0 0, .int .i64 0, .slice none 0 0, .slice none 0 0, .slice none 0 0] 35
  have hbp := hbp.alloc (.cells #[.int .i64 0, .int .i64 0, .int .i64 0, .slice none 0 0, .int .i64 0, .slice none 0 0, .int .i64 0, .slice none 0 0, .int .i64 0, .slice none 0 0, .slice none 0 0, .slice none 0 0] 35)
  have k0 := k0.alloc (.cells #[.int .i64 0, .int .i64 0, .int .i64 0, .slice none 0 0, .int .i64 0, .slice none 0 0, .int .i64 0, .slice none 0 0, .int .i64 0, .slice none 0 0, .slice none 0 0, .slice none 0 0] 35)
  rw [hs0] at hbr
  generalize w0.alloc (.cells #[.int .i64 0, .int .i64 0, .int .i64 0, .slice none 0 0, .int .i64 0, .slice none 0 0, .int .i64 0, .slice none 0 0, .int .i64 0, .slice none 0 0, .slice none 0 0, .slice none 0 0] 35) = w1 at *
  clear hs0
  have HBK := Lib.hid (And.intro hbp hbr)
  refine (toVote_any V HV.out _ _ _ _ w1 (HB.out.kp k0)).mono ?_
  rintro e w2 ⟨g, rfl, hg, hgb, hk2⟩
  have k2 := k0.trans hk2
  have HG := Lib.hid hgb
  have HK2 := Lib.hid hk2
  clear hbp hbr hgb hk2
  go_wp2_with fail
  refine (signBytes_any g V HV.out _ _ _ _ w2 HG.out (HB.out.hash.kp k2) (HB.out.parts.kp k2)).mono ?_
  rintro e w3 ⟨v3, rfl, ho3, hk3⟩
  have k3 := k2.trans hk3
  have HO3 := Lib.hid ho3.byt
  have HK3 := Lib.hid (HK2.out.trans hk3)
  clear ho3 hk3 HK2
  go_wp2_with fail
  refine (zzSign_any kt vk v3 k (sb V) w3 (H.out.1.kp k3) HO3.out H.out.2.1 (by rw [sb_length V HV.out]; have := H.out.2.2.2.2; omega) (H.out.2.2.2.1.kp k3) H.out.2.2.1 (sb_bs V HV.out)).mono ?_
  rintro e w4 ⟨v4, rfl, ho4, hk4⟩
  have k4 := k3.trans hk4
  have k14 := HK3.out.trans hk4
  have hbp4 := k14.blk HBK.out.1 (by simp)
  have hbr4 := k14.blk HBK.out.2 (by simp)
  have hlt3 : w.heap.size + 1 < w3.heap.size := Nat.lt_of_lt_of_le HBK.out.2.lt HK3.out.size
  have hf := ho4.byt.form
  obtain ⟨a4, n4, c4, rfl⟩ := hf
  have c9 : w4.cell? ⟨w.heap.size, 9, none⟩ = some (.slice az ns cs) := hbp4.cell rfl
  have f9 := hbp4.free 9
  have hb5 := hbp4.set 9 (.slice a4 n4 c4)
  have hr5 := hbr4.other (p := ⟨w.heap.size, 9, none⟩) (by show w.heap.size + 1 ≠ w.heap.size; omega) (.slice a4 n4 c4)
  have k5 := k4.set (p := ⟨w.heap.size, 9, none⟩) (.inr (Nat.le_refl _)) (.slice a4 n4 c4)
  have hs5 : Kp [w.heap.size] w4 (w4.setCell ⟨w.heap.size, 9, none⟩ (.slice a4 n4 c4)) := (Kp.refl _ _).set (.inl (by simp)) _
  have ho5 : Own (w4.setCell ⟨w.heap.size, 9, none⟩ (.slice a4 n4 c4)) w3.heap.size (.slice a4 n4 c4) (sgn kt k (sb V)) := ho4.kpS hs5 (fun b hb hm => by have := ho4.ge b hb; simp at hm; omega)
  have HO4 := Lib.hid (And.intro ho5 (And.intro k5 (And.intro hb5 hr5)))
  clear k4 k14 hbp4 hbr4 ho4 ho5 hs5 hk4 hb5 hr5 k5 k3 k2 HK3 HO3
  go_upto_region 2 with fail
  generalize w4.setCell ⟨w.heap.size, 9, none⟩ (.slice a4 n4 c4) = w5 at *
  clear c9 f9
  have hb5 : Blk w5 w.heap.size (voteV V (.slice ah nh ch) (.slice ap np cp) (.slice aa na ca) (.slice a4 n4 c4)) 35 := HO4.out.2.2.1
  have hr5 := HO4.out.2.2.2
  have hk5 := HO4.out.2.1
  have HO5 := Lib.hid HO4.out.1
  clear HO4
  generalize hcs : voteV V (.slice ah nh ch) (.slice ap np cp) (.slice aa na ca) (.slice a4 n4 c4) = cs5 at hb5 ⊢
  have hsz : cs5.size = 12 := by rw [← hcs]; rfl
  have h1 : cs5.all (·.oneCell') = true := by rw [← hcs]; simp [voteV, Value.oneCell']
  have hi : (Tryz.prog.info? 35).map (·.size) = some cs5.size := by rw [hsz]; exact hz.out
  have HC := Lib.hid hcs
  have H5 := Lib.hid (And.intro hb5 (And.intro hr5 (And.intro hk5 (And.intro hsz (And.intro h1 hi)))))
  clear hb5 hr5 hk5 hsz h1 hi hcs
  go_wp2_with (first | (refine kit_load rfl 35 (.tmp 4) rfl (some 14) rfl w.heap.size rfl cs5 35 H5.out.1 _ Tryz.underlying35 rfl H5.out.2.2.2.2.2 ?_) | (refine kit_store rfl 35 (.tmp 6) (.tmp 14) rfl rfl (w.heap.size + 1) cs5 _ 35 rfl rfl H5.out.2.1 H5.out.2.2.2.2.2 (by rw [H5.out.2.2.2.1]; rfl) H5.out.2.2.2.2.1 ?_))
  intro w6 hb6 hk6
  go_wp2
  refine bodyPost_ret (v := .agg cs5) ?_ ?_ ?_
  · exact results_cell_row rfl _ w6 (w.heap.size + 1) 35 cs5 (0, 0) _ rfl hb6 Tryz.underlying35 rfl H5.out.2.2.2.2.2
  · rfl
  refine ⟨.slice a4 n4 c4, by rw [← HC.out]; rfl, ?_, ?_⟩
  · refine (HO5.out.kpS hk6 ?_).mono (by omega)
    intro b hb hm
    have := HO5.out.ge b hb
    simp at hm
    omega
  · exact H5.out.2.2.1.then hk6 (fun i hi hm => by simp at hm; omega)
end Go.Proofs.YtfkaldaflnmfiaaGreatDoor
/- Contracts of addresses as texts, and of a validator's making. -/
namespace Go.Proofs.YtfkaldaflnmfiaaGreatDoor
set_option linter.unusedSimpArgs false
set_option linter.unusedVariables false
open Go Go.RowKit


/-- A key as the package's interface. -/
def keyI (b : Nat) : Value := .iface 127 (.pointer (some ⟨b, 0, none⟩))

theorem zzKey_any (a : Option Addr) (n c : Nat) (w : World) :
    Calls Tryz.prog 36 #[.slice a n c] w fun e w' => e = .returned (keyI w.heap.size) ∧ Blk w' w.heap.size #[.slice a n c] 129 ∧ Kp [] w w' := by
  go_enter Tryz.func36, Tryz.ntmps36
  go_wp2
  go_ret
  exact ⟨rfl, Blk.new w _ 129, (Kp.refl [] w).alloc _⟩

theorem address_any (kt : Nat → Int) (vk : Value) (k : List Int) (w : World) (hk : Byt w vk k) (hn : k.length = 2) (hT : Tab kt w) (hl : Bs k) :
    Calls Tryz.prog 21 #[vk] w (Reads w (addr kt k)) := by
  obtain ⟨a, n, c, rfl⟩ := hk.form
  have H := Lib.hid (And.intro hk (And.intro hn (And.intro hT hl)))
  clear hk hn hT hl
  go_enter Tryz.func21, Tryz.ntmps21
  go_wp2_with fail
  refine (zzKey_any a n c w).mono ?_
  rintro e w1 ⟨rfl, hb, k1⟩
  unfold keyI
  have HB := Lib.hid hb
  clear hb
  go_wp2_with fail
  refine (keyAddress_any kt w.heap.size _ k w1 ⟨HB.out, H.out.1.kp k1⟩ H.out.2.1 (H.out.2.2.1.kp k1) H.out.2.2.2).mono ?_
  rintro e w2 ⟨b2, c2, rfl, hr, k2⟩
  have HR := Lib.hid (And.intro hr (k1.trans k2))
  clear hr k2
  go_wp2
  go_ret
  exact ⟨b2, c2, rfl, HR.out⟩

theorem netAddr_any (kt : Nat → Int) (vk : Value) (k : List Int) (w : World) (hk : Byt w vk k) (hn : k.length = 2) (hT : Tab kt w) (hl : Bs k) :
    Calls Tryz.prog 17 #[vk] w fun e w' => e = .returned (.string (strOfNums (addr kt k))) ∧ Kp [] w w' := by
  have H := Lib.hid (address_any kt vk k w hk hn hT hl)
  clear hk hn hT hl
  go_enter Tryz.func17, Tryz.ntmps17
  go_wp2_with fail
  refine H.out.mono ?_
  rintro e w1 ⟨b1, c1, rfl, hr, k1⟩
  have hcv := run_string w1 hr 22 Tryz.underlying22
  have K1 := Lib.hid k1
  clear hr k1
  go_wp2
  go_ret
  exact ⟨rfl, K1.out⟩

/-- A validator in memory: its address, its key, its power, its priority. -/
structure Vl where
  p : Nat
  ab : Nat
  ac : Nat
  kb : Nat
  vk : Value
  key : List Int
  pow : Int
def Vl.cells (V : Vl) (pr : Int) : Array Value := #[.slice (some ⟨V.ab, 0, none⟩) 20 V.ac, keyI V.kb, .int .i64 V.pow, .int .i64 pr]
/-- What of a validator never turns. -/
structure VlOk (kt : Nat → Int) (w : World) (V : Vl) : Prop where
  addr : Byt w (.slice (some ⟨V.ab, 0, none⟩) 20 V.ac) (addr kt V.key)
  key : KeyAt w V.kb V.vk V.key
  len : V.key.length = 2
  bs : Bs V.key

set_option maxRecDepth 100000 in
theorem newValidator_any (kt : Nat → Int) (kb : Nat) (vk : Value) (k : List Int) (pow : Int) (w : World) (hk : KeyAt w kb vk k) (hn : k.length = 2) (hT : Tab kt w) (hl : Bs k) :
    Calls Tryz.prog 60 #[keyI kb, .int .i64 pow] w fun e w' => ∃ V : Vl, e = .returned (.pointer (some ⟨V.p, 0, none⟩)) ∧ w.heap.size ≤ V.p ∧ V.key = k ∧ V.pow = pow ∧ VlOk kt w' V ∧ Blk w' V.p (V.cells 0) 107 ∧ Kp [] w w' := by
  have H := Lib.hid (And.intro hk (And.intro hn (And.intro hT hl)))
  clear hk hn hT hl
  unfold keyI
  go_enter Tryz.func60, Tryz.ntmps60
  go_wp2_with fail
  refine (keyAddress_any kt kb vk k w H.out.1 H.out.2.1 H.out.2.2.1 H.out.2.2.2).mono ?_
  rintro e w1 ⟨b1, c1, rfl, hr, k1⟩
  rw [addr_length] at hr ⊢
  have HR := Lib.hid (And.intro hr k1)
  clear hr k1
  go_wp2
  go_ret
  refine ⟨⟨w1.heap.size, b1, c1, kb, vk, k, pow⟩, rfl, HR.out.2.size, rfl, rfl, ?_, Blk.new w1 _ 107, HR.out.2.alloc _⟩
  exact ⟨HR.out.1.alloc _, (H.out.1.kp HR.out.2).kp ((Kp.refl [] w1).alloc _), H.out.2.1, H.out.2.2.2⟩
end Go.Proofs.YtfkaldaflnmfiaaGreatDoor
/- Contracts of bytes.Compare, and of the sort by address. -/
namespace Go.Proofs.YtfkaldaflnmfiaaGreatDoor
set_option linter.unusedSimpArgs false
set_option linter.unusedVariables false
open Go Go.RowKit

theorem run_bytesOf (w : World) {v : Value} {l : List Int} (h : Byt w v l) : (Extern.Bytes.bytesOf v).run Tryz.prog w = .ok ⟨(Lib.bytesOf l).toArray⟩ w := by
  rcases h with ⟨rfl, rfl⟩ | ⟨b, o, c, rfl, h1, h2, h3⟩
  · rfl
  · have := Lib.run_loadBytesX (P := Tryz.prog) (w := w) l ⟨b, o, none⟩ .empty (fun j x hx => by
      rw [add_plain, h3 j (List.getElem?_eq_some_iff.1 hx).1, List.getD_eq_getElem?_getD, hx]
      rfl)
    have e : (#[] ++ (Lib.bytesOf l).toArray : Array UInt8) = (Lib.bytesOf l).toArray := by simp
    rw [show ByteArray.empty.data = #[] from rfl, e] at this
    exact this
def cmpB (a b : List Int) : Int := Lib.compareBytes (Lib.bytesOf a) (Lib.bytesOf b)
theorem compareBytes_zero : ∀ a b : List UInt8, Lib.compareBytes a b = 0 ↔ a = b
  | [], [] => by simp [Lib.compareBytes]
  | [], _ :: _ => by simp [Lib.compareBytes]
  | _ :: _, [] => by simp [Lib.compareBytes]
  | x :: a, y :: b => by
    unfold Lib.compareBytes
    by_cases h : x < y
    · have := UInt8.ne_of_lt h
      simp [h, this]
    · by_cases h' : y < x
      · have := (UInt8.ne_of_lt h').symm
        simp [h, h', this]
      · have e : x = y := UInt8.le_antisymm (UInt8.not_lt.1 h') (UInt8.not_lt.1 h)
        subst e
        simp [h, compareBytes_zero a b]
theorem cmpB_zero {a b : List Int} (ha : Bs a) (hb : Bs b) : cmpB a b = 0 ↔ a = b := by
  unfold cmpB
  rw [compareBytes_zero]
  exact ⟨fun h => eq_of_Bs ha hb h, fun h => by rw [h]⟩

theorem run_compare (w : World) {va vb : Value} {a b : List Int} (ha : Byt w va a) (hb : Byt w vb b) : (callFunc 107 #[va, vb]).run Tryz.prog w = .ok (.value (.int .i64 (cmpB a b))) w := by
  rw [run_callFunc_extern Tryz.func107 (by kernel_rfl) (by kernel_rfl) (by kernel_rfl) (e := Extern.BytealgCompare.compare) (by kernel_rfl)]
  have e : (Extern.BytealgCompare.compare #[va, vb]).run Tryz.prog w = .ok (.int .i64 (cmpB a b)) w := by
    change Sem.run Tryz.prog (do pure (goInt (Extern.BytealgCompare.cmp (← Extern.Bytes.bytesOf va) (← Extern.Bytes.bytesOf vb)))) w = _
    simp only [Sem.run_bind, Sem.run_pure, run_bytesOf w ha, run_bytesOf w hb, Result.andThen]
    rw [Lib.cmp_eq]
    rfl
  rw [e]
  rfl

set_option maxRecDepth 100000 in
theorem bytes_compare (va vb : Value) (a b : List Int) (w : World) (ha : Byt w va a) (hb : Byt w vb b) :
    Calls Tryz.prog 97 #[va, vb] w fun e w' => e = .returned (.int .i64 (cmpB a b)) ∧ w = w' := by
  have hc := run_compare w ha hb
  clear ha hb
  go_enter Tryz.func97, Tryz.ntmps97
  go_wp2
  go_ret
  exact ⟨rfl, rfl⟩
end Go.Proofs.YtfkaldaflnmfiaaGreatDoor
