/- Contracts of the writers of numbers and texts. -/
import Derived.WalkKit
import Derived.WalkSpells
import Derived.WalkLawsBesides
import Derived.Handy
import Derived.Lib.Hide
import Derived.IntWalk
import Derived.Deep.RegionHeld3
import Derived.Test.YtfkaldaflnmfiaaGreatDoorKNat2
import Derived.Lib.SlBytesConst
namespace Go.Proofs.YtfkaldaflnmfiaaGreatDoor
set_option linter.unusedSimpArgs false
set_option linter.unusedVariables false
open Go Go.RowKit

def le8 (x : Int) : List Int := [x % 256, x / 256 % 256, x / 65536 % 256, x / 16777216 % 256, x / 4294967296 % 256, x / 1099511627776 % 256, x / 281474976710656 % 256, x / 72057594037927936]
theorem le8_length (x : Int) : (le8 x).length = 8 := rfl
theorem le8_bs (x : Int) (h0 : 0 ≤ x) (h1 : x ≤ 9223372036854775807) : Bs (le8 x) := by
  intro y hy
  simp only [le8, List.mem_cons, List.not_mem_nil, or_false] at hy
  omega
/-- What a writer hands back: the slice, longer. -/
def Grew (B : Nat) (w : World) (v : Value) (l : List Int) (e : Ending) (w' : World) : Prop := ∃ v', e = .returned v' ∧ Own w' B v' l ∧ Apd w v v' w'
/-- A new slice. -/
def Fresh (w : World) (l : List Int) (e : Ending) (w' : World) : Prop := ∃ v', e = .returned v' ∧ Own w' w.heap.size v' l ∧ Kp [] w w'
theorem Grew.fresh {w : World} {l : List Int} {e : Ending} {w' : World} (h : Grew w.heap.size w (.slice none 0 0) l e w') : Fresh w l e w' := by
  obtain ⟨v', h1, h2, h3⟩ := h
  exact ⟨v', h1, h2, h3.nil⟩

set_option maxRecDepth 100000 in
theorem zzNumber_any (B : Nat) (v : Value) (l : List Int) (x : Int) (w : World) (hown : Own w B v l) (hB : B ≤ w.heap.size) (hl : l.length ≤ 1000000) (h0 : 0 ≤ x) (h1 : x ≤ 9223372036854775807) :
    Calls Tryz.prog 63 #[v, .int .i64 x] w (Grew B w v (l ++ le8 x)) := by
  have H := Lib.hid hown
  clear hown
  go_enter Tryz.func63, Tryz.ntmps63
  go_wp2_with (at_builtin; refine kit_append rfl _ _ 22 Tryz.underlying22 rfl (B := B) (l := l) (m := le8 x) rfl (H.out.alloc _) rfl ?c1 (by rw [le8_length]; omega) (by simp; omega) ?_)
  case c1 =>
    refine Byt.of_cells (l := le8 x) (Nat.le_of_eq (le8_length x)) (by simp) ?_
    intro j hj
    have hj8 : j < 8 := hj
    have e : j = 0 ∨ j = 1 ∨ j = 2 ∨ j = 3 ∨ j = 4 ∨ j = 5 ∨ j = 6 ∨ j = 7 := by omega
    rcases e with rfl | rfl | rfl | rfl | rfl | rfl | rfl | rfl <;> simp [le8]
  intro v' w' ho ha
  have HO := Lib.hid (And.intro ho ha)
  clear ho ha
  go_wp2
  go_ret
  exact ⟨v', rfl, HO.out.1, HO.out.2.pre ((Kp.refl [] w).alloc _)⟩

/-- A text with its length ahead. -/
def txt (m : List Int) : List Int := le8 m.length ++ m
theorem txt_length (m : List Int) : (txt m).length = m.length + 8 := by simp [txt, le8_length]; omega
theorem txt_bs {m : List Int} (hm : Bs m) (hl : m.length ≤ 1000000) : Bs (txt m) := (le8_bs _ (by omega) (by omega)).append hm

set_option maxRecDepth 100000 in
theorem zzText_any (B : Nat) (v vb : Value) (l m : List Int) (w : World) (hown : Own w B v l) (hm : Byt w vb m) (hB : B ≤ w.heap.size) (hne : ∀ b, vb.ownBlock = some b → v.ownBlock ≠ some b) (hl : l.length ≤ 1000000) (hlm : m.length ≤ 1000000) :
    Calls Tryz.prog 62 #[v, vb] w (Grew B w v (l ++ txt m)) := by
  have hn := zzNumber_any B v l (m.length : Int) w hown hB hl (by omega) (by omega)
  have H := Lib.hid hn
  have HM := Lib.hid hm
  clear hown hn
  rcases hm with ⟨rfl, rfl⟩ | ⟨b, o, c, rfl, h1, h2, h3⟩
  all_goals
    have HN := Lib.hid hne
    clear hne
    try clear h3
    go_enter Tryz.func62, Tryz.ntmps62
    go_wp2_with fail
    refine H.out.mono ?_
    rintro e w1 ⟨v1, rfl, ho, ha⟩
    have HO := Lib.hid ho
    have HA := Lib.hid ha
    have HM1 := Lib.hid (HM.out.kpS ha.kp (fun b hb hm => HN.out b hb (mem_ownL.1 hm)))
    have hB1 : B ≤ w1.heap.size := Nat.le_trans hB ha.kp.size
    clear ho ha
    go_wp2_with (at_builtin; refine kit_append rfl _ _ 22 Tryz.underlying22 rfl rfl HO.out rfl HM1.out ?c1 hB1 ?_)
    case c1 => simp [le8_length]; omega
    intro v' w' ho ha
    have HO2 := Lib.hid (And.intro ho ha)
    clear ho ha
    go_wp2
    go_ret
    exact ⟨v', rfl, by simpa [txt] using HO2.out.1, HA.out.trans HO2.out.2⟩

theorem zzNumber_nil (x : Int) (w : World) (h0 : 0 ≤ x) (h1 : x ≤ 9223372036854775807) : Calls Tryz.prog 63 #[.slice none 0 0, .int .i64 x] w (Fresh w (le8 x)) :=
  (zzNumber_any w.heap.size (.slice none 0 0) [] x w (Own.nil w _) (Nat.le_refl _) (by simp) h0 h1).mono fun _ _ h => h.fresh
theorem zzText_nil (vb : Value) (m : List Int) (w : World) (hm : Byt w vb m) (hl : m.length ≤ 1000000) : Calls Tryz.prog 62 #[.slice none 0 0, vb] w (Fresh w (txt m)) :=
  (zzText_any w.heap.size (.slice none 0 0) vb [] m w (Own.nil w _) hm (Nat.le_refl _) (by simp [Value.ownBlock]) (by simp) hl).mono fun _ _ h => h.fresh

def hdr (t : Int) (m : List Int) : List Int := le8 t ++ txt m
theorem hdr_length (t : Int) (m : List Int) : (hdr t m).length = m.length + 16 := by simp [hdr, txt_length, le8_length]; omega
theorem hdr_bs {t : Int} {m : List Int} (h0 : 0 ≤ t) (h1 : t ≤ 4294967295) (hm : Bs m) (hl : m.length ≤ 1000000) : Bs (hdr t m) := (le8_bs t h0 (by omega)).append (txt_bs hm hl)

set_option maxRecDepth 100000 in
theorem zzHeader_any (t : Int) (vh : Value) (m : List Int) (w : World) (hm : Byt w vh m) (h0 : 0 ≤ t) (h1 : t ≤ 4294967295) (hl : m.length ≤ 100000) :
    Calls Tryz.prog 70 #[.agg #[.int .u32 t, vh]] w (Fresh w (hdr t m)) := by
  go_enter Tryz.func70, Tryz.ntmps70
  go_wp2_with fail
  have hb := Blk.new w #[.int .u32 t, vh] 101
  have hlt := hm.lt
  have hm1 := hm.alloc (.cells #[.int .u32 t, vh] 101)
  have k1 := (Kp.refl [] w).alloc (.cells #[.int .u32 t, vh] 101)
  generalize w.alloc (.cells #[.int .u32 t, vh] 101) = wA at *
  have hle := hb.lt
  have c0 : wA.cell? ⟨w.heap.size, 0, none⟩ = some (.int .u32 t) := hb.cell rfl
  have c1 : wA.cell? ⟨w.heap.size, 1, none⟩ = some vh := hb.cell rfl
  have hw : IntKind.i64.wrap t = t := IntWalk.i64_in _ (by omega)
  have HLT := Lib.hid hlt
  have HM := Lib.hid hm1.drew
  have K1 := Lib.hid k1.drew
  clear hb hm1 k1 hm hlt
  go_region_held3 (fun W => W.cell? ⟨w.heap.size, 0, none⟩ = some (.int .u32 t) ∧ W.cell? ⟨w.heap.size, 1, none⟩ = some vh)
    (first | exact ⟨c0, c1⟩ | (refine ⟨(hb.cell (p := ⟨w.heap.size, 0, none⟩) hle (by simp)).trans c0, (hb.cell (p := ⟨w.heap.size, 1, none⟩) hle (by simp)).trans c1⟩))
    (first | (go_at_call 63; refine (zzNumber_nil t wA.drew h0 (by omega)).mono ?_; rintro e W ⟨v1, rfl, ho, hb⟩) | (go_at_call 62; refine (zzText_any wA.drew.heap.size v1 vh (le8 t) m W ho (HM.out.kp hb) hb.size (fun b h1 h2 => by have := ho.ge b h2; have := HLT.out b h1; have : wA.drew.heap.size = wA.heap.size := rfl; omega) (by rw [le8_length]; omega) (by omega)).mono ?_; rintro e W2 ⟨v2, rfl, ho2, ha2⟩; have hb0 := hb; have hb := ha2.own hb0 ho (Nat.le_refl _)))
  go_wp2
  go_ret
  exact ⟨v2, rfl, ho2.mono (Nat.le_of_lt hle), K1.out.trans hb⟩

def idb (h : List Int) (t : Int) (m : List Int) : List Int := txt h ++ hdr t m
theorem idb_length (h : List Int) (t : Int) (m : List Int) : (idb h t m).length = h.length + m.length + 24 := by simp [idb, hdr_length, txt_length]; omega

set_option maxRecDepth 100000 in
theorem zzID_any (t : Int) (vh vp : Value) (h m : List Int) (w : World) (hh : Byt w vh h) (hm : Byt w vp m) (h0 : 0 ≤ t) (h1 : t ≤ 4294967295) (hl : m.length ≤ 100000) (hlh : h.length ≤ 100000) :
    Calls Tryz.prog 64 #[.agg #[vh, .int .u32 t, vp]] w (Fresh w (idb h t m)) := by
  go_enter Tryz.func64, Tryz.ntmps64
  go_wp2_with fail
  have hb := Blk.new w #[vh, .int .u32 t, vp] 103
  have hh1 := (hh.alloc (.cells #[vh, .int .u32 t, vp] 103)).drew
  have hm1 := (hm.alloc (.cells #[vh, .int .u32 t, vp] 103)).drew
  have k1 := (Kp.refl [] w).alloc (.cells #[vh, .int .u32 t, vp] 103)
  clear hm hh
  generalize w.alloc (.cells #[vh, .int .u32 t, vp] 103) = wA at *
  have hlt := hb.lt
  have c0 : wA.cell? ⟨w.heap.size, 0, none⟩ = some vh := hb.cell rfl
  have c1 : wA.cell? ⟨w.heap.size, 1, none⟩ = some (.int .u32 t) := hb.cell rfl
  have c2 : wA.cell? ⟨w.heap.size, 2, none⟩ = some vp := hb.cell rfl
  have HH := Lib.hid hh1
  have HM := Lib.hid hm1
  have K1 := Lib.hid k1.drew
  clear hb hm1 hh1 k1
  have HL := Lib.hid (show (txt h).length + (hdr t m).length ≤ 1000000000 by rw [hdr_length, txt_length]; omega)
  go_region_held3 (fun W => W.cell? ⟨w.heap.size, 0, none⟩ = some vh ∧ W.cell? ⟨w.heap.size, 1, none⟩ = some (.int .u32 t) ∧ W.cell? ⟨w.heap.size, 2, none⟩ = some vp)
    (first | exact ⟨c0, c1, c2⟩ | (refine ⟨(hb.cell (p := ⟨w.heap.size, 0, none⟩) hlt (by simp)).trans c0, (hb.cell (p := ⟨w.heap.size, 1, none⟩) hlt (by simp)).trans c1, (hb.cell (p := ⟨w.heap.size, 2, none⟩) hlt (by simp)).trans c2⟩))
    (first | (go_at_call 62; refine (zzText_nil vh h wA.drew HH.out (by omega)).mono ?_; rintro e W ⟨v1, rfl, ho1, hb1⟩; have hb := hb1) | (go_at_call 70; refine (zzHeader_any t vp m W (HM.out.kp hb1) h0 h1 hl).mono ?_; rintro e W2 ⟨v2, rfl, ho2, hb2⟩; have hb := hb1.trans hb2) | (refine step_kit_append rfl _ _ 22 Tryz.underlying22 rfl rfl (ho1.kp hb2) rfl ho2.byt HL.out (Nat.le_trans hb1.size hb2.size) ?_; intro v3 W3 ho3 ha3; have hb := ha3.own (hb1.trans hb2) (ho1.kp hb2) (Nat.le_refl _)))
  go_wp2
  go_ret
  exact ⟨v3, rfl, ho3.mono (Nat.le_of_lt hlt), K1.out.trans hb⟩
end Go.Proofs.YtfkaldaflnmfiaaGreatDoor
/- Contracts of what is signed of a vote. -/
namespace Go.Proofs.YtfkaldaflnmfiaaGreatDoor
set_option linter.unusedSimpArgs false
set_option linter.unusedVariables false
open Go Go.RowKit

/-- A vote as plain data (without extensions). -/
structure VD where
  typ : Int
  height : Int
  round : Int
  hash : List Int
  total : Int
  parts : List Int
  time : Int
  addr : List Int
  index : Int
  sig : List Int

/-- The numbers of a vote are small. -/
structure VD.ok (V : VD) : Prop where
  typ : 0 ≤ V.typ ∧ V.typ ≤ 255
  height : 0 ≤ V.height ∧ V.height ≤ 1000
  round : 0 ≤ V.round ∧ V.round ≤ 1000
  total : 0 ≤ V.total ∧ V.total ≤ 1000
  time : 0 ≤ V.time ∧ V.time ≤ 1000
  index : 0 ≤ V.index ∧ V.index ≤ 1000
  hash : Bs V.hash ∧ V.hash.length ≤ 100
  parts : Bs V.parts ∧ V.parts.length ≤ 100
  addr : Bs V.addr ∧ V.addr.length ≤ 100
  sig : Bs V.sig ∧ V.sig.length ≤ 100

def evi : List Int := [101, 118, 105]
/-- What is signed of a vote. -/
def sb (V : VD) : List Int := [V.typ] ++ le8 V.height ++ le8 V.round ++ idb V.hash V.total V.parts ++ le8 V.time ++ txt evi

theorem evi_byt (w : World) (cap : Nat) (fr : Nat × Nat) (h : 3 ≤ cap) : Byt (w.alloc (.cells (bytesRow ⟨#[101, 118, 105]⟩ cap) 5 fr)) (.slice (some ⟨w.heap.size, 0, none⟩) 3 cap) evi := by
  refine Byt.of_cells (l := evi) h (by simp) ?_
  intro j hj
  have hj3 : j < 3 := hj
  have hh : (w.alloc (.cells (bytesRow ⟨#[101, 118, 105]⟩ cap) 5 fr)).heap[w.heap.size]? = some (.cells (bytesRow ⟨#[101, 118, 105]⟩ cap) 5 fr) := heap_alloc_new w _
  rw [cell_of_row _ _ _ _ _ _ hh]
  have e : j = 0 ∨ j = 1 ∨ j = 2 := by omega
  rcases e with rfl | rfl | rfl <;> simp [bytesRow, evi, Array.getElem?_append]

set_option maxRecDepth 100000 in
theorem signBytes_any (g : Nat) (V : VD) (hV : V.ok) (vh vp va vs : Value) (w : World)
    (hg : Blk w g #[.int .i32 V.typ, .int .i64 V.height, .int .i32 V.round, vh, .int .u32 V.total, vp, .int .i64 V.time, va, .int .i32 V.index, vs, .slice none 0 0, .slice none 0 0] 105)
    (hh : Byt w vh V.hash) (hp : Byt w vp V.parts) :
    Calls Tryz.prog 38 #[.string ⟨#[101, 118, 105]⟩, .pointer (some ⟨g, 0, none⟩)] w (Fresh w (sb V)) := by
  obtain ⟨t0, t1⟩ := hV.typ
  obtain ⟨h0, h1⟩ := hV.height
  obtain ⟨r0, r1⟩ := hV.round
  have kc := fun W : World => run_bytes_of_string (P := Tryz.prog) W 9 22 5 ⟨#[101, 118, 105]⟩ Tryz.underlying9 Tryz.underlying22 Tryz.underlying5
  have c0 : ∀ W, Kp [] w W → W.cell? ⟨g, 0, none⟩ = some (.int .i32 V.typ) := hg.all 0 rfl
  have c1 : ∀ W, Kp [] w W → W.cell? ⟨g, 1, none⟩ = some (.int .i64 V.height) := hg.all 1 rfl
  have c2 : ∀ W, Kp [] w W → W.cell? ⟨g, 2, none⟩ = some (.int .i32 V.round) := hg.all 2 rfl
  have c3 : ∀ W, Kp [] w W → W.cell? ⟨g, 3, none⟩ = some (vh) := hg.all 3 rfl
  have c4 : ∀ W, Kp [] w W → W.cell? ⟨g, 4, none⟩ = some (.int .u32 V.total) := hg.all 4 rfl
  have c5 : ∀ W, Kp [] w W → W.cell? ⟨g, 5, none⟩ = some (vp) := hg.all 5 rfl
  have c6 : ∀ W, Kp [] w W → W.cell? ⟨g, 6, none⟩ = some (.int .i64 V.time) := hg.all 6 rfl
  have HH := Lib.hid hh
  have HP := Lib.hid hp
  have HG := Lib.hid hg
  have HV := Lib.hid hV
  clear hg hh hp hV
  go_enter Tryz.func38, Tryz.ntmps38
  go_wp2_with fail
  have ho0 : Own (w.alloc (.cells #[.int .u8 V.typ] 5)) w.heap.size (.slice (some ⟨w.heap.size, 0, none⟩) 1 1) [V.typ] := Own.of_blk (Blk.new w _ 5) (Nat.le_refl _) (by simp) (by simp) (by decide) (by simp [u8s])
  refine (zzNumber_any w.heap.size _ _ _ _ ho0 (by simp) (by simp) h0 (by omega)).mono ?_
  rintro e w1 ⟨v1, rfl, ho, hb⟩
  have k1 : Kp [] w w1 := hb.own ((Kp.refl [] w).alloc _) ho0 (Nat.le_refl _)
  have HO1 := Lib.hid ho
  clear ho hb ho0
  go_wp2_with fail
  refine (zzNumber_any w.heap.size _ _ _ _ HO1.out k1.size (by simp [le8_length]) r0 (by omega)).mono ?_
  rintro e w2 ⟨v2, rfl, ho, hb⟩
  have k2 : Kp [] w w2 := hb.own k1 HO1.out (Nat.le_refl _)
  have HO2 := Lib.hid ho
  clear ho hb HO1
  go_wp2_with fail
  refine (zzID_any _ _ _ V.hash V.parts _ (HH.out.kp k2) (HP.out.kp k2) HV.out.total.1 (by have := HV.out.total.2; omega) (by have := HV.out.parts.2; omega) (by have := HV.out.hash.2; omega)).mono ?_
  rintro e w3 ⟨v3, rfl, ho, hb⟩
  have k3 : Kp [] w w3 := k2.trans hb
  have HO3 := Lib.hid ho.byt
  have HO2' := Lib.hid (HO2.out.kp hb)
  clear ho hb HO2
  have HL := HV.out.hash.2
  have HL2 := HV.out.parts.2
  go_wp2_with (at_builtin; refine kit_append rfl _ _ 22 Tryz.underlying22 rfl rfl HO2'.out rfl HO3.out ?c1 k3.size ?_)
  case c1 => simp [le8_length, idb_length]; omega
  intro v4 w4 ho hb
  have k4 : Kp [] w w4 := hb.own k3 HO2'.out (Nat.le_refl _)
  have HO4 := Lib.hid ho
  clear ho hb HO2' HO3
  obtain ⟨m0, m1⟩ := HV.out.time
  go_wp2_with fail
  refine (zzNumber_any w.heap.size _ _ _ _ HO4.out k4.size (by simp [le8_length, idb_length]; omega) m0 (by omega)).mono ?_
  rintro e w5 ⟨v5, rfl, ho, hb⟩
  have k5 : Kp [] w w5 := hb.own k4 HO4.out (Nat.le_refl _)
  have HO5 := Lib.hid ho
  clear ho hb HO4
  go_wp2_with fail
  have hcap := grownCap_ge w5 3 0 5
  generalize grownCap w5 3 0 5 = cap at hcap ⊢
  have hev := evi_byt w5 cap ((bytesRow ⟨#[101, 118, 105]⟩ cap).size, (bytesRow ⟨#[101, 118, 105]⟩ cap).size + 1) hcap
  have k6 := k5.alloc (.cells (bytesRow ⟨#[101, 118, 105]⟩ cap) 5 ((bytesRow ⟨#[101, 118, 105]⟩ cap).size, (bytesRow ⟨#[101, 118, 105]⟩ cap).size + 1))
  have ho6 := HO5.out.alloc (.cells (bytesRow ⟨#[101, 118, 105]⟩ cap) 5 ((bytesRow ⟨#[101, 118, 105]⟩ cap).size, (bytesRow ⟨#[101, 118, 105]⟩ cap).size + 1))
  have hlt := HO5.out.byt.lt
  generalize w5.alloc (.cells (bytesRow ⟨#[101, 118, 105]⟩ cap) 5 ((bytesRow ⟨#[101, 118, 105]⟩ cap).size, (bytesRow ⟨#[101, 118, 105]⟩ cap).size + 1)) = w6 at *
  refine (zzText_any w.heap.size _ _ _ evi _ (ho6.kp (Kp.refl [] _).drew) hev.drew k6.size (fun b h1 h2 => ?_) ?_ (by decide)).mono ?_
  · have := hlt b h2
    simp [Value.ownBlock] at h1
    omega
  · simp [le8_length, idb_length]; omega
  rintro e w7 ⟨v7, rfl, ho, hb⟩
  have k7 : Kp [] w w7 := hb.own k6.drew (ho6.kp (Kp.refl [] _).drew) (Nat.le_refl _)
  have HO7 := Lib.hid ho
  clear ho hb HO5 ho6 hev hlt
  go_wp2
  go_ret
  exact ⟨v7, rfl, by simpa [sb] using HO7.out, k7⟩
end Go.Proofs.YtfkaldaflnmfiaaGreatDoor
