/- The contract of a set by its powers. -/
import Derived.WalkKit
import Derived.WalkSpells
import Derived.WalkLawsBesides
import Derived.Handy
import Derived.Lib.Hide
import Derived.IntWalk
import Derived.LoopTactic
import Derived.Deep.QuietTactic
import Derived.Deep.RegionWith
import Derived.Deep.RegionHeld3
import Derived.BigRegion
import Derived.BigQuiet
import Derived.Test.YtfkaldaflnmfiaaGreatDoorKVo
namespace Go.Proofs.YtfkaldaflnmfiaaGreatDoor
set_option linter.unusedSimpArgs false
set_option linter.unusedVariables false
open Go Go.RowKit


/-- Keys and powers. -/
def KP (P : List Int) (i : Nat) : List (List Int × Int) := (List.range i).map fun (j : Nat) => (keyN (j : Int), 1 + P.getD j 0)
theorem KP_succ (P : List Int) (i : Nat) : KP P (i + 1) = KP P i ++ [(keyN i, 1 + P.getD i 0)] := by simp [KP, List.range_succ]
theorem KP_length (P : List Int) (i : Nat) : (KP P i).length = i := by simp [KP]
/-- The ten keys have ten addresses. -/
def Ten (kt : Nat → Int) : Prop := ∀ i j : Int, 0 ≤ i → i < 10 → 0 ≤ j → j < 10 → addr kt (keyN i) = addr kt (keyN j) → i = j
/-- The seats of these. -/
def spOf (kt : Nat → Int) (d : List Int × Int) : Sp := ⟨addr kt d.1, d.2, 0⟩
def Sea.r (S : Sea) : Rec := ⟨.slice S.a S.n S.c, .int .i64 S.pow, .int .i64 S.prio⟩
/-- A validator whose key is there. -/
structure SeaK (w : World) (S : Sea) : Prop where
  key : Byt w (.slice S.a S.n S.c) S.key
  len : S.key.length = 2
  bs : Bs S.key
  prio : S.prio = 0
theorem SeaK.kpS {w w' : World} {S : Sea} {Z : List Nat} (h : SeaK w S) (k : Kp Z w w') (hZ : ∀ b, (Value.slice S.a S.n S.c).ownBlock = some b → b ∉ Z) : SeaK w' S := ⟨h.key.kpS k hZ, h.len, h.bs, h.prio⟩
/-- A key does not lie in a block of records. -/
theorem OwnR.notKey {e : TypeId} {w : World} {B : Nat} {v k : Value} {l : List Rec} {m : List Int} (h : OwnR e w B v l) (hx : ∀ r ∈ l, ∀ y, r.x ≠ .int .u8 y) (hl : 0 < l.length) (hk : Byt w k m) (hm : 0 < m.length) (ho : ∃ b c, k = .slice (some ⟨b, 0, none⟩) m.length c) : ∀ b, k.ownBlock = some b → b ∉ ownL v := by
  intro b hb hmem
  obtain ⟨b2, c2, rfl⟩ := ho
  obtain ⟨bv, cv, rfl, hcells⟩ := h.rd.pos hl
  have e1 := mem_ownL.1 hmem
  simp only [Value.ownBlock, Option.some.injEq] at hb e1
  subst hb
  subst e1
  have h1 := hk.at 0 hm
  obtain ⟨r, hr, hr0⟩ := lget hl
  have h2 := (hcells 0 r hr0).1
  rw [Nat.zero_mul, h1] at h2
  exact hx r hr _ (Option.some.inj h2).symm
theorem OwnR.ne2 {e e' : TypeId} {w : World} {B B' : Nat} {v v' : Value} {l l' : List Rec} (h : OwnR e w B v l) (h' : OwnR e' w B' v' l') (hne : e ≠ e') : ∀ b, v.ownBlock = some b → b ∉ ownL v' := by
  intro b hb hm
  have hb' := mem_ownL.1 hm
  obtain ⟨_, ⟨rfl, _⟩ | ⟨g, cap, cur, rfl, _, h3, _⟩⟩ := h
  · simp [Value.ownBlock] at hb
  · obtain ⟨_, ⟨rfl, _⟩ | ⟨g', cap', cur', rfl, _, h3', _⟩⟩ := h'
    · simp [Value.ownBlock] at hb'
    · simp only [Value.ownBlock, Option.some.injEq] at hb hb'
      subst hb
      subst hb'
      rw [h3] at h3'
      injection h3' with h3'
      injection h3' with _ h4
      exact hne h4

theorem nodup_upto {α : Type} (f : Nat → α) (n : Nat) (h : ∀ i j, i < n → j < n → f i = f j → i = j) : ((List.range n).map f).Nodup := by
  unfold List.Nodup
  rw [List.pairwise_map]
  refine List.Pairwise.imp_of_mem ?_ (List.nodup_range (n := n))
  intro a b ha hb hne h2
  exact hne (h a b (List.mem_range.1 ha) (List.mem_range.1 hb) h2)
theorem KP_nodup {kt : Nat → Int} (h : Ten kt) (P : List Int) {n : Nat} (hn : n ≤ 7) : ((KP P n).map fun d => addr kt d.1).Nodup := by
  unfold KP
  rw [List.map_map]
  refine nodup_upto (fun j : Nat => addr kt (keyN j)) n (fun i j hi hj e => ?_)
  have := h i j (by omega) (by omega) (by omega) (by omega) e
  omega
theorem KP_pow {P : List Int} (hb : Bs P) {n : Nat} : ∀ d ∈ KP P n, 1 ≤ d.2 ∧ d.2 ≤ 1000 := by
  intro d hd
  simp only [KP, List.mem_map] at hd
  obtain ⟨j, _, rfl⟩ := hd
  have := hb.at j
  simp only
  omega

/-- The loop that makes the set. -/
structure ES (kt : Nat → Int) (P : List Int) (w : World) (i : Nat) (s5 s6 : Value) (Ls : List Sea) (wr : World) : Prop where
  len : Ls.length = i
  own : OwnR 56 wr w.heap.size s5 (Ls.map Sea.r)
  keys : ∀ S ∈ Ls, SeaK wr S ∧ ∃ b, S.a = some ⟨b, 0, none⟩ ∧ S.n = 2
  kp2 : Ls.map Sea.kp2 = KP P i
  seats : OwnR 42 wr w.heap.size s6 (((KP P i).map (spOf kt)).map Sp.r)
  kp : Kp [] w wr

set_option maxHeartbeats 1000000 in
set_option maxRecDepth 100000 in
theorem eviSet_any (kt : Nat → Int) (pa : Option Addr) (n c : Nat) (P : List Int) (w : World) (hP : Byt w (.slice pa n c) P) (hn : n = P.length) (hn0 : 0 < n) (hn1 : n ≤ 7) (hb : Bs P) (hten : Ten kt) (hT : Tab kt w) :
    Calls Tryz.prog 5 #[.slice pa n c] w fun e w' => ∃ v pi Ls b' c' Q, e = .returned (.tuple #[.agg #[v, .int .i64 pi], spS b' n c', .bool true]) ∧ SeaR w' v Ls ∧ (Ls.map Sea.kp2).Perm (KP P n) ∧ SpAt w' b' Q ∧ Q.length = n ∧ (Q.map Sp.ap).Perm (((KP P n).map (spOf kt)).map Sp.ap) ∧ -1 ≤ pi ∧ pi < n ∧ Kp [] w w' := by
  have HT := Lib.hid hT
  have HTEN := Lib.hid (And.intro hten (And.intro hn hb))
  obtain ⟨pb, po, pc, epa, hpc, hpl, hpcell⟩ := hP.pos (by omega)
  rw [← hn] at epa hpcell
  injection epa with e1 e2 e3
  subst e1 e3
  have HPC := Lib.hid (And.intro hP hpcell)
  clear hT hten hn hb hP hpcell hpc e2
  go_enter Tryz.func5, Tryz.ntmps5
  go_wp2_with fail
  have k0 := (Kp.refl [] w).alloc (.cells #[.slice none 0 0, .int .i64 0] 27)
  have hr := Blk.new w #[.slice none 0 0, .int .i64 0] 27
  generalize w.alloc (.cells #[.slice none 0 0, .int .i64 0] 27) = w1 at *
  obtain ⟨r, er⟩ : ∃ r, r = w.heap.size := ⟨_, rfl⟩
  rw [← er] at hr ⊢
  have H1 := Lib.hid (And.intro k0 (And.intro hr er))
  clear k0 hr er
  go_loopw [5, 6, 23] (fun s5 s6 s wr => ∃ (i : Nat) (Ls : List Sea), i ≤ n ∧ s = .int .i64 i ∧ ES kt P w1 i s5 s6 Ls wr) (fun s5 s6 s _ => n - (intOf s).toNat)
  case atStart => exact ⟨0, [], by omega, rfl, rfl, OwnR.nil _ _, by simp, rfl, OwnR.nil _ _, Kp.refl _ _⟩
  case round =>
    obtain ⟨i, Ls, hi, rfl, hes⟩ := hrel
    have HES := Lib.hid hes
    by_cases hlt : i < n
    · have kk := H1.out.1.trans hes.kp
      have hcp := cell_kp (HPC.out.2 i hlt) kk
      have hpb := HTEN.out.2.2.at i
      obtain ⟨y, ey⟩ : ∃ y, y = P.getD i 0 := ⟨_, rfl⟩
      rw [← ey] at hcp hpb
      obtain ⟨y0, y1⟩ := hpb
      have HY := Lib.hid ey
      have wu : IntKind.u8.wrap (i : Int) = i := IntWalk.u8_in _ (by omega)
      obtain ⟨a5, c5, e5⟩ := hes.own.rd.form
      rw [List.length_map, hes.len] at e5
      subst e5
      obtain ⟨a6, c6, e6⟩ := hes.seats.rd.form
      rw [List.length_map, List.length_map, KP_length] at e6
      subst e6
      have kE := hes.kp
      have kK := ((Kp.refl [] wr).alloc (.cells #[.int .u8 101, .int .u8 i] 5)).alloc (.cells #[.slice (some ⟨wr.heap.size, 0, none⟩) 2 2, .int .i64 (1 + y), .int .i64 0] 56)
      have hkb := two_byt ((Blk.new wr #[.int .u8 101, .int .u8 i] 5).alloc (.cells #[.slice (some ⟨wr.heap.size, 0, none⟩) 2 2, .int .i64 (1 + y), .int .i64 0] 56))
      have hbx := Blk.new (wr.alloc (.cells #[.int .u8 101, .int .u8 i] 5)) #[.slice (some ⟨wr.heap.size, 0, none⟩) 2 2, .int .i64 (1 + y), .int .i64 0] 56
      rw [show (wr.alloc (.cells #[.int .u8 101, .int .u8 (i : Int)] 5)).heap.size = wr.heap.size + 1 by simp] at hbx
      have HK := Lib.hid (And.intro kK (And.intro hkb (And.intro hbx kE)))
      have h1 := hes.own.kp kK
      obtain ⟨Rs, eRs⟩ : ∃ Rs, Rs = Ls.map Sea.r := ⟨_, rfl⟩
      rw [← eRs] at h1
      have HO := Lib.hid (And.intro h1 (And.intro (hes.seats.kp kK) (show Rs.length = i by rw [eRs, List.length_map, hes.len])))
      have HRs := Lib.hid eRs
      clear kk hes ey kE kK hkb hbx h1 eRs
      go_wp2_with (refine kit_rec rfl (.tmp 31) (.tmp 37) 25 56 _ 40 Tryz.underlying25 info56 rfl (by decide) rfl (B := w1.heap.size) (bx := wr.heap.size + 1) (v := .slice a5 i c5) (l := Rs) (r := Sea.r ⟨some ⟨wr.heap.size, 0, none⟩, 2, 2, keyN i, 1 + y, 0⟩) rfl HO.out.1 rfl ⟨HK.out.2.2.1.cell rfl, HK.out.2.2.1.cell rfl, HK.out.2.2.1.cell rfl⟩ ⟨rfl, rfl, rfl⟩ ?hl ?hB ?_)
      case hl => rw [HO.out.2.2]; omega
      case hB => exact (HK.out.2.2.2.trans HK.out.1).size
      intro v5 wB hoB haB
      have hkn : wr.heap.size ∉ ownL (.slice a5 i c5) := by
        intro hm
        have := HES.out.own.lt _ (mem_ownL.1 hm)
        omega
      have hold : ∀ S ∈ Ls, ∀ b, (Value.slice S.a S.n S.c).ownBlock = some b → b ∉ ownL (.slice a5 i c5) := by
        intro S hS
        obtain ⟨hk1, b1, ea, en⟩ := HES.out.keys S hS
        refine OwnR.notKey HES.out.own ?_ (by rw [List.length_map]; exact List.length_pos_of_mem hS) hk1.key (by rw [hk1.len]; decide) ⟨b1, S.c, by rw [ea, en, hk1.len]⟩
        intro rr hrr yy
        obtain ⟨U, _, rfl⟩ := List.mem_map.1 hrr
        intro hh
        cases hh
      have kwB : Kp [] w1 wB := haB.ownR (HK.out.2.2.2.trans HK.out.1) HO.out.1 (Nat.le_refl _)
      have hkB : Byt wB (.slice (some ⟨wr.heap.size, 0, none⟩) 2 2) (keyN i) := HK.out.2.1.kpS haB.kp (by intro b hb; cases hb; exact hkn)
      have hsB := HO.out.2.1.kpS haB.kp (HO.out.2.1.ne2 HO.out.1 (by decide))
      have hKB : ∀ S ∈ Ls, SeaK wB S := fun S hS => ((HES.out.keys S hS).1.kpS HK.out.1 (by simp)).kpS haB.kp (hold S hS)
      have hk6 : wr.heap.size ∉ ownL (.slice a6 i c6) := by
        intro hm
        have := HES.out.seats.lt _ (mem_ownL.1 hm)
        omega
      obtain ⟨kb, ekb⟩ : ∃ kb, kb = wr.heap.size := ⟨_, rfl⟩
      rw [← ekb] at hoB hkB hk6 ⊢
      have HB := Lib.hid (And.intro hoB (And.intro kwB (And.intro hkB (And.intro hsB (And.intro hKB hk6)))))
      clear hoB haB hkn hold kwB hkB hsB hKB ekb hk6
      go_wp2_with fail
      refine (netAddr_any kt _ (keyN i) wB HB.out.2.2.1 rfl (HT.out.kp (H1.out.1.trans HB.out.2.1)) (keyN_bs ⟨by omega, by omega⟩)).mono ?_
      rintro e wC ⟨rfl, kC⟩
      have hbx := Blk.new wC #[.string (strOfNums (addr kt (keyN i))), .int .i64 (1 + y), .int .i64 0] 42
      have kD := kC.alloc (.cells #[.string (strOfNums (addr kt (keyN i))), .int .i64 (1 + y), .int .i64 0] 42)
      obtain ⟨Qs, eQs⟩ : ∃ Qs, Qs = ((KP P i).map (spOf kt)).map Sp.r := ⟨_, rfl⟩
      have hsD := HB.out.2.2.2.1.kp kD
      rw [← eQs] at hsD
      have HD := Lib.hid (And.intro hbx (And.intro kD (And.intro hsD (And.intro eQs (show Qs.length = i by rw [eQs, List.length_map, List.length_map, KP_length])))))
      clear hbx kD hsD eQs kC
      go_wp2_with (refine kit_rec rfl (.tmp 39) (.tmp 46) 28 42 _ 32 under28 info42 rfl (by decide) rfl (B := w1.heap.size) (bx := wC.heap.size) (v := .slice a6 i c6) (l := Qs) (r := Sp.r (spOf kt (keyN i, 1 + y))) rfl HD.out.2.2.1 rfl ⟨HD.out.1.cell rfl, HD.out.1.cell rfl, HD.out.1.cell rfl⟩ ⟨rfl, rfl, rfl⟩ ?hl ?hB ?_)
      case hl => rw [HD.out.2.2.2.2]; omega
      case hB => exact (HB.out.2.1.trans HD.out.2.1).size
      intro v6 wE hoE haE
      have kwE : Kp [] w1 wE := haE.ownR (HB.out.2.1.trans HD.out.2.1) HD.out.2.2.1 (Nat.le_refl _)
      have h5E := (HB.out.1.kp HD.out.2.1).kpS haE.kp ((HB.out.1.kp HD.out.2.1).ne2 HD.out.2.2.1 (by decide))
      have hkE : Byt wE (.slice (some ⟨kb, 0, none⟩) 2 2) (keyN i) := (HB.out.2.2.1.kp HD.out.2.1).kpS haE.kp (by intro b hb; cases hb; exact HB.out.2.2.2.2.2)
      have hKE : ∀ S ∈ Ls, SeaK wE S := by
        intro S hS
        obtain ⟨hk0, b1, ea, en⟩ := HES.out.keys S hS
        have hk1 := HB.out.2.2.2.2.1 S hS
        refine (hk1.kpS HD.out.2.1 (by simp)).kpS haE.kp ?_
        have hi0 : 0 < i := by rw [← HES.out.len]; exact List.length_pos_of_mem hS
        refine OwnR.notKey HD.out.2.2.1 ?_ (by rw [HD.out.2.2.2.2]; omega) (hk1.key.kp HD.out.2.1) (by rw [hk1.len]; decide) ⟨b1, S.c, by rw [ea, en, hk1.len]⟩
        intro rr hrr yy
        rw [HD.out.2.2.2.1] at hrr
        obtain ⟨U, _, rfl⟩ := List.mem_map.1 hrr
        intro hh
        cases hh
      have HE : ES kt P w1 (i + 1) v5 v6 (Ls ++ [⟨some ⟨kb, 0, none⟩, 2, 2, keyN i, 1 + y, 0⟩]) wE := by
        refine ⟨by simp [HES.out.len], ?_, ?_, ?_, ?_, kwE⟩
        · have := h5E
          rw [HRs.out] at this
          rw [List.map_append]
          exact this
        · intro S hS
          rcases List.mem_append.1 hS with hm | hm
          · exact ⟨hKE S hm, (HES.out.keys S hm).2⟩
          · simp at hm
            subst hm
            exact ⟨⟨hkE, rfl, keyN_bs ⟨by omega, by omega⟩, rfl⟩, kb, rfl, rfl⟩
        · rw [List.map_append, HES.out.kp2, KP_succ, ← HY.out]
          rfl
        · rw [KP_succ, ← HY.out, List.map_append, List.map_append, ← HD.out.2.2.2.1]
          exact hoE
      have HEE := Lib.hid HE
      clear hoE haE kwE h5E hkE hKE HE
      go_wp2_with fail
      exact ⟨⟨i + 1, _, by omega, by go_num, HEE.out⟩, by simp [intOf]; omega⟩
    · obtain rfl : i = n := by omega
      obtain ⟨b5, c5, e5, hg5, hl5⟩ := hes.own.posR (by rw [List.length_map, hes.len]; exact hn0)
      rw [List.length_map, hes.len] at e5
      subst e5
      obtain ⟨b6, c6, e6, hg6, hl6⟩ := hes.seats.posR (by rw [List.length_map, List.length_map, KP_length]; exact hn0)
      rw [List.length_map, List.length_map, KP_length] at e6
      subst e6
      have hok : SpOk ((KP P i).map (spOf kt)) := by
        intro S hS
        obtain ⟨d, hd, rfl⟩ := List.mem_map.1 hS
        exact ⟨addr_bs _ _, KP_pow HTEN.out.2.2 d hd⟩
      have hnd : (((KP P i).map (spOf kt)).map Sp.a).Nodup := by
        rw [List.map_map]
        exact KP_nodup HTEN.out.1 P hn1
      obtain ⟨cur, -, -, hc6, -⟩ := OwnR.row (show OwnR 42 wr w1.heap.size (spS b6 i c6) _ from hes.seats)
      have HN := Lib.hid (And.intro hok hnd)
      clear hes hok hnd hg5 hl5 hg6 hl6
      go_wp2_with fail
      refine (turnNew_any b6 i c6 ((KP P i).map (spOf kt)) wr (OwnR.sp (show OwnR 42 wr w1.heap.size (spS b6 i c6) _ from HES.out.seats)) (by rw [List.length_map, KP_length]) hn0 (by omega) hc6 HN.out.1 HN.out.2).mono ?_
      rintro e w2 ⟨b2, c2, s2, Q, rfl, hq, hqp, k2⟩
      unfold spS
      have HQ := Lib.hid (And.intro hq (And.intro hqp k2))
      clear hq hqp k2
      go_wp2_with fail
      have k3 := HQ.out.2.2.alloc (.cells #[.slice (some ⟨b2, 0, none⟩) i c2, .string s2] 59)
      have hb3 := Blk.new w2 #[.slice (some ⟨b2, 0, none⟩) i c2, .string s2] 59
      have hq3 := HQ.out.1.kp ((Kp.refl [] w2).alloc (.cells #[.slice (some ⟨b2, 0, none⟩) i c2, .string s2] 59))
      generalize w2.alloc (.cells #[.slice (some ⟨b2, 0, none⟩) i c2, .string s2] 59) = w3 at *
      obtain ⟨q, eq⟩ : ∃ q, q = w2.heap.size := ⟨_, rfl⟩
      rw [← eq] at hb3 ⊢
      have kw3 : Kp [] w1 w3 := HES.out.kp.trans k3
      have hr3 := kw3.blk H1.out.2.1 (by simp)
      have hqr : q ≠ r := hb3.ne hr3 (by decide)
      have hs3 : SeasAt w3 b5 Ls := by
        intro j S hS
        have h1 := (OwnR.cells (show OwnR 56 wr w1.heap.size (spS b5 i c5) _ from HES.out.own)) j S.r (by rw [List.getElem?_map, hS]; rfl)
        have h2 := (HES.out.keys S (List.mem_of_getElem? hS)).1
        exact ⟨cell_kp h1.1 k3, cell_kp h1.2.1 k3, cell_kp h1.2.2 k3, h2.key.kp k3, h2.len, h2.bs⟩
      have S13 : ∀ W, Kp [r] w3 W → W.cell? ⟨q, 0, none⟩ = some (.slice (some ⟨b2, 0, none⟩) i c2) := fun W k => (k.blk hb3 (by simpa using hqr)).cell rfl
      have H3 := Lib.hid (And.intro S13 (And.intro kw3 (And.intro hr3 (And.intro hs3 hq3))))
      have HR3 := Lib.hid (And.intro (hr3.all 0 rfl) (And.intro (hr3.all 1 rfl) (show ∀ (j : Nat) W, Kp [] w3 W → W.frozen? ⟨r, j, none⟩ = false from fun j W k => (k.blk hr3 (by simp)).free j)))
      clear S13 kw3 hr3 hs3 hq3 hb3 hqr k3 eq
      go_region_held3 (fun W => W.cell? ⟨q, 0, none⟩ = some (.slice (some ⟨b2, 0, none⟩) i c2))
        (first | exact H3.out.1 _ (Kp.refl [r] w3).drew | exact H3.out.1 _ (hk4.mono (by simp)) | exact H3.out.1 _ (((hk4.mono (S' := [r]) (by simp)).set (p := ⟨r, 0, none⟩) (.inl (by simp)) _).set (p := ⟨r, 1, none⟩) (.inl (by simp)) _))
        (first | (go_at_call 19; refine (newSetI_any kt 0 b5 c5 i Ls w3.drew (H3.out.2.2.2.1.kp (Kp.refl [] w3).drew) (fun S hS => (HES.out.keys S hS).1.prio) HES.out.len.symm hn0 (by omega) (HT.out.kp ((H1.out.1.trans H3.out.2.1).trans (Kp.refl [] w3).drew)) ?_ ?_).mono ?_; (exact fun S hS => KP_pow HTEN.out.2.2 S.kp2 (by rw [← HES.out.kp2]; exact List.mem_map_of_mem hS)); (have := KP_nodup HTEN.out.1 P hn1; rw [← HES.out.kp2, List.map_map] at this; exact this); rintro e w4 ⟨v, pi, Ls4, rfl, hv, hsm, p0, p1, hk0⟩; have hk4 := (Kp.refl [] w3).drew.trans hk0; obtain ⟨vb, vc, rfl, hva⟩ := hv; have H4 := Lib.hid (And.intro hva (And.intro hsm (And.intro p0 p1))); have s0 := HR3.out.1 _ hk4; have s1 := HR3.out.2.1 _ hk4; have s2 := HR3.out.2.2 0 _ hk4; have s3 := HR3.out.2.2 1 _ hk4; clear hva hsm hk0))
      have HK4 := Lib.hid hk4
      clear hk4 s0 s1 s2 s3
      have hL4 : 0 < Ls4.length := by
        have h1 := H4.out.2.1.length_eq
        simp at h1
        rw [h1, HES.out.len]
        exact hn0
      have hLn : Ls4.length = i := by
        have h1 := H4.out.2.1.length_eq
        simp at h1
        rw [h1, HES.out.len]
      have HLL := Lib.hid (And.intro hL4 hLn)
      clear hL4 hLn
      have hr4 := HK4.out.blk H3.out.2.2.1 (by simp)
      have HR4 := Lib.hid hr4
      clear hr4
      go_wp2_with fail
      have hb6 := ((HR4.out.set 0 (.slice (some ⟨vb, 0, none⟩) Ls4.length vc)).set 1 (.int .i64 pi))
      refine bodyPost_ret (v := .tuple #[.agg #[.slice (some ⟨vb, 0, none⟩) Ls4.length vc, .int .i64 pi], .slice (some ⟨b2, 0, none⟩) i c2, .bool true]) ?_ ?_ ?_
      · exact results_row_tmp2 rfl _ _ r 27 #[.slice (some ⟨vb, 0, none⟩) Ls4.length vc, .int .i64 pi] (0, 0) _ _ _ rfl rfl rfl hb6 Tryz.underlying27 rfl hi27
      · rfl
      have kr : Kp [r] w4 ((w4.setCell ⟨r, 0, none⟩ (.slice (some ⟨vb, 0, none⟩) Ls4.length vc)).setCell ⟨r, 1, none⟩ (.int .i64 pi)) := ((Kp.refl [r] w4).set (p := ⟨r, 0, none⟩) (.inl (by simp)) _).set (p := ⟨r, 1, none⟩) (.inl (by simp)) _
      refine ⟨_, pi, Ls4, b2, c2, Q, rfl, ⟨vb, vc, rfl, ?_⟩, ?_, ?_, ?_, HQ.out.2.1, H4.out.2.2.1, H4.out.2.2.2, ((H1.out.1.trans H3.out.2.1).trans HK4.out).then kr (by intro j hj hm; simp at hm; have := H1.out.2.2; omega)⟩
      · refine H4.out.1.far kr ?_ ?_
        · intro z hz
          simp at hz
          subst hz
          exact pair_far HR4.out (by decide)
        · have := H4.out.1.ne2 HLL.out.1 HR4.out
          simpa using this
      · have h1 := H4.out.2.1
        unfold SameS at h1
        rwa [HES.out.kp2] at h1
      · refine OwnR.sp (B := wr.heap.size) (n := i) (c := c2) ((H3.out.2.2.2.2.kp HK4.out).kpS kr ?_)
        intro b hb hm
        cases hb
        simp at hm
        have h1 := HQ.out.1.ge b2 rfl
        have h2 := H1.out.2.1.lt
        have h3 := HES.out.kp.size
        omega
      · have h1 := HQ.out.2.1.length_eq
        simpa [KP_length] using h1
end Go.Proofs.YtfkaldaflnmfiaaGreatDoor
/- The contract of eviStands. -/
namespace Go.Proofs.YtfkaldaflnmfiaaGreatDoor
set_option linter.unusedSimpArgs false
set_option linter.unusedVariables false
open Go Go.RowKit


theorem kit_load_w {P : Program} {ops : Array Oper} {rest : List Oper} {o : Oper} {a : Act} {w : World} {Q : Exit → Act → World → Prop} (hw : Region.wanted o (yielded ops a.tmps) = true) (ty : TypeId) (x : Operand) (ho : o.op = .load ty x)
    (g : Nat) (hx : a.eval x = .pointer (some ⟨g, 0, none⟩)) (cs : Array Value) (t : TypeId) (hg : Blk w g cs t)
    (d : TypeDesc) (hu : P.underlying ty = some d) (hk : (match d with | .struct _ | .array _ _ => true | _ => false) = true) (hi : (P.info? ty).map (·.size) = some cs.size)
    (h : wpList P ops Q rest (a.put o.dst (.agg cs)) w) : wpList P ops Q (o :: rest) a w :=
  wpList_step fun K hK => by
    rw [if_pos hw]
    exact wp_load_row ty x ho g hx t cs (0, 0) d hg hu hk hi (hK _ _ h)
/-- Evidence in which nothing is yet. -/
def eviZ : Array Value := #[.int .i64 0, .int .i64 0, .int .i64 0, .slice none 0 0, .int .i64 0, .slice none 0 0, .int .i64 0, .slice none 0 0, .int .i64 0, .slice none 0 0, .slice none 0 0, .slice none 0 0, .int .i64 0, .int .i64 0, .int .i64 0, .slice none 0 0, .int .i64 0, .slice none 0 0, .int .i64 0, .slice none 0 0, .int .i64 0, .slice none 0 0, .slice none 0 0, .slice none 0 0, .int .i64 0, .int .i64 0, .int .i64 0]
theorem evi_one (A B : VD) (a1 a2 a3 a4 a5 a6 a7 a8 : Option Addr) (n1 n2 n3 n4 n5 n6 n7 n8 c1 c2 c3 c4 c5 c6 c7 c8 : Nat) (x y z : Int) : (eviV A B (.slice a1 n1 c1) (.slice a2 n2 c2) (.slice a3 n3 c3) (.slice a4 n4 c4) (.slice a5 n5 c5) (.slice a6 n6 c6) (.slice a7 n7 c7) (.slice a8 n8 c8) x y z).all (·.oneCell') = true := by
  unfold eviV
  rw [Array.all_eq_true]
  intro i hi
  have hm := Array.getElem_mem hi
  simp only [List.mem_toArray, List.mem_cons, List.not_mem_nil, or_false] at hm
  rcases hm with h | h | h | h | h | h | h | h | h | h | h | h | h | h | h | h | h | h | h | h | h | h | h | h | h | h | h <;> rw [h] <;> rfl
def said (b : Int) : Sd := ⟨0, 0, 0, 0, 0, b, 0, 0⟩
theorem said_ok {b : Int} (h : 0 ≤ b ∧ b ≤ 255) : (said b).ok := ⟨by simp [said], by simp [said], by simp [said], by simp [said], by simp [said], h, by simp [said], by simp [said]⟩
theorem said_key (b : Int) : keyN (said b).from = keyN 0 := rfl

set_option maxHeartbeats 1000000 in
set_option maxRecDepth 100000 in
theorem stands_any (kt : Nat → Int) (w : World) (hten : Ten kt) (hE : Errs w) (hT : Tab kt w) :
    Calls Tryz.prog 6 #[] w fun e w' => e = .returned (.bool true) ∧ Kp [] w w' := by
  have H := Lib.hid (And.intro hten (And.intro hE hT))
  clear hten hE hT
  go_enter Tryz.func6, Tryz.ntmps6
  go_wp2_with fail
  have k0 := (Kp.refl [] w).alloc (.cells #[.int .u8 0] 5)
  have hp := byt_of_blk (l := [0]) (n := 1) (Blk.new w #[.int .u8 0] 5) rfl
  refine (eviSet_any kt _ 1 1 [0] _ hp rfl (by omega) (by omega) (by intro y hy; simp at hy; omega) H.out.1 (H.out.2.2.kp k0)).mono ?_
  rintro e w1 ⟨v, pi, Ls, b2, c2, Q, rfl, hv, hkp, hq, hql, hqp, p0, p1, k1⟩
  obtain ⟨vb, vc, rfl, hva⟩ := hv
  have hl : Ls.length = 1 := by
    have := hkp.length_eq
    simpa [KP_length] using this
  rw [hl]
  have H1 := Lib.hid (And.intro hva (And.intro hkp (And.intro hl (And.intro p0 (And.intro p1 (k0.trans k1))))))
  clear hp hva hkp hq hql hqp k1 k0
  unfold spS
  go_wp2_with fail
  have k2 := H1.out.2.2.2.2.2.alloc (.cells #[.slice (some ⟨vb, 0, none⟩) 1 vc, .int .i64 pi] 27)
  have hb2 := Blk.new w1 #[.slice (some ⟨vb, 0, none⟩) 1 vc, .int .i64 pi] 27
  have hv2 := H1.out.1.kp ((Kp.refl [] w1).alloc (.cells #[.slice (some ⟨vb, 0, none⟩) 1 vc, .int .i64 pi] 27))
  generalize w1.alloc (.cells #[.slice (some ⟨vb, 0, none⟩) 1 vc, .int .i64 pi] 27) = w2 at *
  obtain ⟨g2, eg2⟩ : ∃ g, g = w1.heap.size := ⟨_, rfl⟩
  rw [← eg2] at hb2 ⊢
  have H2 := Lib.hid (And.intro k2 (And.intro hb2 hv2))
  clear k2 hb2 hv2 eg2
  refine (eviVote_any kt (said 1) (said_ok (by omega)) w2 (H.out.2.2.kp H2.out.1)).mono ?_
  rintro e w3 ⟨vh1, vp1, va1, vs1, sg1, r1, rfl, bs1, l1, hV1, hr1, hs1, k3⟩
  obtain ⟨ah1, nh1, ch1, rfl⟩ := hV1.hash.form
  obtain ⟨ap1, np1, cp1, rfl⟩ := hV1.parts.form
  obtain ⟨aa1, na1, ca1, rfl⟩ := hV1.addr.form
  obtain ⟨az1, ns1, cs1, rfl⟩ := hV1.sig.form
  have H3 := Lib.hid (And.intro bs1 (And.intro l1 (And.intro hV1 (And.intro hs1 k3))))
  clear bs1 l1 hV1 hr1 hs1 k3
  go_wp2_with (refine kit_store_last rfl 35 _ _ rfl rfl w3.heap.size (voteV ((said 1).vd kt sg1) (.slice ah1 nh1 ch1) (.slice ap1 np1 cp1) (.slice aa1 na1 ca1) (.slice az1 ns1 cs1)) voteZ rfl rfl rfl hi35 rfl (vote_one _ _ _ _ _ _ _ _ _ _ _ _ _) ?_)
  have k4 := H2.out.1.trans (H3.out.2.2.2.2) |>.alloc (.cells (voteV ((said 1).vd kt sg1) (.slice ah1 nh1 ch1) (.slice ap1 np1 cp1) (.slice aa1 na1 ca1) (.slice az1 ns1 cs1)) 35)
  have hb4 := Blk.new w3 (voteV ((said 1).vd kt sg1) (.slice ah1 nh1 ch1) (.slice ap1 np1 cp1) (.slice aa1 na1 ca1) (.slice az1 ns1 cs1)) 35
  have hV4 := H3.out.2.2.1.kp ((Kp.refl [] w3).alloc (.cells (voteV ((said 1).vd kt sg1) (.slice ah1 nh1 ch1) (.slice ap1 np1 cp1) (.slice aa1 na1 ca1) (.slice az1 ns1 cs1)) 35))
  have hg4 := ((Kp.refl [] w2).trans H3.out.2.2.2.2 |>.alloc (.cells (voteV ((said 1).vd kt sg1) (.slice ah1 nh1 ch1) (.slice ap1 np1 cp1) (.slice aa1 na1 ca1) (.slice az1 ns1 cs1)) 35)).blk H2.out.2.1 (by simp)
  have hv4 := H2.out.2.2.kp ((Kp.refl [] w2).trans H3.out.2.2.2.2 |>.alloc (.cells (voteV ((said 1).vd kt sg1) (.slice ah1 nh1 ch1) (.slice ap1 np1 cp1) (.slice aa1 na1 ca1) (.slice az1 ns1 cs1)) 35))
  generalize w3.alloc (.cells (voteV ((said 1).vd kt sg1) (.slice ah1 nh1 ch1) (.slice ap1 np1 cp1) (.slice aa1 na1 ca1) (.slice az1 ns1 cs1)) 35) = w4 at *
  obtain ⟨g4, eg4⟩ : ∃ g, g = w3.heap.size := ⟨_, rfl⟩
  rw [← eg4] at hb4 ⊢
  have H4 := Lib.hid (And.intro k4 (And.intro hb4 (And.intro hV4 (And.intro hg4 hv4))))
  clear k4 hb4 hV4 hg4 hv4 eg4
  refine (eviVote_any kt (said 2) (said_ok (by omega)) w4 (H.out.2.2.kp H4.out.1)).mono ?_
  rintro e w5 ⟨vh2, vp2, va2, vs2, sg2, r2, rfl, bs2, l2, hV2, hr2, hs2, k5⟩
  obtain ⟨ah2, nh2, ch2, rfl⟩ := hV2.hash.form
  obtain ⟨ap2, np2, cp2, rfl⟩ := hV2.parts.form
  obtain ⟨aa2, na2, ca2, rfl⟩ := hV2.addr.form
  obtain ⟨az2, ns2, cs2, rfl⟩ := hV2.sig.form
  have H5 := Lib.hid (And.intro bs2 (And.intro l2 (And.intro hV2 (And.intro hs2 k5))))
  clear bs2 l2 hV2 hr2 hs2 k5
  have hb5 := (H5.out.2.2.2.2.alloc (.cells (voteV ((said 2).vd kt sg2) (.slice ah2 nh2 ch2) (.slice ap2 np2 cp2) (.slice aa2 na2 ca2) (.slice az2 ns2 cs2)) 35)).blk H4.out.2.1 (by simp)
  have HB5 := Lib.hid hb5
  clear hb5
  go_wp2_with (first
    | (refine kit_store_last rfl 35 _ _ rfl rfl w5.heap.size (voteV ((said 2).vd kt sg2) (.slice ah2 nh2 ch2) (.slice ap2 np2 cp2) (.slice aa2 na2 ca2) (.slice az2 ns2 cs2)) voteZ rfl rfl rfl hi35 rfl (vote_one _ _ _ _ _ _ _ _ _ _ _ _ _) ?_
       have k6 := H5.out.2.2.2.2.alloc (.cells (voteV ((said 2).vd kt sg2) (.slice ah2 nh2 ch2) (.slice ap2 np2 cp2) (.slice aa2 na2 ca2) (.slice az2 ns2 cs2)) 35)
       have hb6 := Blk.new w5 (voteV ((said 2).vd kt sg2) (.slice ah2 nh2 ch2) (.slice ap2 np2 cp2) (.slice aa2 na2 ca2) (.slice az2 ns2 cs2)) 35
       have hV6 := H5.out.2.2.1.kp ((Kp.refl [] w5).alloc (.cells (voteV ((said 2).vd kt sg2) (.slice ah2 nh2 ch2) (.slice ap2 np2 cp2) (.slice aa2 na2 ca2) (.slice az2 ns2 cs2)) 35))
       generalize w5.alloc (.cells (voteV ((said 2).vd kt sg2) (.slice ah2 nh2 ch2) (.slice ap2 np2 cp2) (.slice aa2 na2 ca2) (.slice az2 ns2 cs2)) 35) = w6 at *
       obtain ⟨g6, eg6⟩ : ∃ g, g = w5.heap.size := ⟨_, rfl⟩
       rw [← eg6] at hb6 ⊢
       have H6 := Lib.hid (And.intro HB5.out (And.intro hb6 (And.intro hV6 k6)))
       clear k6 hb6 hV6 eg6 HB5)
    | (refine kit_load rfl 35 (.tmp 4) rfl _ rfl g4 rfl (voteV ((said 1).vd kt sg1) (.slice ah1 nh1 ch1) (.slice ap1 np1 cp1) (.slice aa1 na1 ca1) (.slice az1 ns1 cs1)) 35 (by first | exact H7.out.1 | exact H6.out.1) _ Tryz.underlying35 rfl hi35 ?_)
    | (refine kit_load rfl 35 (.tmp 6) rfl _ rfl g6 rfl (voteV ((said 2).vd kt sg2) (.slice ah2 nh2 ch2) (.slice ap2 np2 cp2) (.slice aa2 na2 ca2) (.slice az2 ns2 cs2)) 35 (by first | exact H7.out.2.1 | exact H6.out.2.1) _ Tryz.underlying35 rfl hi35 ?_)
    | (refine kit_build rfl 39 #[(0, .tmp 26), (1, .tmp 27), (2, .const (.int .i64 1)), (3, .const (.int .i64 1))] rfl _ rfl (eviV ((said 1).vd kt sg1) ((said 2).vd kt sg2) (.slice ah1 nh1 ch1) (.slice ap1 np1 cp1) (.slice aa1 na1 ca1) (.slice az1 ns1 cs1) (.slice ah2 nh2 ch2) (.slice ap2 np2 cp2) (.slice aa2 na2 ca2) (.slice az2 ns2 cs2) 1 1 0) (by kernel_rfl) ?_)
    | (refine kit_build rfl 39 #[(0, .tmp 29), (1, .tmp 30), (2, .const (.int .i64 1)), (3, .const (.int .i64 1))] rfl _ rfl (eviV ((said 1).vd kt sg1) ((said 1).vd kt sg1) (.slice ah1 nh1 ch1) (.slice ap1 np1 cp1) (.slice aa1 na1 ca1) (.slice az1 ns1 cs1) (.slice ah1 nh1 ch1) (.slice ap1 np1 cp1) (.slice aa1 na1 ca1) (.slice az1 ns1 cs1) 1 1 0) (by kernel_rfl) ?_)
    | (refine kit_store_last rfl 39 (.tmp 8) _ rfl rfl w6.heap.size (eviV ((said 1).vd kt sg1) ((said 2).vd kt sg2) (.slice ah1 nh1 ch1) (.slice ap1 np1 cp1) (.slice aa1 na1 ca1) (.slice az1 ns1 cs1) (.slice ah2 nh2 ch2) (.slice ap2 np2 cp2) (.slice aa2 na2 ca2) (.slice az2 ns2 cs2) 1 1 0) eviZ rfl rfl rfl hi39 rfl (evi_one _ _ _ _ _ _ _ _ _ _ _ _ _ _ _ _ _ _ _ _ _ _ _ _ _ _ _ _ _) ?_
       have k7 : Kp [] w6 (w6.alloc (.cells (eviV ((said 1).vd kt sg1) ((said 2).vd kt sg2) (.slice ah1 nh1 ch1) (.slice ap1 np1 cp1) (.slice aa1 na1 ca1) (.slice az1 ns1 cs1) (.slice ah2 nh2 ch2) (.slice ap2 np2 cp2) (.slice aa2 na2 ca2) (.slice az2 ns2 cs2) 1 1 0) 39)) := (Kp.refl [] w6).alloc _
       have hb7 := Blk.new w6 (eviV ((said 1).vd kt sg1) ((said 2).vd kt sg2) (.slice ah1 nh1 ch1) (.slice ap1 np1 cp1) (.slice aa1 na1 ca1) (.slice az1 ns1 cs1) (.slice ah2 nh2 ch2) (.slice ap2 np2 cp2) (.slice aa2 na2 ca2) (.slice az2 ns2 cs2) 1 1 0) 39
       generalize w6.alloc (.cells (eviV ((said 1).vd kt sg1) ((said 2).vd kt sg2) (.slice ah1 nh1 ch1) (.slice ap1 np1 cp1) (.slice aa1 na1 ca1) (.slice az1 ns1 cs1) (.slice ah2 nh2 ch2) (.slice ap2 np2 cp2) (.slice aa2 na2 ca2) (.slice az2 ns2 cs2) 1 1 0) 39) = w7 at *
       obtain ⟨g7, eg7⟩ : ∃ g, g = w6.heap.size := ⟨_, rfl⟩
       rw [← eg7] at hb7 ⊢
       have H7 := Lib.hid (And.intro (k7.blk H6.out.1 (by simp)) (And.intro (k7.blk H6.out.2.1 (by simp)) (And.intro hb7 k7)))
       clear k7 hb7 eg7)
    | (refine kit_store_last rfl 39 (.tmp 9) _ rfl rfl w7.heap.size (eviV ((said 1).vd kt sg1) ((said 1).vd kt sg1) (.slice ah1 nh1 ch1) (.slice ap1 np1 cp1) (.slice aa1 na1 ca1) (.slice az1 ns1 cs1) (.slice ah1 nh1 ch1) (.slice ap1 np1 cp1) (.slice aa1 na1 ca1) (.slice az1 ns1 cs1) 1 1 0) eviZ rfl rfl rfl hi39 rfl (evi_one _ _ _ _ _ _ _ _ _ _ _ _ _ _ _ _ _ _ _ _ _ _ _ _ _ _ _ _ _) ?_
       have k8 : Kp [] w7 (w7.alloc (.cells (eviV ((said 1).vd kt sg1) ((said 1).vd kt sg1) (.slice ah1 nh1 ch1) (.slice ap1 np1 cp1) (.slice aa1 na1 ca1) (.slice az1 ns1 cs1) (.slice ah1 nh1 ch1) (.slice ap1 np1 cp1) (.slice aa1 na1 ca1) (.slice az1 ns1 cs1) 1 1 0) 39)) := (Kp.refl [] w7).alloc _
       have hb8 := Blk.new w7 (eviV ((said 1).vd kt sg1) ((said 1).vd kt sg1) (.slice ah1 nh1 ch1) (.slice ap1 np1 cp1) (.slice aa1 na1 ca1) (.slice az1 ns1 cs1) (.slice ah1 nh1 ch1) (.slice ap1 np1 cp1) (.slice aa1 na1 ca1) (.slice az1 ns1 cs1) 1 1 0) 39
       generalize w7.alloc (.cells (eviV ((said 1).vd kt sg1) ((said 1).vd kt sg1) (.slice ah1 nh1 ch1) (.slice ap1 np1 cp1) (.slice aa1 na1 ca1) (.slice az1 ns1 cs1) (.slice ah1 nh1 ch1) (.slice ap1 np1 cp1) (.slice aa1 na1 ca1) (.slice az1 ns1 cs1) 1 1 0) 39) = w8 at *
       obtain ⟨g8, eg8⟩ : ∃ g, g = w7.heap.size := ⟨_, rfl⟩
       rw [← eg8] at hb8 ⊢
       have H8 := Lib.hid (And.intro (k8.blk H7.out.2.2.1 (by simp)) (And.intro hb8 (And.intro (H6.out.2.2.2.trans (H7.out.2.2.2.trans k8)) (H7.out.2.2.2.trans k8))))
       clear k8 hb8 eg8)
    | (refine kit_load rfl 39 (.tmp 8) rfl _ rfl g7 rfl (eviV ((said 1).vd kt sg1) ((said 2).vd kt sg2) (.slice ah1 nh1 ch1) (.slice ap1 np1 cp1) (.slice aa1 na1 ca1) (.slice az1 ns1 cs1) (.slice ah2 nh2 ch2) (.slice ap2 np2 cp2) (.slice aa2 na2 ca2) (.slice az2 ns2 cs2) 1 1 0) 39 H8.out.1 _ Tryz.underlying39 rfl hi39 ?_)
    | (refine kit_load rfl 27 (.tmp 1) rfl _ rfl g2 rfl #[.slice (some ⟨vb, 0, none⟩) 1 vc, .int .i64 pi] 27 (H8.out.2.2.1.blk H4.out.2.2.2.1 (by simp)) _ Tryz.underlying27 rfl hi27 ?_))
  have hkp1 : Ls.map Sea.kp2 = [(keyN 0, 1)] := List.perm_singleton.1 (by have := H1.out.2.1; simpa [KP] using this)
  have kw8 : Kp [] w w8 := H4.out.1.trans H8.out.2.2.1
  have hp : ∀ S ∈ Ls, 1 ≤ S.pow ∧ S.pow ≤ 1000 := by
    intro S hS
    have h1 : S.kp2 ∈ Ls.map Sea.kp2 := List.mem_map_of_mem hS
    rw [hkp1] at h1
    simp only [List.mem_singleton] at h1
    have h2 : S.pow = 1 := congrArg Prod.snd h1
    omega
  have ha : (Ls.map fun S => addr kt S.key).Nodup := by
    have h1 : Ls.map (fun S => addr kt S.key) = (Ls.map Sea.kp2).map fun d => addr kt d.1 := by rw [List.map_map]; rfl
    rw [h1, hkp1]
    simp
  have hL8 : SeaR w8 (.slice (some ⟨vb, 0, none⟩) 1 vc) Ls := ⟨vb, vc, by rw [hl], H4.out.2.2.2.2.kp H8.out.2.2.1⟩
  have hA8 := H4.out.2.2.1.kp H8.out.2.2.1
  have hB8 := H6.out.2.2.1.kp H8.out.2.2.2
  have okA := Sd.vd_ok (kt := kt) (said_ok (b := 1) (by omega)) H3.out.1 (by rw [H3.out.2.1]; omega)
  have okB := Sd.vd_ok (kt := kt) (said_ok (b := 2) (by omega)) H5.out.1 (by rw [H5.out.2.1]; omega)
  have hs1 : sgn kt (keyN 0) (sb ((said 1).vd kt sg1)) = sg1 := (H3.out.2.2.2.1 (by decide)).symm
  have hs2 : sgn kt (keyN 0) (sb ((said 2).vd kt sg2)) = sg2 := (H5.out.2.2.2.1 (by decide)).symm
  have hG : Guilty kt (Ls.map Sea.kp2) ((said 1).vd kt sg1) ((said 2).vd kt sg2) 1 1 := by
    rw [hkp1]
    refine ⟨(keyN 0, 1), by simp, rfl, rfl, rfl, rfl, rfl, ?_, rfl, by simp, hs1, hs2⟩
    intro hh
    have h1 : idH 1 = idH 2 := hh.1
    exact absurd h1 (by decide)
  have hN : ¬ Guilty kt (Ls.map Sea.kp2) ((said 1).vd kt sg1) ((said 1).vd kt sg1) 1 1 := by
    rintro ⟨V, _, _, _, _, _, _, h, _⟩
    exact h ⟨rfl, rfl, rfl⟩
  have H9 := Lib.hid (And.intro kw8 (And.intro hL8 (And.intro hA8 (And.intro hB8 (And.intro hp (And.intro ha (And.intro okA (And.intro okB (And.intro hG hN)))))))))
  clear hkp1 kw8 hp ha hL8 hA8 hB8 okA okB hs1 hs2 hG hN
  refine (verE_any kt _ _ H9.out.2.2.2.2.2.2.1 H9.out.2.2.2.2.2.2.2.1 (Sd.lens kt _ _) (Sd.lens kt _ _) _ _ _ _ _ _ _ _ 1 1 0 pi _ 1 Ls w8 H9.out.2.2.1 H9.out.2.2.2.1 H9.out.2.1 hl.symm (by omega) (by omega) H9.out.2.2.2.2.1 H9.out.2.2.2.2.2.1 ⟨p0, p1⟩ (H.out.2.1.kp H9.out.1) (H.out.2.2.kp H9.out.1)).mono ?_
  rintro e w9 ⟨r, rfl, hr, k9⟩
  obtain rfl : r = true := hr.2 H9.out.2.2.2.2.2.2.2.2.1
  have HR9 := Lib.hid k9
  clear hr k9
  go_wp2_with (first
    | (refine kit_load_w (by kernel_rfl) 39 (.tmp 9) rfl g8 rfl (eviV ((said 1).vd kt sg1) ((said 1).vd kt sg1) (.slice ah1 nh1 ch1) (.slice ap1 np1 cp1) (.slice aa1 na1 ca1) (.slice az1 ns1 cs1) (.slice ah1 nh1 ch1) (.slice ap1 np1 cp1) (.slice aa1 na1 ca1) (.slice az1 ns1 cs1) 1 1 0) 39 (HR9.out.blk H8.out.2.1 (by simp)) _ Tryz.underlying39 rfl hi39 ?_)
    | (refine kit_load_w (by kernel_rfl) 27 (.tmp 1) rfl g2 rfl #[.slice (some ⟨vb, 0, none⟩) 1 vc, .int .i64 pi] 27 ((H8.out.2.2.1.trans HR9.out).blk H4.out.2.2.2.1 (by simp)) _ Tryz.underlying27 rfl hi27 ?_))
  refine (verE_any kt _ _ H9.out.2.2.2.2.2.2.1 H9.out.2.2.2.2.2.2.1 (Sd.lens kt _ _) (Sd.lens kt _ _) _ _ _ _ _ _ _ _ 1 1 0 pi _ 1 Ls w9 (H9.out.2.2.1.kp HR9.out) (H9.out.2.2.1.kp HR9.out) (H9.out.2.1.kp HR9.out) hl.symm (by omega) (by omega) H9.out.2.2.2.2.1 H9.out.2.2.2.2.2.1 ⟨p0, p1⟩ (H.out.2.1.kp (H9.out.1.trans HR9.out)) (H.out.2.2.kp (H9.out.1.trans HR9.out))).mono ?_
  rintro e w10 ⟨r, rfl, hr, k10⟩
  obtain rfl : r = false := by
    cases r
    · rfl
    · exact absurd (hr.1 rfl) H9.out.2.2.2.2.2.2.2.2.2
  have HR10 := Lib.hid k10
  clear hr k10
  go_wp2_with fail
  go_ret
  exact ⟨rfl, (H9.out.1.trans HR9.out).trans HR10.out⟩
end Go.Proofs.YtfkaldaflnmfiaaGreatDoor
