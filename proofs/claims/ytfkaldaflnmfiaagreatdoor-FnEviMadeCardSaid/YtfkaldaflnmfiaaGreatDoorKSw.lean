/- The contract of the reference's making of a set. -/
import Derived.WalkKit
import Derived.WalkSpells
import Derived.WalkLawsBesides
import Derived.Handy
import Derived.Lib.Hide
import Derived.IntWalk
import Derived.LoopTactic
import Derived.Deep.QuietTactic
import Derived.Deep.RegionWith
import Derived.Deep.RegionHeld3
import Derived.BigRegion
import Derived.BigQuiet
import Derived.Test.YtfkaldaflnmfiaaGreatDoorKSn
namespace Go.Proofs.YtfkaldaflnmfiaaGreatDoor
set_option linter.unusedSimpArgs false
set_option linter.unusedVariables false
open Go Go.RowKit

/-- A whole struct and a slot as results. -/
theorem results_row_tmp {P : Program} {fn : Func} {p u : Tmp} {ty : TypeId} (h : fn.results = #[.cell p ty, .tmp u]) (tmps : Array Value) (w : World) (g : Nat) (t : TypeId) (cs : Array Value) (fr : Nat × Nat) (d : TypeDesc) (v : Value)
    (hp : tmps.getD p undef = .pointer (some ⟨g, 0, none⟩)) (hv : tmps.getD u undef = v) (hg : w.heap[g]? = some (.cells cs t fr))
    (hu : P.underlying ty = some d) (hd : (match d with | .struct _ | .array _ _ => true | _ => false) = true) (hi : (P.info? ty).map (·.size) = some cs.size) :
    (results fn tmps).run P w = .ok (.tuple #[.agg cs, v]) w := by
  have hp' : tmps[p]?.getD undef = .pointer (some ⟨g, 0, none⟩) := by simpa using hp
  have hv' : tmps[u]?.getD undef = v := by simpa using hv
  simp [results, h, hp', hv', asAddr, run_loadVar_row w g t ty cs fr d hg hu hd hi]
theorem results_row_tmp2 {P : Program} {fn : Func} {p u u2 : Tmp} {ty : TypeId} (h : fn.results = #[.cell p ty, .tmp u, .tmp u2]) (tmps : Array Value) (w : World) (g : Nat) (t : TypeId) (cs : Array Value) (fr : Nat × Nat) (d : TypeDesc) (v v2 : Value)
    (hp : tmps.getD p undef = .pointer (some ⟨g, 0, none⟩)) (hv : tmps.getD u undef = v) (hv2 : tmps.getD u2 undef = v2) (hg : w.heap[g]? = some (.cells cs t fr))
    (hu : P.underlying ty = some d) (hd : (match d with | .struct _ | .array _ _ => true | _ => false) = true) (hi : (P.info? ty).map (·.size) = some cs.size) :
    (results fn tmps).run P w = .ok (.tuple #[.agg cs, v, v2]) w := by
  have hp' : tmps[p]?.getD undef = .pointer (some ⟨g, 0, none⟩) := by simpa using hp
  have hv' : tmps[u]?.getD undef = v := by simpa using hv
  have hv2' : tmps[u2]?.getD undef = v2 := by simpa using hv2
  simp [results, h, hp', hv', hv2', asAddr, run_loadVar_row w g t ty cs fr d hg hu hd hi]
theorem found_nil {a : List Int} {r : Int} (h : FoundS [] a r) : r = -1 := by
  rcases h with h | ⟨i, S, _, h, _⟩
  · exact h.1
  · simp at h
theorem found_new {L : List Sp} {i : Nat} {S : Sp} {r : Int} (hd : (L.map Sp.a).Nodup) (hS : L[i]? = some S) (h : FoundS (L.take i) S.a r) : r = -1 := by
  rcases h with h | ⟨j, T, _, h, e⟩
  · exact h.1
  · have hj : j < (L.take i).length := (List.getElem?_eq_some_iff.1 h).1
    rw [List.length_take] at hj
    rw [List.getElem?_take, if_pos (by omega)] at h
    have h1 : (L.map Sp.a)[j]? = some S.a := by rw [List.getElem?_map, h, ← e]; rfl
    have h2 : (L.map Sp.a)[i]? = some S.a := by rw [List.getElem?_map, hS]; rfl
    have hi2 : j < (L.map Sp.a).length := by rw [List.length_map]; omega
    have := (List.getElem?_inj hi2 hd).1 (h1.trans h2.symm)
    omega

theorem SpAt.drew {w : World} {b : Nat} {L : List Sp} (h : SpAt w b L) : SpAt w.drew b L := h.kp (Kp.refl [] w).drew
set_option maxHeartbeats 1000000 in
set_option maxRecDepth 100000 in
theorem change_any (b n c : Nat) (L : List Sp) (w : World) (h : SpAt w b L) (hn : n = L.length) (hn0 : 0 < n) (hn1 : n ≤ 100) (hc : n ≤ c) (hL : SpOk L) (hd : (L.map Sp.a).Nodup) :
    Calls Tryz.prog 31 #[.agg #[.slice none 0 0, .string ⟨#[]⟩], spS b n c] w fun e w' => ∃ (b' c' : Nat) (s' : ByteArray) (Q : List Sp), e = .returned (.tuple #[.agg #[spS b' n c', .string s'], .int .i64 0]) ∧ OwnR 42 w' w.heap.size (spS b' n c') (Q.map Sp.r) ∧ (Q.map Sp.ap).Perm (L.map Sp.ap) ∧ Pri 0 Q ∧ Kp [] w w' := by
  have H := Lib.hid (And.intro h (And.intro hL hd))
  have HN := Lib.hid hn
  clear h hL hd hn
  have hn2 : ((n : Int) == 0) = false := by rw [beq_eq_false_iff_ne]; omega
  unfold spS
  go_enter Tryz.func31, Tryz.ntmps31
  go_wp2_with fail
  have k0 := ((Kp.refl [] w).alloc (.cells #[.slice none 0 0, .string ⟨#[]⟩] 59)).alloc (.cells #[.slice none 0 0, .string ⟨#[]⟩] 59)
  have hr := Blk.new (w.alloc (.cells #[.slice none 0 0, .string ⟨#[]⟩] 59)) #[.slice none 0 0, .string ⟨#[]⟩] 59
  have hq := (Blk.new w #[.slice none 0 0, .string ⟨#[]⟩] 59).alloc (.cells #[.slice none 0 0, .string ⟨#[]⟩] 59)
  rw [show (w.alloc (.cells #[.slice none 0 0, .string ⟨#[]⟩] 59)).heap.size = w.heap.size + 1 by simp] at hr
  generalize (w.alloc (.cells #[.slice none 0 0, .string ⟨#[]⟩] 59)).alloc (.cells #[.slice none 0 0, .string ⟨#[]⟩] 59) = w1 at *
  obtain ⟨r, er⟩ : ∃ r, r = w.heap.size + 1 := ⟨_, rfl⟩
  obtain ⟨q, eq⟩ : ∃ q, q = w.heap.size := ⟨_, rfl⟩
  rw [← er] at hr ⊢
  rw [← eq] at hq ⊢
  have H1 := Lib.hid (And.intro k0 (And.intro hr (And.intro hq (And.intro er eq))))
  clear k0 hr hq er eq
  go_loopw [28] (fun s wr => ∃ i : Nat, i ≤ n ∧ s = .int .i64 i ∧ Kp [] w1 wr) (fun s _ => n - (intOf s).toNat)
  case atStart => exact ⟨0, by omega, rfl, Kp.refl _ _⟩
  case round =>
    obtain ⟨i, hi, rfl, hk⟩ := hrel
    have K := Lib.hid hk
    by_cases hlt : i < n
    · obtain ⟨S, hSm, hSi⟩ := lget (L := L) (i := i) (by rw [← HN.out]; exact hlt)
      have kk := H1.out.1.trans hk
      have hs := H.out.1 i S hSi
      have c0 := cell_kp hs.1 kk
      have c1 := cell_kp hs.2.1 kk
      have c2 := cell_kp hs.2.2 kk
      obtain ⟨_, p0, p1⟩ := H.out.2.1 S hSm
      have HS := Lib.hid hSi
      clear hs hSm hSi kk hk
      go_wp2_with fail
      have k1 := (Kp.refl [] wr).alloc (.cells #[.string (strOfNums S.a), .int .i64 S.pow, .int .i64 S.pri] 42)
      have hb := Blk.new wr #[.string (strOfNums S.a), .int .i64 S.pow, .int .i64 S.pri] 42
      generalize wr.alloc (.cells #[.string (strOfNums S.a), .int .i64 S.pow, .int .i64 S.pri] 42) = wA at *
      obtain ⟨p, ep⟩ : ∃ p, p = wr.heap.size := ⟨_, rfl⟩
      rw [← ep] at hb ⊢
      have pc0 : ∀ W, Kp [] wA W → W.cell? ⟨p, 0, none⟩ = some (.string (strOfNums S.a)) := hb.all 0 rfl
      have pc1 : ∀ W, Kp [] wA W → W.cell? ⟨p, 1, none⟩ = some (.int .i64 S.pow) := hb.all 1 rfl
      have S7 : ∀ W, Kp [] wA W → W.cell? ⟨p, 0, none⟩ = some (.string (strOfNums S.a)) := pc0
      have HA := Lib.hid (And.intro k1 hb)
      clear k1 hb ep c0 c1 c2
      have HP := Lib.hid (And.intro pc0 pc1)
      clear pc0 pc1 S7
      have z0 : (0 : Int) ≤ (i : Int) := by omega
      have z1 : (i : Int) ≤ (n : Int) := by omega
      have z2 : (i : Int) ≤ (c : Int) := by omega
      have z3 : i ≤ c := by omega
      go_region_held3 (fun W => W.cell? ⟨p, 0, none⟩ = some (.string (strOfNums S.a)))
        (first | exact HP.out.1 _ (Kp.refl [] wA).drew | exact HP.out.1 _ hk7)
        (first | (go_at_call 8; refine (find_any b c i (L.take i) S.a wA.drew ((H.out.1.kp ((H1.out.1.trans K.out).trans HA.out.1)).drew.take i) (by rw [List.length_take, ← HN.out]; omega) (by omega) (fun T hT => (H.out.2.1 T (List.mem_of_mem_take hT)).1) (H.out.2.1 S (List.mem_of_getElem? HS.out)).1).mono ?_; rintro e W7 ⟨⟨rr, rfl, hf⟩, hk0⟩; obtain rfl := found_new H.out.2.2 HS.out hf; have hk7 := (Kp.refl [] wA).drew.trans hk0))
      have c1 := HP.out.2 W7 hk7
      have HK7 := Lib.hid ((K.out.trans HA.out.1).trans hk7)
      clear hk7 hk0
      go_wp2_with fail
      exact ⟨⟨i + 1, by omega, by go_num, HK7.out⟩, by simp [intOf]; omega⟩
    · obtain rfl : i = n := by omega
      have q0 : (wr.alloc (.cells #[] 42)).cell? ⟨q, 0, none⟩ = some (.slice none 0 0) := ((hk.alloc (.cells #[] 42)).blk H1.out.2.2.1 (by simp)).cell rfl
      have hkB := hk.alloc (.cells #[] 42)
      clear hk
      go_wp2_with fail
      obtain ⟨x, ex⟩ : ∃ x, x = wr.heap.size := ⟨_, rfl⟩
      rw [← ex]
      generalize wr.alloc (.cells #[] 42) = wB at *
      have KB := Lib.hid hkB
      clear hkB K ex q0
      refine (total_any x 0 0 [] wB (SpAt.nil _ _) rfl (by omega) (by intro S hS; cases hS)).mono ?_
      rintro e wC ⟨rfl, kC⟩
      rw [show powS [] = 0 from rfl]
      have KC := Lib.hid (KB.out.trans kC)
      clear kC KB
      go_wp2_with fail
      go_loopw [6, 7, 11, 12, 61] (fun s6 s7 s11 s12 s wr => ∃ j : Nat, j ≤ i ∧ s = .int .i64 j ∧ s6 = .int .i64 j ∧ s7 = .int .i64 0 ∧ s11 = .int .i64 (powS (L.take j)) ∧ s12 = .int .i64 0 ∧ Kp [] w1 wr) (fun s6 s7 s11 s12 s _ => i - (intOf s).toNat)
      case atStart => exact ⟨0, by omega, rfl, rfl, rfl, rfl, rfl, KC.out⟩
      case round =>
        obtain ⟨j, hj, rfl, rfl, rfl, rfl, rfl, hk⟩ := hrel
        have hsum := powS_bd (H.out.2.1.take j)
        rw [List.length_take, ← HN.out, Nat.min_eq_left hj] at hsum
        obtain ⟨t, ht⟩ : ∃ t, powS (L.take j) = t := ⟨_, rfl⟩
        have HQ := Lib.hid ht
        rw [ht] at hsum ⊢
        clear ht
        obtain ⟨t0, t1⟩ := hsum
        have K := Lib.hid hk
        by_cases hjl : j < i
        · obtain ⟨S, hSm, hSi⟩ := lget (L := L) (i := j) (by rw [← HN.out]; exact hjl)
          have kk := H1.out.1.trans hk
          have hs := H.out.1 j S hSi
          have c0 := cell_kp hs.1 kk
          have c1 := cell_kp hs.2.1 kk
          have c2 := cell_kp hs.2.2 kk
          obtain ⟨ha, p0, p1⟩ := H.out.2.1 S hSm
          have HS := Lib.hid (And.intro hSi ha)
          have hp0 : (S.pow == 0) = false := by rw [beq_eq_false_iff_ne]; omega
          clear hs hSm hSi ha kk hk
          go_wp2_with fail
          have k1 := (Kp.refl [] wr).alloc (.cells #[.string (strOfNums S.a), .int .i64 S.pow, .int .i64 S.pri] 42)
          have hb := Blk.new wr #[.string (strOfNums S.a), .int .i64 S.pow, .int .i64 S.pri] 42
          generalize wr.alloc (.cells #[.string (strOfNums S.a), .int .i64 S.pow, .int .i64 S.pri] 42) = wA at *
          obtain ⟨p, ep⟩ : ∃ p, p = wr.heap.size := ⟨_, rfl⟩
          rw [← ep] at hb ⊢
          have HA := Lib.hid (And.intro k1 hb)
          clear k1 hb ep c0 c1 c2
          refine (find_any x 0 0 [] S.a wA (SpAt.nil _ _) rfl (by omega) (by intro T hT; cases hT) HS.out.2).mono ?_
          rintro e wD ⟨⟨rr, rfl, hf⟩, kD⟩
          obtain rfl := found_nil hf
          have d1 : wD.cell? ⟨p, 1, none⟩ = some (.int .i64 S.pow) := (kD.blk HA.out.2 (by simp)).cell rfl
          have KD := Lib.hid ((K.out.trans HA.out.1).trans kD)
          clear kD hf
          go_wp2_with fail
          exact ⟨⟨j + 1, by omega, by go_num, by go_num, rfl, by rw [powS_take HS.out.1, HQ.out], rfl, KD.out⟩, by simp [intOf]; omega⟩
        · obtain rfl : j = i := by omega
          clear hk
          go_wp2_with fail
          refine wp_loop_rounds 1 ?_
          rw [rounds_succ]
          go_wp2_with fail
          obtain ⟨z, hz⟩ : ∃ z, z = -(t + t / 8) := ⟨_, rfl⟩
          have hz0 : -200000 ≤ z ∧ z ≤ 0 := by
            omega
          have HZ := Lib.hid (And.intro hz hz0)
          clear hz hz0
          go_loopw [16, 169] (fun s16 s wr => ∃ m : Nat, m ≤ j ∧ s = .int .i64 m ∧ OwnS wr w1.heap.size m s16 ((L.take m).map (Sp.to z)) ∧ Kp [] w1 wr) (fun s16 s _ => j - (intOf s).toNat)
          case atStart => exact ⟨0, by omega, rfl, ⟨OwnR.nil _ _, rfl⟩, K.out⟩
          case round =>
            obtain ⟨m, hm, rfl, ho, hk⟩ := hrel
            have HO := Lib.hid (And.intro ho hk)
            by_cases hml : m < j
            · obtain ⟨va, vc, rfl⟩ := ho.form
              obtain ⟨S, hSm, hSi⟩ := lget (L := L) (i := m) (by rw [← HN.out]; exact hml)
              have kk := H1.out.1.trans hk
              have hs := H.out.1 m S hSi
              have c0 := cell_kp hs.1 kk
              have c1 := cell_kp hs.2.1 kk
              have c2 := cell_kp hs.2.2 kk
              obtain ⟨ha, p0, p1⟩ := H.out.2.1 S hSm
              have HS := Lib.hid (And.intro hSi ha)
              have hp0 : decide (0 < S.pow) = true := decide_eq_true (by omega)
              clear hs hSm hSi ha kk hk ho
              go_wp2_with fail
              have k1 := (Kp.refl [] wr).alloc (.cells #[.string (strOfNums S.a), .int .i64 S.pow, .int .i64 S.pri] 42)
              have hb := Blk.new wr #[.string (strOfNums S.a), .int .i64 S.pow, .int .i64 S.pri] 42
              generalize wr.alloc (.cells #[.string (strOfNums S.a), .int .i64 S.pow, .int .i64 S.pri] 42) = wA at *
              obtain ⟨p, ep⟩ : ∃ p, p = wr.heap.size := ⟨_, rfl⟩
              rw [← ep] at hb ⊢
              have HA := Lib.hid (And.intro k1 hb)
              have c1 : wA.cell? ⟨p, 1, none⟩ = some (.int .i64 S.pow) := hb.cell rfl
              clear k1 hb ep
              refine (find_any x 0 0 [] S.a wA (SpAt.nil _ _) rfl (by omega) (by intro T hT; cases hT) HS.out.2).mono ?_
              rintro e wD ⟨⟨rr, rfl, hf⟩, kD⟩
              obtain rfl := found_nil hf
              have d0 : wD.cell? ⟨p, 0, none⟩ = some (.string (strOfNums S.a)) := (kD.blk HA.out.2 (by simp)).cell rfl
              have d1 : wD.cell? ⟨p, 1, none⟩ = some (.int .i64 S.pow) := (kD.blk HA.out.2 (by simp)).cell rfl
              have KD := Lib.hid (HA.out.1.trans kD)
              have HX := Lib.hid ((Blk.new wD #[.string (strOfNums S.a), .int .i64 S.pow, .int .i64 (-(t + t / 8))] 42))
              obtain ⟨P, hP⟩ : ∃ P, P = ((L.take m).map (Sp.to z)).map Sp.r := ⟨_, rfl⟩
              have HP := Lib.hid (And.intro hP (show P.length = m by rw [hP, List.length_map, HO.out.1.2]))
              have HY := Lib.hid ((hP ▸ HO.out.1.1).kp ((HA.out.1.trans kD).alloc (.cells #[.string (strOfNums S.a), .int .i64 S.pow, .int .i64 (-(t + t / 8))] 42)))
              clear kD hf c1 hP
              go_wp2_with (refine kit_rec rfl (.tmp 183) (.tmp 194) 28 42 _ 32 under28 info42 rfl (by decide) rfl (B := w1.heap.size) (bx := wD.heap.size) (v := .slice va m vc) (l := P) (r := Sp.r (S.to (-(t + t / 8)))) rfl HY.out rfl ⟨HX.out.cell rfl, HX.out.cell rfl, HX.out.cell rfl⟩ ⟨rfl, rfl, rfl⟩ ?hl ?hB ?_)
              case hl => rw [HP.out.2]; omega
              case hB => exact ((HO.out.2.trans KD.out).alloc _).size
              intro v' w2 ho2 ha2
              have hk2 : Kp [] w1 w2 := ha2.ownR ((HO.out.2.trans KD.out).alloc _) HY.out (Nat.le_refl _)
              have hlm : ((L.take (m + 1)).map (Sp.to z)).map Sp.r = P ++ [Sp.r (S.to (-(t + t / 8)))] := by
                rw [ltake HS.out.1, HP.out.1, ← HZ.out.1]
                simp
              have hl2 : ((L.take (m + 1)).map (Sp.to z)).length = m + 1 := by
                rw [List.length_map, List.length_take, ← HN.out, Nat.min_eq_left (by omega)]
              rw [← hlm] at ho2
              have H2 := Lib.hid (And.intro ho2 (And.intro hl2 hk2))
              clear ho2 ha2 hk2 hlm hl2
              go_wp2_with fail
              exact ⟨⟨m + 1, by omega, by go_num, ⟨H2.out.1, H2.out.2.1⟩, H2.out.2.2⟩, by simp [intOf]; omega⟩
            · obtain rfl : m = j := by omega
              clear hk
              obtain ⟨g, cc, rfl, hg, hgl⟩ := ho.1.posR (by rw [List.length_map, ho.2]; exact hn0)
              rw [List.length_map, ho.2]
              have hlz : ((L.take m).map (Sp.to z)).length = m := ho.2
              obtain ⟨M, hM⟩ : ∃ M, M = (L.take m).map (Sp.to z) := ⟨_, rfl⟩
              have hMp : Pri z M ∧ M.map Sp.ap = L.map Sp.ap ∧ SpOk M := by
                subst hM
                rw [List.take_of_length_le (Nat.le_of_eq HN.out.symm)]
                refine ⟨?_, ?_, ?_⟩
                · intro S hS
                  obtain ⟨U, _, rfl⟩ := List.mem_map.1 hS
                  rfl
                · rw [List.map_map]
                  rfl
                · intro S hS
                  obtain ⟨U, hU, rfl⟩ := List.mem_map.1 hS
                  exact H.out.2.1 U hU
              have hO1 : OwnR 42 wr w1.heap.size (spS g m cc) (M.map Sp.r) := by
                have h1 := HO.out.1.1
                rw [List.length_map, hlz] at h1
                rw [hM]
                exact h1
              rw [← hM] at hlz
              have hbd := powS_bd hMp.2.2
              rw [hlz] at hbd
              have HG := Lib.hid (And.intro hg (And.intro hlz (And.intro hMp (And.intro hO1 HO.out.2))))
              clear ho hgl hg hlz hMp hO1 hM HO
              obtain ⟨z0, z1⟩ := HZ.out.2
              go_wp2_with fail
              refine (total_any g cc m M wr HG.out.2.2.2.1.sp HG.out.2.1.symm (by omega) HG.out.2.2.1.2.2).mono ?_
              obtain ⟨T, hT⟩ : ∃ T, T = powS M := ⟨_, rfl⟩
              rw [← hT] at hbd ⊢
              clear hT
              obtain ⟨b0, b1⟩ := hbd
              rintro e w2 ⟨rfl, k2⟩
              go_wp2_with fail
              refine (rescaleS_any z (2 * T) g cc m M w2 (HG.out.2.2.2.1.sp.kp k2) HG.out.2.1.symm hn0 hn1 HG.out.2.2.1.1 (by omega) (by omega) (by omega)).mono ?_
              rintro e w3 ⟨b3, c3, rfl, ho3, k3⟩
              have HO3 := Lib.hid ho3
              clear ho3
              unfold spS
              go_wp2_with fail
              refine (centred_any z b3 c3 m M w3 HO3.out.sp HG.out.2.1.symm hn0 hn1 HG.out.2.2.1.1 (by omega) (by omega)).mono ?_
              rintro e w4 ⟨b4, c4, rfl, ho4, k4⟩
              have HO4 := Lib.hid ho4
              have HK4 := Lib.hid (HG.out.2.2.2.2.trans ((k2.trans k3).trans k4))
              clear ho4 k2 k3 k4
              unfold spS
              go_wp2_with fail
              have hr4 := HK4.out.blk H1.out.2.1 (by simp)
              have hq4 := HK4.out.blk H1.out.2.2.1 (by simp)
              have q1 : ∀ W, Kp [] w4 W → W.cell? ⟨q, 1, none⟩ = some (.string ⟨#[]⟩) := hq4.all 1 rfl
              have hqr : q ≠ r := by have := H1.out.2.2.2; omega
              have r0 : ∀ W, Kp [] w4 W → W.cell? ⟨r, 0, none⟩ = some (.slice none 0 0) := hr4.all 0 rfl
              have r1 : ∀ W, Kp [] w4 W → W.cell? ⟨r, 1, none⟩ = some (.string ⟨#[]⟩) := hr4.all 1 rfl
              have rf : ∀ j W, Kp [] w4 W → W.frozen? ⟨r, j, none⟩ = false := fun j W k => (k.blk hr4 (by simp)).free j
              have HR4 := Lib.hid (And.intro hr4 (And.intro hq4 (And.intro q1 (And.intro r0 (And.intro r1 rf)))))
              have S5 : ∀ W, Kp [r] w4 W → W.cell? ⟨q, 1, none⟩ = some (.string ⟨#[]⟩) := fun W k => (k.blk hq4 (by simpa using hqr)).cell rfl
              have HS5 := Lib.hid S5
              clear S5
              clear hr4 hq4 q1 r0 r1 rf hqr
              go_region_held3 (fun W => W.cell? ⟨q, 1, none⟩ = some (.string ⟨#[]⟩))
                (first | exact HS5.out _ (Kp.refl [r] w4).drew | exact HS5.out _ (hk5.mono (by simp)) | exact HS5.out _ (((hk5.mono (S' := [r]) (by simp)).set (p := ⟨r, 0, none⟩) (.inl (by simp)) _).set (p := ⟨r, 1, none⟩) (.inl (by simp)) _))
                (first | (go_at_call 54; refine (sorted_any b4 c4 m (toPri 0 M) w4.drew (HO4.out.sp.kp (Kp.refl [] w4).drew) (by unfold toPri; rw [List.length_map]; exact HG.out.2.1.symm) hn0 hn1).mono ?_; rintro e w5 ⟨Q, hp, b5, c5, rfl, ho5, hk0⟩; have hk5 := (Kp.refl [] w4).drew.trans hk0; have s0 := HR4.out.2.2.2.1 _ hk5; have s1 := HR4.out.2.2.2.2.1 _ hk5; have s2 := HR4.out.2.2.2.2.2 0 _ hk5; have s3 := HR4.out.2.2.2.2.2 1 _ hk5; unfold spS))
              have K5 := Lib.hid (And.intro hp (And.intro ho5 hk5))
              clear hp ho5 hk0 hk5 s0 s1 s2 s3
              go_wp2_with fail
              have hb6 := (((K5.out.2.2.blk HR4.out.1 (by simp)).set 0 (.slice (some ⟨b5, 0, none⟩) m c5)).set 1 (.string ⟨#[]⟩))
              have hi : (Tryz.prog.info? 59).map (·.size) = some 2 := by kernel_rfl
              refine bodyPost_ret (v := .tuple #[.agg #[.slice (some ⟨b5, 0, none⟩) m c5, .string ⟨#[]⟩], .int .i64 0]) ?_ ?_ ?_
              · exact results_row_tmp rfl _ _ r 59 #[.slice (some ⟨b5, 0, none⟩) m c5, .string ⟨#[]⟩] (0, 0) _ _ rfl rfl hb6 Tryz.underlying59 rfl hi
              · rfl
              have hrw : w.heap.size ≤ r := by have := H1.out.2.2.2; omega
              have kr : Kp [r] w5 ((w5.setCell ⟨r, 0, none⟩ (.slice (some ⟨b5, 0, none⟩) m c5)).setCell ⟨r, 1, none⟩ (.string ⟨#[]⟩)) := ((Kp.refl [r] w5).set (p := ⟨r, 0, none⟩) (.inl (by simp)) _).set (p := ⟨r, 1, none⟩) (.inl (by simp)) _
              have kw4 : Kp [] w w4 := H1.out.1.trans HK4.out
              have hb5 := K5.out.2.1.ge b5 rfl
              have hbr : b5 ≠ r := by
                have h1 := HR4.out.1.lt
                have h2 : w4.heap.size ≤ b5 := hb5
                omega
              refine ⟨b5, c5, _, Q, rfl, ?_, ?_, ?_, (kw4.trans K5.out.2.2).then kr (by intro j hj hm; simp at hm; omega)⟩
              · exact (K5.out.2.1.lower (show w.heap.size ≤ w4.heap.size from kw4.size)).kpS kr (by intro b hb; cases hb; simpa using hbr)
              · have h1 := K5.out.1.map Sp.ap
                refine h1.trans ?_
                unfold toPri
                rw [List.map_map]
                have h2 : List.map (Sp.ap ∘ Sp.to 0) M = M.map Sp.ap := rfl
                rw [h2, HG.out.2.2.1.2.1]
              · intro S hS
                have h1 := K5.out.1.mem_iff.1 hS
                unfold toPri at h1
                obtain ⟨U, _, rfl⟩ := List.mem_map.1 h1
                rfl
end Go.Proofs.YtfkaldaflnmfiaaGreatDoor
/- The contract of the reference's new set. -/
namespace Go.Proofs.YtfkaldaflnmfiaaGreatDoor
set_option linter.unusedSimpArgs false
set_option linter.unusedVariables false
open Go Go.RowKit

set_option maxHeartbeats 1000000 in
set_option maxRecDepth 100000 in
theorem turnNew_any (b n c : Nat) (L : List Sp) (w : World) (h : SpAt w b L) (hn : n = L.length) (hn0 : 0 < n) (hn1 : n ≤ 100) (hc : n ≤ c) (hL : SpOk L) (hd : (L.map Sp.a).Nodup) :
    Calls Tryz.prog 18 #[spS b n c] w fun e w' => ∃ (b' c' : Nat) (s' : ByteArray) (Q : List Sp), e = .returned (.tuple #[.agg #[spS b' n c', .string s'], .int .i64 0]) ∧ OwnR 42 w' w.heap.size (spS b' n c') (Q.map Sp.r) ∧ (Q.map Sp.ap).Perm (L.map Sp.ap) ∧ Kp [] w w' := by
  have H := Lib.hid (And.intro h (And.intro hL hd))
  have HN := Lib.hid hn
  clear h hL hd hn
  have hn2 : ((n : Int) == 0) = false := by rw [beq_eq_false_iff_ne]; omega
  unfold spS
  go_enter Tryz.func18, Tryz.ntmps18
  go_wp2_with fail
  have k0 := (Kp.refl [] w).alloc (.cells #[.slice none 0 0, .string ⟨#[]⟩] 59)
  have hr := Blk.new w #[.slice none 0 0, .string ⟨#[]⟩] 59
  generalize w.alloc (.cells #[.slice none 0 0, .string ⟨#[]⟩] 59) = w1 at *
  obtain ⟨r, er⟩ : ∃ r, r = w.heap.size := ⟨_, rfl⟩
  rw [← er] at hr ⊢
  have H1 := Lib.hid (And.intro k0 (And.intro hr er))
  clear k0 hr er
  go_loopw [10] (fun s wr => ∃ i : Nat, i ≤ n ∧ s = .int .i64 i ∧ Kp [] w1 wr) (fun s _ => n - (intOf s).toNat)
  case atStart => exact ⟨0, by omega, rfl, Kp.refl _ _⟩
  case round =>
    obtain ⟨i, hi, rfl, hk⟩ := hrel
    have K := Lib.hid hk
    by_cases hlt : i < n
    · obtain ⟨S, hSm, hSi⟩ := lget (L := L) (i := i) (by rw [← HN.out]; exact hlt)
      have kk := H1.out.1.trans hk
      have hs := H.out.1 i S hSi
      have c0 := cell_kp hs.1 kk
      have c1 := cell_kp hs.2.1 kk
      have c2 := cell_kp hs.2.2 kk
      obtain ⟨-, p0, p1⟩ := H.out.2.1 S hSm
      have hp0 : (S.pow == 0) = false := by rw [beq_eq_false_iff_ne]; omega
      clear hs hSm hSi kk hk
      go_wp2_with fail
      exact ⟨⟨i + 1, by omega, by go_num, K.out.alloc _⟩, by simp [intOf]; omega⟩
    · obtain rfl : i = n := by omega
      clear hk
      go_wp2_with fail
      refine (change_any b i c L wr (H.out.1.kp (H1.out.1.trans K.out)) HN.out hn0 hn1 hc H.out.2.1 H.out.2.2).mono ?_
      rintro e w2 ⟨b2, c2, s2, Q, rfl, ho, hp, hz, k2⟩
      have hql : Q.length = i := by
        have := hp.length_eq
        simp at this
        rw [this, ← HN.out]
      have hok : SpOk Q := by
        intro S hS
        have h1 : S.ap ∈ L.map Sp.ap := hp.mem_iff.1 (List.mem_map_of_mem hS)
        obtain ⟨U, hU, e⟩ := List.mem_map.1 h1
        have h2 := H.out.2.1 U hU
        have e1 : U.a = S.a := congrArg Prod.fst e
        have e2 : U.pow = S.pow := congrArg Prod.snd e
        rw [← e1, ← e2]
        exact h2
      have H2 := Lib.hid (And.intro ho (And.intro hp (And.intro hz (And.intro hql (And.intro hok (K.out.trans k2))))))
      clear ho hp hz hql hok k2
      unfold spS
      go_wp2_with fail
      have H3 := Lib.hid (H2.out.2.2.2.2.2.alloc (.cells #[.slice (some ⟨b2, 0, none⟩) i c2, .string s2] 59))
      refine (next_any b2 i c2 s2 Q _ (H2.out.1.sp.kp ((Kp.refl [] w2).alloc _)) H2.out.2.2.2.1.symm hn0 hn1 H2.out.2.2.1 H2.out.2.2.2.2.1).mono ?_
      rintro e w3 ⟨b3, c3, s3, Q3, rfl, ho3, hap, k3⟩
      unfold spS at *
      have K3 := Lib.hid (And.intro ho3 (And.intro hap (H3.out.trans k3)))
      have hr3 := (H3.out.trans k3).blk H1.out.2.1 (by simp)
      have r0 : w3.cell? ⟨r, 0, none⟩ = some (.slice none 0 0) := hr3.cell rfl
      have r1 : w3.cell? ⟨r, 1, none⟩ = some (.string ⟨#[]⟩) := hr3.cell rfl
      have f0 := hr3.free 0
      have f1 := hr3.free 1
      have HR3 := Lib.hid hr3
      clear hr3 ho3 hap k3
      go_wp2_with fail
      have hb6 := ((HR3.out.set 0 (.slice (some ⟨b3, 0, none⟩) i c3)).set 1 (.string s3))
      have hi : (Tryz.prog.info? 59).map (·.size) = some 2 := by kernel_rfl
      refine bodyPost_ret (v := .tuple #[.agg #[.slice (some ⟨b3, 0, none⟩) i c3, .string s3], .int .i64 0]) ?_ ?_ ?_
      · exact results_row_tmp rfl _ _ r 59 #[.slice (some ⟨b3, 0, none⟩) i c3, .string s3] (0, 0) _ _ rfl rfl hb6 Tryz.underlying59 rfl hi
      · rfl
      have kr : Kp [r] w3 ((w3.setCell ⟨r, 0, none⟩ (.slice (some ⟨b3, 0, none⟩) i c3)).setCell ⟨r, 1, none⟩ (.string s3)) := ((Kp.refl [r] w3).set (p := ⟨r, 0, none⟩) (.inl (by simp)) _).set (p := ⟨r, 1, none⟩) (.inl (by simp)) _
      have kw3 : Kp [] w w3 := H1.out.1.trans K3.out.2.2
      have h5 := K3.out.1.ge b3 rfl
      have h6 : w.heap.size ≤ r := by have := H1.out.2.2; omega
      have h7 : r < w2.heap.size := Nat.lt_of_lt_of_le H1.out.2.1.lt H2.out.2.2.2.2.2.size
      have h8 : w2.heap.size ≤ b3 := by
        simp at h5
        omega
      refine ⟨b3, c3, s3, Q3, rfl, ?_, ?_, kw3.then kr (by intro j hj hm; simp at hm; omega)⟩
      · exact (K3.out.1.lower (by simp; have := (H1.out.1.trans H2.out.2.2.2.2.2).size; omega)).kpS kr (by intro b hb; cases hb; simp; omega)
      · rw [K3.out.2.1]
        exact H2.out.2.1
end Go.Proofs.YtfkaldaflnmfiaaGreatDoor
