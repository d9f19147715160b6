/- The contract of the reference's sorting: the same seats in some order. -/
import Derived.Laws.CopyOwn
import Derived.WalkKit
import Derived.WalkSpells
import Derived.WalkLawsBesides
import Derived.Handy
import Derived.Lib.Hide
import Derived.IntWalk
import Derived.LoopTactic
import Derived.Deep.QuietTactic
import Derived.Deep.RegionWith
import Derived.Deep.RegionHeld3
import Derived.BigRegion
import Derived.BigQuiet
import Derived.Test.YtfkaldaflnmfiaaGreatDoorKSq
namespace Go.Proofs.YtfkaldaflnmfiaaGreatDoor
set_option linter.unusedSimpArgs false
set_option linter.unusedVariables false
open Go Go.RowKit

section
variable {P : Program} {ops : Array Oper} {rest : List Oper} {o : Oper} {a : Act} {w : World} {Q : Exit → Act → World → Prop} {K : Act → World → Prop}
theorem run_copy_row3 (w : World) (dT sT ty elem : TypeId) (g o dLen dCap : Nat) (a : Addr) (sLen sCap : Nat) (cur : Array Value) (t : TypeId) (cs : List Value)
    (hu : P.underlying dT = some (.slice elem)) (hs : (P.info? elem).map (·.size) = some 3)
    (hg : w.heap[g]? = some (.cells cur t (0, 0))) (hn : cs.length = Nat.min sLen dLen * 3)
    (hsrc : ∀ j v, cs[j]? = some v → w.cell? (a.add j) = some v) (hfit : o + cs.length ≤ cur.size) (h1 : ∀ v ∈ cs, v.oneCell' = true) :
    (Builtin.copy_ #[dT, sT] ty #[.slice (some ⟨g, o, none⟩) dLen dCap, .slice (some a) sLen sCap]).run P w =
      .ok (goInt (Nat.min sLen dLen)) (w.setRow g (cur.toList.take o ++ cs ++ cur.toList.drop (o + cs.length)).toArray) := by
  have hl := run_loadCells_list (P := P) w a cs hsrc
  have hst := run_storeCells_at P g o t cs 0 cur w hg (by simpa using hfit) h1
  cases hq : P.info? elem with
  | none => simp [hq] at hs
  | some i =>
    have hi : i.size = 3 := by simpa [hq] using hs
    simp [Builtin.copy_, run_underlying hu, Builtin.lenOf, Builtin.firstCells, sizeOf, typeInfo, hq, hi, ← hn, hl, hst]
theorem run_copy_none3 (w : World) (dT sT ty elem : TypeId) (d a : Option Addr) (dLen dCap sLen sCap : Nat) (hu : P.underlying dT = some (.slice elem)) (hs : (P.info? elem).map (·.size) = some 3) (hn : Nat.min sLen dLen = 0) :
    (Builtin.copy_ #[dT, sT] ty #[.slice d dLen dCap, .slice a sLen sCap]).run P w = .ok (goInt 0) w := by
  cases hq : P.info? elem with
  | none => simp [hq] at hs
  | some i =>
    have hl : ∀ (x : Addr), (loadCells x 0).run P w = .ok #[] w := fun x => by simpa using run_loadCells_list (P := P) w x [] (by simp)
    cases d <;> cases a <;> simp [Builtin.copy_, run_underlying hu, Builtin.lenOf, Builtin.firstCells, sizeOf, typeInfo, hq, hn, storeCells, hl]
theorem step_copy3 {E : Prop} (hgd : o.guard = none) (d s : Operand) (dT sT : TypeId)
    (ho : o.op = .call { callee := .builtin .copy, args := #[d, s], argTypes := #[dT, sT] }) (elem : TypeId) (hu : P.underlying dT = some (.slice elem)) (hsz : (P.info? elem).map (·.size) = some 3)
    (dp sp : Option Addr) (dLen dCap sLen sCap : Nat) (hd : a.eval d = .slice dp dLen dCap) (hs : a.eval s = .slice sp sLen sCap)
    (g off : Nat) (cur : Array Value) (t : TypeId) (hg : Blk w g cur t) (cs : List Value) (hn : cs.length = Nat.min sLen dLen * 3)
    (hpos : 0 < cs.length → dp = some ⟨g, off, none⟩ ∧ ∃ ad, sp = some ad ∧ ∀ j v, cs[j]? = some v → w.cell? (ad.add j) = some v)
    (hfit : off + cs.length ≤ cur.size) (h1 : ∀ v ∈ cs, v.oneCell' = true)
    (h : ∀ v w', Blk w' g (splice cur.toList off cs).toArray t → Kp [g] w w' → K (a.put o.dst v) w') :
    if Region.wanted o (yielded ops a.tmps) = true then Oper.wp P o a w K Q else E := by
  have hw : Region.wanted o (yielded ops a.tmps) = true := by simp [Region.wanted, hgd]
  rw [if_pos hw]
  by_cases h0 : cs.length = 0
  · obtain rfl : cs = [] := List.eq_nil_of_length_eq_zero h0
    have hrun := run_copy_none3 (P := P) w dT sT o.type elem dp sp dLen dCap sLen sCap hu hsz (by simp at hn; omega)
    unfold Oper.wp
    simp [execOp, ho, resolve, invoke, builtin, hd, hs, hrun, Result.andThen]
    exact h _ w (by simpa [splice] using hg) (Kp.refl _ _)
  · obtain ⟨rfl, ad, rfl, hsrc⟩ := hpos (by omega)
    have hrun := run_copy_row3 (P := P) w dT sT o.type elem g off dLen dCap ad sLen sCap cur t cs hu hsz hg hn hsrc hfit h1
    unfold Oper.wp
    simp [execOp, ho, resolve, invoke, builtin, hd, hs, hrun, Result.andThen]
    refine h _ _ ?_ ⟨rfl, rfl, rfl, by simp [World.setRow], fun k _ hn => setRow_other w g k _ (by simpa using hn)⟩
    unfold Blk
    simpa [splice] using setRow_heap w g cur _ t _ hg
end

theorem OwnR.row {e : TypeId} {w : World} {B g n c : Nat} {l : List Rec} (h : OwnR e w B (spS g n c) l) : ∃ cur, Blk w g cur e ∧ n = l.length ∧ n ≤ c ∧ B ≤ g ∧ c ≤ maxLen ∧ cur.size = c * 3 ∧ cur.toList.take (n * 3) = recs l := by
  unfold spS at h
  obtain ⟨h1, h2 | ⟨g', cap', cur, h0, h2, h3, h4, h5, h6, h7⟩⟩ := h
  · cases h2.1
  · injection h0 with e1 e2 e3
    injection e1 with e1
    injection e1 with e1 e4
    subst e1 e3
    exact ⟨cur, h3, e2, by omega, h2, h5, h6, by rw [e2]; exact h7⟩
theorem OwnR.of_row {e : TypeId} {w : World} {B g n c : Nat} {l : List Rec} {cur : Array Value} (h : Blk w g cur e) (hn : n = l.length) (hc : n ≤ c) (hB : B ≤ g) (hm : c ≤ maxLen) (hs : cur.size = c * 3) (ht : cur.toList.take (n * 3) = recs l) : OwnR e w B (spS g n c) l := by
  subst hn
  exact ⟨by rw [recs_length], .inr ⟨g, c, cur, rfl, hB, h, hc, hm, hs, ht⟩⟩
theorem recs_take (l : List Rec) (k : Nat) : recs (l.take k) = (recs l).take (k * 3) := by
  induction l generalizing k with
  | nil => simp [recs]
  | cons r l ih =>
    match k with
    | 0 => simp [recs]
    | k + 1 =>
      rw [show (k + 1) * 3 = k * 3 + 1 + 1 + 1 by omega, recs_cons]
      simp [recs_cons, ih]
theorem recs_drop (l : List Rec) (k : Nat) : recs (l.drop k) = (recs l).drop (k * 3) := by
  induction l generalizing k with
  | nil => simp [recs]
  | cons r l ih =>
    match k with
    | 0 => simp
    | k + 1 =>
      rw [show (k + 1) * 3 = k * 3 + 1 + 1 + 1 by omega, recs_cons]
      simp [ih]
theorem splice_take {α : Type} (L cs : List α) (off k : Nat) (h : off + cs.length ≤ k) (hk : k ≤ L.length) : (splice L off cs).take k = splice (L.take k) off cs := by
  unfold splice
  rw [List.take_append, List.take_append, List.take_take, List.drop_take, List.length_take, List.take_of_length_le (l := cs) (by omega)]
  have e1 : min k off = min off k := Nat.min_comm _ _
  have e2 : k - min off L.length - cs.length = k - (off + cs.length) := by omega
  rw [e1, e2, List.take_take, Nat.min_comm off k, Nat.min_comm k off]
/-- Seats laid over others. -/
theorem OwnR.over {e : TypeId} {w w' : World} {B g n c : Nat} {l : List Rec} (h : OwnR e w B (spS g n c) l) (k : Nat) (m : List Rec) (hk : k + m.length ≤ n) (cur : Array Value) (hc : Blk w g cur e) (hb : Blk w' g (splice cur.toList (k * 3) (recs m)).toArray e) :
    OwnR e w' B (spS g n c) (splice l k m) := by
  obtain ⟨cur', h1, h2, h3, h4, h5, h6, h7⟩ := h.row
  obtain rfl := (hc.uniq h1).1
  have hml : (recs m).length = m.length * 3 := recs_length m
  have hcs : cur.toList.length = c * 3 := by simpa using h6
  refine OwnR.of_row hb ?_ h3 h4 h5 ?_ ?_
  · rw [length_splice _ _ _ (by omega), h2]
  · simp only [List.size_toArray]
    rw [length_splice _ _ _ (by rw [hml, hcs]; omega), hcs]
  · simp only [List.toList_toArray]
    rw [splice_take _ _ _ _ (by rw [hml]; omega) (by rw [hcs]; omega), h7]
    unfold splice
    rw [recs_append, recs_append, recs_take, recs_drop, hml, Nat.add_mul]

theorem OwnR.cells {e : TypeId} {w : World} {B g n c : Nat} {l : List Rec} (h : OwnR e w B (spS g n c) l) : ∀ (i : Nat) (r : Rec), l[i]? = some r → w.cell? ⟨g, i * 3, none⟩ = some r.x ∧ w.cell? ⟨g, i * 3 + 1, none⟩ = some r.y ∧ w.cell? ⟨g, i * 3 + 2, none⟩ = some r.z := by
  unfold spS at h
  rcases h.rd with ⟨rfl, _⟩ | ⟨b', c', h1, h2⟩
  · intro i r hr
    simp at hr
  · injection h1 with e1 e2 e3
    injection e1 with e1
    injection e1 with e1 e4
    subst e1
    exact h2
theorem put_at {α : Type} (l D : List α) (k : Nat) (z x : α) (hk : k ≤ l.length) (hD : D.length = l.length - k) : (splice (l ++ [z]) (k + 1) D).set k x = l.take k ++ (x :: D) := by
  obtain ⟨y, _, hy⟩ := lget (L := l ++ [z]) (i := k) (by simp; omega)
  unfold splice
  rw [ltake hy, List.take_append_of_le_length hk, List.drop_eq_nil_of_le (by simp; omega), List.append_nil, List.append_assoc, List.set_append_right _ _ (by simp; omega)]
  simp [List.length_take, Nat.min_eq_left hk]
/-- The records from place k on, read off the slice. -/
theorem src_at {w : World} {B g n c : Nat} {Q : List Sp} {z : Rec} {e : TypeId} (h : OwnR e w B (spS g n c) (Q.map Sp.r ++ [z])) (k : Nat) : ∀ (j : Nat) (v : Value), (recs ((Q.drop k).map Sp.r))[j]? = some v → w.cell? ((⟨g, k * 3, none⟩ : Addr).add j) = some v := by
  intro j v hj
  rw [add_plain]
  obtain ⟨i, r, hr, h3⟩ := recs_get hj
  have hr2 : (Q.map Sp.r ++ [z])[k + i]? = some r := by
    rw [List.map_drop, List.getElem?_drop] at hr
    have := (List.getElem?_eq_some_iff.1 hr).1
    rw [List.getElem?_append_left this, hr]
  have h4 := h.cells (k + i) r hr2
  rcases h3 with ⟨rfl, rfl⟩ | ⟨rfl, rfl⟩ | ⟨rfl, rfl⟩
  · rw [← Nat.add_mul]; exact h4.1
  · rw [← Nat.add_assoc, ← Nat.add_mul]; exact h4.2.1
  · rw [← Nat.add_assoc, ← Nat.add_mul]; exact h4.2.2
/-- A slice that the call made, of this many seats. -/
def OwnS (w : World) (B n : Nat) (v : Value) (Q : List Sp) : Prop := OwnR 42 w B v (Q.map Sp.r) ∧ Q.length = n
theorem OwnS.form {w : World} {B n : Nat} {v : Value} {Q : List Sp} (h : OwnS w B n v Q) : ∃ a c, v = .slice a n c := by
  obtain ⟨a, c, e⟩ := h.1.rd.form
  rw [List.length_map, h.2] at e
  exact ⟨a, c, e⟩

set_option maxRecDepth 100000 in
theorem sorted_any (b c n : Nat) (L : List Sp) (w : World) (h : SpAt w b L) (hn : n = L.length) (hn0 : 0 < n) (hn1 : n ≤ 100) :
    Calls Tryz.prog 54 #[spS b n c] w fun e w' => ∃ Q, Q.Perm L ∧ NewS w n Q e w' := by
  have H := Lib.hid h
  have HN := Lib.hid hn
  clear h hn
  unfold spS
  go_enter Tryz.func54, Tryz.ntmps54
  go_wp2_with fail
  go_loopw [3, 9] (fun t s wr => ∃ (i : Nat) (Q : List Sp), i ≤ n ∧ s = .int .i64 i ∧ OwnS wr w.heap.size i t Q ∧ Q.Perm (L.take i) ∧ Kp [] w wr) (fun t s _ => n - (intOf s).toNat)
  case atStart => exact ⟨0, [], by omega, rfl, ⟨OwnR.nil _ _, rfl⟩, by simp, Kp.refl _ _⟩
  case round =>
    obtain ⟨i, Q, hi, rfl, ho, hp, hk⟩ := hrel
    obtain ⟨va, vc, rfl⟩ := ho.form
    have HO := Lib.hid (And.intro ho (And.intro hp hk))
    by_cases hlt : i < n
    · obtain ⟨S, hSm, hSi⟩ := lget (L := L) (i := i) (by rw [← HN.out]; exact hlt)
      have hs := H.out i S hSi
      have c0 := cell_kp hs.1 hk
      have c1 := cell_kp hs.2.1 hk
      have c2 := cell_kp hs.2.2 hk
      have HSi := Lib.hid hSi
      clear hs hSm hSi ho hp hk
      go_wp2_with fail
      rename_i K3 hK3
      have k1 := (Kp.refl [] wr).alloc (.cells #[.string (strOfNums S.a), .int .i64 S.pow, .int .i64 S.pri] 42)
      have hbs := Blk.new wr #[.string (strOfNums S.a), .int .i64 S.pow, .int .i64 S.pri] 42
      generalize wr.alloc (.cells #[.string (strOfNums S.a), .int .i64 S.pow, .int .i64 S.pri] 42) = wA at *
      obtain ⟨p, ep⟩ : ∃ p, p = wr.heap.size := ⟨_, rfl⟩
      rw [← ep] at hbs ⊢
      have HA := Lib.hid (And.intro k1 (And.intro hbs ep))
      clear k1 hbs ep c0 c1 c2
      have cont : ∀ (u10 u11 u12 u13 u14 u15 u16 u17 u18 u19 u20 u21 u22 u23 u24 u25 u26 u27 u28 u29 u30 u31 u32 u33 u34 u35 u36 u37 u38 u39 u40 u41 u42 u43 u44 : Value) (k : Nat) (wz : World), k ≤ i → Kp [] wA wz → K3 ⟨#[.slice (some ⟨b, 0, none⟩) n c, undef, .slice none 0 0, .slice va i vc, undef, .pointer (some ⟨p, 0, none⟩), .int .i64 k, .slice (some ⟨b, 0, none⟩) n c, .int .i64 n, .int .i64 i, u10, u11, u12, u13, u14, u15, u16, u17, u18, u19, u20, u21, u22, u23, u24, u25, u26, u27, u28, u29, u30, u31, u32, u33, u34, u35, u36, u37, u38, u39, u40, u41, u42, u43, u44, undef], []⟩ wz := by
        intro u10 u11 u12 u13 u14 u15 u16 u17 u18 u19 u20 u21 u22 u23 u24 u25 u26 u27 u28 u29 u30 u31 u32 u33 u34 u35 u36 u37 u38 u39 u40 u41 u42 u43 u44 k wz hki kz
        refine hK3 _ _ ?_
        clear hK3
        dsimp only
        have KZ := Lib.hid (HA.out.1.trans kz)
        have HPZ := Lib.hid ((kz.alloc (.cells #[.string ⟨#[]⟩, .int .i64 0, .int .i64 0] 42)).blk HA.out.2.1 (by simp))
        clear kz
        have HZ := Lib.hid (HO.out.1.1.kp (KZ.out.trans ((Kp.refl [] wz).alloc (.cells #[.string ⟨#[]⟩, .int .i64 0, .int .i64 0] 42))))
        have hbz := Blk.new wz #[.string ⟨#[]⟩, .int .i64 0, .int .i64 0] 42
        have kz1 := KZ.out.alloc (.cells #[.string ⟨#[]⟩, .int .i64 0, .int .i64 0] 42)
        have HBZ := Lib.hid (And.intro hbz kz1)
        clear hbz kz1
        go_wp2_with (refine kit_rec rfl (.tmp 28) (.tmp 30) 28 42 _ 32 under28 info42 rfl (by decide) rfl (B := w.heap.size) (bx := wz.heap.size) (v := .slice va i vc) (l := Q.map Sp.r) (r := Sp.r ⟨[], 0, 0⟩) rfl HZ.out rfl ⟨HBZ.out.1.cell rfl, HBZ.out.1.cell rfl, HBZ.out.1.cell rfl⟩ ⟨rfl, rfl, rfl⟩ ?hl ?hB ?_)
        case hl => rw [List.length_map, HO.out.1.2]; omega
        case hB => exact (HO.out.2.2.trans HBZ.out.2).size
        intro v' w2 ho2 ha2
        have hk2 : Kp [] w w2 := ha2.ownR (HO.out.2.2.trans HBZ.out.2) HZ.out (Nat.le_refl _)
        have hlen : (Q.map Sp.r ++ [Sp.r ⟨[], 0, 0⟩]).length = i + 1 := by simp [HO.out.1.2]
        obtain ⟨g, cc, rfl, hg, hgl⟩ := ho2.posR (by rw [hlen]; omega)
        rw [hlen] at ho2 ⊢
        have hpb : Blk w2 p #[.string (strOfNums S.a), .int .i64 S.pow, .int .i64 S.pri] 42 := by
          refine ha2.kp.blk HPZ.out (fun hm => ?_)
          have h1 := HO.out.1.1.lt p (mem_ownL.1 hm)
          have h2 := HA.out.2.2
          omega
        have H2 := Lib.hid (And.intro ho2 (And.intro hk2 (And.intro hpb ha2)))
        have hzz : (Q.map Sp.r ++ [Sp.r ⟨[], 0, 0⟩]).length = i + 1 := hlen
        obtain ⟨cur, hcur, -, hcc, -, hcm, hcs, hct⟩ := ho2.row
        have HC := Lib.hid (And.intro hcur (And.intro hcm (And.intro hcs (And.intro hct hzz))))
        clear ho2 hk2 hpb ha2 hgl hlen hcur hcm hcs hct hzz
        have k0 : (0 : Int) ≤ (k : Int) + 1 := by omega
        have k1 : (k : Int) + 1 ≤ ((i + 1 : Nat) : Int) := by omega
        have k2 : (k : Int) + 1 ≤ (cc : Int) := by omega
        have k3 : IntKind.i64.wrap ((k : Int) + 1) = (k : Int) + 1 := IntWalk.i64_in _ (by omega)
        have k4 : (0 : Int) ≤ (k : Int) := by omega
        have k5 : (k : Int) ≤ ((i + 1 : Nat) : Int) := by omega
        have k6 : ¬ cc = k := by omega
        have k7 : (k : Int) ≤ (i : Int) + 1 := by omega
        have hcl : (recs ((Q.drop k).map Sp.r)).length = (i - k) * 3 := by rw [recs_length, List.length_map, List.length_drop, HO.out.1.2]
        have HL := Lib.hid (show (recs ((Q.drop k).map Sp.r)).length = Nat.min (i + 1 - k) (i - k) * 3 ∧ (k + 1) * 3 + (recs ((Q.drop k).map Sp.r)).length ≤ cur.size from ⟨by rw [hcl]; congr 1; exact (Nat.min_eq_right (by omega)).symm, by rw [hcl, HC.out.2.2.1]; omega⟩)
        have HCL := Lib.hid hcl
        clear hcl
        have hpg : p ≠ g := by
          intro e
          have h2 := HA.out.2.2
          rcases H2.out.2.2.2.at_ g rfl with h1 | h1
          · have := HO.out.1.1.lt g h1
            omega
          · have := KZ.out.size
            have := HA.out.2.1.lt
            simp at h1
            omega
        have HPG := Lib.hid hpg
        clear hpg
        by_cases hke : cc = k + 1
        case' pos =>
          go_wp2_with fail
          go_region_held3 (fun W => True) (trivial)
            (first | (refine step_copy3 rfl (.tmp 35) (.tmp 38) 28 28 rfl 42 under28 rfl _ _ _ _ _ _ rfl rfl g ((k + 1) * 3) cur 42 HC.out.1.drew (recs ((Q.drop k).map Sp.r)) HL.out.1 (fun h => absurd h (by rw [HCL.out]; omega)) HL.out.2 (recs_one (sp_one _)) ?_; intro v9 w9 hb9 hk9))
        case' neg =>
          go_wp2_with fail
          go_region_held3 (fun W => True) (trivial)
            (first | (refine step_copy3 rfl (.tmp 35) (.tmp 38) 28 28 rfl 42 under28 rfl _ _ _ _ _ _ rfl rfl g ((k + 1) * 3) cur 42 HC.out.1.drew (recs ((Q.drop k).map Sp.r)) HL.out.1 (fun h => ⟨rfl, _, rfl, src_at (Q := Q) H2.out.1 k⟩) HL.out.2 (recs_one (sp_one _)) ?_; intro v9 w9 hb9 hk9))
        all_goals
          have ho9 := OwnR.over (H2.out.1.kp (Kp.refl [] w2).drew) (k + 1) ((Q.drop k).map Sp.r) (by rw [List.length_map, List.length_drop, HO.out.1.2]; omega) cur HC.out.1.drew hb9
          have hl9 : (splice (Q.map Sp.r ++ [Sp.r ⟨[], 0, 0⟩]) (k + 1) ((Q.drop k).map Sp.r)).length = i + 1 := by
            rw [length_splice _ _ _ (by rw [HC.out.2.2.2.2, List.length_map, List.length_drop, HO.out.1.2]; omega), HC.out.2.2.2.2]
          obtain ⟨q, _, hq⟩ := lget (L := splice (Q.map Sp.r ++ [Sp.r ⟨[], 0, 0⟩]) (k + 1) ((Q.drop k).map Sp.r)) (i := k) (by rw [hl9]; omega)
          obtain ⟨d0, d1, d2⟩ := ho9.cells k q hq
          have f0 := OwnR.free ho9 (k * 3)
          have f1 := OwnR.free ho9 (k * 3 + 1)
          have f2 := OwnR.free ho9 (k * 3 + 2)
          have hp9 := hk9.blk H2.out.2.2.1.drew (by simpa using HPG.out)
          have p0 : w9.cell? ⟨p, 0, none⟩ = some (.string (strOfNums S.a)) := hp9.cell rfl
          have p1 : w9.cell? ⟨p, 1, none⟩ = some (.int .i64 S.pow) := hp9.cell rfl
          have p2 : w9.cell? ⟨p, 2, none⟩ = some (.int .i64 S.pri) := hp9.cell rfl
          have kw9 : Kp [] w w9 := H2.out.2.1.drew.then hk9 (by intro j hj hm; simp at hm; omega)
          have H9 := Lib.hid (And.intro ho9 (And.intro hl9 (And.intro hq kw9)))
          clear ho9 hl9 hq hp9 kw9 hb9 hk9
          go_wp2_with fail
          have e9 : (splice (Q.map Sp.r ++ [Sp.r ⟨[], 0, 0⟩]) (k + 1) ((Q.drop k).map Sp.r)).set k S.r = (Q.take k ++ S :: Q.drop k).map Sp.r := by
            rw [put_at _ _ _ _ _ (by rw [List.length_map, HO.out.1.2]; exact hki) (by simp), List.map_append, List.map_cons, List.map_take]
          refine ⟨⟨i + 1, Q.take k ++ S :: Q.drop k, by omega, by go_num, ⟨?_, ?_⟩, ?_, ((H9.out.2.2.2.set (p := ⟨g, k * 3, none⟩) (.inr hg) _).set (p := ⟨g, k * 3 + 1, none⟩) (.inr hg) _).set (p := ⟨g, k * 3 + 2, none⟩) (.inr hg) _⟩, by simp [intOf]; omega⟩
          · have h1 := H9.out.1
            unfold spS at h1
            rw [← H9.out.2.1] at h1 ⊢
            have h2 := OwnR.setr h1 k q S.r H9.out.2.2.1
            rwa [e9] at h2
          · have := HO.out.1.2
            simp
            omega
          · rw [ltake HSi.out]
            refine List.perm_middle.trans ?_
            rw [List.take_append_drop]
            exact (HO.out.2.1.cons S).trans (List.perm_append_singleton S _).symm
      clear hK3
      have CONT := Lib.hid cont
      clear cont
      go_loopw [6] (fun s wr2 => ∃ k : Nat, k ≤ i ∧ s = .int .i64 k ∧ Kp [] wA wr2) (fun s _ => (intOf s).toNat)
      case atStart => exact ⟨i, by omega, rfl, Kp.refl _ _⟩
      case round =>
        obtain ⟨k, hki, rfl, kk⟩ := hrel
        have KK := Lib.hid kk
        by_cases hk0 : k = 0
        · subst hk0
          clear kk
          go_wp2_with fail
          go_big_region
          go_wp2_with fail
          exact CONT.out _ _ _ _ _ _ _ _ _ _ _ _ _ _ _ _ _ _ _ _ _ _ _ _ _ _ _ _ _ _ _ _ _ _ _ 0 _ (by omega) KK.out.drew
        · obtain ⟨k, rfl⟩ : ∃ k', k = k' + 1 := ⟨k - 1, by omega⟩
          obtain ⟨g, cc, ev, hg, hgl⟩ := HO.out.1.1.posR (by rw [List.length_map, HO.out.1.2]; omega)
          injection ev with ev1 ev2 ev3
          subst ev1 ev3
          clear ev2
          obtain ⟨T, hTm, hTi⟩ := lget (L := Q) (i := k) (by rw [HO.out.1.2]; omega)
          have hsp := (OwnR.sp HO.out.1.1 k T hTi)
          have hk2 := HA.out.1.trans kk
          have hpb := kk.blk HA.out.2.1 (by simp)
          have S6 : ∀ W, Kp [] wr W → W.cell? ⟨p, 0, none⟩ = some (.string (strOfNums S.a)) ∧ W.cell? ⟨p, 1, none⟩ = some (.int .i64 S.pow) ∧ W.cell? ⟨p, 2, none⟩ = some (.int .i64 S.pri) ∧ W.cell? ⟨g, k * 3, none⟩ = some (.string (strOfNums T.a)) ∧ W.cell? ⟨g, k * 3 + 1, none⟩ = some (.int .i64 T.pow) ∧ W.cell? ⟨g, k * 3 + 2, none⟩ = some (.int .i64 T.pri) := fun W kW =>
            ⟨hpb.all 0 rfl W kW, hpb.all 1 rfl W kW, hpb.all 2 rfl W kW, cell_kp hsp.1 (hk2.trans kW), cell_kp hsp.2.1 (hk2.trans kW), cell_kp hsp.2.2 (hk2.trans kW)⟩
          have HS6 := Lib.hid S6
          clear kk hTm hTi hsp hk2 hpb S6
          have z0 : (0 : Int) ≤ (k : Int) := by omega
          have z1 : (k : Int) < (i : Int) := by omega
          have z2 : IntKind.i64.wrap ((k : Int) + 1 - 1) = k := by rw [IntWalk.i64_in _ (by omega)]; omega
          have z4 : IntKind.i64.wrap (k : Int) = k := IntWalk.i64_in _ (by omega)
          have z5 : decide ((0 : Int) ≤ (k : Int)) = true := decide_eq_true z0
          have z6 : decide ((k : Int) < (i : Int)) = true := decide_eq_true z1
          have z7 : wrap64 ((k : Int) + 1 - 1) = k := by rw [IntWalk.wrap64_in _ (by omega)]; omega
          have z8 : wrap64 (k : Int) = k := IntWalk.wrap64_in _ (by omega)
          have z9 : k < i := by omega
          have z3 : decide ((0 : Int) < (k : Int) + 1) = true := decide_eq_true (by omega)
          go_wp2_with fail
          go_region_held3 (fun W => W.cell? ⟨p, 0, none⟩ = some (.string (strOfNums S.a)) ∧ W.cell? ⟨p, 1, none⟩ = some (.int .i64 S.pow) ∧ W.cell? ⟨p, 2, none⟩ = some (.int .i64 S.pri) ∧ W.cell? ⟨g, k * 3, none⟩ = some (.string (strOfNums T.a)) ∧ W.cell? ⟨g, k * 3 + 1, none⟩ = some (.int .i64 T.pow) ∧ W.cell? ⟨g, k * 3 + 2, none⟩ = some (.int .i64 T.pri))
            (first | exact HS6.out _ (Kp.refl [] wr).drew | exact HS6.out _ hk6)
            (first | (go_at_call 75; refine (before_any S T wr.drew).mono ?_; rintro e W6 ⟨⟨x, rfl⟩, hk0⟩; have hk6 := (Kp.refl [] wr).drew.trans hk0))
          have K6 := Lib.hid (KK.out.trans hk6)
          clear hk6 hk0
          cases x with
          | true =>
            go_wp2_with fail
            exact ⟨⟨k, by omega, by go_num, K6.out⟩, by simp [intOf]⟩
          | false =>
            go_wp2_with fail
            exact CONT.out _ _ _ _ _ _ _ _ _ _ _ _ _ _ _ _ _ _ _ _ _ _ _ _ _ _ _ _ _ _ _ _ _ _ _ (k + 1) _ (by omega) K6.out
    · obtain rfl : i = n := by omega
      obtain ⟨g, cc, ev, hg, hgl⟩ := ho.1.posR (by rw [List.length_map, ho.2]; exact hn0)
      injection ev with ev1 ev2 ev3
      subst ev1 ev3
      clear ho hp hk ev2 hgl
      go_wp2_with fail
      go_ret
      refine ⟨Q, ?_, g, vc, rfl, HO.out.1.1, HO.out.2.2⟩
      have := HO.out.2.1
      rwa [List.take_of_length_le (Nat.le_of_eq HN.out.symm)] at this
end Go.Proofs.YtfkaldaflnmfiaaGreatDoor
/- The contract of the reference's next turn. -/
namespace Go.Proofs.YtfkaldaflnmfiaaGreatDoor
set_option linter.unusedSimpArgs false
set_option linter.unusedVariables false
open Go Go.RowKit

/-- The first i are turned by f. -/
def partF (f : Sp → Sp) (i : Nat) (L : List Sp) : List Sp := (L.take i).map f ++ L.drop i
section
variable {f : Sp → Sp} {L : List Sp} {i : Nat} {S : Sp}
theorem partF_at (h : L[i]? = some S) : (partF f i L)[i]? = some S := by
  have hi := (List.getElem?_eq_some_iff.1 h).1
  unfold partF
  rw [List.getElem?_append_right (by simp; omega)]
  simp [List.length_take, Nat.min_eq_left (Nat.le_of_lt hi), h]
theorem partF_all (h : L.length ≤ i) : partF f i L = L.map f := by
  unfold partF
  rw [List.take_of_length_le h, List.drop_of_length_le h, List.append_nil]
theorem partF_set (h : L[i]? = some S) : (partF f i L).set i (f S) = partF f (i + 1) L := by
  have hi := (List.getElem?_eq_some_iff.1 h).1
  unfold partF
  rw [List.set_append_right _ _ (by simp; omega), ltake h, List.map_append, List.append_assoc]
  congr 1
  have e : L.drop i = S :: L.drop (i + 1) := by
    obtain ⟨_, rfl⟩ := List.getElem?_eq_some_iff.1 h
    exact List.drop_eq_getElem_cons hi
  rw [e]
  simp [List.length_take, Nat.min_eq_left (Nat.le_of_lt hi)]
theorem partF_len : (partF f i L).length = L.length := by
  unfold partF
  simp
  omega
end
theorem OwnR.lower {e : TypeId} {w : World} {B B' : Nat} {v : Value} {l : List Rec} (h : OwnR e w B v l) (hB : B' ≤ B) : OwnR e w B' v l := by
  obtain ⟨h1, h2 | ⟨g, cap, cur, rfl, h2, h3⟩⟩ := h
  · exact ⟨h1, .inl h2⟩
  · exact ⟨h1, .inr ⟨g, cap, cur, rfl, Nat.le_trans hB h2, h3⟩⟩
/-- One priority more is laid. -/
theorem OwnR.stepF {w : World} {B g n cc : Nat} {f : Sp → Sp} {L : List Sp} {i : Nat} {S : Sp} (h : OwnR 42 w B (spS g n cc) ((partF f i L).map Sp.r)) (hn : n = L.length) (hS : L[i]? = some S) (hf : (f S).a = S.a ∧ (f S).pow = S.pow) :
    OwnR 42 (w.setCell ⟨g, i * 3 + 2, none⟩ (.int .i64 (f S).pri)) B (spS g n cc) ((partF f (i + 1) L).map Sp.r) := by
  unfold spS at h ⊢
  have hl : ((partF f i L).map Sp.r).length = n := by rw [List.length_map, partF_len]; exact hn.symm
  rw [← hl] at h ⊢
  have h2 := OwnR.setz h i S.r (by rw [List.getElem?_map, partF_at hS]; rfl) (.int .i64 (f S).pri)
  have h3 : ((partF f i L).map Sp.r).set i ⟨S.r.x, S.r.y, .int .i64 (f S).pri⟩ = (partF f (i + 1) L).map Sp.r := by
    rw [← partF_set hS, List.map_set]
    unfold Sp.r
    rw [hf.1, hf.2]
  rwa [h3] at h2
/-- One seat's priority is turned. -/
theorem OwnR.onePri {w : World} {B g n cc : Nat} {L : List Sp} {i : Nat} {S : Sp} (h : OwnR 42 w B (spS g n cc) (L.map Sp.r)) (hn : n = L.length) (hS : L[i]? = some S) (y : Int) :
    OwnR 42 (w.setCell ⟨g, i * 3 + 2, none⟩ (.int .i64 y)) B (spS g n cc) ((L.set i (S.to y)).map Sp.r) := by
  unfold spS at h ⊢
  have hl : (L.map Sp.r).length = n := by rw [List.length_map]; exact hn.symm
  rw [← hl] at h ⊢
  have h2 := OwnR.setz h i S.r (by rw [List.getElem?_map, hS]; rfl) (.int .i64 y)
  rw [List.map_set]
  exact h2
def Sp.ap (S : Sp) : List Int × Int := (S.a, S.pow)
theorem ap_set {L : List Sp} {i : Nat} {S : Sp} (hS : L[i]? = some S) (y : Int) : (L.set i (S.to y)).map Sp.ap = L.map Sp.ap := by
  rw [List.map_set]
  apply List.ext_getElem?
  intro j
  rw [List.getElem?_set]
  split
  · rename_i h
    subst h
    have hi := (List.getElem?_eq_some_iff.1 hS).1
    rw [List.getElem?_map, hS]
    simp [hi, Sp.ap, Sp.to]
  · rfl
/-- Each one's power is added to the priority 0. -/
def Sp.up (S : Sp) : Sp := S.to S.pow

set_option maxRecDepth 100000 in
theorem next_any (b n c : Nat) (s0 : ByteArray) (L : List Sp) (w : World) (h : SpAt w b L) (hn : n = L.length) (hn0 : 0 < n) (hn1 : n ≤ 100) (hz : Pri 0 L) (hL : SpOk L) :
    Calls Tryz.prog 32 #[.agg #[spS b n c, .string s0], .int .i64 1] w fun e w' => ∃ (b' c' : Nat) (s' : ByteArray) (Q : List Sp), e = .returned (.agg #[spS b' n c', .string s']) ∧ OwnR 42 w' w.heap.size (spS b' n c') (Q.map Sp.r) ∧ Q.map Sp.ap = L.map Sp.ap ∧ Kp [] w w' := by
  have H := Lib.hid (And.intro h (And.intro hz hL))
  have HN := Lib.hid hn
  clear h hz hL hn
  have htot := powS_bd H.out.2.2
  have HT := Lib.hid (show 0 < powS L ∧ powS L ≤ 100000 by have := HN.out; omega)
  clear htot
  unfold spS
  go_enter Tryz.func32, Tryz.ntmps32
  go_wp2_with fail
  have k0 := ((Kp.refl [] w).alloc (.cells #[.slice (some ⟨b, 0, none⟩) n c, .string s0] 59)).alloc (.cells #[.slice none 0 0, .string ⟨#[]⟩] 59)
  have hr := Blk.new (w.alloc (.cells #[.slice (some ⟨b, 0, none⟩) n c, .string s0] 59)) #[.slice none 0 0, .string ⟨#[]⟩] 59
  have hq := (Blk.new w #[.slice (some ⟨b, 0, none⟩) n c, .string s0] 59).alloc (.cells #[.slice none 0 0, .string ⟨#[]⟩] 59)
  rw [show (w.alloc (.cells #[.slice (some ⟨b, 0, none⟩) n c, .string s0] 59)).heap.size = w.heap.size + 1 by simp] at hr
  generalize (w.alloc (.cells #[.slice (some ⟨b, 0, none⟩) n c, .string s0] 59)).alloc (.cells #[.slice none 0 0, .string ⟨#[]⟩] 59) = w1 at *
  obtain ⟨r, er⟩ : ∃ r, r = w.heap.size + 1 := ⟨_, rfl⟩
  rw [← er] at hr ⊢
  have q0 : ∀ W, Kp [] w1 W → W.cell? ⟨w.heap.size, 0, none⟩ = some (.slice (some ⟨b, 0, none⟩) n c) := hq.all 0 rfl
  have q1 : ∀ W, Kp [] w1 W → W.cell? ⟨w.heap.size, 1, none⟩ = some (.string s0) := hq.all 1 rfl
  have H1 := Lib.hid (And.intro k0 (And.intro hr (And.intro hq er)))
  clear k0 hr hq er
  refine (total_any b c n L w1 (H.out.1.kp H1.out.1) HN.out (by omega) H.out.2.2).mono ?_
  obtain ⟨T, hT⟩ : ∃ T, T = powS L := ⟨_, rfl⟩
  have HTT := Lib.hid hT
  rintro e w2 ⟨rfl, k2⟩
  obtain ⟨t0, t1⟩ := HT.out
  rw [← hT] at t0 t1 ⊢
  clear hT HT
  go_wp2_with fail
  refine (rescaleS_any 0 (2 * T) b c n L w2 (H.out.1.kp (H1.out.1.trans k2)) HN.out hn0 hn1 H.out.2.1 (by omega) (by omega) (by omega)).mono ?_
  rintro e w3 ⟨b3, c3, rfl, ho3, k3⟩
  have HO3 := Lib.hid ho3
  clear ho3
  unfold spS
  go_wp2_with fail
  refine (centred_any 0 b3 c3 n L w3 HO3.out.sp HN.out hn0 hn1 H.out.2.1 (by omega) (by omega)).mono ?_
  rintro e w4 ⟨g, cc, rfl, ho4, k4⟩
  have k14 := (k2.trans k3).trans k4
  have kw4 := H1.out.1.trans k14
  have ho := (OwnR.lower ho4 (H1.out.1.trans (k2.trans k3)).size)
  have hg : w.heap.size ≤ g := ho.ge g rfl
  have hgr : g ≠ r := by
    intro e
    obtain ⟨cur, h1, -⟩ := ho.row
    exact absurd (h1.uniq (k14.blk (e ▸ H1.out.2.1) (by simp))).2 (by decide)
  have hgq : g ≠ w.heap.size := by
    intro e
    obtain ⟨cur, h1, -⟩ := ho.row
    exact absurd (h1.uniq (k14.blk (e ▸ H1.out.2.2.1) (by simp))).2 (by decide)
  have hr4 := k14.blk H1.out.2.1 (by simp)
  obtain ⟨M, hM⟩ : ∃ M, M = toPri 0 L := ⟨_, rfl⟩
  rw [← hM] at ho
  have HM := Lib.hid (show M.length = n ∧ Pri 0 M ∧ M.map Sp.ap = L.map Sp.ap ∧ SpOk M from by
    subst hM
    unfold toPri
    refine ⟨by rw [List.length_map]; exact HN.out.symm, ?_, ?_, ?_⟩
    · intro S hS
      obtain ⟨U, _, rfl⟩ := List.mem_map.1 hS
      rfl
    · rw [List.map_map]
      rfl
    · intro S hS
      obtain ⟨U, hU, rfl⟩ := List.mem_map.1 hS
      exact H.out.2.2 U hU)
  have H4 := Lib.hid (And.intro ho (And.intro kw4 (And.intro hgr hr4)))
  have q14 := q1 w4 k14
  clear hM ho4 ho k2 k3 k4 kw4 k14 hgr hgq hr4 q0 q1
  unfold spS
  go_wp2_with fail
  go_loopw [7, 22] (fun t s wr => ∃ (j : Nat) (sa : ByteArray) (Q : List Sp), j ≤ 1 ∧ s = .int .i64 j ∧ t = .string sa ∧ OwnR 42 wr w.heap.size (spS g n cc) (Q.map Sp.r) ∧ Q.map Sp.ap = M.map Sp.ap ∧ (j = 0 → Q = M) ∧ Kp [g] w4 wr) (fun t s _ => 1 - (intOf s).toNat)
  case atStart => exact ⟨0, s0, M, by omega, rfl, rfl, H4.out.1, rfl, fun _ => rfl, Kp.refl _ _⟩
  case round =>
    obtain ⟨j, sa, Q, hj, rfl, rfl, ho, hap, hq, hk⟩ := hrel
    have HO := Lib.hid (And.intro ho (And.intro hap (And.intro hq hk)))
    by_cases hj0 : j = 0
    · subst hj0
      obtain rfl := hq rfl
      clear ho hap hq hk
      go_wp2_with fail
      go_loopw [26] (fun s wi => ∃ i : Nat, i ≤ n ∧ s = .int .i64 i ∧ OwnR 42 wi w.heap.size (spS g n cc) ((partF Sp.up i Q).map Sp.r) ∧ Kp [g] w4 wi) (fun s _ => n - (intOf s).toNat)
      case atStart => exact ⟨0, by omega, rfl, by simpa [partF] using HO.out.1, HO.out.2.2.2⟩
      case round =>
        obtain ⟨i, hi, rfl, ho, hk⟩ := hrel
        have HI := Lib.hid (And.intro ho hk)
        by_cases hlt : i < n
        · obtain ⟨S, hSm, hSi⟩ := lget (L := Q) (i := i) (by rw [HM.out.1]; exact hlt)
          have hc := ho.sp i S (partF_at hSi)
          have c1 := hc.2.1
          have c2 := hc.2.2
          rw [HM.out.2.1 S hSm] at c2
          obtain ⟨-, p0, p1⟩ := HM.out.2.2.2 S hSm
          have f2 := OwnR.free ho (i * 3 + 2)
          have HSi := Lib.hid hSi
          clear hc hSm hSi ho hk
          go_wp2_with fail
          go_region_with (first | (go_at_call 55; refine (clip_any 0 S.pow _ (by omega) (by omega)).mono ?_; rintro e w' ⟨rfl, rfl⟩))
          all_goals
            go_wp2_with fail
            have h1 := HI.out.1.stepF HM.out.1.symm HSi.out ⟨rfl, rfl⟩
            have h2 := HI.out.2.set (p := ⟨g, i * 3 + 2, none⟩) (.inl (by simp)) (.int .i64 S.pow)
            exact ⟨⟨i + 1, by omega, by go_num, by first | exact h1.kp (Kp.refl [] _).drew | exact h1, by first | exact h2.drew | exact h2⟩, by simp [intOf]; omega⟩
        · obtain rfl : i = n := by omega
          rw [partF_all (Nat.le_of_eq HM.out.1)] at ho
          have HU := Lib.hid (And.intro ho hk)
          clear ho hk HI
          go_wp2_with fail
          refine (first_any g cc i (Q.map Sp.up) wr HU.out.1.sp (by rw [List.length_map]; exact HM.out.1.symm) hn0 hn1).mono ?_
          rintro e w6 ⟨⟨k, rfl, hk⟩, k6⟩
          obtain ⟨S, hSm, hSi⟩ := lget (L := Q) (i := k) (by rw [HM.out.1]; exact hk)
          have ho6 := HU.out.1.kp k6
          have hui : (Q.map Sp.up)[k]? = some S.up := by rw [List.getElem?_map, hSi]; rfl
          obtain ⟨d0, d1, d2⟩ := ho6.sp k S.up hui
          obtain ⟨-, p0, p1⟩ := HM.out.2.2.2 S hSm
          have f2 := OwnR.free ho6 (k * 3 + 2)
          unfold Sp.up Sp.to at d0 d2
          simp only at d0 d2
          have H6 := Lib.hid (And.intro ho6 (And.intro hui (HU.out.2.then k6 (by simp))))
          clear ho6 hui hSm hSi k6 d1
          have z1 : (0 : Int) ≤ (k : Int) := by omega
          have z2 : (k : Int) < (i : Int) := by omega
          go_wp2_with fail
          refine (minus_any S.pow T w6 (by omega) (by omega)).mono ?_
          rintro e w7 ⟨rfl, rfl⟩
          go_wp2_with fail
          have h7 := H6.out.1.onePri (i := k) (by rw [List.length_map]; exact HM.out.1.symm) H6.out.2.1 (S.pow - T)
          have e7 : ((Q.map Sp.up).set k (S.up.to (S.pow - T))).map Sp.ap = Q.map Sp.ap := by
            rw [ap_set H6.out.2.1, List.map_map]
            rfl
          exact ⟨⟨1, _, _, Nat.le_refl _, rfl, rfl, h7, e7, fun h => absurd h (by decide), H6.out.2.2.set (p := ⟨g, k * 3 + 2, none⟩) (.inl (by simp)) _⟩, by simp [intOf]⟩
    · obtain rfl : j = 1 := by omega
      clear ho hap hq hk
      have hr9 := HO.out.2.2.2.blk H4.out.2.2.2 (by simpa using fun e => H4.out.2.2.1 e.symm)
      have r0 : wr.cell? ⟨r, 0, none⟩ = some (.slice none 0 0) := hr9.cell rfl
      have r1 : wr.cell? ⟨r, 1, none⟩ = some (.string ⟨#[]⟩) := hr9.cell rfl
      have f0 := hr9.free 0
      have f1 := hr9.free 1
      have H9 := Lib.hid hr9
      clear hr9
      go_wp2_with fail
      have hb6 := ((H9.out.set 0 (.slice (some ⟨g, 0, none⟩) n cc)).set 1 (.string sa))
      have hi : (Tryz.prog.info? 59).map (·.size) = some 2 := by kernel_rfl
      refine bodyPost_ret (v := .agg #[.slice (some ⟨g, 0, none⟩) n cc, .string sa]) ?_ ?_ ?_
      · exact results_cell_row rfl _ _ r 59 #[.slice (some ⟨g, 0, none⟩) n cc, .string sa] (0, 0) _ rfl hb6 Tryz.underlying59 rfl hi
      · rfl
      have hrw : w.heap.size ≤ r := by have := H1.out.2.2.2; omega
      have hgr := H4.out.2.2.1
      have kr : Kp [r] wr ((wr.setCell ⟨r, 0, none⟩ (.slice (some ⟨g, 0, none⟩) n cc)).setCell ⟨r, 1, none⟩ (.string sa)) := ((Kp.refl [r] wr).set (p := ⟨r, 0, none⟩) (.inl (by simp)) _).set (p := ⟨r, 1, none⟩) (.inl (by simp)) _
      refine ⟨g, cc, sa, Q, rfl, ?_, HO.out.2.1.trans HM.out.2.2.1, ?_⟩
      · exact HO.out.1.kpS kr (by intro b hb; cases hb; simpa using hgr)
      · exact (H4.out.2.1.then HO.out.2.2.2 (by intro j hj hm; simp at hm; omega)).then kr (by intro j hj hm; simp at hm; omega)
end Go.Proofs.YtfkaldaflnmfiaaGreatDoor
