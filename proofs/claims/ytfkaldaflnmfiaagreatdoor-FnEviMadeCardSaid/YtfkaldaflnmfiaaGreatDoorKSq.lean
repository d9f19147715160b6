/- Words for slices of records of three cells: what a slice reads as; a slice that the call itself made; one record more. -/
import Derived.WalkKit
import Derived.OwnWalk
import Derived.Laws.AppendOwnNone
import Derived.Deep.AppendLies
import Derived.Test.YtfkaldaflnmfiaaGreatDoorKBig4
import Derived.WalkSpells
import Derived.WalkLawsBesides
import Derived.Handy
import Derived.Lib.Hide
import Derived.IntWalk
import Derived.LoopTactic
import Derived.Deep.QuietTactic
import Derived.Deep.RegionWith
import Derived.Deep.RegionHeld3
import Derived.BigRegion
import Derived.BigQuiet
namespace Go.Proofs.YtfkaldaflnmfiaaGreatDoor
set_option linter.unusedSimpArgs false
set_option linter.unusedVariables false
open Go Go.RowKit

structure Rec where
  x : Value
  y : Value
  z : Value
def Rec.cells (r : Rec) : List Value := [r.x, r.y, r.z]
def Rec.one (r : Rec) : Prop := r.x.oneCell' = true ∧ r.y.oneCell' = true ∧ r.z.oneCell' = true
def recs (l : List Rec) : List Value := l.flatMap Rec.cells
theorem recs_nil : recs [] = [] := rfl
theorem recs_cons (r : Rec) (l : List Rec) : recs (r :: l) = r.x :: r.y :: r.z :: recs l := by simp [recs, Rec.cells]
theorem recs_append (l m : List Rec) : recs (l ++ m) = recs l ++ recs m := by simp [recs]
theorem recs_length (l : List Rec) : (recs l).length = l.length * 3 := by
  induction l with
  | nil => rfl
  | cons r l ih => rw [recs_cons]; simp [ih]; omega
theorem recs_at {l : List Rec} {i : Nat} {r : Rec} (h : l[i]? = some r) : (recs l)[i * 3]? = some r.x ∧ (recs l)[i * 3 + 1]? = some r.y ∧ (recs l)[i * 3 + 2]? = some r.z := by
  induction l generalizing i with
  | nil => simp at h
  | cons q l ih =>
    rw [recs_cons]
    match i with
    | 0 => simp at h; subst h; simp
    | i + 1 =>
      simp at h
      have := ih h
      rw [show (i + 1) * 3 = i * 3 + 3 by omega]
      simpa using this

/-- The slice v reads as the records l. -/
def RdR (w : World) (v : Value) (l : List Rec) : Prop :=
  (l = [] ∧ ∃ a c, v = .slice a 0 c) ∨ ∃ b c, v = .slice (some ⟨b, 0, none⟩) l.length c ∧ ∀ (i : Nat) (r : Rec), l[i]? = some r → w.cell? ⟨b, i * 3, none⟩ = some r.x ∧ w.cell? ⟨b, i * 3 + 1, none⟩ = some r.y ∧ w.cell? ⟨b, i * 3 + 2, none⟩ = some r.z
theorem RdR.kp {w w' : World} {v : Value} {l : List Rec} (h : RdR w v l) (k : Kp [] w w') : RdR w' v l := by
  rcases h with h | ⟨b, c, rfl, h⟩
  · exact .inl h
  · exact .inr ⟨b, c, rfl, fun i r hr => ⟨cell_kp (h i r hr).1 k, cell_kp (h i r hr).2.1 k, cell_kp (h i r hr).2.2 k⟩⟩
theorem RdR.form {w : World} {v : Value} {l : List Rec} (h : RdR w v l) : ∃ a c, v = .slice a l.length c := by
  rcases h with ⟨rfl, a, c, rfl⟩ | ⟨b, c, rfl, _⟩
  · exact ⟨_, _, rfl⟩
  · exact ⟨_, _, rfl⟩
theorem RdR.pos {w : World} {v : Value} {l : List Rec} (h : RdR w v l) (hl : 0 < l.length) : ∃ b c, v = .slice (some ⟨b, 0, none⟩) l.length c ∧ ∀ (i : Nat) (r : Rec), l[i]? = some r → w.cell? ⟨b, i * 3, none⟩ = some r.x ∧ w.cell? ⟨b, i * 3 + 1, none⟩ = some r.y ∧ w.cell? ⟨b, i * 3 + 2, none⟩ = some r.z := by
  rcases h with ⟨rfl, _⟩ | h
  · simp at hl
  · exact h

/-- The slice v reads as the records l, in a block from B on that nothing else holds. -/
def OwnR (e : TypeId) (w : World) (B : Nat) (v : Value) (l : List Rec) : Prop := w.ownsRow B e 3 v l.length (recs l)
section
variable {e : TypeId} {w w' : World} {B : Nat} {v : Value} {l : List Rec} {S : List Nat}
theorem OwnR.nil (w : World) (B : Nat) : OwnR e w B (.slice none 0 0) [] := World.ownsRow_nil w B e 3
theorem OwnR.rd (h : OwnR e w B v l) : RdR w v l := by
  obtain ⟨h1, h2 | ⟨g, cap, cur, rfl, h2, h3, h4, h5, h6, h7⟩⟩ := h
  · exact .inl ⟨List.eq_nil_of_length_eq_zero h2.2, none, 0, h2.1⟩
  · refine .inr ⟨g, cap, rfl, fun i r hr => ?_⟩
    have hi := (List.getElem?_eq_some_iff.1 hr).1
    have hx := recs_at hr
    have key : ∀ j u, (recs l)[j]? = some u → w.cell? ⟨g, j, none⟩ = some u := by
      intro j u hu
      rw [cell_of_row w g j cur e (0, 0) h3]
      rw [← h7, List.getElem?_take] at hu
      split at hu
      · simpa using hu
      · cases hu
    exact ⟨key _ _ hx.1, key _ _ hx.2.1, key _ _ hx.2.2⟩
theorem OwnR.kpS (h : OwnR e w B v l) (hk : Kp S w w') (hS : ∀ b, v.ownBlock = some b → b ∉ S) : OwnR e w' B v l := by
  obtain ⟨h1, h2 | ⟨g, cap, cur, rfl, h2, h3, h4⟩⟩ := h
  · exact ⟨h1, .inl h2⟩
  · exact ⟨h1, .inr ⟨g, cap, cur, rfl, h2, (hk.block g (Array.getElem?_eq_some_iff.1 h3).1 (hS g rfl)).trans h3, h4⟩⟩
theorem OwnR.kp (h : OwnR e w B v l) (hk : Kp [] w w') : OwnR e w' B v l := h.kpS hk (by simp)
theorem OwnR.ge (h : OwnR e w B v l) : ∀ b, v.ownBlock = some b → B ≤ b := fun b hb => (World.ownsRow.lt h b hb).1
theorem OwnR.lt (h : OwnR e w B v l) : ∀ b, v.ownBlock = some b → b < w.heap.size := by
  intro k hk
  obtain ⟨_, ⟨rfl, _⟩ | ⟨g, cap, cur, rfl, _, h3, _⟩⟩ := h
  · simp [Value.ownBlock] at hk
  · simp [Value.ownBlock] at hk
    have := (Array.getElem?_eq_some_iff.1 h3).1
    omega
end

section
variable {ops : Array Oper} {rest : List Oper} {o : Oper} {a : Act} {w : World} {Q : Exit → Act → World → Prop} {K : Act → World → Prop}
theorem wp_kit_rec (s x : Operand) (t e : TypeId) (zz : Value) (bytes : Nat) (ht : Tryz.prog.underlying t = some (.slice e)) (he : (Tryz.prog.info? e).map (fun i => (i.zero, i.size, i.bytes)) = some (some zz, 3, bytes)) (hzs : zz.cells.size = 3) (hby : bytes ≤ 40)
    (ho : o.op = .call { callee := .builtin .append, args := #[s, x], argTypes := #[t, t] })
    {B bx : Nat} {v : Value} {l : List Rec} {r : Rec} (hs : a.eval s = v) (hown : OwnR e w B v l) (hx : a.eval x = .slice (some ⟨bx, 0, none⟩) 1 1) (hr : w.cell? ⟨bx, 0, none⟩ = some r.x ∧ w.cell? ⟨bx, 1, none⟩ = some r.y ∧ w.cell? ⟨bx, 2, none⟩ = some r.z) (h1 : r.one) (hlen : l.length ≤ 1000000) (hB : B ≤ w.heap.size)
    (h : ∀ v' w', OwnR e w' B v' (l ++ [r]) → Apd w v v' w' → K (a.put o.dst v') w') : o.wp Tryz.prog a w K Q := by
  obtain ⟨i0, hi, hz0, hz1, hz2⟩ := info_parts he
  refine wp_append_lies w s x t ho B e i0 zz 3 bytes ht hi hz0 hz1 hz2 hzs (by decide) v l.length (recs l) hs hown ⟨bx, 0, none⟩ 1 1 r.cells hx rfl ?_ ?_ (by decide) ?_ ?_ hB w.heap.size rfl ?_
  · intro j u hu
    rw [add_plain, Nat.zero_add]
    match j with
    | 0 => simp [Rec.cells] at hu; subst hu; exact hr.1
    | 1 => simp [Rec.cells] at hu; subst hu; exact hr.2.1
    | 2 => simp [Rec.cells] at hu; subst hu; exact hr.2.2
    | j + 3 => simp [Rec.cells] at hu
  · intro u hu
    simp [Rec.cells] at hu
    rcases hu with rfl | rfl | rfl
    · exact h1.1
    · exact h1.2.1
    · exact h1.2.2
  · unfold maxLen; omega
  · have : (l.length + 1) * bytes ≤ (l.length + 1) * 40 := Nat.mul_le_mul_left _ hby
    omega
  · intro g cap w' h4 h5 h6 _
    refine h _ w' ?_ ⟨Kp.of_grown h5 (fun k hk => mem_ownL.2 hk), fun b hb => ?_⟩
    · unfold OwnR
      rw [List.length_append, recs_append]
      exact h4
    · simp [Value.ownBlock] at hb
      subst hb
      rcases h6 with h6 | h6
      · exact .inl h6
      · exact .inr (by omega)
theorem kit_rec (hgd : o.guard = none) (s x : Operand) (t e : TypeId) (zz : Value) (bytes : Nat) (ht : Tryz.prog.underlying t = some (.slice e)) (he : (Tryz.prog.info? e).map (fun i => (i.zero, i.size, i.bytes)) = some (some zz, 3, bytes)) (hzs : zz.cells.size = 3) (hby : bytes ≤ 40)
    (ho : o.op = .call { callee := .builtin .append, args := #[s, x], argTypes := #[t, t] })
    {B bx : Nat} {v : Value} {l : List Rec} {r : Rec} (hs : a.eval s = v) (hown : OwnR e w B v l) (hx : a.eval x = .slice (some ⟨bx, 0, none⟩) 1 1) (hr : w.cell? ⟨bx, 0, none⟩ = some r.x ∧ w.cell? ⟨bx, 1, none⟩ = some r.y ∧ w.cell? ⟨bx, 2, none⟩ = some r.z) (h1 : r.one) (hlen : l.length ≤ 1000000) (hB : B ≤ w.heap.size)
    (h : ∀ v' w', OwnR e w' B v' (l ++ [r]) → Apd w v v' w' → wpList Tryz.prog ops Q rest (a.put o.dst v') w') : wpList Tryz.prog ops Q (o :: rest) a w :=
  wpList_plain hgd fun _ hK => wp_kit_rec s x t e zz bytes ht he hzs hby ho hs hown hx hr h1 hlen hB fun v' w' h1 h2 => hK _ _ (h v' w' h1 h2)
theorem step_kit_rec {E : Prop} (hgd : o.guard = none) (s x : Operand) (t e : TypeId) (zz : Value) (bytes : Nat) (ht : Tryz.prog.underlying t = some (.slice e)) (he : (Tryz.prog.info? e).map (fun i => (i.zero, i.size, i.bytes)) = some (some zz, 3, bytes)) (hzs : zz.cells.size = 3) (hby : bytes ≤ 40)
    (ho : o.op = .call { callee := .builtin .append, args := #[s, x], argTypes := #[t, t] })
    {B bx : Nat} {v : Value} {l : List Rec} {r : Rec} (hs : a.eval s = v) (hown : OwnR e w B v l) (hx : a.eval x = .slice (some ⟨bx, 0, none⟩) 1 1) (hr : w.cell? ⟨bx, 0, none⟩ = some r.x ∧ w.cell? ⟨bx, 1, none⟩ = some r.y ∧ w.cell? ⟨bx, 2, none⟩ = some r.z) (h1 : r.one) (hlen : l.length ≤ 1000000) (hB : B ≤ w.heap.size)
    (h : ∀ v' w', OwnR e w' B v' (l ++ [r]) → Apd w v v' w' → K (a.put o.dst v') w') :
    if Region.wanted o (yielded ops a.tmps) = true then Oper.wp Tryz.prog o a w K Q else E := by
  have hw : Region.wanted o (yielded ops a.tmps) = true := by simp [Region.wanted, hgd]
  rw [if_pos hw]
  exact wp_kit_rec s x t e zz bytes ht he hzs hby ho hs hown hx hr h1 hlen hB h
end
theorem info56 : (Tryz.prog.info? 56).map (fun i => (i.zero, i.size, i.bytes)) = some (some (.agg #[.slice none 0 0, .int .i64 0, .int .i64 0]), 3, 40) := by kernel_rfl
theorem info42 : (Tryz.prog.info? 42).map (fun i => (i.zero, i.size, i.bytes)) = some (some (.agg #[.string ⟨#[]⟩, .int .i64 0, .int .i64 0]), 3, 32) := by kernel_rfl
end Go.Proofs.YtfkaldaflnmfiaaGreatDoor
/- Contracts of the reference's small functions on seats: looking for an address, the total power, one number from another. -/
namespace Go.Proofs.YtfkaldaflnmfiaaGreatDoor
set_option linter.unusedSimpArgs false
set_option linter.unusedVariables false
open Go Go.RowKit

/-- A seat as the reference sees it. -/
structure Sp where
  a : List Int
  pow : Int
  pri : Int
def Sp.r (S : Sp) : Rec := ⟨.string (strOfNums S.a), .int .i64 S.pow, .int .i64 S.pri⟩
/-- Block b begins with these seats. -/
def SpAt (w : World) (b : Nat) (L : List Sp) : Prop := ∀ (i : Nat) (S : Sp), L[i]? = some S → w.cell? ⟨b, i * 3, none⟩ = some (.string (strOfNums S.a)) ∧ w.cell? ⟨b, i * 3 + 1, none⟩ = some (.int .i64 S.pow) ∧ w.cell? ⟨b, i * 3 + 2, none⟩ = some (.int .i64 S.pri)
theorem SpAt.kp {w w' : World} {b : Nat} {L : List Sp} (h : SpAt w b L) (k : Kp [] w w') : SpAt w' b L := fun i S hS => ⟨cell_kp (h i S hS).1 k, cell_kp (h i S hS).2.1 k, cell_kp (h i S hS).2.2 k⟩
theorem SpAt.take {w : World} {b : Nat} {L : List Sp} (h : SpAt w b L) (k : Nat) : SpAt w b (L.take k) := fun i S hS => by
  rw [List.getElem?_take] at hS
  split at hS
  · exact h i S hS
  · cases hS
theorem SpAt.nil (w : World) (b : Nat) : SpAt w b [] := fun i S h => by simp at h
def spS (b n c : Nat) : Value := .slice (some ⟨b, 0, none⟩) n c
def powS (L : List Sp) : Int := (L.map Sp.pow).sum
def SpOk (L : List Sp) : Prop := ∀ S ∈ L, Bs S.a ∧ 1 ≤ S.pow ∧ S.pow ≤ 1000
theorem lget {α : Type} {L : List α} {i : Nat} (h : i < L.length) : ∃ V, V ∈ L ∧ L[i]? = some V := ⟨L[i], List.getElem_mem _, by simp [h]⟩
theorem ltake {α : Type} {L : List α} {i : Nat} {V : α} (h : L[i]? = some V) : L.take (i + 1) = L.take i ++ [V] := by
  obtain ⟨hi, rfl⟩ := List.getElem?_eq_some_iff.1 h
  rw [List.take_succ_eq_append_getElem hi]
theorem powS_take {L : List Sp} {i : Nat} {V : Sp} (h : L[i]? = some V) : powS (L.take (i + 1)) = powS (L.take i) + V.pow := by
  rw [ltake h]
  simp [powS]
theorem powS_bd {L : List Sp} (h : SpOk L) : (L.length : Int) ≤ powS L ∧ powS L ≤ 1000 * L.length := by
  induction L with
  | nil => simp [powS]
  | cons V L ih =>
    have h1 := h V (by simp)
    have h2 := ih (fun U hU => h U (by simp [hU]))
    simp only [powS, List.map_cons, List.sum_cons, List.length_cons] at h2 ⊢
    omega
theorem SpOk.take {L : List Sp} (h : SpOk L) (i : Nat) : SpOk (L.take i) := fun V hV => h V (List.mem_of_mem_take hV)

theorem strS_beq {a b : List Int} (ha : Bs a) (hb : Bs b) : ((strOfNums a).toList == (strOfNums b).toList) = decide (a = b) := by
  have e : (strOfNums a).toList = (strOfNums b).toList ↔ a = b := by
    rw [ByteArray.toList_eq, ByteArray.toList_eq, strOfNums_data, strOfNums_data]
    exact ⟨eq_of_Bs ha hb, fun h => by rw [h]⟩
  rw [Bool.eq_iff_iff]
  simp [e]
/-- What a look for an address finds. -/
def FoundS (L : List Sp) (a : List Int) (r : Int) : Prop := (r = -1 ∧ ∀ S ∈ L, S.a ≠ a) ∨ ∃ (i : Nat) (S : Sp), r = i ∧ L[i]? = some S ∧ S.a = a

set_option maxRecDepth 100000 in
theorem find_any (b c n : Nat) (L : List Sp) (a : List Int) (w : World) (h : SpAt w b L) (hn : n = L.length) (hn1 : n ≤ 1000) (hL : ∀ S ∈ L, Bs S.a) (ha : Bs a) :
    Calls Tryz.prog 8 #[spS b n c, .string (strOfNums a)] w fun e w' => (∃ r, e = .returned (.int .i64 r) ∧ FoundS L a r) ∧ Kp [] w w' := by
  have H := Lib.hid (And.intro h (And.intro hL ha))
  have HN := Lib.hid hn
  clear h hL ha hn
  unfold spS
  go_enter Tryz.func8, Tryz.ntmps8
  go_wp2_with fail
  go_loopw [9] (fun s wr => ∃ i : Nat, i ≤ n ∧ s = .int .i64 i ∧ (∀ S ∈ L.take i, S.a ≠ a) ∧ Kp [] w wr) (fun s _ => n - (intOf s).toNat)
  case atStart => exact ⟨0, by omega, rfl, by simp, Kp.refl _ _⟩
  case round =>
    obtain ⟨i, hi, rfl, ht, hk⟩ := hrel
    have HT := Lib.hid ht
    clear ht
    by_cases hlt : i < n
    · obtain ⟨S, hSm, hSi⟩ := lget (L := L) (i := i) (by rw [← HN.out]; exact hlt)
      have hs := (H.out.1 i S hSi)
      have c0 := cell_kp hs.1 hk
      have c1 := cell_kp hs.2.1 hk
      have c2 := cell_kp hs.2.2 hk
      have hb := strS_beq (H.out.2.1 S hSm) H.out.2.2
      have HS := Lib.hid hSi
      clear hs hSm hSi
      by_cases hd : S.a = a
      · rw [decide_eq_true hd] at hb
        have HD := Lib.hid hd
        clear hd
        go_wp2_with fail
        go_ret
        exact ⟨⟨_, rfl, .inr ⟨i, S, rfl, HS.out, HD.out⟩⟩, hk.alloc _⟩
      · rw [decide_eq_false hd] at hb
        have HD := Lib.hid hd
        clear hd
        go_wp2_with fail
        refine ⟨⟨i + 1, by omega, by go_num, ?_, hk.alloc _⟩, by simp [intOf]; omega⟩
        rw [ltake HS.out]
        intro U hU
        rcases List.mem_append.1 hU with h | h
        · exact HT.out U h
        · simp at h
          rw [h]
          exact HD.out
    · go_wp2_with fail
      go_ret
      refine ⟨⟨-1, rfl, .inl ⟨rfl, fun S hS => HT.out S ?_⟩⟩, hk⟩
      rw [List.take_of_length_le (by have := HN.out; omega)]
      exact hS

set_option maxRecDepth 100000 in
theorem total_any (b c n : Nat) (L : List Sp) (w : World) (h : SpAt w b L) (hn : n = L.length) (hn1 : n ≤ 1000) (hL : SpOk L) :
    Calls Tryz.prog 9 #[spS b n c] w fun e w' => e = .returned (.int .i64 (powS L)) ∧ Kp [] w w' := by
  have H := Lib.hid (And.intro h hL)
  have HN := Lib.hid hn
  clear h hL hn
  unfold spS
  go_enter Tryz.func9, Tryz.ntmps9
  go_wp2_with fail
  go_loopw [3, 8] (fun t s wr => ∃ i : Nat, i ≤ n ∧ s = .int .i64 i ∧ t = .int .i64 (powS (L.take i)) ∧ Kp [] w wr) (fun t s _ => n - (intOf s).toNat)
  case atStart => exact ⟨0, by omega, rfl, rfl, Kp.refl _ _⟩
  case round =>
    obtain ⟨i, hi, rfl, rfl, hk⟩ := hrel
    have hsum := powS_bd (H.out.2.take i)
    rw [List.length_take, ← HN.out, Nat.min_eq_left hi] at hsum
    obtain ⟨q, hq⟩ : ∃ q, powS (L.take i) = q := ⟨_, rfl⟩
    have HQ := Lib.hid hq
    rw [hq] at hsum ⊢
    clear hq
    obtain ⟨q0, q1⟩ := hsum
    by_cases hlt : i < n
    · obtain ⟨S, hSm, hSi⟩ := lget (L := L) (i := i) (by rw [← HN.out]; exact hlt)
      have hs := H.out.1 i S hSi
      have c0 := cell_kp hs.1 hk
      have c1 := cell_kp hs.2.1 hk
      have c2 := cell_kp hs.2.2 hk
      obtain ⟨_, p0, p1⟩ := H.out.2 S hSm
      have HS := Lib.hid hSi
      clear hs hSm hSi
      go_wp2_with fail
      exact ⟨⟨i + 1, by omega, by go_num, by rw [powS_take HS.out, HQ.out], hk.alloc _⟩, by simp [intOf]; omega⟩
    · go_wp2_with fail
      go_ret
      have hin : L.take i = L := List.take_of_length_le (by have := HN.out; omega)
      rw [← HQ.out, hin]
      exact ⟨rfl, hk⟩

theorem clip_any (a b : Int) (w : World) (ha : -1000000000 ≤ a ∧ a ≤ 1000000000) (hb : -1000000000 ≤ b ∧ b ≤ 1000000000) :
    Calls Tryz.prog 55 #[.int .i64 a, .int .i64 b] w fun e w' => e = .returned (.int .i64 (a + b)) ∧ w = w' := by
  obtain ⟨a0, a1⟩ := ha
  obtain ⟨b0, b1⟩ := hb
  go_enter Tryz.func55, Tryz.ntmps55
  go_wp2_with fail
  all_goals (go_ret; exact ⟨rfl, rfl⟩)

theorem minus_any (a b : Int) (w : World) (ha : -1000000000 ≤ a ∧ a ≤ 1000000000) (hb : -1000000000 ≤ b ∧ b ≤ 1000000000) :
    Calls Tryz.prog 57 #[.int .i64 a, .int .i64 b] w fun e w' => e = .returned (.int .i64 (a - b)) ∧ w = w' := by
  obtain ⟨a0, a1⟩ := ha
  obtain ⟨b0, b1⟩ := hb
  go_enter Tryz.func57, Tryz.ntmps57
  go_wp2_with fail
  all_goals (go_ret; exact ⟨rfl, rfl⟩)

def IsBool (e : Ending) : Prop := ∃ x : Bool, e = .returned (.bool x)
theorem before_any (S T : Sp) (w : World) :
    Calls Tryz.prog 75 #[.agg #[.string (strOfNums S.a), .int .i64 S.pow, .int .i64 S.pri], .agg #[.string (strOfNums T.a), .int .i64 T.pow, .int .i64 T.pri]] w fun e w' => IsBool e ∧ Kp [] w w' := by
  go_enter Tryz.func75, Tryz.ntmps75
  go_wp2_with fail
  all_goals (go_ret; exact ⟨⟨_, rfl⟩, ((Kp.refl [] w).alloc _).alloc _⟩)

/-- Division towards zero, mended to division downwards. -/
theorem div_down (z : Int) (n : Nat) (hn : 0 < n) : (z.tmod n < 0 → z.tdiv n - 1 = z / n ∧ z.tmod n + n = z % n) ∧ (0 ≤ z.tmod n → z.tdiv n = z / n ∧ z.tmod n = z % n) := by
  have h2 := Int.mul_ediv_add_emod z n
  have h3 := Int.emod_nonneg z (show (n : Int) ≠ 0 by omega)
  have h4 := Int.emod_lt_of_pos z (show (0 : Int) < n by omega)
  have h5 := Int.mul_tdiv_add_tmod z n
  have h6 : z.tmod n < n := Int.tmod_lt_of_pos z (by omega)
  have h7 : -(n : Int) < z.tmod n := by
    have := Int.tmod_lt_of_pos (-z) (show (0 : Int) < n by omega)
    rw [Int.neg_tmod] at this
    omega
  have key : ∀ (q q' r r' : Int), (n : Int) * q + r = n * q' + r' → 0 ≤ r → r < n → 0 ≤ r' → r' < n → q = q' := by
    intro q q' r r' e a0 a1 b0 b1
    rcases Int.lt_trichotomy q q' with h | h | h
    · have h8 : (n : Int) * (q + 1) ≤ n * q' := Int.mul_le_mul_of_nonneg_left (by omega) (by omega)
      rw [Int.mul_add] at h8
      omega
    · exact h
    · have h8 : (n : Int) * (q' + 1) ≤ n * q := Int.mul_le_mul_of_nonneg_left (by omega) (by omega)
      rw [Int.mul_add] at h8
      omega
  constructor
  · intro h
    have hq := key (z.tdiv n - 1) (z / n) (z.tmod n + n) (z % n) (by rw [Int.mul_sub]; omega) (by omega) (by omega) h3 h4
    refine ⟨hq, ?_⟩
    rw [← hq, Int.mul_sub] at h2
    omega
  · intro h
    have hq := key (z.tdiv n) (z / n) (z.tmod n) (z % n) (by omega) h h6 h3 h4
    refine ⟨hq, ?_⟩
    rw [← hq] at h2
    omega
theorem quo_small (z : Int) (n : Nat) (hn : 0 < n) : -(z.natAbs : Int) - 1 ≤ z / n ∧ z / n ≤ z.natAbs + 1 := by
  have h2 := Int.mul_ediv_add_emod z n
  have h3 := Int.emod_nonneg z (show (n : Int) ≠ 0 by omega)
  have h4 := Int.emod_lt_of_pos z (show (0 : Int) < n by omega)
  by_cases h : z / n < 0
  · refine ⟨?_, by omega⟩
    have h5 : (n : Int) * (z / n + 1) ≤ 1 * (z / n + 1) := Int.mul_le_mul_of_nonpos_right (by omega) (by omega)
    rw [Int.mul_add] at h5
    omega
  · refine ⟨by omega, ?_⟩
    have h5 : 1 * (z / n) ≤ (n : Int) * (z / n) := Int.mul_le_mul_of_nonneg_right (by omega) (by omega)
    omega
/-- A multiple of a small number stays small. -/
theorem mul_small {i n : Nat} {x m : Int} (h : i ≤ n) (hx : -m ≤ x ∧ x ≤ m) (hm : 0 ≤ m) : -(n * m) ≤ (i : Int) * x ∧ (i : Int) * x ≤ n * m := by
  have h1 : (i : Int) * x ≤ i * m := Int.mul_le_mul_of_nonneg_left hx.2 (by omega)
  have h2 : (i : Int) * m ≤ n * m := Int.mul_le_mul_of_nonneg_right (by omega) hm
  have h3 : (i : Int) * (-m) ≤ i * x := Int.mul_le_mul_of_nonneg_left hx.1 (by omega)
  rw [Int.mul_neg] at h3
  omega
/-- All priorities are z. -/
def Pri (z : Int) (L : List Sp) : Prop := ∀ S ∈ L, S.pri = z

set_option maxRecDepth 100000 in
theorem mean_any (z : Int) (b c n : Nat) (L : List Sp) (w : World) (h : SpAt w b L) (hn : n = L.length) (hn0 : 0 < n) (hn1 : n ≤ 100) (hz : Pri z L) (z0 : -1000000 ≤ z) (z1 : z ≤ 1000000) :
    Calls Tryz.prog 74 #[spS b n c] w fun e w' => e = .returned (.int .i64 z) ∧ Kp [] w w' := by
  have H := Lib.hid (And.intro h hz)
  have HN := Lib.hid hn
  clear h hz hn
  unfold spS
  go_enter Tryz.func74, Tryz.ntmps74
  go_wp2_with fail
  go_loopw [4, 5, 14] (fun t u s wr => ∃ i : Nat, i ≤ n ∧ s = .int .i64 i ∧ t = .int .i64 (i * (z / n)) ∧ u = .int .i64 (i * (z % n)) ∧ Kp [] w wr) (fun t u s _ => n - (intOf s).toNat)
  case atStart => exact ⟨0, by omega, rfl, by simp, by simp, Kp.refl _ _⟩
  case round =>
    obtain ⟨i, hi, rfl, rfl, rfl, hk⟩ := hrel
    by_cases hlt : i < n
    · obtain ⟨S, hSm, hSi⟩ := lget (L := L) (i := i) (by rw [← HN.out]; exact hlt)
      have hs := H.out.1 i S hSi
      have c0 := cell_kp hs.1 hk
      have c1 := cell_kp hs.2.1 hk
      have c2 := cell_kp hs.2.2 hk
      rw [H.out.2 S hSm] at c2
      clear hs hSm hSi
      go_wp2_with fail
      go_big_region
      have hd := div_down z n hn0
      have h2 := Int.mul_ediv_add_emod z n
      have h3 := Int.emod_nonneg z (show (n : Int) ≠ 0 by omega)
      have h4 := Int.emod_lt_of_pos z (show (0 : Int) < n by omega)
      have hb := quo_small z n hn0
      have m1 := mul_small (i := i) (n := 100) (x := z / n) (m := 1000001) (by omega) (by omega) (by omega)
      have m2 := mul_small (i := i) (n := 100) (x := z % n) (m := 1000001) (by omega) (by omega) (by omega)
      have e1 : ((i + 1 : Nat) : Int) * (z / n) = i * (z / n) + z / n := by rw [Int.natCast_add, Int.add_mul]; simp
      have e2 : ((i + 1 : Nat) : Int) * (z % n) = i * (z % n) + z % n := by rw [Int.natCast_add, Int.add_mul]; simp
      have HD := Lib.hid (And.intro hd (And.intro hb (And.intro m1 (And.intro m2 (And.intro e1 (And.intro e2 (And.intro h3 h4)))))))
      clear hd h2 h3 h4 hb m1 m2 e1 e2
      go_wp2_with fail
      · rename_i h
        obtain ⟨hd, hb, m1, m2, e1, e2, h3, h4⟩ := HD.out
        have hd2 := hd.1 h
        rw [hd2.1, hd2.2]
        rw [IntWalk.wrap64_in (z / n) (by omega), IntWalk.wrap64_in (z % n) (by omega), IntWalk.wrap64_in _ (by omega), IntWalk.wrap64_in _ (by omega)]
        exact ⟨⟨i + 1, by omega, by go_num, by rw [e1], by rw [e2], (hk.alloc _).drew⟩, by simp [intOf]; omega⟩
      · rename_i h
        obtain ⟨hd, hb, m1, m2, e1, e2, h3, h4⟩ := HD.out
        have hd2 := hd.2 h
        rw [hd2.1, hd2.2]
        rw [IntWalk.wrap64_in _ (by omega), IntWalk.wrap64_in _ (by omega)]
        exact ⟨⟨i + 1, by omega, by go_num, by rw [e1], by rw [e2], (hk.alloc _).drew⟩, by simp [intOf]; omega⟩
    · obtain rfl : i = n := by omega
      go_wp2_with fail
      go_ret
      refine ⟨?_, hk⟩
      have h1 : ((i : Int) * (z % i)).tdiv i = z % i := by
        rw [Int.mul_comm, Int.mul_tdiv_cancel _ (by omega)]
      have h2 := Int.mul_ediv_add_emod z i
      have h3 := Int.emod_nonneg z (show (i : Int) ≠ 0 by omega)
      have h4 := Int.emod_lt_of_pos z (show (0 : Int) < i by omega)
      rw [h1, IntWalk.wrap64_in (z % i) (by omega), h2, IntWalk.wrap64_in z (by omega)]
      rfl
end Go.Proofs.YtfkaldaflnmfiaaGreatDoor
/- Contracts of the reference's functions that copy seats: priorities centred and scaled. -/
namespace Go.Proofs.YtfkaldaflnmfiaaGreatDoor
set_option linter.unusedSimpArgs false
set_option linter.unusedVariables false
open Go Go.RowKit

theorem recs_one {m : List Rec} (h : ∀ r ∈ m, r.one) : ∀ u ∈ recs m, u.oneCell' = true := by
  intro u hu
  simp only [recs, List.mem_flatMap] at hu
  obtain ⟨r, hr, hu⟩ := hu
  simp [Rec.cells] at hu
  rcases hu with rfl | rfl | rfl
  · exact (h r hr).1
  · exact (h r hr).2.1
  · exact (h r hr).2.2
theorem recs_get {l : List Rec} {j : Nat} {u : Value} (h : (recs l)[j]? = some u) : ∃ (i : Nat) (r : Rec), l[i]? = some r ∧ ((j = i * 3 ∧ u = r.x) ∨ (j = i * 3 + 1 ∧ u = r.y) ∨ (j = i * 3 + 2 ∧ u = r.z)) := by
  have hj := (List.getElem?_eq_some_iff.1 h).1
  rw [recs_length] at hj
  have hi : j / 3 < l.length := by omega
  obtain ⟨r, _, hr⟩ := lget hi
  have h3 := recs_at hr
  refine ⟨j / 3, r, hr, ?_⟩
  have : j = j / 3 * 3 ∨ j = j / 3 * 3 + 1 ∨ j = j / 3 * 3 + 2 := by omega
  rcases this with e | e | e
  · left
    rw [← e, h] at h3
    exact ⟨e, Option.some.inj h3.1⟩
  · right; left
    rw [← e, h] at h3
    exact ⟨e, Option.some.inj h3.2.1⟩
  · right; right
    rw [← e, h] at h3
    exact ⟨e, Option.some.inj h3.2.2⟩
theorem recs_setz (l : List Rec) (i : Nat) (v : Value) (r : Rec) (h : l[i]? = some r) : (recs l).set (i * 3 + 2) v = recs (l.set i ⟨r.x, r.y, v⟩) := by
  induction l generalizing i with
  | nil => simp at h
  | cons q l ih =>
    match i with
    | 0 => simp at h; subst h; simp [recs_cons]
    | i + 1 =>
      simp at h
      rw [show (i + 1) * 3 + 2 = (i * 3 + 2) + 1 + 1 + 1 by omega, recs_cons]
      simp [recs_cons, ih i h]
theorem recs_set (l : List Rec) (i : Nat) (r q : Rec) (h : l[i]? = some q) : (((recs l).set (i * 3) r.x).set (i * 3 + 1) r.y).set (i * 3 + 2) r.z = recs (l.set i r) := by
  induction l generalizing i with
  | nil => simp at h
  | cons q l ih =>
    match i with
    | 0 => simp [recs_cons]
    | i + 1 =>
      simp at h
      rw [show (i + 1) * 3 + 2 = (i * 3 + 2) + 1 + 1 + 1 by omega, show (i + 1) * 3 + 1 = (i * 3 + 1) + 1 + 1 + 1 by omega, show (i + 1) * 3 = (i * 3) + 1 + 1 + 1 by omega, recs_cons]
      simp [recs_cons, ih i h]

/-- One cell of a slice of records. -/
theorem ownsRow_set {w : World} {B e n g cap : Nat} {cells : List Value} (h : w.ownsRow B e 3 (.slice (some ⟨g, 0, none⟩) n cap) n cells) (j : Nat) (hj : j < n * 3) (v : Value) :
    (w.setCell ⟨g, j, none⟩ v).ownsRow B e 3 (.slice (some ⟨g, 0, none⟩) n cap) n (cells.set j v) := by
  obtain ⟨h1, h2 | ⟨g', cap', cur, h0, h2, h3, h4, h5, h6, h7⟩⟩ := h
  · cases h2.1
  · injection h0 with e1 e2 e3
    injection e1 with e1
    injection e1 with e1 e4
    subst e1 e3
    refine ⟨by simpa using h1, .inr ⟨g, cap, cur.setIfInBounds j v, rfl, h2, ?_, h4, h5, by simpa using h6, ?_⟩⟩
    · rw [setCell_eq_setRow w g j cur e (0, 0) v h3]
      exact setRow_heap w g cur _ e (0, 0) h3
    · rw [Array.toList_setIfInBounds, List.take_set, h7]
/-- The priority of one record. -/
theorem OwnR.setz {w : World} {B e g cap : Nat} {l : List Rec} (h : OwnR e w B (.slice (some ⟨g, 0, none⟩) l.length cap) l) (i : Nat) (r : Rec) (hr : l[i]? = some r) (v : Value) :
    OwnR e (w.setCell ⟨g, i * 3 + 2, none⟩ v) B (.slice (some ⟨g, 0, none⟩) l.length cap) (l.set i ⟨r.x, r.y, v⟩) := by
  have hi := (List.getElem?_eq_some_iff.1 hr).1
  have := ownsRow_set h (i * 3 + 2) (by omega) v
  rw [recs_setz l i v r hr] at this
  unfold OwnR
  rwa [List.length_set]
theorem OwnR.setr {w : World} {B e g cap : Nat} {l : List Rec} (h : OwnR e w B (.slice (some ⟨g, 0, none⟩) l.length cap) l) (i : Nat) (q r : Rec) (hq : l[i]? = some q) :
    OwnR e (((w.setCell ⟨g, i * 3, none⟩ r.x).setCell ⟨g, i * 3 + 1, none⟩ r.y).setCell ⟨g, i * 3 + 2, none⟩ r.z) B (.slice (some ⟨g, 0, none⟩) l.length cap) (l.set i r) := by
  have hi := (List.getElem?_eq_some_iff.1 hq).1
  have := ownsRow_set (ownsRow_set (ownsRow_set h (i * 3) (by omega) r.x) (i * 3 + 1) (by omega) r.y) (i * 3 + 2) (by omega) r.z
  rw [recs_set l i r q hq] at this
  unfold OwnR
  rwa [List.length_set]
theorem OwnR.posR {e : TypeId} {w : World} {B : Nat} {v : Value} {l : List Rec} (h : OwnR e w B v l) (hl : 0 < l.length) : ∃ b c, v = .slice (some ⟨b, 0, none⟩) l.length c ∧ B ≤ b ∧ b < w.heap.size := by
  have := h.lt
  have hg := h.ge
  obtain ⟨b, c, rfl, _⟩ := h.rd.pos hl
  exact ⟨b, c, rfl, hg b rfl, this b rfl⟩
theorem OwnR.sp {w : World} {B b n c : Nat} {L : List Sp} (h : OwnR 42 w B (spS b n c) (L.map Sp.r)) : SpAt w b L := by
  unfold spS at h
  rcases h.rd with ⟨h0, _⟩ | ⟨b', c', h1, h2⟩
  · simp at h0
    subst h0
    exact SpAt.nil _ _
  · injection h1 with e1 e2 e3
    injection e1 with e1
    injection e1 with e1 e4
    subst e1
    intro i S hS
    exact h2 i S.r (by rw [List.getElem?_map, hS]; rfl)
theorem OwnR.empty {e : TypeId} {w : World} {B b : Nat} (h : Blk w b #[] e) (hB : B ≤ b) : OwnR e w B (.slice (some ⟨b, 0, none⟩) 0 0) [] :=
  ⟨rfl, .inr ⟨b, 0, #[], rfl, hB, h, Nat.le_refl _, by unfold maxLen; omega, rfl, rfl⟩⟩
theorem sp_rd {w : World} {b : Nat} {L : List Sp} (h : SpAt w b L) : ∀ (i : Nat) (r : Rec), (L.map Sp.r)[i]? = some r → w.cell? ⟨b, i * 3, none⟩ = some r.x ∧ w.cell? ⟨b, i * 3 + 1, none⟩ = some r.y ∧ w.cell? ⟨b, i * 3 + 2, none⟩ = some r.z := by
  intro i r hr
  rw [List.getElem?_map, Option.map_eq_some_iff] at hr
  obtain ⟨S, hS, rfl⟩ := hr
  exact h i S hS
theorem sp_one (L : List Sp) : ∀ r ∈ L.map Sp.r, r.one := by
  intro r hr
  obtain ⟨S, _, rfl⟩ := List.mem_map.1 hr
  exact ⟨rfl, rfl, rfl⟩
/-- What is appended to is the call's own. -/
theorem Apd.ownR {e : TypeId} {w0 w w' : World} {v v' : Value} {B : Nat} {l : List Rec} {S : List Nat} (h : Apd w v v' w') (k : Kp S w0 w) (ho : OwnR e w B v l) (hB : w0.heap.size ≤ B) : Kp S w0 w' :=
  k.then h.kp (fun i hi hm => by have := ho.ge i (mem_ownL.1 hm); omega)
theorem Sp.one (S : Sp) : S.r.one := ⟨rfl, rfl, rfl⟩
theorem under28 : Tryz.prog.underlying 28 = some (.slice 42) := by kernel_rfl

section
variable {ops : Array Oper} {rest : List Oper} {o : Oper} {a : Act} {w : World} {Q : Exit → Act → World → Prop} {K : Act → World → Prop}
/-- 'append(l, x...)', l the call's own. -/
theorem wp_kit_recs (s x : Operand) (t e : TypeId) (zz : Value) (bytes : Nat) (ht : Tryz.prog.underlying t = some (.slice e)) (he : (Tryz.prog.info? e).map (fun i => (i.zero, i.size, i.bytes)) = some (some zz, 3, bytes)) (hzs : zz.cells.size = 3) (hby : bytes ≤ 40)
    (ho : o.op = .call { callee := .builtin .append, args := #[s, x], argTypes := #[t, t] })
    {B bx cx n : Nat} {v : Value} {l m : List Rec} (hs : a.eval s = v) (hown : OwnR e w B v l) (hx : a.eval x = .slice (some ⟨bx, 0, none⟩) n cx) (hn : n = m.length) (hm0 : 0 < n) (hr : ∀ (i : Nat) (r : Rec), m[i]? = some r → w.cell? ⟨bx, i * 3, none⟩ = some r.x ∧ w.cell? ⟨bx, i * 3 + 1, none⟩ = some r.y ∧ w.cell? ⟨bx, i * 3 + 2, none⟩ = some r.z) (h1 : ∀ r ∈ m, r.one) (hlen : l.length + n ≤ 1000000) (hB : B ≤ w.heap.size)
    (h : ∀ v' w', OwnR e w' B v' (l ++ m) → Apd w v v' w' → K (a.put o.dst v') w') : o.wp Tryz.prog a w K Q := by
  obtain ⟨i0, hi, hz0, hz1, hz2⟩ := info_parts he
  refine wp_append_lies w s x t ho B e i0 zz 3 bytes ht hi hz0 hz1 hz2 hzs (by decide) v l.length (recs l) hs hown ⟨bx, 0, none⟩ n cx (recs m) hx (by rw [recs_length, hn]) ?_ (recs_one h1) hm0 ?_ ?_ hB w.heap.size rfl ?_
  · intro j u hu
    rw [add_plain, Nat.zero_add]
    obtain ⟨i, r, hir, h3⟩ := recs_get hu
    have h4 := hr i r hir
    rcases h3 with ⟨rfl, rfl⟩ | ⟨rfl, rfl⟩ | ⟨rfl, rfl⟩
    · exact h4.1
    · exact h4.2.1
    · exact h4.2.2
  · unfold maxLen; omega
  · have : (l.length + n) * bytes ≤ (l.length + n) * 40 := Nat.mul_le_mul_left _ hby
    omega
  · intro g cap w' h4 h5 h6 _
    refine h _ w' ?_ ⟨Kp.of_grown h5 (fun k hk => mem_ownL.2 hk), fun b hb => ?_⟩
    · unfold OwnR
      rw [List.length_append, recs_append, ← hn]
      exact h4
    · simp [Value.ownBlock] at hb
      subst hb
      rcases h6 with h6 | h6
      · exact .inl h6
      · exact .inr (by omega)
theorem kit_recs (hgd : o.guard = none) (s x : Operand) (t e : TypeId) (zz : Value) (bytes : Nat) (ht : Tryz.prog.underlying t = some (.slice e)) (he : (Tryz.prog.info? e).map (fun i => (i.zero, i.size, i.bytes)) = some (some zz, 3, bytes)) (hzs : zz.cells.size = 3) (hby : bytes ≤ 40)
    (ho : o.op = .call { callee := .builtin .append, args := #[s, x], argTypes := #[t, t] })
    {B bx cx n : Nat} {v : Value} {l m : List Rec} (hs : a.eval s = v) (hown : OwnR e w B v l) (hx : a.eval x = .slice (some ⟨bx, 0, none⟩) n cx) (hn : n = m.length) (hm0 : 0 < n) (hr : ∀ (i : Nat) (r : Rec), m[i]? = some r → w.cell? ⟨bx, i * 3, none⟩ = some r.x ∧ w.cell? ⟨bx, i * 3 + 1, none⟩ = some r.y ∧ w.cell? ⟨bx, i * 3 + 2, none⟩ = some r.z) (h1 : ∀ r ∈ m, r.one) (hlen : l.length + n ≤ 1000000) (hB : B ≤ w.heap.size)
    (h : ∀ v' w', OwnR e w' B v' (l ++ m) → Apd w v v' w' → wpList Tryz.prog ops Q rest (a.put o.dst v') w') : wpList Tryz.prog ops Q (o :: rest) a w :=
  wpList_plain hgd fun _ hK => wp_kit_recs s x t e zz bytes ht he hzs hby ho hs hown hx hn hm0 hr h1 hlen hB fun v' w' h1 h2 => hK _ _ (h v' w' h1 h2)
end

/-- A copy with other priorities. -/
def Sp.to (y : Int) (S : Sp) : Sp := ⟨S.a, S.pow, y⟩
def toPri (y : Int) (L : List Sp) : List Sp := L.map (Sp.to y)
/-- A new slice that holds these seats. -/
def NewS (w : World) (n : Nat) (L : List Sp) (e : Ending) (w' : World) : Prop := ∃ b c, e = .returned (spS b n c) ∧ OwnR 42 w' w.heap.size (spS b n c) (L.map Sp.r) ∧ Kp [] w w'

/-- The first i have the priority y. -/
def part0 (y : Int) (i : Nat) (L : List Sp) : List Sp := (L.take i).map (Sp.to y) ++ L.drop i
theorem part0_at (y : Int) {L : List Sp} {i : Nat} {S : Sp} (h : L[i]? = some S) : (part0 y i L)[i]? = some S := by
  have hi := (List.getElem?_eq_some_iff.1 h).1
  unfold part0
  rw [List.getElem?_append_right (by simp; omega)]
  simp [List.length_take, Nat.min_eq_left (Nat.le_of_lt hi), h]
theorem part0_all (y : Int) {L : List Sp} {i : Nat} (h : L.length ≤ i) : part0 y i L = toPri y L := by
  unfold part0 toPri
  rw [List.take_of_length_le h, List.drop_of_length_le h, List.append_nil]
theorem part0_set (y : Int) {L : List Sp} {i : Nat} {S : Sp} (h : L[i]? = some S) : (part0 y i L).set i (S.to y) = part0 y (i + 1) L := by
  have hi := (List.getElem?_eq_some_iff.1 h).1
  unfold part0
  rw [List.set_append_right _ _ (by simp; omega), ltake h, List.map_append, List.append_assoc]
  congr 1
  have e : L.drop i = S :: L.drop (i + 1) := by
    obtain ⟨_, rfl⟩ := List.getElem?_eq_some_iff.1 h
    exact List.drop_eq_getElem_cons hi
  rw [e]
  simp [List.length_take, Nat.min_eq_left (Nat.le_of_lt hi)]
theorem part0_len (y : Int) (i : Nat) (L : List Sp) : (part0 y i L).length = L.length := by
  unfold part0
  simp
  omega
theorem OwnR.free {e : TypeId} {w : World} {B g n c : Nat} {l : List Rec} (h : OwnR e w B (spS g n c) l) (j : Nat) : w.frozen? ⟨g, j, none⟩ = false := by
  unfold spS at h
  obtain ⟨h1, h2 | ⟨g', cap', cur, h0, h2, h3, h4, h5, h6, h7⟩⟩ := h
  · cases h2.1
  · injection h0 with e1 e2 e3
    injection e1 with e1
    injection e1 with e1 e4
    subst e1
    simp [World.frozen?, h3]

set_option maxRecDepth 100000 in
theorem centred_any (z : Int) (b c n : Nat) (L : List Sp) (w : World) (h : SpAt w b L) (hn : n = L.length) (hn0 : 0 < n) (hn1 : n ≤ 100) (hz : Pri z L) (z0 : -1000000 ≤ z) (z1 : z ≤ 1000000) :
    Calls Tryz.prog 52 #[spS b n c] w (NewS w n (toPri 0 L)) := by
  have H := Lib.hid (And.intro h hz)
  have HN := Lib.hid hn
  clear h hz hn
  have hmean := Lib.hid (mean_any z b c n L w H.out.1 HN.out hn0 hn1 H.out.2 z0 z1)
  unfold spS at hmean
  unfold spS
  go_enter Tryz.func52, Tryz.ntmps52
  go_wp2_with fail
  refine hmean.out.mono ?_
  rintro e w1 ⟨rfl, k1⟩
  have K1 := Lib.hid k1
  clear k1 hmean
  go_wp2_with (refine kit_recs rfl (.tmp 8) (.tmp 9) 28 42 _ 32 under28 info42 rfl (by decide) rfl (B := w.heap.size) (l := []) (m := L.map Sp.r) (v := .slice (some ⟨w1.heap.size, 0, none⟩) 0 0) rfl ?ho rfl ?hn hn0 ?hr ?h1 ?hl ?hB ?_)
  case ho => exact OwnR.empty (Blk.new w1 #[] 42) K1.out.size
  case hn => rw [List.length_map]; exact HN.out
  case hr => exact sp_rd ((H.out.1.kp K1.out).kp ((Kp.refl [] w1).alloc _))
  case h1 => exact sp_one L
  case hl => simp; omega
  case hB => have := K1.out.size; simp; omega
  intro v' w' ho ha
  have hk : Kp [] w w' := ha.ownR (K1.out.alloc _) (OwnR.empty (Blk.new w1 #[] 42) K1.out.size) (Nat.le_refl _)
  obtain ⟨g, cc, rfl, hg, hgl⟩ := ho.posR (by simp; have := HN.out; omega)
  have hl0 : (L.map Sp.r).length = n := by simp; exact HN.out.symm
  rw [hl0] at ho ⊢
  have HO := Lib.hid (And.intro ho (And.intro hg hk))
  clear ho ha hk hgl hl0
  go_wp2_with fail
  go_loopw [13] (fun s wr => ∃ i : Nat, i ≤ n ∧ s = .int .i64 i ∧ OwnR 42 wr w.heap.size (spS g n cc) ((part0 0 i L).map Sp.r) ∧ Kp [] w wr) (fun s _ => n - (intOf s).toNat)
  case atStart => exact ⟨0, by omega, rfl, by simpa [part0, spS] using HO.out.1, HO.out.2.2⟩
  case round =>
    obtain ⟨i, hi, rfl, ho, hk⟩ := hrel
    have HOi := Lib.hid (And.intro ho hk)
    by_cases hlt : i < n
    · obtain ⟨S, hSm, hSi⟩ := lget (L := L) (i := i) (by rw [← HN.out]; exact hlt)
      have hq := part0_at 0 hSi
      have hc := ho.sp i S hq
      have c2 := hc.2.2
      rw [H.out.2 S hSm] at c2
      have f2 := ho.free (i * 3 + 2)
      have HQ := Lib.hid (And.intro hq hSi)
      clear hc hq hSm hSi ho hk
      go_wp2_with fail
      refine (minus_any z z wr (by omega) (by omega)).mono ?_
      rintro e w4 ⟨rfl, rfl⟩
      rw [Int.sub_self]
      go_wp2_with fail
      refine ⟨⟨i + 1, by omega, by go_num, ?_, HOi.out.2.set (p := ⟨g, i * 3 + 2, none⟩) (.inr hg) _⟩, by simp [intOf]; omega⟩
      have h1 := HOi.out.1
      unfold spS at h1 ⊢
      have hl : ((part0 0 i L).map Sp.r).length = n := by rw [List.length_map, part0_len]; exact HN.out.symm
      rw [← hl] at h1 ⊢
      have h2 := OwnR.setz h1 i S.r (by rw [List.getElem?_map, HQ.out.1]; rfl) (.int .i64 0)
      have h3 : ((part0 0 i L).map Sp.r).set i ⟨S.r.x, S.r.y, .int .i64 0⟩ = (part0 0 (i + 1) L).map Sp.r := by
        rw [← part0_set 0 HQ.out.2, List.map_set]
        rfl
      rwa [h3] at h2
    · obtain rfl : i = n := by omega
      go_wp2_with fail
      go_ret
      refine ⟨g, cc, rfl, ?_, HOi.out.2⟩
      have := HOi.out.1
      rwa [part0_all 0 (Nat.le_of_eq HN.out.symm)] at this

set_option maxRecDepth 100000 in
theorem rescaleS_any (z m : Int) (b c n : Nat) (L : List Sp) (w : World) (h : SpAt w b L) (hn : n = L.length) (hn0 : 0 < n) (hn1 : n ≤ 100) (hz : Pri z L) (z0 : -1000000 ≤ z) (z1 : z ≤ 1000000) (hm : 0 < m) :
    Calls Tryz.prog 53 #[spS b n c, .int .i64 m] w (NewS w n L) := by
  have H := Lib.hid (And.intro h hz)
  have HN := Lib.hid hn
  clear h hz hn
  unfold spS
  go_enter Tryz.func53, Tryz.ntmps53
  go_wp2_with (refine kit_recs rfl (.tmp 13) (.tmp 14) 28 42 _ 32 under28 info42 rfl (by decide) rfl (B := w.heap.size) (l := []) (m := L.map Sp.r) (v := .slice (some ⟨w.heap.size, 0, none⟩) 0 0) rfl ?ho rfl ?hn hn0 ?hr ?h1 ?hl ?hB ?_)
  case ho => exact OwnR.empty (Blk.new w #[] 42) (Nat.le_refl _)
  case hn => rw [List.length_map]; exact HN.out
  case hr => exact sp_rd (H.out.1.kp ((Kp.refl [] w).alloc _))
  case h1 => exact sp_one L
  case hl => simp; omega
  case hB => simp
  intro v' w' ho ha
  have hk : Kp [] w w' := ha.ownR ((Kp.refl [] w).alloc _) (OwnR.empty (Blk.new w #[] 42) (Nat.le_refl _)) (Nat.le_refl _)
  obtain ⟨g, cc, rfl, hg, hgl⟩ := ho.posR (by simp; have := HN.out; omega)
  have hl0 : (L.map Sp.r).length = n := by simp; exact HN.out.symm
  rw [hl0] at ho ⊢
  have HO := Lib.hid (And.intro ho (And.intro hg hk))
  obtain ⟨S0, hS0m, hS0⟩ := lget (L := L) (i := 0) (by rw [← HN.out]; exact hn0)
  have c2 := cell_kp (H.out.1 0 S0 hS0).2.2 hk
  rw [H.out.2 S0 hS0m] at c2
  simp only [Nat.zero_mul, Nat.zero_add] at c2
  clear ho ha hk hgl hl0 hS0m hS0
  have hm2 : decide (m ≤ 0) = false := decide_eq_false (by omega)
  have hn2 : ((n : Int) == 0) = false := by rw [beq_eq_false_iff_ne]; omega
  go_wp2_with fail
  go_big_region
  go_wp2_with fail
  go_loopw [6, 7, 34] (fun t u s wr => ∃ i : Nat, i ≤ n ∧ s = .int .i64 i ∧ t = .int .i64 z ∧ u = .int .i64 z ∧ Kp [] w' wr) (fun t u s _ => n - (intOf s).toNat)
  case atStart => exact ⟨0, by omega, rfl, rfl, rfl, (Kp.refl [] w').drew⟩
  case round =>
    obtain ⟨i, hi, rfl, rfl, rfl, hk⟩ := hrel
    by_cases hlt : i < n
    · obtain ⟨S, hSm, hSi⟩ := lget (L := L) (i := i) (by rw [← HN.out]; exact hlt)
      have hs := H.out.1 i S hSi
      have k := HO.out.2.2.trans hk
      have c0 := cell_kp hs.1 k
      have c1 := cell_kp hs.2.1 k
      have c2 := cell_kp hs.2.2 k
      rw [H.out.2 S hSm] at c2
      have K := Lib.hid hk
      clear hs hSm hSi k hk
      go_wp2_with fail
      go_big_region
      go_wp2_with fail
      exact ⟨⟨i + 1, by omega, by go_num, rfl, rfl, (K.out.alloc _).drew⟩, by simp [intOf]; omega⟩
    · obtain rfl : i = n := by omega
      have K := Lib.hid hk
      clear hk
      go_wp2_with fail
      go_ret
      exact ⟨g, cc, rfl, HO.out.1.kp K.out, HO.out.2.2.trans K.out⟩

set_option maxRecDepth 100000 in
theorem first_any (b c n : Nat) (L : List Sp) (w : World) (h : SpAt w b L) (hn : n = L.length) (hn0 : 0 < n) (hn1 : n ≤ 100) :
    Calls Tryz.prog 56 #[spS b n c] w fun e w' => (∃ k : Nat, e = .returned (.int .i64 k) ∧ k < n) ∧ Kp [] w w' := by
  have H := Lib.hid h
  have HN := Lib.hid hn
  clear h hn
  unfold spS
  go_enter Tryz.func56, Tryz.ntmps56
  go_wp2_with fail
  go_loopw [3, 8] (fun t s wr => ∃ i k : Nat, i ≤ n ∧ k < n ∧ s = .int .i64 i ∧ t = .int .i64 k ∧ Kp [] w wr) (fun t s _ => n - (intOf s).toNat)
  case atStart => exact ⟨0, 0, by omega, hn0, rfl, rfl, Kp.refl _ _⟩
  case round =>
    obtain ⟨i, k, hi, hk, rfl, rfl, kk⟩ := hrel
    by_cases hlt : i < n
    · obtain ⟨S, hSm, hSi⟩ := lget (L := L) (i := i) (by rw [← HN.out]; exact hlt)
      obtain ⟨T, hTm, hTi⟩ := lget (L := L) (i := k) (by rw [← HN.out]; exact hk)
      have hs := H.out i S hSi
      have ht := H.out k T hTi
      have c0 := cell_kp hs.1 kk
      have c1 := cell_kp hs.2.1 kk
      have c2 := cell_kp hs.2.2 kk
      have d0 := cell_kp ht.1 (kk.alloc (.cells #[.string (strOfNums S.a), .int .i64 S.pow, .int .i64 S.pri] 42))
      have d2 := cell_kp ht.2.2 (kk.alloc (.cells #[.string (strOfNums S.a), .int .i64 S.pow, .int .i64 S.pri] 42))
      have K := Lib.hid kk
      clear hs ht hSm hSi hTm hTi kk
      have fin : ∀ (j : Nat), j < n → ∀ wz, Kp [] wr wz → (∃ i_1 k_1 : Nat, i_1 ≤ n ∧ k_1 < n ∧ Value.int IntKind.i64 ((i : Int) + 1) = .int .i64 i_1 ∧ Value.int .i64 j = .int .i64 k_1 ∧ Kp [] w wz) ∧ n - (intOf (.int .i64 ((i : Int) + 1))).toNat < n - (intOf (.int .i64 i)).toNat :=
        fun j hj wz kz => ⟨⟨i + 1, j, by omega, hj, by go_num, rfl, K.out.trans kz⟩, by simp [intOf]; omega⟩
      have FIN := Lib.hid fin
      clear fin
      by_cases q1 : T.pri < S.pri
      · have q1d := decide_eq_true q1
        clear q1
        go_wp2_with fail
        go_big_region
        go_wp2_with fail
        exact FIN.out i hlt _ ((Kp.refl [] wr).alloc _).drew
      · have q1d := decide_eq_false q1
        clear q1
        by_cases q2 : S.pri = T.pri
        · have q2d : (S.pri == T.pri) = true := by rw [q2]; exact beq_self_eq_true _
          clear q2
          go_wp2_with fail
          go_big_region
          go_wp2_with fail
          all_goals first | exact FIN.out i hlt _ ((Kp.refl [] wr).alloc _).drew | exact FIN.out k hk _ ((Kp.refl [] wr).alloc _).drew
        · have q2d : (S.pri == T.pri) = false := by rw [beq_eq_false_iff_ne]; exact q2
          clear q2
          go_wp2_with fail
          go_big_region
          go_wp2_with fail
          exact FIN.out k hk _ ((Kp.refl [] wr).alloc _).drew
    · go_wp2_with fail
      go_ret
      exact ⟨⟨k, rfl, hk⟩, kk⟩
end Go.Proofs.YtfkaldaflnmfiaaGreatDoor
