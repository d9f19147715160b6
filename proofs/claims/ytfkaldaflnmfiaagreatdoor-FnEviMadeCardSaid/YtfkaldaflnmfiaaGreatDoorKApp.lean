/- The contract of processChanges, where all are new and none go. -/
import Derived.WalkKit
import Derived.WalkSpells
import Derived.WalkLawsBesides
import Derived.Handy
import Derived.Lib.Hide
import Derived.IntWalk
import Derived.LoopTactic
import Derived.Test.YtfkaldaflnmfiaaGreatDoorKVer
namespace Go.Proofs.YtfkaldaflnmfiaaGreatDoor
set_option linter.unusedSimpArgs false
set_option linter.unusedVariables false
open Go Go.RowKit

section
variable {ops : Array Oper} {rest : List Oper} {o : Oper} {a : Act} {w : World} {Q : Exit → Act → World → Prop}
/-- One validator more, where there is room. -/
theorem kit_push (hgd : o.guard = none) (s x : Operand) (ho : o.op = .call { callee := .builtin .append, args := #[s, x], argTypes := #[87, 87] }) (g n i bx : Nat) (P : List Vl) (V : Vl)
    (hs : a.eval s = .slice (some ⟨g, 0, none⟩) i n) (hg : Blk w g (part n P) 96) (hP : P.length = i) (hi : i < n) (hx : a.eval x = .slice (some ⟨bx, 0, none⟩) 1 1) (hc : w.cell? ⟨bx, 0, none⟩ = some (ptr V))
    (h : ∀ w', Blk w' g (part n (P ++ [V])) 96 → Kp [g] w w' → wpList Tryz.prog ops Q rest (a.put o.dst (.slice (some ⟨g, 0, none⟩) (i + 1) n)) w') : wpList Tryz.prog ops Q (o :: rest) a w := by
  obtain ⟨i0, hi0, hz0, hz1, hz2⟩ := info_parts info96
  have hsz : (part n P).size = n := by simp [part]; omega
  have hr := run_append_room (P := Tryz.prog) w 87 o.type 96 i0 Tryz.underlying87 hi0 g i n (part n P) hg ⟨bx, 0, none⟩ 1 1 [ptr V] (by simp [hz1]) (by
    intro j u hu
    rw [add_plain]
    match j with
    | 0 => simp at hu; subst hu; exact hc
    | j + 1 => simp at hu) (by simp [ptr, Value.oneCell']) (by omega) (by simp [hz1, hsz]; omega)
  have e : ((part n P).toList.take (i * i0.size) ++ [ptr V] ++ (part n P).toList.drop (i * i0.size + [ptr V].length)).toArray = part n (P ++ [V]) := by
    rw [hz1, Nat.mul_one, ← part_set V (by omega), hP]
    apply Array.ext'
    rw [Array.toList_setIfInBounds, List.set_eq_take_append_cons_drop, if_pos (by rw [Array.length_toList, hsz]; exact hi)]
    simp
  rw [e] at hr
  refine wpList_plain hgd fun K hK => ?_
  unfold Oper.wp
  simp [execOp, ho, resolve, invoke, builtin, hs, hx, hr, Result.andThen]
  exact hK _ _ (h _ (setRow_heap w g (part n P) (part n (P ++ [V])) 96 (0, 0) hg) (Kp.setRow w g _))
end

/-- No two addresses are the same. -/
def Apart (kt : Nat → Int) (L : List Vl) : Prop := (L.map fun V => addr kt V.key).Nodup
theorem Apart.perm {kt : Nat → Int} {L L' : List Vl} (h : L'.Perm L) (ha : Apart kt L) : Apart kt L' := (h.map _).nodup_iff.2 ha
theorem Apart.dat {kt : Nat → Int} {L L' : List Vl} (h : L'.map dat = L.map dat) (ha : Apart kt L) : Apart kt L' := by
  have e : L'.map (fun V => addr kt V.key) = L.map (fun V => addr kt V.key) := by
    have := congrArg (List.map fun d : Nat × Nat × Nat × Value × List Int × Int => addr kt d.2.2.2.2.1) h
    simpa [Go.Proofs.YtfkaldaflnmfiaaGreatDoor.dat, Function.comp_def] using this
  unfold Apart
  rw [e]
  exact ha
theorem Apart.ne {kt : Nat → Int} {L : List Vl} (ha : Apart kt L) {i j : Nat} {V U : Vl} (hV : L[i]? = some V) (hU : L[j]? = some U) (h : i ≠ j) : addr kt V.key ≠ addr kt U.key := by
  intro e
  obtain ⟨hi, rfl⟩ := List.getElem?_eq_some_iff.1 hV
  obtain ⟨hj, rfl⟩ := List.getElem?_eq_some_iff.1 hU
  have hp := List.pairwise_iff_getElem.1 ha
  rcases Nat.lt_or_gt_of_ne h with h | h
  · exact hp i j (by simpa using hi) (by simpa using hj) h (by simpa using e)
  · exact hp j i (by simpa using hj) (by simpa using hi) h (by simpa using e.symm)

/-- The loop over the changes. -/
structure Proc (kt : Nat → Int) (z : Int) (n : Nat) (L : List Vl) (w : World) (bu : Nat) (i : Nat) (prev : Value) (wr : World) : Prop where
  row : Blk wr bu (part n (L.take i)) 96
  kp : Kp [bu] w wr
  at_ : ∀ V ∈ L, VlAt kt (fun _ => z) wr V
  prev : (prev = .slice none 0 0 ∧ i = 0) ∨ ∃ (U : Vl) (j : Nat), L[j]? = some U ∧ i = j + 1 ∧ prev = .slice (some ⟨U.ab, 0, none⟩) 20 U.ac
theorem Proc.ask {kt : Nat → Int} {z : Int} {n : Nat} {L : List Vl} {w : World} {bu i : Nat} {prev : Value} {wr : World} {V : Vl} (h : Proc kt z n L w bu i prev wr) (ha : Apart kt L) (hV : L[i]? = some V) :
    ∃ p, Byt wr prev p ∧ Bs p ∧ addr kt V.key ≠ p := by
  rcases h.prev with ⟨rfl, rfl⟩ | ⟨U, j, hU, hj, rfl⟩
  · exact ⟨[], Byt.nil wr, Bs.nil, fun e => by have := congrArg List.length e; rw [addr_length] at this; simp at this⟩
  · exact ⟨addr kt U.key, (h.at_ U (List.mem_of_getElem? hU)).ok.addr, addr_bs _ _, ha.ne hV hU (by omega)⟩

/-- What processChanges hands back. -/
structure Procd (kt : Nat → Int) (z : Int) (L : List Vl) (w : World) (bu : Nat) (L' : List Vl) (w' : World) : Prop where
  dat : ∃ P : List Vl, P.Perm L' ∧ P.map Go.Proofs.YtfkaldaflnmfiaaGreatDoor.dat = L.map Go.Proofs.YtfkaldaflnmfiaaGreatDoor.dat
  row : Blk w' bu (ptrs L') 96
  at_ : ∀ V ∈ L', VlAt kt (fun _ => z) w' V
  nodup : (L'.map Vl.p).Nodup
  new : ∀ V ∈ L', w.heap.size ≤ V.p
  newb : w.heap.size ≤ bu
  kp : Kp [] w w'

set_option maxRecDepth 100000 in
set_option maxHeartbeats 1000000 in
theorem procChanges_any (kt : Nat → Int) (z : Int) (b c n : Nat) (L : List Vl) (w : World) (hb : Blk w b (ptrs L) 96) (hL : ∀ V ∈ L, VlAt kt (fun _ => z) w V) (hn : n = L.length) (hn1 : n ≤ 1000) (hp : Pows L) (ha : Apart kt L) :
    Calls Tryz.prog 76 #[rowV b n c] w fun e w' => ∃ bu br L', e = .returned (.tuple #[rowV bu n n, rowV br 0 n, .nilIface]) ∧ Procd kt z L w bu L' w' := by
  have hmk := mk_ptrs 0 n (by omega) (by omega)
  have HC := Lib.hid (listCopy_any kt z b c n L w hb hL hn hn1)
  have HN := Lib.hid hn
  have H := Lib.hid (And.intro hp ha)
  have HM := Lib.hid hmk
  clear hb hL hn hp ha hmk
  unfold rowV
  go_enter Tryz.func76, Tryz.ntmps76
  go_wp2_with fail
  refine HC.out.mono ?_
  rintro e w1 ⟨b1, L1, rfl, hc⟩
  have hl1 := len_dat hc.dat
  have HD := Lib.hid (And.intro hc hl1)
  clear hc HC hl1
  unfold rowV
  go_wp2_with fail
  refine (sortA_any kt (fun _ => z) b1 n n L1 w1 HD.out.1.row HD.out.1.at_ (by rw [HD.out.2]; exact HN.out) (by omega)).mono ?_
  rintro e w2 ⟨rfl, L2, hp2, hr2, hk2⟩
  have H2 := Lib.hid (And.intro hp2 (And.intro hr2 hk2))
  clear hp2 hr2 hk2
  have hmk := HM.out
  have hmk0 : ∀ W : World, (Instr.makeSlice 87 (.int .i64 0) (.int .i64 n)).run Tryz.prog W = .ok (.slice (some ⟨W.heap.size, 0, none⟩) 0 n) (W.alloc (.cells (Array.replicate n (.pointer none)) 96)) := fun W => hmk W
  clear hmk
  go_wp2_with fail
  have k3 := ((Kp.refl [] w2).alloc (.cells (Array.replicate n (Value.pointer none)) 96)).alloc (.cells (Array.replicate n (Value.pointer none)) 96)
  have hrow := Blk.new (w2.alloc (.cells (Array.replicate n (Value.pointer none)) 96)) (Array.replicate n (Value.pointer none)) 96
  have hbu : (w2.alloc (.cells (Array.replicate n (Value.pointer none)) 96)).heap.size = w2.heap.size + 1 := by simp
  rw [hbu] at hrow
  generalize (w2.alloc (.cells (Array.replicate n (Value.pointer none)) 96)).alloc (.cells (Array.replicate n (Value.pointer none)) 96) = w3 at *
  rw [← part_nil] at hrow
  have hall : ∀ V ∈ L2, VlAt kt (fun _ => z) w3 V := fun V hV => ((HD.out.1.at_ V (H2.out.1.mem_iff.1 hV)).row HD.out.1.row H2.out.2.2).kp k3
  obtain ⟨bu, ebu⟩ : ∃ bu, bu = w2.heap.size + 1 := ⟨_, rfl⟩
  rw [← ebu] at hrow ⊢
  have h0 : Proc kt z n L2 w3 bu 0 (.slice none 0 0) w3 := ⟨hrow, Kp.refl _ _, hall, .inl ⟨rfl, rfl⟩⟩
  have hl2 : n = L2.length := by rw [H2.out.1.length_eq, HD.out.2]; exact HN.out
  have H3 := Lib.hid (And.intro h0 (And.intro (k3.blk H2.out.2.1 (by simp)) (And.intro k3 ebu)))
  have HL := Lib.hid hl2
  have HA := Lib.hid (show Apart kt L2 from (Apart.perm H2.out.1 (Apart.dat HD.out.1.dat H.out.2)))
  have HP := Lib.hid (show Pows L2 from fun V hV => pows_dat HD.out.1.dat H.out.1 V (H2.out.1.mem_iff.1 hV))
  have hbn : b1 ≠ bu := by
    have := H2.out.2.1.lt
    omega
  clear hrow hbu hall h0 hl2 k3 ebu hmk0 HM
  go_loopw [2, 3, 4, 6, 22] (fun s2 s3 s4 s6 s22 wr => ∃ i : Nat, i ≤ n ∧ s22 = .int .i64 i ∧ s2 = .slice (some ⟨bu, 0, none⟩) i n ∧ s3 = .slice (some ⟨w2.heap.size, 0, none⟩) 0 n ∧ s4 = .nilIface ∧ Proc kt z n L2 w3 bu i s6 wr) (fun _ _ _ _ s22 _ => n - (intOf s22).toNat)
  case atStart => exact ⟨0, by omega, rfl, rfl, rfl, rfl, H3.out.1⟩
  case round =>
    obtain ⟨i, hi, rfl, rfl, rfl, rfl, hproc⟩ := hrel
    have HR := Lib.hid hproc
    clear hproc
    by_cases hlt : i < n
    · obtain ⟨V, hVm, hVi⟩ := get_lt (L := L2) (i := i) (by rw [← HL.out]; exact hlt)
      have hrow1 := HR.out.kp.blk H3.out.2.1 (by simpa using hbn)
      have ci : wr.cell? ⟨b1, i, none⟩ = some (.pointer (some ⟨V.p, 0, none⟩)) := hrow1.cell (ptrs_some hVi)
      have hV := HR.out.at_ V hVm
      have c0 : wr.cell? ⟨V.p, 0, none⟩ = some (.slice (some ⟨V.ab, 0, none⟩) 20 V.ac) := hV.blk.cell rfl
      have c2 : wr.cell? ⟨V.p, 2, none⟩ = some (.int .i64 V.pow) := hV.blk.cell rfl
      obtain ⟨p, hp1, hp2, hp3⟩ := HR.out.ask HA.out hVi
      have hq := bytesEqual_any _ _ (addr kt V.key) p wr hV.ok.addr hp1 (addr_bs _ _) hp2
      rw [decide_eq_false hp3] at hq
      have HQ := Lib.hid hq
      have HV := Lib.hid (And.intro hV hVi)
      obtain ⟨p0, p1⟩ := HP.out V hVm
      have hpe : (V.pow == 0) = false := by rw [beq_eq_false_iff_ne]; omega
      have hvl : V.p < wr.heap.size := hV.blk.lt
      clear hV hVi hVm hp1 hp2 hp3 hq hrow1
      go_wp2_with (first | (go_at_call 40; refine HQ.out.mono ?_; rintro e w' ⟨rfl, rfl⟩) | (at_builtin; refine kit_push rfl (.tmp 34) (.tmp 36) rfl bu n i wr.heap.size (L2.take i) V rfl (HR.out.row.alloc _) ?c1 hlt rfl ?c2 ?_))
      case c1 => rw [List.length_take]; have := HL.out; omega
      case c2 => simp [ptr]
      intro w5 hb5 hk5
      have hVa := (HV.out.1.kp ((Kp.refl [] wr).alloc (.cells #[.pointer (some ⟨V.p, 0, none⟩)] 96))).part (HR.out.row.alloc _) hk5
      have hks : Kp [bu] wr w5 := (((Kp.refl [] wr).alloc (.cells #[.pointer (some ⟨V.p, 0, none⟩)] 96)).mono (S' := [bu]) (by simp)).trans hk5
      have d0 : w5.cell? ⟨V.p, 0, none⟩ = some (.slice (some ⟨V.ab, 0, none⟩) 20 V.ac) := hVa.blk.cell rfl
      have H5 := Lib.hid (And.intro hb5 hks)
      clear hb5 hk5 hVa hks
      go_wp2
      refine ⟨⟨i + 1, by omega, by go_num, rfl, rfl, rfl, ?_, HR.out.kp.trans H5.out.2, ?_, .inr ⟨V, i, HV.out.2, rfl, rfl⟩⟩, by simp [intOf]; omega⟩
      · rw [at_take HV.out.2]
        exact H5.out.1
      · intro U hU
        exact (HR.out.at_ U hU).part HR.out.row H5.out.2
    · go_wp2
      go_ret3
      obtain rfl : i = n := by omega
      refine ⟨bu, w2.heap.size, L2, rfl, ⟨L1, H2.out.1.symm, HD.out.1.dat⟩, ?_, HR.out.at_, ?_, ?_, ?_, ?_⟩
      · have := HR.out.row
        rw [List.take_of_length_le (by have := HL.out; omega), part_full HL.out.symm] at this
        exact this
      · exact (H2.out.1.map _).nodup_iff.2 HD.out.1.nodup
      · exact fun V hV => HD.out.1.new V (H2.out.1.mem_iff.1 hV)
      · have h1 := HD.out.1.kp.size
        have h2 := H2.out.2.2.size
        have h3 := H3.out.2.2.2
        omega
      · have h1 : Kp [] w w2 := HD.out.1.kp.then H2.out.2.2 (fun x hx hm => by simp at hm; have := HD.out.1.newb; omega)
        exact (h1.trans H3.out.2.2.1).then HR.out.kp (fun x hx hm => by
          simp at hm
          have h2 := h1.size
          have h3 := H3.out.2.2.2
          omega)
end Go.Proofs.YtfkaldaflnmfiaaGreatDoor
/- The contract of the new validators' priorities. -/
namespace Go.Proofs.YtfkaldaflnmfiaaGreatDoor
set_option linter.unusedSimpArgs false
set_option linter.unusedVariables false
open Go Go.RowKit

theorem Blk.farV {w : World} {V : Vl} {x : Int} (h : Blk w V.p (V.cells x) 107) : Far w V.p := ⟨_, _, h, by decide, fun j y e => by
  simp only [Vl.cells, List.getElem?_toArray] at e
  have := List.mem_of_getElem? e
  simp [keyI] at this⟩
/-- Another validator's number is written. -/
theorem VlAt.store {kt pr : Nat → Int} {w w' : World} {V U : Vl} {x : Int} (h : VlAt kt pr w U) (hV : Blk w V.p (V.cells x) 107) (k : Kp [V.p] w w') (hne : U.p ≠ V.p) : VlAt kt pr w' U := by
  refine h.far k ?_ (by simpa using hne)
  intro b hm
  simp at hm
  subst hm
  exact hV.farV
theorem VlOk.store {kt : Nat → Int} {w w' : World} {V U : Vl} {x : Int} (h : VlOk kt w U) (hV : Blk w V.p (V.cells x) 107) (k : Kp [V.p] w w') : VlOk kt w' U := by
  refine h.far k ?_
  intro b hm
  simp at hm
  subst hm
  exact hV.farV
theorem cells_prio (V : Vl) (x y : Int) : (V.cells x).setIfInBounds 3 (.int .i64 y) = V.cells y := by simp [Vl.cells]

/-- Half of the list has the one priority, half the other. -/
structure Half (kt : Nat → Int) (x y : Int) (L : List Vl) (i : Nat) (w wr : World) : Prop where
  head : ∀ V ∈ L.take i, VlAt kt (fun _ => x) wr V
  tail : ∀ V ∈ L.drop i, VlAt kt (fun _ => y) wr V
  kp : Kp (L.map Vl.p) w wr
theorem Half.step {kt : Nat → Int} {x y : Int} {L : List Vl} {i : Nat} {w wr : World} {V : Vl} (h : Half kt x y L i w wr) (hd : (L.map Vl.p).Nodup) (hV : L[i]? = some V) :
    Half kt x y L (i + 1) w (wr.setCell ⟨V.p, 3, none⟩ (.int .i64 x)) := by
  obtain ⟨hi, hVe⟩ := List.getElem?_eq_some_iff.1 hV
  have hdrop : L.drop i = V :: L.drop (i + 1) := by rw [List.drop_eq_getElem_cons hi, hVe]
  have hVat := h.tail V (by rw [hdrop]; simp)
  have hk : Kp [V.p] wr (wr.setCell ⟨V.p, 3, none⟩ (.int .i64 x)) := (Kp.refl _ _).set (.inl (by simp)) _
  have hnd : (((L.take i).map Vl.p) ++ (V.p :: (L.drop (i + 1)).map Vl.p)).Nodup := by
    have e : L = L.take i ++ V :: L.drop (i + 1) := by rw [← hdrop, List.take_append_drop]
    rw [e] at hd
    simpa using hd
  rw [List.nodup_append] at hnd
  refine ⟨?_, ?_, ?_⟩
  · intro U hU
    rw [at_take hV] at hU
    rcases List.mem_append.1 hU with hm | hm
    · refine (h.head U hm).store hVat.blk hk ?_
      exact hnd.2.2 U.p (List.mem_map_of_mem hm) V.p (by simp)
    · simp at hm
      subst hm
      refine ⟨hVat.ok.store hVat.blk hk, ?_⟩
      have := hVat.blk.set 3 (.int .i64 x)
      rwa [cells_prio] at this
  · intro U hU
    refine (h.tail U (by rw [hdrop]; simp [hU])).store hVat.blk hk ?_
    intro e
    have := hnd.2.1
    rw [List.nodup_cons] at this
    exact this.1 (e ▸ List.mem_map_of_mem hU)
  · exact h.kp.set (.inl (List.mem_map_of_mem (List.mem_of_getElem? hV))) _

set_option maxRecDepth 100000 in
theorem newPrios_any (kt : Nat → Int) (z T : Int) (s b c n : Nat) (pp : Option Addr) (tvp : Int) (ak : Bool) (L : List Vl) (w : World) (hs : Blk w s (setC (.slice none 0 0) pp tvp ak) 112) (hb : Blk w b (ptrs L) 96) (hL : ∀ V ∈ L, VlAt kt (fun _ => z) w V) (hn : n = L.length) (hn1 : n ≤ 1000) (hd : (L.map Vl.p).Nodup) (hT : 0 ≤ T ∧ T ≤ 1000000) :
    Calls Tryz.prog 80 #[rowV b n c, .pointer (some ⟨s, 0, none⟩), .int .i64 T] w fun e w' => e = .returned (.tuple #[]) ∧ (∀ V ∈ L, VlAt kt (fun _ => -(T + T / 8)) w' V) ∧ Kp (L.map Vl.p) w w' := by
  obtain ⟨T0, T1⟩ := hT
  have hsd : ∀ V ∈ L, V.p ≠ s := fun V hV e => by
    have := (hL V hV).blk.uniq (e ▸ hs)
    exact absurd this.2 (by decide)
  have hbd : ∀ V ∈ L, V.p ≠ b := fun V hV e => by
    have := (hL V hV).blk.uniq (e ▸ hb)
    exact absurd this.2 (by decide)
  have H := Lib.hid (And.intro hs (And.intro hb (And.intro hL (And.intro hd (And.intro hsd hbd)))))
  have HN := Lib.hid hn
  clear hs hb hL hd hsd hbd hn
  unfold rowV
  go_enter Tryz.func80, Tryz.ntmps80
  go_wp2
  go_loopw [13] (fun s13 wr => ∃ i : Nat, i ≤ n ∧ s13 = .int .i64 i ∧ Half kt (-(T + T / 8)) z L i w wr) (fun s13 _ => n - (intOf s13).toNat)
  case atStart => exact ⟨0, by omega, rfl, by simp, by simpa using H.out.2.2.1, Kp.refl _ _⟩
  case round =>
    obtain ⟨i, hi, rfl, hh⟩ := hrel
    have HH := Lib.hid hh
    clear hh
    by_cases hlt : i < n
    · obtain ⟨V, hVm, hVi⟩ := get_lt (L := L) (i := i) (by rw [← HN.out]; exact hlt)
      have hsr := HH.out.kp.blk H.out.1 (by simp only [List.mem_map]; rintro ⟨U, hU, e⟩; exact H.out.2.2.2.2.1 U hU e)
      have hbr := HH.out.kp.blk H.out.2.1 (by simp only [List.mem_map]; rintro ⟨U, hU, e⟩; exact H.out.2.2.2.2.2 U hU e)
      have ci : wr.cell? ⟨b, i, none⟩ = some (.pointer (some ⟨V.p, 0, none⟩)) := hbr.cell (ptrs_some hVi)
      have hV : VlAt kt (fun _ => z) wr V := HH.out.tail V (by
        obtain ⟨hl, e⟩ := List.getElem?_eq_some_iff.1 hVi
        rw [List.drop_eq_getElem_cons hl, e]
        simp)
      have c0 : wr.cell? ⟨V.p, 0, none⟩ = some (.slice (some ⟨V.ab, 0, none⟩) 20 V.ac) := hV.blk.cell rfl
      have c3 : wr.cell? ⟨V.p, 3, none⟩ = some (.int .i64 z) := hV.blk.cell rfl
      have f3 := hV.blk.free 3
      have HS := Lib.hid (And.intro hsr hVi)
      clear hsr hbr hV hVi hVm
      go_wp2_with (go_at_call 65; refine (getMut_empty s pp tvp ak _ _ HS.out.1).mono ?_; rintro e w' ⟨rfl, rfl⟩)
      refine ⟨⟨i + 1, by omega, by go_num, ?_⟩, by simp [intOf]; omega⟩
      exact HH.out.step H.out.2.2.2.1 HS.out.2
    · go_wp2
      go_end0
      have := HH.out.head
      rw [List.take_of_length_le (by have := HN.out; omega)] at this
      exact ⟨rfl, this, HH.out.kp⟩

theorem lenA_nil (w : World) : Calls Tryz.prog 168 #[.slice none 0 0] w fun e w' => e = .returned (.int .i64 0) ∧ w = w' := by
  go_enter Tryz.func168, Tryz.ntmps168
  go_wp2
  go_ret
  exact ⟨rfl, rfl⟩
theorem sortA_nil (w : World) : Calls Tryz.prog 86 #[.iface 158 (.slice none 0 0)] w fun e w' => e = .returned (.tuple #[]) ∧ w = w' := by
  go_enter Tryz.func86, Tryz.ntmps86
  go_wp2_with fail
  refine wp_loop_rounds 1 ?_
  rw [rounds_succ]
  go_wp2_with (go_at_call 168; refine (lenA_nil _).mono ?_; rintro e w' ⟨rfl, rfl⟩)
  go_end0
  exact ⟨rfl, rfl⟩

theorem Blk.ne {w : World} {b b' : Nat} {cs cs' : Array Value} {t t' : TypeId} (h : Blk w b cs t) (h' : Blk w b' cs' t') (hne : t ≠ t') : b ≠ b' := fun e => hne ((h.uniq (e ▸ h')).2)

set_option maxRecDepth 100000 in
theorem applyUpd_any (s b c n : Nat) (pp : Option Addr) (tvp : Int) (ak : Bool) (L : List Vl) (w : World) (hs : Blk w s (setC (.slice none 0 0) pp tvp ak) 112) (hb : Blk w b (ptrs L) 96) (hn : n = L.length) (hn1 : n ≤ 1000) :
    Calls Tryz.prog 81 #[.pointer (some ⟨s, 0, none⟩), rowV b n c] w fun e w' => e = .returned (.tuple #[]) ∧ ∃ b2, w.heap.size ≤ b2 ∧ Blk w' b2 (ptrs L) 96 ∧ Blk w' s (setC (rowV b2 n n) pp tvp ak) 112 ∧ Kp [s] w w' := by
  have hmk := mk_ptrs n n (Nat.le_refl _) (by omega)
  have e0 := hs.all 0 (v := .slice none 0 0) rfl
  have hlt := hs.lt
  have H := Lib.hid (And.intro hs hb)
  have HN := Lib.hid hn
  have H0 := Lib.hid e0
  have e0 : w.cell? ⟨s, 0, none⟩ = some (.slice none 0 0) := H0.out w (Kp.refl _ _)
  clear hs hb hn
  unfold rowV
  go_enter Tryz.func81, Tryz.ntmps81
  go_wp2_with (go_at_call 86; refine (sortA_nil _).mono ?_; rintro e w' ⟨rfl, rfl⟩)
  refine wp_loop_rounds 1 ?_
  rw [rounds_succ]
  go_wp2_with fail
  refine wp_loop_rounds 1 ?_
  rw [rounds_succ]
  go_wp2_with fail
  have hrow := Blk.new w (Array.replicate n (Value.pointer none)) 96
  have k1 := (Kp.refl [] w).alloc (.cells (Array.replicate n (Value.pointer none)) 96)
  generalize w.alloc (.cells (Array.replicate n (Value.pointer none)) 96) = w1 at *
  rw [← part_nil] at hrow
  obtain ⟨b2, eb2⟩ : ∃ b2, b2 = w.heap.size := ⟨_, rfl⟩
  rw [← eb2] at hrow ⊢
  have H1 := Lib.hid (And.intro hrow (And.intro k1 eb2))
  clear hrow k1 eb2 hmk
  go_loopw [6, 8] (fun s6 s8 wr => ∃ i : Nat, i ≤ n ∧ s6 = .int .i64 i ∧ s8 = .int .i64 i ∧ Blk wr b2 (part n (L.take i)) 96 ∧ Kp [] w wr) (fun s6 s8 _ => n - (intOf s8).toNat)
  case atStart => exact ⟨0, by omega, rfl, rfl, H1.out.1, H1.out.2.1⟩
  case round =>
    obtain ⟨i, hi, rfl, rfl, hr, hk⟩ := hrel
    have hbr := hk.blk H.out.2 (by simp)
    have HR := Lib.hid (And.intro hr (And.intro hk hbr))
    have hql : (L.take i).length = i := by rw [List.length_take]; have := HN.out; omega
    have HQ := Lib.hid hql
    clear hr hk hbr hql
    by_cases hlt2 : i < n
    · obtain ⟨V, hVm, hVi⟩ := get_lt (L := L) (i := i) (by rw [← HN.out]; exact hlt2)
      have ci : wr.cell? ⟨b, i, none⟩ = some (.pointer (some ⟨V.p, 0, none⟩)) := HR.out.2.2.cell (ptrs_some hVi)
      have di : wr.cell? ⟨b2, i, none⟩ = some (.pointer none) := HR.out.1.cell (by have := part_at (n := n) (Q := L.take i) (by rw [HQ.out]; exact hlt2); rwa [HQ.out] at this)
      have fi := HR.out.1.free i
      have HV := Lib.hid hVi
      clear hVm hVi
      go_wp2
      refine ⟨⟨i + 1, by omega, by go_num, by go_num, ?_, HR.out.2.1.set (.inr (by have := H1.out.2.2; show w.heap.size ≤ b2; omega)) _⟩, by simp [intOf]; omega⟩
      have := HR.out.1.set i (.pointer (some ⟨V.p, 0, none⟩))
      rw [show (Value.pointer (some ⟨V.p, 0, none⟩)) = ptr V from rfl] at this
      have h2 := part_set (n := n) (Q := L.take i) V (by rw [HQ.out]; exact hlt2)
      rw [HQ.out] at h2
      rw [h2, ← at_take HV.out] at this
      exact this
    · obtain rfl : i = n := by omega
      have hsr := HR.out.2.1.blk H.out.1 (by simp)
      have e0r : wr.cell? ⟨s, 0, none⟩ = some (.slice none 0 0) := hsr.cell rfl
      have f0r := hsr.free 0
      have hne := HR.out.1.ne hsr (by decide)
      have HS := Lib.hid (And.intro hsr hne)
      clear hsr hne
      go_wp2
      go_end0
      refine ⟨rfl, b2, by have := H1.out.2.2; omega, ?_, HS.out.1.set 0 _, (HR.out.2.1.mono (S' := [s]) (by simp)).set (.inl (by simp)) _⟩
      have := HR.out.1
      rw [List.take_of_length_le (by have := HN.out; omega), part_full HN.out.symm] at this
      exact this.other HS.out.2 _
end Go.Proofs.YtfkaldaflnmfiaaGreatDoor
/- Contracts of the removals where none go, and of the keys' kinds. -/
namespace Go.Proofs.YtfkaldaflnmfiaaGreatDoor
set_option linter.unusedSimpArgs false
set_option linter.unusedVariables false
open Go Go.RowKit

set_option maxRecDepth 100000 in
theorem applyRem_any (s b c n br cr : Nat) (pp : Option Addr) (tvp : Int) (ak : Bool) (L : List Vl) (w : World) (hs : Blk w s (setC (rowV b n c) pp tvp ak) 112) (hb : Blk w b (ptrs L) 96) (hn : n = L.length) (hn1 : n ≤ 1000) :
    Calls Tryz.prog 82 #[.pointer (some ⟨s, 0, none⟩), rowV br 0 cr] w fun e w' => e = .returned (.tuple #[]) ∧ ∃ b2, w.heap.size ≤ b2 ∧ Blk w' b2 (ptrs L) 96 ∧ Blk w' s (setC (rowV b2 n n) pp tvp ak) 112 ∧ Kp [s] w w' := by
  have hmk := mk_ptrs n n (Nat.le_refl _) (by omega)
  have e0 : w.cell? ⟨s, 0, none⟩ = some (.slice (some ⟨b, 0, none⟩) n c) := hs.cell rfl
  have H := Lib.hid (And.intro hs hb)
  have HN := Lib.hid hn
  clear hs hb hn
  unfold rowV
  go_enter Tryz.func82, Tryz.ntmps82
  go_wp2_with fail
  refine wp_loop_rounds 1 ?_
  rw [rounds_succ]
  go_wp2_with fail
  have hrow := Blk.new w (Array.replicate n (Value.pointer none)) 96
  have k1 := (Kp.refl [] w).alloc (.cells (Array.replicate n (Value.pointer none)) 96)
  generalize w.alloc (.cells (Array.replicate n (Value.pointer none)) 96) = w1 at *
  rw [← part_nil] at hrow
  obtain ⟨b2, eb2⟩ : ∃ b2, b2 = w.heap.size := ⟨_, rfl⟩
  rw [← eb2] at hrow ⊢
  have H1 := Lib.hid (And.intro hrow (And.intro k1 eb2))
  clear hrow k1 eb2 hmk
  go_loopw [6, 7] (fun s6 s8 wr => ∃ i : Nat, i ≤ n ∧ s6 = .int .i64 i ∧ s8 = .int .i64 i ∧ Blk wr b2 (part n (L.take i)) 96 ∧ Kp [] w wr) (fun s6 s8 _ => n - (intOf s8).toNat)
  case atStart => exact ⟨0, by omega, rfl, rfl, H1.out.1, H1.out.2.1⟩
  case round =>
    obtain ⟨i, hi, rfl, rfl, hr, hk⟩ := hrel
    have hbr := hk.blk H.out.2 (by simp)
    have HR := Lib.hid (And.intro hr (And.intro hk hbr))
    have hql : (L.take i).length = i := by rw [List.length_take]; have := HN.out; omega
    have HQ := Lib.hid hql
    clear hr hk hbr hql
    by_cases hlt2 : i < n
    · obtain ⟨V, hVm, hVi⟩ := get_lt (L := L) (i := i) (by rw [← HN.out]; exact hlt2)
      have ci : wr.cell? ⟨b, i, none⟩ = some (.pointer (some ⟨V.p, 0, none⟩)) := HR.out.2.2.cell (ptrs_some hVi)
      have di : wr.cell? ⟨b2, i, none⟩ = some (.pointer none) := HR.out.1.cell (by have := part_at (n := n) (Q := L.take i) (by rw [HQ.out]; exact hlt2); rwa [HQ.out] at this)
      have fi := HR.out.1.free i
      have HV := Lib.hid hVi
      clear hVm hVi
      go_wp2
      refine ⟨⟨i + 1, by omega, by go_num, by go_num, ?_, HR.out.2.1.set (.inr (by have := H1.out.2.2; show w.heap.size ≤ b2; omega)) _⟩, by simp [intOf]; omega⟩
      have := HR.out.1.set i (.pointer (some ⟨V.p, 0, none⟩))
      rw [show (Value.pointer (some ⟨V.p, 0, none⟩)) = ptr V from rfl] at this
      have h2 := part_set (n := n) (Q := L.take i) V (by rw [HQ.out]; exact hlt2)
      rw [HQ.out] at h2
      rw [h2, ← at_take HV.out] at this
      exact this
    · obtain rfl : i = n := by omega
      have hsr := HR.out.2.1.blk H.out.1 (by simp)
      have e0r : wr.cell? ⟨s, 0, none⟩ = some (.slice (some ⟨b, 0, none⟩) i c) := hsr.cell rfl
      have f0r := hsr.free 0
      have hne := HR.out.1.ne hsr (by decide)
      have HS := Lib.hid (And.intro hsr hne)
      clear hsr hne
      go_wp2
      go_end0
      refine ⟨rfl, b2, by have := H1.out.2.2; omega, ?_, HS.out.1.set 0 _, (HR.out.2.1.mono (S' := [s]) (by simp)).set (.inl (by simp)) _⟩
      have := HR.out.1
      rw [List.take_of_length_le (by have := HN.out; omega), part_full HN.out.symm] at this
      exact this.other HS.out.2 _

def plainS : Value := .string ⟨#[112, 108, 97, 105, 110]⟩

set_option maxRecDepth 100000 in
theorem checkAll_any (kt pr : Nat → Int) (s b c n : Nat) (pp : Option Addr) (tvp : Int) (ak : Bool) (L : List Vl) (w : World) (hs : Blk w s (setC (rowV b n c) pp tvp ak) 112) (hb : Blk w b (ptrs L) 96) (hL : ∀ V ∈ L, VlAt kt pr w V) (hn : n = L.length) (hn0 : 0 < n) (hn1 : n ≤ 1000) :
    Calls Tryz.prog 83 #[.pointer (some ⟨s, 0, none⟩)] w fun e w' => e = .returned (.tuple #[]) ∧ Blk w' s (setC (rowV b n c) pp tvp true) 112 ∧ Kp [s] w w' := by
  have e0 : w.cell? ⟨s, 0, none⟩ = some (.slice (some ⟨b, 0, none⟩) n c) := hs.cell rfl
  have e3 : w.cell? ⟨s, 3, none⟩ = some (.bool ak) := hs.cell rfl
  have f3 := hs.free 3
  have H := Lib.hid (And.intro hs (And.intro hb hL))
  have HN := Lib.hid hn
  have hne0 : ((n : Int) == 0) = false := by rw [beq_eq_false_iff_ne]; omega
  clear hs hb hL hn
  go_enter Tryz.func83, Tryz.ntmps83
  go_wp2_with (go_at_call 98; refine (size_any s b n c pp tvp ak _ H.out.1).mono ?_; rintro e w' ⟨rfl, rfl⟩)
  go_loop [2, 16] (fun s2 s16 => ∃ i : Nat, i ≤ n ∧ s16 = .int .i64 i ∧ ((i = 0 ∧ s2 = .string ⟨#[]⟩) ∨ (0 < i ∧ s2 = plainS))) (fun s2 s16 => n - (intOf s16).toNat)
  case atStart => exact ⟨0, by omega, rfl, .inl ⟨rfl, rfl⟩⟩
  case round =>
    obtain ⟨i, hi, rfl, h2⟩ := hrel
    by_cases hlt : i < n
    · obtain ⟨V, hVm, hVi⟩ := get_lt (L := L) (i := i) (by rw [← HN.out]; exact hlt)
      have ci : w.cell? ⟨b, i, none⟩ = some (.pointer (some ⟨V.p, 0, none⟩)) := H.out.2.1.cell (ptrs_some hVi)
      have c1 : w.cell? ⟨V.p, 1, none⟩ = some (.iface 127 (.pointer (some ⟨V.kb, 0, none⟩))) := (H.out.2.2 V hVm).blk.cell rfl
      clear hVi hVm
      rcases h2 with ⟨hi0, rfl⟩ | ⟨hi0, rfl⟩
      · have HI := Lib.hid hi0
        clear hi0
        go_wp2_with (go_at_call 161; refine (keyType_any V.kb _).mono ?_; rintro e w' ⟨rfl, rfl⟩)
        exact ⟨⟨i + 1, by omega, by go_num, .inr ⟨by omega, rfl⟩⟩, by simp [intOf]; omega⟩
      · unfold plainS
        go_wp2_with (go_at_call 161; refine (keyType_any V.kb _).mono ?_; rintro e w' ⟨rfl, rfl⟩)
        exact ⟨⟨i + 1, by omega, by go_num, .inr ⟨by omega, rfl⟩⟩, by simp [intOf]; omega⟩
    · have hI := Lib.hid h2
      clear h2
      go_wp2
      go_end0
      exact ⟨rfl, H.out.1.set 3 _, (Kp.refl [s] w).set (.inl (by simp)) _⟩
end Go.Proofs.YtfkaldaflnmfiaaGreatDoor
