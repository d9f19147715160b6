/- The ten keys have ten addresses: computed by the kernel. -/
import Derived.KernelRfl
import Derived.Test.YtfkaldaflnmfiaaGreatDoorKSt
namespace Go.Proofs.YtfkaldaflnmfiaaGreatDoor
set_option linter.unusedSimpArgs false
set_option linter.unusedVariables false
open Go
/-- The constants of the sum. -/
def ktL : List Int := [1116352408, 1899447441, 3049323471, 3921009573, 961987163, 1508970993, 2453635748, 2870763221, 3624381080, 310598401, 607225278, 1426881987, 1925078388, 2162078206, 2614888103, 3248222580, 3835390401, 4022224774, 264347078, 604807628, 770255983, 1249150122, 1555081692, 1996064986, 2554220882, 2821834349, 2952996808, 3210313671, 3336571891, 3584528711, 113926993, 338241895, 666307205, 773529912, 1294757372, 1396182291, 1695183700, 1986661051, 2177026350, 2456956037, 2730485921, 2820302411, 3259730800, 3345764771, 3516065817, 3600352804, 4094571909, 275423344, 430227734, 506948616, 659060556, 883997877, 958139571, 1322822218, 1537002063, 1747873779, 1955562222, 2024104815, 2227730452, 2361852424, 2428436474, 2756734187, 3204031479, 3329325298]
def ktN (j : Nat) : Int := ktL.getD j 0

/-- The number first, then what is made of it. -/
noncomputable def frc {α : Type} (x : Int) (f : Int → α) : α :=
  Int.rec (motive := fun _ => α) (fun n => Nat.rec (motive := fun _ => α) (f 0) (fun m _ => f (Int.ofNat (m + 1))) n) (fun n => f (.negSucc n)) x
theorem frc_eq {α : Type} (x : Int) (f : Int → α) : frc x f = f x := by
  cases x with
  | ofNat n => cases n <;> rfl
  | negSucc n => rfl
/-- The rounds from the left, each number first. -/
noncomputable def runF (kt p : Nat → Int) (N : Nat) (n : Nat) : List Int → Int → Int → Int → Int → Int → Int → Int → Int → List Int × St :=
  Nat.rec (motive := fun _ => List Int → Int → Int → Int → Int → Int → Int → Int → Int → List Int × St) (fun l a b c d e f g h => (l, ⟨a, b, c, d, e, f, g, h⟩))
    (fun n ih l a b c d e f g h => frc (shaWord p l (N - (n + 1))) fun x => frc ((shaT1 e f g h (kt (N - (n + 1))) x + shaT2 a b c) % 4294967296) fun a' => frc ((d + shaT1 e f g h (kt (N - (n + 1))) x) % 4294967296) fun e' =>
      ih (l.set (N - (n + 1)) x) a' a b c e' e f g) n
theorem runF_succ (kt p : Nat → Int) (N n : Nat) (l : List Int) (a b c d e f g h : Int) : runF kt p N (n + 1) l a b c d e f g h =
    (frc (shaWord p l (N - (n + 1))) fun x => frc ((shaT1 e f g h (kt (N - (n + 1))) x + shaT2 a b c) % 4294967296) fun a' => frc ((d + shaT1 e f g h (kt (N - (n + 1))) x) % 4294967296) fun e' =>
      runF kt p N n (l.set (N - (n + 1)) x) a' a b c e' e f g) := rfl
theorem runF_eq (kt p : Nat → Int) (l : List Int) (s : St) (N : Nat) (n : Nat) (h : n ≤ N) :
    runF kt p N n (shaRun kt p l s (N - n)).1 (shaRun kt p l s (N - n)).2.a (shaRun kt p l s (N - n)).2.b (shaRun kt p l s (N - n)).2.c (shaRun kt p l s (N - n)).2.d (shaRun kt p l s (N - n)).2.e (shaRun kt p l s (N - n)).2.f (shaRun kt p l s (N - n)).2.g (shaRun kt p l s (N - n)).2.h = shaRun kt p l s N := by
  induction n with
  | zero => rfl
  | succ n ih =>
    rw [runF_succ, frc_eq, frc_eq, frc_eq]
    have e : N - n = (N - (n + 1)) + 1 := by omega
    have := ih (by omega)
    rw [e] at this
    exact this
/-- The first word of the sum of a key. -/
noncomputable def w0F (i : Nat) : Int := (1779033703 + (runF ktN (fun j => (lastOf (keyN (i : Int))).getD j 0) 64 64 zeroWords 1779033703 3144134277 1013904242 2773480762 1359893119 2600822924 528734635 1541459225).2.a) % 4294967296
theorem w0F_eq (i : Nat) : (endOf ktN (keyN (i : Int))).a = w0F i := by
  have h := runF_eq ktN (fun j => (lastOf (keyN (i : Int))).getD j 0) zeroWords st0 64 64 (Nat.le_refl _)
  unfold w0F
  have e : (st0.plus (shaRun ktN (fun j => (lastOf (keyN (i : Int))).getD j 0) zeroWords st0 64).2).a = (endOf ktN (keyN (i : Int))).a := by
    unfold endOf
    simp [shaBlk, midOf, keyN]
  rw [← e, ← h]
  rfl
def w0L : List Int := [1801923482, 3895547271, 276644018, 2570435119, 960847997, 2822400969, 1159223458, 3257325381, 71222146, 2153295481]
set_option maxRecDepth 1000000 in
theorem w0F_all : (List.range 10).map w0F = w0L := by kernel_rfl
theorem w0_at {i : Nat} (h : i < 10) : w0F i = w0L.getD i 0 := by
  rw [← w0F_all]
  simp [h]
theorem addr_head (kt : Nat → Int) (k : List Int) : (addr kt k).getD 0 0 = (endOf kt k).a / 16777216 ∧ (addr kt k).getD 1 0 = (endOf kt k).a / 65536 % 256 := ⟨rfl, rfl⟩
theorem heads : ∀ i j, i < 10 → j < 10 → w0L.getD i 0 / 16777216 = w0L.getD j 0 / 16777216 → i = j := by
  have : ∀ i : Fin 10, ∀ j : Fin 10, w0L.getD i.1 0 / 16777216 = w0L.getD j.1 0 / 16777216 → i = j := by decide +kernel
  intro i j hi hj h
  have := this ⟨i, hi⟩ ⟨j, hj⟩ h
  exact congrArg Fin.val this
theorem ten : Ten ktN := by
  intro i j hi hi' hj hj' h
  obtain ⟨n, rfl⟩ := Int.eq_ofNat_of_zero_le hi
  obtain ⟨m, rfl⟩ := Int.eq_ofNat_of_zero_le hj
  have e := congrArg (fun l => l.getD 0 0) h
  simp only [(addr_head _ _).1, w0F_eq, w0_at (show n < 10 by omega), w0_at (show m < 10 by omega)] at e
  rw [heads n m (by omega) (by omega) e]
#print axioms ten
end Go.Proofs.YtfkaldaflnmfiaaGreatDoor
