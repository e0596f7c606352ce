import PyProof.Rows.All
import Wide.All
import OpenK.AllK
import Wide.FinOn
import Flt.RightMore
import PySem.Challenge.RW_sc0085_01
set_option Elab.async false
set_option linter.all false
open List renaming not_mem_nil → nmN
open List renaming mem_cons_self → mcS
open List renaming getElem?_eq_some_iff → gSI
open List renaming getElem?_eq_getElem → gEG
open List renaming getElem?_set_ne → gSN
open PySem.Heap renaming get?_push_size → hPS
open PySem.Heap renaming lt_size → hLS
open PySem.Heap renaming get?_push_of_some → hPO
open Nat renaming le_of_ble_eq_true → nBL
open Int renaming le_trans → iLT
open List renaming getElem?_append_left → gAL
open Nat renaming lt_irrefl → nIR
open List renaming replicate_succ → lRS
open PySem.Heap renaming size_push → hSP
open Nat renaming ne_of_lt → nNL
open List renaming mem_of_getElem? → mOG
open List renaming getElem?_map → gMP
open Nat renaming le_succ → nLS
open PySem.Str renaming ofString → oQ
open PySem renaming wpAny_bind → wpB
open PySem renaming wpAny_pure → wpP
open List renaming mem_singleton → mS
open List renaming mem_cons → mC
open List renaming mem_cons_of_mem → mT
open List renaming all_eq_true → aT
open Option renaming some.inj → sI
open List renaming range → lR
open List renaming replicate → lQ
open List renaming map_map → mM
open List renaming mem_map → mP
open PyProof.Rows renaming K → Kq
open List renaming mem_range → mR
open List renaming mem_append → mA
open List renaming length_map → lM
open List renaming sum_cons → suC
open List renaming map_cons → mcC
set_option maxHeartbeats 4000000
namespace Mine
section
variable {a b c d m n : Nat} {i j k z : Int} {P Q R : Prop}
theorem qT (h : a <= b) (g : b <= c) : a <= c := Nat.le_trans h g
theorem qA (h : a < b) (g : b <= c) : a < c := Nat.lt_of_lt_of_le h g
theorem qD (h : a <= b) (g : b < c) : a < c := Nat.lt_of_le_of_lt h g
theorem qM (h : a < b) (g : b < c) : a < c := Nat.lt_trans h g
theorem qW (h : a < b) : a <= b := Nat.le_of_lt h
theorem qE (h : a = b) : a <= b := Nat.le_of_eq h
theorem qS (h : a <= b) : a <= b + 1 := Nat.le_succ_of_le h
theorem qB (h : a <= b) : a < b + 1 := Nat.lt_succ_of_le h
theorem qO (h : a < b + 1) : a <= b := Nat.le_of_lt_succ h
theorem qG (h : ¬ a < b) : b <= a := Nat.ge_of_not_lt h
theorem qK (h : a <= b) : ¬ b < a := Nat.not_lt_of_le h
theorem qH (h : a < b) : b ≠ a := Nat.ne_of_gt h
theorem qV (h : a <= b) (g : b <= a) : a = b := Nat.le_antisymm h g
theorem qP (h : a <= b) : a + (b - a) = b := Nat.add_sub_of_le h
theorem qL : a <= b + a := Nat.le_add_left _ _
theorem qZ : 0 <= a := Nat.zero_le _
theorem qR : a <= a := Nat.le_refl _
theorem qU : a <= a + 1 := nLS _
theorem qQ : 0 < a + 1 := Nat.succ_pos _
theorem qC : a + b + c = a + c + b := Nat.add_right_comm _ _ _
theorem qN : 0 <= (a : Int) := Int.natCast_nonneg _
theorem qI (h : i < j) : i <= j := Int.le_of_lt h
theorem qF (h : i < j) : j ≠ i := Int.ne_of_gt h
theorem qX (h : i <= j) : ¬ j < i := Int.not_lt_of_ge h
theorem pA (h : a + (b + 1) = c) : a < c := h ▸ Nat.lt_add_of_pos_right (Nat.succ_pos b)
theorem pB (h : a + (b + 1) = c) : a + 1 + b = c := h ▸ Nat.succ_add a b
theorem pC (h : a + 0 = b) : ¬ a < b := h ▸ nIR a
theorem pD (h : a + c < b) : a < b := Nat.lt_of_le_of_lt (Nat.le_add_right _ _) h
theorem pE (h : c + a < b) : a < b := Nat.lt_of_le_of_lt (Nat.le_add_left _ _) h
theorem pF (h : a + c <= b) : a <= b := Nat.le_trans (Nat.le_add_right _ _) h
theorem pG (h : c + a <= b) : a <= b := Nat.le_trans (Nat.le_add_left _ _) h
theorem wA (h : a <= m) (g : Nat.ble m n = true := by rfl) : a <= n := Nat.le_trans h (nBL g)
theorem wB (h : a < m) (g : Nat.ble m (n + 1) = true := by rfl) : a <= n := qO (qA h (nBL g))
theorem wC (h : a = m) (g : Nat.ble m n = true := by rfl) : a <= n := wA (qE h) g
theorem wE (h : a <= m) (g : Nat.ble m n = true := by rfl) : ¬ n < a := qK (wA h g)
theorem wH (h : a <= m) (g : Nat.ble (m + 1) n = true := by rfl) : a < n := qA (qB h) (nBL g)
theorem wG (h : m <= a) (g : Nat.ble (n + 1) m = true := by rfl) : a ≠ n := qH (qA (nBL g) h)
theorem wK (h : ¬ m < a) (g : Nat.ble m n = true := by rfl) : a <= n := wA (qG h) g
theorem wF (h : a = m) (g : Nat.ble n m = true := by rfl) : ¬ a < n := h ▸ qK (nBL g)
theorem eA (e : b = c) (h : a < c) : a < b := e ▸ h
theorem eB (e : b = c) (h : a < b) : a < c := e ▸ h
theorem eC (e : a = b) (h : b <= c) : a <= c := e ▸ h
theorem eD (e : b = c) (h : ¬ a < c) : b <= a := e ▸ qG h
theorem eE (e : a = b) (h : b <= m) (g : Nat.ble m n = true := by rfl) : a <= n := e ▸ wA h g
theorem eF (e : a = b) (h : ¬ m < b) (g : Nat.ble m n = true := by rfl) : a <= n := e ▸ wK h g
theorem oA (h : ¬ (P \/ Q)) : ¬ P := fun p => h (.inl p)
theorem oB (h : ¬ (P \/ Q)) : ¬ Q := fun p => h (.inr p)
theorem nA (h : ¬ P) : ¬ (P /\ Q) := fun q => h q.1
theorem nB (h : ¬ Q) : ¬ (P /\ Q) := fun q => h q.2
theorem cA (h : (a : Int) <= b) : a <= b := Int.ofNat_le.1 h
theorem cC (h : a < b) (g : (b : Int) = z := by rfl) : (a : Int) < z := g ▸ Int.ofNat_lt.2 h
theorem cD (h : a <= b) (g : (b : Int) = z := by rfl) : (a : Int) <= z := g ▸ Int.ofNat_le.2 h
theorem cF (h : a <= b) (g : decide ((b : Int) <= z) = true := by rfl) : (a : Int) <= z := iLT (Int.ofNat_le.2 h) (of_decide_eq_true g)
theorem cG (h : a < b) (g : decide ((b : Int) <= z + 1) = true := by rfl) : (a : Int) <= z := Int.le_of_lt_add_one (Int.lt_of_lt_of_le (Int.ofNat_lt.2 h) (of_decide_eq_true g))
theorem aA (h : 0 <= i) (k : i <= z) (g : z = (m : Int) := by rfl) : i.natAbs <= m := by subst g; lia
theorem nbm {A : Int} (h0 : 0 <= A) (h : A <= z) (g : decide (z * 2 ^ a <= 2 ^ 53) = true := by rfl) : (A * 2 ^ a).natAbs <= 2 ^ 53 := by
 obtain ⟨m, rfl⟩ := Int.eq_ofNat_of_zero_le h0
 have e : ((m : Int) * 2 ^ a).natAbs = m * 2 ^ a := by rw [Int.natAbs_mul, Int.natAbs_pow]; rfl
 rw [e]
 refine Int.ofNat_le.1 ?_
 rw [Int.natCast_mul, Int.natCast_pow]
 exact iLT (Int.mul_le_mul_of_nonneg_right h (Int.pow_nonneg (by decide))) (of_decide_eq_true g)
theorem n1024 (h : a <= 1024) : (1024 : Int) - (a : Int) = ((1024 - a : Nat) : Int) := (Int.natCast_sub h).symm
theorem p8 (h : a < 5) : ((8 - a : Nat) : Int) = 8 - (a : Int) := Int.natCast_sub (wB h)
theorem s8 (h : a < 5) : (8 - (a : Int)).natAbs < 4294967296 := by rw [← p8 h]; exact wH (Nat.sub_le 8 a)
theorem l8 (h : 1 <= a /\ a < 5) (k : 1 <= i /\ i <= 128) : 0 < i * (8 - (a : Int)) /\ i * (8 - (a : Int)) <= 128 * 7 :=
 have q : 0 < 8 - (a : Int) /\ 8 - (a : Int) <= 7 := by lia
 ⟨Int.mul_pos k.1 q.1, Int.mul_le_mul k.2 q.2 (qI q.1) (by decide)⟩
theorem hfA (h : a < b) : a <= (a + b) / 2 := by lia
theorem hfB (h : a < b) : (a + b) / 2 < b := by lia
theorem hfC (h : b <= a + (d + 1)) (g : a <= c) : b <= c + 1 + d := Nat.le_trans h (by rw [Nat.succ_add]; exact Nat.succ_le_succ (Nat.add_le_add_right g d))
theorem mxC (h : i < j) (g : j < k) : max i (max j k) = k := by rw [Int.max_eq_right (qI g), Int.max_eq_right (qI (Int.lt_trans h g))]
theorem mxB (h : i < j) (g : ¬ j < k) : max i (max j k) = j := by rw [Int.max_eq_left (Int.not_lt.1 g), Int.max_eq_right (qI h)]
theorem mxD (h : ¬ i < j) (g : i < k) : max i (max j k) = k := by rw [Int.max_eq_right (iLT (Int.not_lt.1 h) (qI g)), Int.max_eq_right (qI g)]
theorem mxA (h : ¬ i < j) (g : ¬ i < k) : max i (max j k) = i := Int.max_eq_left (Int.max_le.2 ⟨Int.not_lt.1 h, Int.not_lt.1 g⟩)
theorem mnC (h : j < i) (g : k < j) : min i (min j k) = k := by rw [Int.min_eq_right (qI g), Int.min_eq_right (qI (Int.lt_trans g h))]
theorem mnB (h : j < i) (g : ¬ k < j) : min i (min j k) = j := by rw [Int.min_eq_left (Int.not_lt.1 g), Int.min_eq_right (qI h)]
theorem mnD (h : ¬ j < i) (g : k < i) : min i (min j k) = k := by rw [Int.min_eq_right (iLT (qI g) (Int.not_lt.1 h)), Int.min_eq_right (qI g)]
theorem mnA (h : ¬ j < i) (g : ¬ k < i) : min i (min j k) = i := Int.min_eq_left (Int.le_min.2 ⟨Int.not_lt.1 h, Int.not_lt.1 g⟩)
theorem plc (h : i.natAbs <= a) : 0 <= -i + (a : Int) := by rw [Int.add_comm]; exact Int.sub_nonneg_of_le (iLT Int.le_natAbs (Int.ofNat_le.2 h))
theorem fz (h : c <= a) : a - c + b + c = a + b := by rw [Nat.add_right_comm, Nat.sub_add_cancel h]
theorem fz2 (h : c <= a) : a - c + b + d + c = a + b + d := by rw [Nat.add_right_comm, fz h]
theorem fk (h : c <= m) (g : Nat.ble m b = true := by rfl) : c <= a + b := qT h (qT (nBL g) qL)
theorem tm (h : 0 < m) : (i % (m : Int)).toNat < m := (Int.toNat_lt (Int.emod_nonneg _ (Int.ne_of_gt (Int.ofNat_lt.2 h)))).2 (Int.emod_lt_of_pos _ (Int.ofNat_lt.2 h))
theorem s32d (h : b <= a) (k : a <= m) (g : Nat.ble (m + 1) 4294967296 = true := by rfl) : ((a : Int) - b).natAbs < 4294967296 := by
 rw [← Int.natCast_sub h]; exact wH (qT (Nat.sub_le _ _) k) g
theorem midne {s o e L G J : Nat} (h : s ≠ 0 /\ o ≠ 0 /\ s ≠ o /\ e ≠ s /\ e ≠ o) (hs : s < L) (ho : o < L) (he : e < L) (hG : L < G) (hJ : G < J) : s ≠ 0 /\ o ≠ 0 /\ J ≠ 0 /\ s ≠ o /\ e ≠ s /\ e ≠ o /\ L ≠ s /\ L ≠ o /\ G ≠ s /\ G ≠ o /\ J ≠ s /\ J ≠ o /\ J ≠ e /\ J ≠ L /\ J ≠ G :=
 have k := qM hG hJ
 ⟨h.1, h.2.1, qH (qD qZ hJ), h.2.2.1, h.2.2.2.1, h.2.2.2.2, qH hs, qH ho, qH (qM hs hG), qH (qM ho hG), qH (qM hs k), qH (qM ho k), qH (qM he k), qH k, qH hJ⟩
end
theorem l3 {j : Nat} (h : j < 3) : j = 0 \/ j = 1 \/ j = 2 := by lia
theorem l7 {j : Nat} (h : j < 7) : j = 0 \/ j = 1 \/ j = 2 \/ j = 3 \/ j = 4 \/ j = 5 \/ j = 6 := by lia
theorem l5 {j : Nat} (h : j < 5) : j = 0 \/ j = 1 \/ j = 2 \/ j = 3 \/ j = 4 := by lia
theorem l6 {j : Nat} (h : j < 6) : j = 0 \/ j = 1 \/ j = 2 \/ j = 3 \/ j = 4 \/ j = 5 := by lia
section
variable {α : Type} {c : α -> α -> Prop} [DecidableRel c]
noncomputable def ins (c : α -> α -> Prop) [DecidableRel c] (x : α) : List α -> List α
 | [] => [x]
 | y :: r => if c x y then x :: y :: r else y :: ins c x r
theorem ins_e {x : α} {C : List α -> List α -> Prop} (h0 : C [] [x]) (h1 : ∀ y r, c x y -> C (y :: r) (x :: y :: r)) (h2 : ∀ y r, ¬ c x y -> C r (ins c x r) -> C (y :: r) (y :: ins c x r)) (l : List α) : C l (ins c x l) :=
 List.rec h0 (fun y r ih => iteInduction (motive := C (y :: r)) (h1 y r) fun h => h2 y r h ih) l
theorem ins_t {x y : α} {r : List α} (h : c x y) : ins c x (y :: r) = x :: y :: r := if_pos h
theorem ins_f {x y : α} {r : List α} (h : ¬ c x y) : ins c x (y :: r) = y :: ins c x r := if_neg h
theorem yN {x : α} (l : List α) : (ins c x l).Perm (x :: l) := ins_e (c := c) (x := x) (C := fun l m => m.Perm (x :: l)) (.refl _) (fun _ _ _ => .refl _) (fun y r _ ih => (ih.cons y).trans (.swap x y r)) l
theorem ins_map {β : Type} {d : β -> β -> Prop} [DecidableRel d] {f : α -> β} (x : α) (l : List α) (h : ∀ a ∈ l, c x a ↔ d (f x) (f a)) : (ins c x l).map f = ins d (f x) (l.map f) :=
 ins_e (c := c) (x := x) (C := fun l m => (∀ a ∈ l, c x a ↔ d (f x) (f a)) -> m.map f = ins d (f x) (l.map f)) (fun _ => rfl) (fun y r q h => (ins_t ((h y mcS).mp q)).symm)
  (fun y r q ih h => (congrArg (f y :: ·) (ih fun a ha => h a (mT _ ha))).trans (ins_f fun w => q ((h y mcS).mpr w)).symm) l h
theorem ins_at (x : α) (l : List α) : ∀ i : Nat, i <= l.length -> (∀ (j : Nat) (y : α), j < i -> l[j]? = some y -> ¬ c x y) -> (∀ (j : Nat) (y : α), i <= j -> l[j]? = some y -> c x y) -> l.take i ++ x :: l.drop i = ins c x l := by
 induction l with
 | nil => exact fun i _ _ _ => congrArg (· ++ x :: List.drop i []) List.take_nil |>.trans (congrArg (x :: ·) List.drop_nil)
 | cons y r ih => intro i; cases i with
  | zero => exact fun _ _ h2 => (ins_t (h2 0 y qR rfl)).symm
  | succ i => exact fun h h1 h2 => (congrArg (y :: ·) (ih i (Nat.le_of_succ_le_succ h) (fun j z hj => h1 (j + 1) z (qB hj)) (fun j z hj => h2 (j + 1) z (qB hj)))).trans (ins_f (h1 0 y (Nat.succ_pos _) rfl)).symm
theorem ins_ins {d : α -> α -> Prop} [DecidableRel d] {x y : α} (h1 : c x y ↔ ¬ d y x) (h2 : ∀ z, c x z -> ¬ d y z -> ¬ d y x) (h3 : ∀ z, ¬ c x z -> d y z -> ¬ c x y) (l : List α) : ins c x (ins d y l) = ins d y (ins c x l) := by
 have hd : ¬ c x y -> d y x := fun h => Decidable.byContradiction fun q => h (h1.mpr q)
 induction l with
 | nil =>
  by_cases h : c x y
  ·exact (ins_t (r := []) h).trans (ins_f (r := []) (h1.mp h)).symm
  ·exact (ins_f (r := []) h).trans (ins_t (r := []) (hd h)).symm
 | cons z r ih =>
  by_cases hx : c x z
  ·rw [ins_t hx]
   by_cases hy : d y z
   ·rw [ins_t hy]
    by_cases h : c x y
    ·rw [ins_t h, ins_f (h1.mp h), ins_t hy]
    ·rw [ins_f h, ins_t (hd h), ins_t hx]
   ·rw [ins_f hy, ins_f (h2 z hx hy), ins_f hy, ins_t hx]
  ·rw [ins_f hx]
   by_cases hy : d y z
   ·rw [ins_t hy, ins_t hy, ins_f (h3 z hx hy), ins_f hx]
   ·rw [ins_f hy, ins_f hy, ins_f hx, ih]
theorem ins_fold_perm (xs : List α) : ∀ acc, (xs.foldl (fun acc x => ins c x acc) acc).Perm (xs ++ acc) := by
 induction xs with
 | nil => exact fun _ => .refl _
 | cons x r ih => exact fun acc => (ih _).trans (((yN acc).append_left r).trans List.perm_middle)
theorem ins_foldl {β : Type} {d : β -> β -> Prop} [DecidableRel d] {f : α -> β} {P : α -> Prop} (h : ∀ a b, P a -> P b -> (c a b ↔ d (f a) (f b))) (xs : List α) : ∀ acc : List α, (∀ a ∈ xs, P a) -> (∀ a ∈ acc, P a) -> (xs.map f).foldl (fun acc x => ins d x acc) (acc.map f) = (xs.foldl (fun acc x => ins c x acc) acc).map f := by
 induction xs with
 | nil => exact fun _ _ _ => rfl
 | cons x r ih =>
  intro acc h1 h2
  have hx := h1 x mcS
  refine Eq.trans (congrArg (fun a => (r.map f).foldl _ a) (ins_map (c := c) (d := d) (f := f) x acc fun a ha => h x a hx (h2 a ha)).symm) (ih _ (fun a ha => h1 a (mT _ ha)) fun a ha => (mC.mp ((yN acc).mem_iff.mp ha)).elim (fun e => e ▸ hx) (h2 a))
end
theorem mN {α : Type} {x : α} {C : Prop} (h : x ∈ ([] : List α)) : C := absurd h nmN
section
variable {α : Type}
@[elab_as_elim] theorem len_e {n : Nat} {l : List α} {C : List α -> Prop} (h : l.length = n + 1) (k : ∀ a r, r.length = n -> C (a :: r)) : C l := by
 cases l with
 | nil => exact absurd h (Nat.succ_ne_zero n).symm
 | cons a r => exact k a r (Nat.succ.inj h)
@[elab_as_elim] theorem len_z {l : List α} {C : List α -> Prop} (h : l.length = 0) (k : C []) : C l := List.eq_nil_of_length_eq_zero h ▸ k
theorem two_e {l : List α} (h : 2 <= l.length) : ∃ a b r, l = a :: b :: r := by
 cases l with
 | nil => exact absurd h (Nat.not_succ_le_zero 1)
 | cons a l => cases l with
  | nil => exact absurd (Nat.le_of_succ_le_succ h) (Nat.not_succ_le_zero 0)
  | cons b r => exact ⟨a, b, r, rfl⟩
theorem lenTwo {l : List α} (h : l.length = 2) : ∃ a b, l = [a, b] := len_e h fun a _ h => len_e h fun b _ h => len_z h ⟨a, b, rfl⟩
theorem lenThree {l : List α} (h : l.length = 3) : ∃ a b c, l = [a, b, c] := len_e h fun a _ h => ⟨a, (lenTwo h).imp fun _ => Exists.imp fun _ e => congrArg (a :: ·) e⟩
theorem six_of {l : List α} (h : l.length = 6) : ∃ a b c d e f, l = [a, b, c, d, e, f] := len_e h fun a _ h => len_e h fun b _ h => len_e h fun c _ h => len_e h fun d _ h => len_e h fun e _ h => len_e h fun f _ h => len_z h ⟨a, b, c, d, e, f, rfl⟩
end
end Mine
namespace Mine
open PySem
set_option genInjectivity false
set_option genSizeOf false
inductive F | insortR | bisectR | insortL | bisectL | hls | hsv | rgb | quote | subst | lev | value | light | read | due | law
 deriving DecidableEq
inductive G | fn (f : F) | range | sum | list | len | max | min | sorted | int | re1 | re2 | crlf | maxsz | move | case
 deriving DecidableEq
inductive V | none | bool (b : Bool) | int (i : Int) | flt (x : UInt64) | str (s : List Nat) | tup (vs : List V) | lst (i : Nat) | rng (a b st : Int) | glob (g : G)
inductive Op | Add | Sub | Mult | Div | FloorDiv | Mod | Pow deriving DecidableEq
inductive Cmp | Lt | LtE | Gt | Eq | NotEq | Is deriving DecidableEq
inductive Meth | append | insert | pop | join | lower | sub deriving DecidableEq
inductive ME
 | none | bool (b : Bool) | int (i : Int) | flt (x : UInt64) | str (s : List Nat)
 | var (i : Nat) | glob (g : G)
 | bin (op : Op) (a b : ME) | neg (a : ME) | or2 (a b : ME) | cmp (c : Cmp) (a b : ME) | ite (t a b : ME)
 | meth (o : ME) (m : Meth) (args : List ME)
 | sortk (src : ME) (frees : List Nat) (body : ME)
 | callk (f : ME) (args : List ME) (key : ME)
 | call (f : ME) (args : List ME)
 | slice (o : ME) (lo hi st : Option ME)
 | sub (o i : ME)
 | list (es : List ME) | tup (es : List ME)
 | comp (elt : ME) (frees : List Nat) (it : ME) (cond : Option ME)
 | comp2 (elt it1 it2 : ME)
 | not (a : ME) | and (as : List ME) | or (as : List ME)
inductive MS
 | set (x : Nat) (e : ME) | set2 (x y : Nat) (e : ME) | swap (x y : Nat) (a b : ME) | unpack (xs : List Nat) (e : ME)
 | put (o i e : ME) | aug (x : Nat) (op : Op) (e : ME) | expr (e : ME)
 | ite (t : ME) (a b : List MS) | whil (t : ME) (b : List MS) | for_ (x : Nat) (it : ME) (b : List MS)
 | ret (e : ME) | raise
noncomputable abbrev Sto := List (List V)
noncomputable abbrev Slots := List (Option V)
inductive Fl | next | ret (v : V)
noncomputable def big : Nat := 16777216
noncomputable def i63 : Int := 9223372036854775808
structure Rec where
 eval : ME -> Slots -> Sto -> Option (V × Sto)
 test : ME -> Slots -> Sto -> Option (Bool × Sto)
 exec : List MS -> Slots -> Sto -> Option (Fl × Slots × Sto)
 whil : ME -> List MS -> Slots -> Sto -> Option (Fl × Slots × Sto)
 forr : Nat -> V -> Nat -> List MS -> Slots -> Sto -> Option (Fl × Slots × Sto)
 comp : ME -> Slots -> V -> Nat -> Option ME -> List V -> Sto -> Option (List V × Sto)
 comp2 : ME -> ME -> V -> Nat -> List V -> Sto -> Option (List V × Sto)
 call : F -> List V -> Sto -> Option (V × Sto)
noncomputable def zeroF (x : UInt64) : Bool := Float64.isZero x
noncomputable def infF (x : UInt64) : Bool := Float64.isInf x
noncomputable def vInt {α} (f : Int -> Option α) : V -> Option α
 | .int i => f i | _ => none
noncomputable def vFlt {α} (f : UInt64 -> Option α) : V -> Option α
 | .flt i => f i | _ => none
noncomputable def vStr {α} (f : List Nat -> Option α) : V -> Option α
 | .str i => f i | _ => none
noncomputable def vLst {α} (f : Nat -> Option α) : V -> Option α
 | .lst i => f i | _ => none
noncomputable def vTup {α} (f : List V -> Option α) : V -> Option α
 | .tup i => f i | _ => none
noncomputable def vGlob {α} (f : G -> Option α) : V -> Option α
 | .glob i => f i | _ => none
noncomputable def vNone {α} (f : Option α) : V -> Option α
 | .none => f | _ => none
noncomputable def arg0 {α} (f : Option α) : List V -> Option α
 | [] => f | _ :: _ => none
noncomputable def arg1 {α} (f : V -> Option α) : List V -> Option α
 | a :: r => arg0 (f a) r | [] => none
noncomputable def arg2 {α} (f : V -> V -> Option α) : List V -> Option α
 | a :: r => arg1 (f a) r | [] => none
noncomputable def arg3 {α} (f : V -> V -> V -> Option α) : List V -> Option α
 | a :: r => arg2 (f a) r | [] => none
noncomputable def argN {α} (f : V -> Option α) (g : V -> V -> Option α) (h : V -> V -> V -> Option α) : List V -> Option α
 | [] => none
 | a :: r => match r with
  | [] => f a
  | b :: r => match r with
   | [] => g a b
   | c :: r => arg0 (h a b c) r
noncomputable def arg4 {α} (f : V -> V -> V -> V -> Option α) : List V -> Option α
 | a :: r => arg3 (f a) r | [] => none
theorem byC {G : Prop} (h : (G -> False) -> False) : G := Classical.byContradiction h
theorem nE {α} {r : α} {C : Prop} (h : none = some r) : C := nomatch h
theorem fE {C : Prop} (h : false = true) : C := nomatch h
@[elab_as_elim] theorem sE {α} {x v : α} {C : α -> Prop} (h : some x = some v) (k : C x) : C v := sI h ▸ k
@[elab_as_elim] theorem sP {α β} {x v : α} {y s : β} {C : α -> β -> Prop} (h : some (x, y) = some (v, s)) (k : C x y) : C v s := by cases h; exact k
theorem ifE {α} {c C : Prop} [Decidable c] {a : Option α} {v : α} (h : (if c then a else none) = some v) (k : c -> a = some v -> C) : C := by
 by_cases q : c
 ·exact k q (by rwa [if_pos q] at h)
 ·rw [if_neg q] at h; exact nE h
theorem ifN {α} {c C : Prop} [Decidable c] {a : Option α} {v : α} (h : (if c then none else a) = some v) (k : ¬ c -> a = some v -> C) : C := by
 by_cases q : c
 ·rw [if_pos q] at h; exact nE h
 ·exact k q (by rwa [if_neg q] at h)
theorem ob {α β} {o : Option α} {f : α -> Option β} {a : α} {r : Option β} (h : o = some a) (k : f a = r) : Option.bind o f = r := by subst h; exact k
theorem obE {α β} {o : Option α} {f : α -> Option β} {r : β} {C : Prop} (h : Option.bind o f = some r) (k : ∀ a, o = some a -> f a = some r -> C) : C :=
 match o, h with
 | some a, h => k a rfl h
theorem obP {α γ β} {o : Option (α × γ)} {f : α × γ -> Option β} {r : β} {C : Prop} (h : Option.bind o f = some r) (k : ∀ a c, o = some (a, c) -> f (a, c) = some r -> C) : C := obE h fun a => k a.1 a.2
noncomputable def numII (o : Op) (a b : Int) : Option V :=
 match o with
 | .Add => some (.int (a + b))
 | .Sub => some (.int (a - b))
 | .Mult => if a.natAbs < 4294967296 /\ b.natAbs < 4294967296 then some (.int (a * b)) else none
 | .FloorDiv => if b = 0 \/ 1073741824 <= b.natAbs then none else some (.int (a.fdiv b))
 | .Mod => if b = 0 \/ 1073741824 <= b.natAbs then none else some (.int (a.fmod b))
 | .Pow => if 0 <= a /\ a <= 16 /\ 0 <= b /\ b <= 64 then some (.int (a ^ b.toNat)) else none
 | .Div =>
  if b = 0 then none else
  if infF (Float64.ofFrac (decide (a < 0) != decide (b < 0)) a.natAbs b.natAbs) then none else some (.flt (Float64.ofFrac (decide (a < 0) != decide (b < 0)) a.natAbs b.natAbs))
noncomputable def numFF (o : Op) (a b : UInt64) : Option V :=
 match o with
 | .Add => some (.flt (Float64.add a b))
 | .Sub => some (.flt (Float64.sub a b))
 | .Mult => some (.flt (Float64.mul a b))
 | .Div => if zeroF b then none else some (.flt (Float64.div a b))
 | .Mod => if zeroF b then none else some (.flt (Float64.divmod a b).2)
 | .FloorDiv => none
 | .Pow => none
noncomputable def numBin (o : Op) (a b : V) : Option V :=
 match a with
 | .int a => (match b with
  | .int b => numII o a b
  | .flt b => if o = .Add /\ infF (Float64.ofInt a) = false then some (.flt (Float64.add (Float64.ofInt a) b)) else none
  | _ => none)
 | .flt a => (match b with
  | .int b => if o = .Sub /\ infF (Float64.ofInt b) = false then some (.flt (Float64.sub a (Float64.ofInt b))) else none
  | .flt b => numFF o a b
  | _ => none)
 | .str a => (match b with
  | .int n => if o = .Mult /\ 0 <= n /\ n <= 1000 /\ a.length <= 1000 then some (.str (lQ n.toNat a).flatten) else none
  | .str b => if o = .Add /\ a.length + b.length <= 100000 then some (.str (a ++ b)) else none
  | _ => none)
 | _ => none
noncomputable def newL (xs : List V) (σ : Sto) : V × Sto := (.lst σ.length, σ ++ [xs])
noncomputable def lstBin (op : Op) (i : Nat) (xs : List V) (σ : Sto) : V -> Option (V × Sto)
 | .int n => if op = .Mult /\ i ≠ 0 /\ 0 <= n /\ n <= 1000 /\ xs.length <= 1000 then some (newL (lQ n.toNat xs).flatten σ) else none
 | .lst j => Option.bind σ[j]? fun ys => if op = .Add /\ i ≠ 0 /\ j ≠ 0 /\ xs.length + ys.length <= 1000 then some (newL (xs ++ ys) σ) else none
 | _ => none
noncomputable def binF (op : Op) (a b : V) (σ : Sto) : Option (V × Sto) :=
 match a with
 | .lst i => Option.bind σ[i]? fun xs => lstBin op i xs σ b
 | a => Option.bind (numBin op a b) fun v => some (v, σ)
noncomputable def fltEq (a b : UInt64) : Bool := Float64.cmp a b == some .eq
noncomputable def eqA (a b : V) : Option Bool :=
 match a with
 | .int a => vInt (fun b => some (a == b)) b
 | .flt a => vFlt (fun b => if Float64.isNaN a || Float64.isNaN b then none else some (fltEq a b)) b
 | .str a => vStr (fun b => some (a == b)) b
 | _ => none
noncomputable def eqW (f : V -> V -> Option Bool) : List V -> List V -> Option Bool
 | [], bs => arg0 (some true) bs
 | a :: as, bs => match bs with
  | [] => none
  | b :: bs => Option.bind (f a b) fun x => Option.bind (eqW f as bs) fun y => some (x && y)
noncomputable def eqAs : List V -> List V -> Option Bool := eqW eqA
noncomputable def eqI (a b : V) : Option Bool :=
 match a with
 | .tup as => vTup (fun bs => eqAs as bs) b
 | a => eqA a b
noncomputable def eqIs : List V -> List V -> Option Bool := eqW eqI
noncomputable def eqL (xs ys : List V) : Option Bool := if xs.length = ys.length then eqIs xs ys else some false
noncomputable def eqV (σ : Sto) (a b : V) : Option Bool :=
 match a with
 | .int a => vInt (fun b => some (a == b)) b
 | .flt a => vFlt (fun b => some (fltEq a b)) b
 | .str a => vStr (fun b => some (a == b)) b
 | .lst i => vLst (fun j => Option.bind σ[i]? fun xs => Option.bind σ[j]? fun ys => eqL xs ys) b
 | _ => none
noncomputable def ltV (a b : V) : Option Bool :=
 match a with
 | .int a => vInt (fun b => some (decide (a < b))) b
 | .flt a => vFlt (fun b => some (Float64.cmp a b == some .lt)) b
 | .str a => vStr (fun b => some (decide (a < b))) b
 | _ => none
noncomputable def leV (a b : V) : Option Bool :=
 match a with
 | .int a => vInt (fun b => some (decide (a <= b))) b
 | .flt a => vFlt (fun b => some (Float64.cmp a b == some .lt || Float64.cmp a b == some .eq)) b
 | _ => none
noncomputable def gFn {α} (f : F -> Option α) : G -> Option α
 | .fn x => f x
 | _ => none
theorem gFn_e {α} {f : F -> Option α} {g : G} {r : α} {C : Prop} (e : gFn f g = some r) (k : ∀ x, g = .fn x -> f x = some r -> C) : C := by
 cases g with
 | fn x => exact k x rfl e
 | _ => exact nE e
noncomputable def isV (a b : V) : Option Bool :=
 match a with
 | .none => vNone (some true) b
 | .int _ => vNone (some false) b
 | .glob g => gFn (fun _ => vNone (some false) b) g
 | _ => none
noncomputable def cmpV (σ : Sto) (c : Cmp) (a b : V) : Option Bool :=
 match c with
 | .Eq => eqV σ a b
 | .NotEq => Option.bind (eqV σ a b) fun r => some (!r)
 | .Lt => ltV a b
 | .LtE => leV a b
 | .Gt => vInt (fun a => vInt (fun b => some (decide (b < a))) b) a
 | .Is => isV a b
noncomputable def xP : V -> Option Bool
 | .bool b => some b
 | .int i => some (i != 0)
 | .str s => if s.length < 100000 then some (!s.isEmpty) else none
 | _ => none
noncomputable def setSl (sl : Slots) (x : Nat) (v : V) : Slots := sl.set x (some v)
noncomputable def evals (ev : ME -> Slots -> Sto -> Option (V × Sto)) : List ME -> Slots -> Sto -> Option (List V × Sto)
 | [], _, σ => some ([], σ)
 | e :: es, sl, σ => do
  let (v, σ) ← ev e sl σ
  let (vs, σ) ← evals ev es sl σ
  some (v :: vs, σ)
noncomputable def evalO (ev : ME -> Slots -> Sto -> Option (V × Sto)) : Option ME -> Slots -> Sto -> Option (V × Sto)
 | none, _, σ => some (.none, σ)
 | some e, sl, σ => ev e sl σ
noncomputable def place (n : Nat) (i : Int) : Option Nat :=
 if 1000000 < n then none else
 if 0 <= i then (if i.toNat < n then some i.toNat else none)
 else if -(n : Int) <= i then some (i + n).toNat else none
noncomputable def yW : List V -> Int -> Option Int
 | [], a => some a
 | v :: r, a => vInt (fun i => yW r (a + i)) v
noncomputable def isInts : List V -> Option (List Int)
 | [] => some []
 | v :: r => vInt (fun i => Option.bind (isInts r) fun l => some (i :: l)) v
noncomputable def joinStrs : List V -> Option (List Nat)
 | [] => some []
 | v :: r => vStr (fun s => Option.bind (joinStrs r) fun l => some (s ++ l)) v
noncomputable def yO (a b st : Int) : Nat := if a < b then ((b - a - 1) / st + 1).toNat else 0
noncomputable def rngInts (a b st : Int) : List Int := (lR (yO a b st)).map fun (i : Nat) => a + (i : Int) * st
noncomputable def zV (σ : Sto) (v : V) (i : Nat) : Option (Option V) :=
 match v with
 | .lst k => Option.bind σ[k]? fun xs => some xs[i]?
 | .rng a b st => if 0 < st /\ st <= 2 /\ a.natAbs <= 100000 /\ b.natAbs <= 100000 then some (if i < yO a b st then some (.int (a + (i : Int) * st)) else none) else none
 | .tup vs => some vs[i]?
 | .str s => if s.all (· < 128) then some ((s[i]?).map fun c => .str [c]) else none
 | _ => none
noncomputable def partO : V -> Option (Option Int)
 | .none => some none
 | .int i => some (some i)
 | _ => none
noncomputable def pickL (xs : List V) (lo hi st : Option Int) : List V :=
 (sliceRange (sliceBounds lo hi st xs.length).1 (sliceBounds lo hi st xs.length).2.1 (sliceBounds lo hi st xs.length).2.2).filterMap (xs[·]?)
noncomputable def pickS (s : List Nat) (lo hi : Option Int) : List Nat :=
 let ix := Builtin.Str.strSliceIndices lo hi 1 s.length
 if ix.length == s.length then s else ix.filterMap (s[·]?)
noncomputable def max3 (a b c : UInt64) : UInt64 :=
 let m := if Float64.cmp b a == some .gt then b else a
 if Float64.cmp c m == some .gt then c else m
noncomputable def min3 (a b c : UInt64) : UInt64 :=
 let m := if Float64.cmp b a == some .lt then b else a
 if Float64.cmp c m == some .lt then c else m
noncomputable def ltA (a b : V) : Option Bool := vInt (fun a => vInt (fun b => some (decide (a < b))) b) a
noncomputable def ltW (f g : V -> V -> Option Bool) : List V -> List V -> Option Bool
 | [], bs => arg0 (some false) bs
 | a :: as, bs => match bs with
  | [] => none
  | b :: bs => Option.bind (f a b) fun q => match q with
   | true => ltW f g as bs
   | false => g a b
noncomputable def ltAs : List V -> List V -> Option Bool := ltW eqA ltA
noncomputable def ltB (a b : V) : Option Bool :=
 match a with
 | .tup as => vTup (fun bs => ltAs as bs) b
 | a => ltA a b
noncomputable def ltBs : List V -> List V -> Option Bool := ltW eqI ltB
noncomputable def ltT (a b : V) : Option Bool := vTup (fun as => vTup (fun bs => if as.length = bs.length then ltBs as bs else none) b) a
noncomputable def minTup : V -> List V -> Option V
 | m, [] => some m
 | m, x :: r => Option.bind (ltT x m) fun q => match q with
  | true => minTup x r
  | false => minTup m r
noncomputable def floorI (x : UInt64) : Option Int :=
 match Float64.decode x with
 | .fin s m e => some (Float64.truncOf s m e)
 | _ => none
noncomputable def lenB (σ : Sto) : V -> Option (V × Sto)
 | .lst i => Option.bind σ[i]? fun xs => if xs.length <= 100000 then some (.int (xs.length : Int), σ) else none
 | .str s => if s.length <= 100000 then some (.int (s.length : Int), σ) else none
 | _ => none
noncomputable def sumB (σ : Sto) : V -> Option (V × Sto)
 | .lst i => Option.bind σ[i]? fun xs => Option.bind (yW xs 0) fun k => some (.int k, σ)
 | .tup xs => Option.bind (yW xs 0) fun k => some (.int k, σ)
 | _ => none
noncomputable def listB (σ : Sto) : V -> Option (V × Sto)
 | .tup xs => if xs.length <= 1000 then some (newL xs σ) else none
 | .rng a b st => if 0 < st /\ st <= 2 /\ a.natAbs <= 100000 /\ b.natAbs <= 100000 /\ yO a b st <= 1000 then some (newL ((rngInts a b st).map .int) σ) else none
 | _ => none
noncomputable def minB (σ : Sto) : V -> Option (V × Sto) := vLst fun i => Option.bind σ[i]? fun xs => match xs with
 | x :: r => Option.bind (minTup x r) fun m => some (m, σ)
 | [] => none
noncomputable def twoB (f : Int -> Int -> Int) (σ : Sto) : V -> V -> Option (V × Sto) := fun a b => vInt (fun a => vInt (fun b => some (.int (f a b), σ)) b) a
noncomputable def threeB (f : UInt64 -> UInt64 -> UInt64 -> UInt64) (σ : Sto) : V -> V -> V -> Option (V × Sto) := fun a b c => vFlt (fun a => vFlt (fun b => vFlt (fun c => some (.flt (f a b c), σ)) c) b) a
noncomputable def yD (g : G) (vs : List V) (σ : Sto) : Option (V × Sto) :=
 match g with
 | .range => argN (vInt fun a => if a.natAbs <= 100000 then some (.rng 0 a 1, σ) else none) (fun _ _ => none)
   (fun a b c => vInt (fun a => vInt (fun b => vInt (fun st => if st = 2 /\ a.natAbs <= 100000 /\ b.natAbs <= 100000 then some (.rng a b st, σ) else none) c) b) a) vs
 | .sum => arg1 (sumB σ) vs
 | .list => arg1 (listB σ) vs
 | .len => arg1 (lenB σ) vs
 | .max => argN (fun _ => none) (twoB (fun a b => if b > a then b else a) σ) (threeB max3 σ) vs
 | .min => argN (minB σ) (twoB (fun a b => if b < a then b else a) σ) (threeB min3 σ) vs
 | .int => arg1 (vFlt fun x => Option.bind (floorI x) fun k => some (.int k, σ)) vs
 | _ => none
noncomputable def dotF (repl : List Nat) : Bool -> List Nat -> List Nat
 | _, [] => []
 | h, c :: r => if h && c == 46 then repl ++ dotF repl false r else c :: dotF repl (c == 10) r
noncomputable def crG (repl : List Nat) : Bool -> List Nat -> List Nat
 | _, [] => []
 | h, c :: r => if h && c == 10 then crG repl false r else if c == 10 || c == 13 then repl ++ crG repl (c == 13) r else c :: crG repl false r
noncomputable def crF (repl : List Nat) (l : List Nat) : List Nat := crG repl false l
theorem crG_e {repl : List Nat} {h : Bool} {c : Nat} {r : List Nat} (e : (c == 10) = false) : crG repl h (c :: r) = crG repl false (c :: r) := by
 cases h with
 | false => rfl
 | true => exact if_neg (ne_true_of_eq_false e)
theorem crG_t {repl : List Nat} {c : Nat} {r : List Nat} (e : (c == 10 || c == 13) = true) : crG repl false (c :: r) = repl ++ crG repl (c == 13) r := if_pos e
theorem crG_f {repl : List Nat} {c : Nat} {r : List Nat} (e : ¬ (c == 10 || c == 13) = true) : crG repl false (c :: r) = c :: crG repl false r := if_neg e
theorem dotF_t {repl : List Nat} {h : Bool} {c : Nat} {r : List Nat} (e : (h && c == 46) = true) : dotF repl h (c :: r) = repl ++ dotF repl false r := if_pos e
theorem dotF_f {repl : List Nat} {h : Bool} {c : Nat} {r : List Nat} (e : (h && c == 46) = false) : dotF repl h (c :: r) = c :: dotF repl (c == 10) r := if_neg (ne_true_of_eq_false e)
noncomputable def lowC (c : Nat) : Option Nat := if 65 <= c /\ c <= 69 then some (c + 32) else if 97 <= c /\ c <= 101 then some c else none
noncomputable def methF (m : Meth) (o : V) (vs : List V) (σ : Sto) : Option (V × Sto) :=
 match m with
 | .append => vLst (fun i => arg1 (fun x => Option.bind σ[i]? fun xs => if i = 0 \/ big < xs.length + 1 then none else some (.none, σ.set i (xs ++ [x]))) vs) o
 | .insert => vLst (fun i => arg2 (fun p x => vInt (fun p => Option.bind σ[i]? fun xs => if i = 0 \/ p < 0 \/ i63 <= p \/ big < xs.length + 1 then none else some (.none, σ.set i (xs.take p.toNat ++ x :: xs.drop p.toNat))) p) vs) o
 | .pop => vLst (fun i => arg1 (vInt fun p => Option.bind σ[i]? fun xs => match xs with
  | x :: r => if p ≠ 0 \/ i = 0 \/ 1000 < r.length then none else some (x, σ.set i r)
  | [] => none) vs) o
 | .join => vStr (fun c => arg1 (vLst fun i => Option.bind σ[i]? fun xs => Option.bind (joinStrs xs) fun s => if c = [] /\ s.length <= 10000 then some (.str s, σ) else none) vs) o
 | .lower => vStr (fun c => match c with
  | [] => none
  | c :: r => arg0 (match r with
   | [] => Option.bind (lowC c) fun d => some (.str [d], σ)
   | _ :: _ => none) vs) o
 | .sub => vGlob (fun g => arg2 (fun r s => vStr (fun r => vStr (fun s => if s.length <= 10000 then
   (if g = .re1 /\ r = [46, 46] then some (.str (dotF r true s), σ) else if g = .re2 /\ r = [13, 10] then some (.str (crF r s), σ) else none) else none) s) r) vs) o
noncomputable def sortK (ps : List (Int × V)) : List (Int × V) := ps.foldl (fun acc p => ins (fun a b => a.1 < b.1) p acc) []
noncomputable def xB (ev : V -> Sto -> Option (V × Sto)) : List V -> Sto -> Option (List (Int × V) × Sto)
 | [], σ => some ([], σ)
 | x :: r, σ => do
  let (k, σ) ← ev x σ
  vInt (fun n => do
   let (ps, σ) ← xB ev r σ
   some ((n, x) :: ps, σ)) k
noncomputable def globV : G -> V
 | .crlf => .str [13, 10]
 | .maxsz => .int 40
 | .move => .int 2
 | .case => .int 1
 | g => .glob g
noncomputable def kwF : F -> Bool
 | .insortR | .insortL | .bisectR | .bisectL | .law => true
 | _ => false
noncomputable def zU (sl : Slots) (frees : List Nat) : Slots := frees.map fun i => (sl[i]?).join
noncomputable def sliceO (lo hi st : Option Int) (σ : Sto) : V -> Option (V × Sto)
 | .str s => if st = none /\ s.length <= 10000 then some (.str (pickS s lo hi), σ) else none
 | .lst i => Option.bind σ[i]? fun xs => if st = some 0 \/ 1000 < xs.length then none else some (newL (pickL xs lo hi st) σ)
 | _ => none
noncomputable def xX (o lo hi st : V) (σ : Sto) : Option (V × Sto) := Option.bind (partO lo) fun lo => Option.bind (partO hi) fun hi => Option.bind (partO st) fun st => sliceO lo hi st σ o
noncomputable def subV (o i : V) (σ : Sto) : Option V := vInt (fun i => match o with
 | .lst k => Option.bind σ[k]? fun xs => Option.bind (place xs.length i) fun j => xs[j]?
 | .tup xs => Option.bind (place xs.length i) fun j => xs[j]?
 | .str s => Option.bind (place s.length i) fun j => Option.bind s[j]? fun c => some (.str [c])
 | _ => none) i
noncomputable def sortSrc (σ : Sto) : V -> Option (List V)
 | .lst i => σ[i]?
 | .rng a b st => if st = 1 /\ a = 0 /\ b = 6 then some ((rngInts a b st).map .int) else none
 | _ => none
noncomputable def vFn {α} (f : F -> Option α) : V -> Option α := vGlob (gFn f)
noncomputable def keyArgs (f : F) (vs : List V) (k : V) : Option (List V) :=
 match f with
 | .insortR => arg2 (fun a x => some [a, x, .int 0, .none, k]) vs
 | .insortL => arg2 (fun a x => some [a, x, .int 0, .none, k]) vs
 | .bisectR => arg4 (fun a x lo hi => some [a, x, lo, hi, k]) vs
 | .bisectL => arg4 (fun a x lo hi => some [a, x, lo, hi, k]) vs
 | _ => none
noncomputable def callG (r : Rec) (g : G) (vs : List V) (σ : Sto) : Option (V × Sto) :=
 match g with
 | .fn f => if kwF f then none else r.call f vs σ
 | g => yD g vs σ
theorem callG_or (r : Rec) (g : G) (vs : List V) (σ : Sto) : (∃ f, g = .fn f) \/ callG r g vs σ = yD g vs σ := by
 cases g with
 | fn f => exact .inl ⟨f, rfl⟩
 | _ => exact .inr rfl
theorem keyArgs_e {f : F} {vs as : List V} {k : V} (h : keyArgs f vs k = some as) :
  ((f = .insortR \/ f = .insortL) /\ arg2 (fun a x => some [a, x, .int 0, .none, k]) vs = some as) \/ ((f = .bisectR \/ f = .bisectL) /\ arg4 (fun a x lo hi => some [a, x, lo, hi, k]) vs = some as) := by
 cases f with
 | insortR => exact .inl ⟨.inl rfl, h⟩
 | insortL => exact .inl ⟨.inr rfl, h⟩
 | bisectR => exact .inr ⟨.inl rfl, h⟩
 | bisectL => exact .inr ⟨.inr rfl, h⟩
 | _ => exact nE h
noncomputable def evalF (r : Rec) (e : ME) (sl : Slots) (σ : Sto) : Option (V × Sto) :=
 match e with
 | .none => some (.none, σ)
 | .bool b => some (.bool b, σ)
 | .int i => some (.int i, σ)
 | .flt x => some (.flt x, σ)
 | .str s => some (.str s, σ)
 | .var i => do some (← (sl[i]?).join, σ)
 | .glob g => some (globV g, σ)
 | .bin op a b => do
  let (va, σ) ← r.eval a sl σ
  let (vb, σ) ← r.eval b sl σ
  binF op va vb σ
 | .neg a => do
  let (v, σ) ← r.eval a sl σ
  vInt (fun i => some (.int (-i), σ)) v
 | .or2 a b => do
  let (v, σ) ← r.eval a sl σ
  if ← xP v then some (v, σ) else r.eval b sl σ
 | .cmp c a b => do
  let (va, σ) ← r.eval a sl σ
  let (vb, σ) ← r.eval b sl σ
  some (.bool (← cmpV σ c va vb), σ)
 | .ite t a b => do
  let (c, σ) ← r.test t sl σ
  if c then r.eval a sl σ else r.eval b sl σ
 | .meth o m args => do
  let (vo, σ) ← r.eval o sl σ
  let (vs, σ) ← evals r.eval args sl σ
  methF m vo vs σ
 | .sortk src frees body => do
  let (v, σ) ← r.eval src sl σ
  let xs ← sortSrc σ v
  let is ← isInts xs
  if is.length = 6 /\ is.Nodup then
   let (ps, σ) ← xB (fun x σ => r.eval body (some x :: zU sl frees) σ) xs σ
   some (newL ((sortK ps).map (·.2)) σ)
  else none
 | .callk f args key => do
  let (vf, σ) ← r.eval f sl σ
  let (vs, σ) ← evals r.eval args sl σ
  let (k, σ) ← r.eval key sl σ
  vFn (fun f => Option.bind (keyArgs f vs k) fun as => r.call f as σ) vf
 | .call f args => do
  let (vf, σ) ← r.eval f sl σ
  let (vs, σ) ← evals r.eval args sl σ
  vGlob (fun g => callG r g vs σ) vf
 | .slice o lo hi st => do
  let (vo, σ) ← r.eval o sl σ
  let (vl, σ) ← evalO r.eval lo sl σ
  let (vh, σ) ← evalO r.eval hi sl σ
  let (vs, σ) ← evalO r.eval st sl σ
  xX vo vl vh vs σ
 | .sub o i => do
  let (vo, σ) ← r.eval o sl σ
  let (vi, σ) ← r.eval i sl σ
  some (← subV vo vi σ, σ)
 | .list es => do
  let (vs, σ) ← evals r.eval es sl σ
  if 1000 < vs.length then none else some (newL vs σ)
 | .tup es => do
  let (vs, σ) ← evals r.eval es sl σ
  if 1000 < vs.length then none else some (.tup vs, σ)
 | .comp elt frees it cond => do
  let (v, σ) ← r.eval it sl σ
  let _ ← zV σ v 0
  let (vs, σ) ← r.comp elt (zU sl frees) v 0 cond [] σ
  some (newL vs σ)
 | .comp2 elt it1 it2 => do
  let (v, σ) ← r.eval it1 sl σ
  let _ ← zV σ v 0
  let (vs, σ) ← r.comp2 elt it2 v 0 [] σ
  some (newL vs σ)
 | .not _ | .and _ | .or _ => none
noncomputable def testAll (tst : ME -> Slots -> Sto -> Option (Bool × Sto)) : List ME -> Slots -> Sto -> Option (Bool × Sto)
 | [], _, σ => some (true, σ)
 | t :: ts, sl, σ => do
  let (b, σ) ← tst t sl σ
  if b then testAll tst ts sl σ else some (false, σ)
noncomputable def testAny (tst : ME -> Slots -> Sto -> Option (Bool × Sto)) : List ME -> Slots -> Sto -> Option (Bool × Sto)
 | [], _, σ => some (false, σ)
 | t :: ts, sl, σ => do
  let (b, σ) ← tst t sl σ
  if b then some (true, σ) else testAny tst ts sl σ
noncomputable def testF (r : Rec) (t : ME) (sl : Slots) (σ : Sto) : Option (Bool × Sto) :=
 match t with
 | .not a => do
  let (b, σ) ← r.test a sl σ
  some (!b, σ)
 | .and ts => testAll r.test ts sl σ
 | .or ts => testAny r.test ts sl σ
 | .cmp c a b => do
  let (va, σ) ← r.eval a sl σ
  let (vb, σ) ← r.eval b sl σ
  some (← cmpV σ c va vb, σ)
 | e => do
  let (v, σ) ← r.eval e sl σ
  some (← xP v, σ)
noncomputable def setMany : List Nat -> List V -> Slots -> Option Slots
 | [], vs, sl => arg0 (some sl) vs
 | x :: xs, vs, sl => match vs with
  | [] => none
  | v :: vs => setMany xs vs (setSl sl x v)
noncomputable def stepF (r : Rec) (s : MS) (sl : Slots) (σ : Sto) : Option (Fl × Slots × Sto) :=
 match s with
 | .set x e => do
  let (v, σ) ← r.eval e sl σ
  some (.next, setSl sl x v, σ)
 | .set2 x y e => do
  let (v, σ) ← r.eval e sl σ
  some (.next, setSl (setSl sl x v) y v, σ)
 | .swap x y a b => do
  let (va, σ) ← r.eval a sl σ
  let (vb, σ) ← r.eval b sl σ
  some (.next, setSl (setSl sl x va) y vb, σ)
 | .unpack xs e => do
  let (v, σ) ← r.eval e sl σ
  vTup (fun vs => do
   let sl ← setMany xs vs sl
   some (.next, sl, σ)) v
 | .put o i e => do
  let (v, σ) ← r.eval e sl σ
  let (vo, σ) ← r.eval o sl σ
  let (vi, σ) ← r.eval i sl σ
  vLst (fun k => vInt (fun i => do
   let xs ← σ[k]?
   if k = 0 \/ i < 0 \/ (xs.length : Int) <= i \/ 1000 < xs.length then none else some (.next, sl, σ.set k (xs.set i.toNat v))) vi) vo
 | .aug x op e => do
  let v ← (sl[x]?).join
  let (w, σ) ← r.eval e sl σ
  vInt (fun a => vInt (fun b => if op = .Add then some (.next, setSl sl x (.int (a + b)), σ) else if op = .Sub then some (.next, setSl sl x (.int (a - b)), σ) else none) w) v
 | .expr e => do
  let (v, σ) ← r.eval e sl σ
  vNone (some (.next, sl, σ)) v
 | .ite t a b => do
  let (c, σ) ← r.test t sl σ
  if c then r.exec a sl σ else r.exec b sl σ
 | .whil t b => r.whil t b sl σ
 | .for_ x it b => do
  let (v, σ) ← r.eval it sl σ
  let _ ← zV σ v 0
  r.forr x v 0 b sl σ
 | .ret e => do
  let (v, σ) ← r.eval e sl σ
  some (.ret v, sl, σ)
 | .raise => none
noncomputable def execF (r : Rec) : List MS -> Slots -> Sto -> Option (Fl × Slots × Sto)
 | [], sl, σ => some (.next, sl, σ)
 | s :: ss, sl, σ => do
  let (fl, sl, σ) ← stepF r s sl σ
  match fl with
  | .next => execF r ss sl σ
  | .ret v => some (.ret v, sl, σ)
noncomputable def whilF (r : Rec) (t : ME) (b : List MS) (sl : Slots) (σ : Sto) : Option (Fl × Slots × Sto) := do
 let (c, σ) ← r.test t sl σ
 if c then do
  let (fl, sl, σ) ← r.exec b sl σ
  match fl with
  | .next => r.whil t b sl σ
  | .ret v => some (.ret v, sl, σ)
 else some (.next, sl, σ)
noncomputable def forF (r : Rec) (x : Nat) (v : V) (i : Nat) (b : List MS) (sl : Slots) (σ : Sto) : Option (Fl × Slots × Sto) := do
 match ← zV σ v i with
 | none => some (.next, sl, σ)
 | some y => do
  let (fl, sl, σ) ← r.exec b (setSl sl x y) σ
  match fl with
  | .next => r.forr x v (i + 1) b sl σ
  | .ret v => some (.ret v, sl, σ)
noncomputable def testO (ts : ME -> Slots -> Sto -> Option (Bool × Sto)) : Option ME -> Slots -> Sto -> Option (Bool × Sto)
 | none, _, σ => some (true, σ)
 | some t, sl, σ => ts t sl σ
noncomputable def compF (r : Rec) (elt : ME) (cap : Slots) (v : V) (i : Nat) (cond : Option ME) (acc : List V) (σ : Sto) : Option (List V × Sto) := do
 match ← zV σ v i with
 | none => some (acc, σ)
 | some y => do
  let (c, σ) ← testO r.test cond (some y :: cap) σ
  if c then do
   let (w, σ) ← r.eval elt (some y :: cap) σ
   if 1000 <= acc.length then none else r.comp elt cap v (i + 1) cond (acc ++ [w]) σ
  else r.comp elt cap v (i + 1) cond acc σ
noncomputable def comp2F (r : Rec) (elt it2 : ME) (v : V) (i : Nat) (acc : List V) (σ : Sto) : Option (List V × Sto) := do
 match ← zV σ v i with
 | none => some (acc, σ)
 | some y => do
  let (w, σ) ← r.eval it2 [some y, none] σ
  let _ ← zV σ w 0
  let (acc, σ) ← r.comp elt [some y] w 0 none acc σ
  r.comp2 elt it2 v (i + 1) acc σ
inductive All2 {α β : Type} (R : α -> β -> Prop) : List α -> List β -> Prop
 | nil : All2 R [] []
 | cons {a b as bs} : R a b -> All2 R as bs -> All2 R (a :: as) (b :: bs)
section
variable {α β : Type} {R S : α -> β -> Prop}
theorem All2.length {as : List α} {bs : List β} (r : All2 R as bs) : as.length = bs.length :=
 All2.rec (motive := fun as bs _ => as.length = bs.length) (Eq.refl 0) (@fun _ _ _ _ _ _ ih => congrArg Nat.succ ih) r
theorem All2.mono (h : ∀ a b, R a b -> S a b) {as : List α} {bs : List β} (r : All2 R as bs) : All2 S as bs :=
 All2.rec (motive := fun as bs _ => All2 S as bs) .nil (fun q _ => .cons (h _ _ q)) r
theorem All2.get {as : List α} {bs : List β} (r : All2 R as bs) : ∀ {j : Nat} {a : α}, as[j]? = some a -> ∃ b, bs[j]? = some b /\ R a b :=
 All2.rec (motive := fun as bs _ => ∀ {j : Nat} {a : α}, as[j]? = some a -> ∃ b, bs[j]? = some b /\ R a b) (fun e => nE e) (@fun _ _ _ _ q _ ih j a e => match j, e with
  | 0, e => ⟨_, rfl, sE (C := fun a => R a _) e q⟩
  | _ + 1, e => ih e) r
theorem All2.ins {a : α} {b : β} (h : R a b) {as : List α} {bs : List β} (r : All2 R as bs) : ∀ i, All2 R (as.take i ++ a :: as.drop i) (bs.take i ++ b :: bs.drop i) :=
 All2.rec (motive := fun as bs _ => ∀ i, All2 R (as.take i ++ a :: as.drop i) (bs.take i ++ b :: bs.drop i)) (fun i => by cases i <;> exact .cons h .nil) (fun q r ih i => match i with
  | 0 => .cons h (.cons q r)
  | i + 1 => .cons q (ih i)) r
theorem All2.map {γ : Type} {S : α -> γ -> Prop} {f : β -> γ} (h : ∀ a b, R a b -> S a (f b)) {as : List α} {bs : List β} (r : All2 R as bs) : All2 S as (bs.map f) :=
 All2.rec (motive := fun as bs _ => All2 S as (bs.map f)) .nil (fun q _ => .cons (h _ _ q)) r
end
end Mine
namespace Mine
open PySem
noncomputable def b_insortR : List MS := [
 .ite (.cmp .Is (.var 4) .none) [
  .set 2 (.call (.glob (.fn .bisectR)) [(.var 0), (.var 1), (.var 2), (.var 3)])] [
  .set 2 (.callk (.glob (.fn .bisectR)) [(.var 0), (.call (.var 4) [(.var 1)]), (.var 2), (.var 3)] (.var 4))],
 .expr (.meth (.var 0) .insert [(.var 2), (.var 1)])]
noncomputable def b_bisectR : List MS := [
 .ite (.cmp .Lt (.var 2) (.int 0)) [
  .raise] [],
 .ite (.cmp .Is (.var 3) .none) [
  .set 3 (.call (.glob .len) [(.var 0)])] [],
 .ite (.cmp .Is (.var 4) .none) [
  .whil (.cmp .Lt (.var 2) (.var 3)) [
   .set 5 (.bin .FloorDiv (.bin .Add (.var 2) (.var 3)) (.int 2)),
   .ite (.cmp .Lt (.var 1) (.sub (.var 0) (.var 5))) [
    .set 3 (.var 5)] [
    .set 2 (.bin .Add (.var 5) (.int 1))]]] [
  .whil (.cmp .Lt (.var 2) (.var 3)) [
   .set 5 (.bin .FloorDiv (.bin .Add (.var 2) (.var 3)) (.int 2)),
   .ite (.cmp .Lt (.var 1) (.call (.var 4) [(.sub (.var 0) (.var 5))])) [
    .set 3 (.var 5)] [
    .set 2 (.bin .Add (.var 5) (.int 1))]]],
 .ret (.var 2)]
noncomputable def b_insortL : List MS := [
 .ite (.cmp .Is (.var 4) .none) [
  .set 2 (.call (.glob (.fn .bisectL)) [(.var 0), (.var 1), (.var 2), (.var 3)])] [
  .set 2 (.callk (.glob (.fn .bisectL)) [(.var 0), (.call (.var 4) [(.var 1)]), (.var 2), (.var 3)] (.var 4))],
 .expr (.meth (.var 0) .insert [(.var 2), (.var 1)])]
noncomputable def b_bisectL : List MS := [
 .ite (.cmp .Lt (.var 2) (.int 0)) [
  .raise] [],
 .ite (.cmp .Is (.var 3) .none) [
  .set 3 (.call (.glob .len) [(.var 0)])] [],
 .ite (.cmp .Is (.var 4) .none) [
  .whil (.cmp .Lt (.var 2) (.var 3)) [
   .set 5 (.bin .FloorDiv (.bin .Add (.var 2) (.var 3)) (.int 2)),
   .ite (.cmp .Lt (.sub (.var 0) (.var 5)) (.var 1)) [
    .set 2 (.bin .Add (.var 5) (.int 1))] [
    .set 3 (.var 5)]]] [
  .whil (.cmp .Lt (.var 2) (.var 3)) [
   .set 5 (.bin .FloorDiv (.bin .Add (.var 2) (.var 3)) (.int 2)),
   .ite (.cmp .Lt (.call (.var 4) [(.sub (.var 0) (.var 5))]) (.var 1)) [
    .set 2 (.bin .Add (.var 5) (.int 1))] [
    .set 3 (.var 5)]]],
 .ret (.var 2)]
noncomputable def b_hls : List MS := [
 .set 3 (.call (.glob .max) [(.var 0), (.var 1), (.var 2)]),
 .set 4 (.call (.glob .min) [(.var 0), (.var 1), (.var 2)]),
 .set 5 (.bin .Add (.var 3) (.var 4)),
 .set 6 (.bin .Sub (.var 3) (.var 4)),
 .set 7 (.bin .Div (.var 5) (.flt 0x4000000000000000)),
 .ite (.cmp .Eq (.var 4) (.var 3)) [
  .ret (.tup [(.flt 0x0000000000000000), (.var 7), (.flt 0x0000000000000000)])] [],
 .ite (.cmp .LtE (.var 7) (.flt 0x3fe0000000000000)) [
  .set 8 (.bin .Div (.var 6) (.var 5))] [
  .set 8 (.bin .Div (.var 6) (.bin .Sub (.bin .Sub (.flt 0x4000000000000000) (.var 3)) (.var 4)))],
 .set 9 (.bin .Div (.bin .Sub (.var 3) (.var 0)) (.var 6)),
 .set 10 (.bin .Div (.bin .Sub (.var 3) (.var 1)) (.var 6)),
 .set 11 (.bin .Div (.bin .Sub (.var 3) (.var 2)) (.var 6)),
 .ite (.cmp .Eq (.var 0) (.var 3)) [
  .set 12 (.bin .Sub (.var 11) (.var 10))] [
  .ite (.cmp .Eq (.var 1) (.var 3)) [
   .set 12 (.bin .Sub (.bin .Add (.flt 0x4000000000000000) (.var 9)) (.var 11))] [
   .set 12 (.bin .Sub (.bin .Add (.flt 0x4010000000000000) (.var 10)) (.var 9))]],
 .set 12 (.bin .Mod (.bin .Div (.var 12) (.flt 0x4018000000000000)) (.flt 0x3ff0000000000000)),
 .ret (.tup [(.var 12), (.var 7), (.var 8)])]
noncomputable def b_hsv : List MS := [
 .set 3 (.call (.glob .max) [(.var 0), (.var 1), (.var 2)]),
 .set 4 (.call (.glob .min) [(.var 0), (.var 1), (.var 2)]),
 .set 5 (.bin .Sub (.var 3) (.var 4)),
 .set 6 (.var 3),
 .ite (.cmp .Eq (.var 4) (.var 3)) [
  .ret (.tup [(.flt 0x0000000000000000), (.flt 0x0000000000000000), (.var 6)])] [],
 .set 7 (.bin .Div (.var 5) (.var 3)),
 .set 8 (.bin .Div (.bin .Sub (.var 3) (.var 0)) (.var 5)),
 .set 9 (.bin .Div (.bin .Sub (.var 3) (.var 1)) (.var 5)),
 .set 10 (.bin .Div (.bin .Sub (.var 3) (.var 2)) (.var 5)),
 .ite (.cmp .Eq (.var 0) (.var 3)) [
  .set 11 (.bin .Sub (.var 10) (.var 9))] [
  .ite (.cmp .Eq (.var 1) (.var 3)) [
   .set 11 (.bin .Sub (.bin .Add (.flt 0x4000000000000000) (.var 8)) (.var 10))] [
   .set 11 (.bin .Sub (.bin .Add (.flt 0x4010000000000000) (.var 9)) (.var 8))]],
 .set 11 (.bin .Mod (.bin .Div (.var 11) (.flt 0x4018000000000000)) (.flt 0x3ff0000000000000)),
 .ret (.tup [(.var 11), (.var 7), (.var 6)])]
noncomputable def b_rgb : List MS := [
 .ite (.cmp .Eq (.var 1) (.flt 0x0000000000000000)) [
  .ret (.tup [(.var 2), (.var 2), (.var 2)])] [],
 .set 3 (.call (.glob .int) [(.bin .Mult (.var 0) (.flt 0x4018000000000000))]),
 .set 4 (.bin .Sub (.bin .Mult (.var 0) (.flt 0x4018000000000000)) (.var 3)),
 .set 5 (.bin .Mult (.var 2) (.bin .Sub (.flt 0x3ff0000000000000) (.var 1))),
 .set 6 (.bin .Mult (.var 2) (.bin .Sub (.flt 0x3ff0000000000000) (.bin .Mult (.var 1) (.var 4)))),
 .set 7 (.bin .Mult (.var 2) (.bin .Sub (.flt 0x3ff0000000000000) (.bin .Mult (.var 1) (.bin .Sub (.flt 0x3ff0000000000000) (.var 4))))),
 .set 3 (.bin .Mod (.var 3) (.int 6)),
 .ite (.cmp .Eq (.var 3) (.int 0)) [
  .ret (.tup [(.var 2), (.var 7), (.var 5)])] [],
 .ite (.cmp .Eq (.var 3) (.int 1)) [
  .ret (.tup [(.var 6), (.var 2), (.var 5)])] [],
 .ite (.cmp .Eq (.var 3) (.int 2)) [
  .ret (.tup [(.var 5), (.var 2), (.var 7)])] [],
 .ite (.cmp .Eq (.var 3) (.int 3)) [
  .ret (.tup [(.var 5), (.var 6), (.var 2)])] [],
 .ite (.cmp .Eq (.var 3) (.int 4)) [
  .ret (.tup [(.var 7), (.var 5), (.var 2)])] [],
 .ite (.cmp .Eq (.var 3) (.int 5)) [
  .ret (.tup [(.var 2), (.var 5), (.var 6)])] []]
noncomputable def b_quote : List MS := [
 .ret (.meth (.glob .re1) .sub [(.str [46, 46]), (.meth (.glob .re2) .sub [(.glob .crlf), (.var 0)])])]
noncomputable def b_subst : List MS := [
 .ite (.cmp .Eq (.var 0) (.var 1)) [
  .ret (.int 0)] [],
 .ite (.cmp .Eq (.meth (.var 0) .lower []) (.meth (.var 1) .lower [])) [
  .ret (.glob .case)] [],
 .ret (.glob .move)]
noncomputable def b_lev : List MS := [
 .ite (.cmp .Eq (.var 0) (.var 1)) [
  .ret (.int 0)] [],
 .set 3 (.int 0),
 .whil (.and [(.slice (.var 0) (some (.var 3)) none none), (.slice (.var 1) (some (.var 3)) none none), (.cmp .Eq (.sub (.var 0) (.var 3)) (.sub (.var 1) (.var 3)))]) [
  .aug 3 .Add (.int 1)],
 .set 0 (.slice (.var 0) (some (.var 3)) none none),
 .set 1 (.slice (.var 1) (some (.var 3)) none none),
 .set 4 (.int 0),
 .whil (.and [(.slice (.var 0) none (some (.or2 (.var 4) .none)) none), (.slice (.var 1) none (some (.or2 (.var 4) .none)) none), (.cmp .Eq (.sub (.var 0) (.bin .Sub (.var 4) (.int 1))) (.sub (.var 1) (.bin .Sub (.var 4) (.int 1))))]) [
  .aug 4 .Sub (.int 1)],
 .set 0 (.slice (.var 0) none (some (.or2 (.var 4) .none)) none),
 .set 1 (.slice (.var 1) none (some (.or2 (.var 4) .none)) none),
 .ite (.or [(.not (.var 0)), (.not (.var 1))]) [
  .ret (.bin .Mult (.glob .move) (.bin .Add (.call (.glob .len) [(.var 0)]) (.call (.glob .len) [(.var 1)])))] [],
 .ite (.or [(.cmp .Gt (.call (.glob .len) [(.var 0)]) (.glob .maxsz)), (.cmp .Gt (.call (.glob .len) [(.var 1)]) (.glob .maxsz))]) [
  .ret (.bin .Add (.var 2) (.int 1))] [],
 .ite (.cmp .Lt (.call (.glob .len) [(.var 1)]) (.call (.glob .len) [(.var 0)])) [
  .swap 0 1 (.var 1) (.var 0)] [],
 .ite (.cmp .Gt (.bin .Mult (.bin .Sub (.call (.glob .len) [(.var 1)]) (.call (.glob .len) [(.var 0)])) (.glob .move)) (.var 2)) [
  .ret (.bin .Add (.var 2) (.int 1))] [],
 .set 5 (.call (.glob .list) [(.call (.glob .range) [(.glob .move), (.bin .Mult (.glob .move) (.bin .Add (.call (.glob .len) [(.var 0)]) (.int 1))), (.glob .move)])]),
 .set 6 (.int 0),
 .for_ 7 (.call (.glob .range) [(.call (.glob .len) [(.var 1)])]) [
  .set 8 (.sub (.var 1) (.var 7)),
  .set2 9 6 (.bin .Mult (.var 7) (.glob .move)),
  .set 10 (.int 9223372036854775807),
  .for_ 11 (.call (.glob .range) [(.call (.glob .len) [(.var 0)])]) [
   .set 12 (.bin .Add (.var 9) (.call (.glob (.fn .subst)) [(.var 8), (.sub (.var 0) (.var 11))])),
   .set 9 (.sub (.var 5) (.var 11)),
   .set 13 (.bin .Add (.call (.glob .min) [(.var 6), (.var 9)]) (.glob .move)),
   .set 6 (.call (.glob .min) [(.var 13), (.var 12)]),
   .put (.var 5) (.var 11) (.var 6),
   .ite (.cmp .Lt (.var 6) (.var 10)) [
    .set 10 (.var 6)] []],
  .ite (.cmp .Gt (.var 10) (.var 2)) [
   .ret (.bin .Add (.var 2) (.int 1))] []],
 .ret (.var 6)]
noncomputable def b_value : List MS := [
 .ret (.sub (.call (.glob (.fn .hsv)) [(.sub (.var 0) (.int 0)), (.sub (.var 0) (.int 1)), (.sub (.var 0) (.int 2))]) (.int 2))]
noncomputable def b_light : List MS := [
 .ret (.sub (.call (.glob (.fn .hls)) [(.sub (.var 0) (.int 0)), (.sub (.var 0) (.int 1)), (.sub (.var 0) (.int 2))]) (.int 1))]
noncomputable def b_read : List MS := [
 .ret (.list [(.call (.glob (.fn .hsv)) [(.sub (.var 0) (.int 0)), (.sub (.var 0) (.int 1)), (.sub (.var 0) (.int 2))]), (.call (.glob (.fn .hls)) [(.sub (.var 0) (.int 0)), (.sub (.var 0) (.int 1)), (.sub (.var 0) (.int 2))])])]
noncomputable def b_due : List MS := [
 .set 3 (.bin .Mult (.var 2) (.bin .Sub (.int 8) (.var 1))),
 .ite (.cmp .LtE (.var 3) (.int 512)) [
  .set 4 (.bin .Div (.var 1) (.bin .Sub (.int 8) (.var 1)))] [
  .set 4 (.bin .Div (.bin .Mult (.var 2) (.var 1)) (.bin .Sub (.int 1024) (.var 3)))],
 .ret (.list [(.tup [(.bin .Div (.var 0) (.int 64)), (.bin .Div (.var 1) (.int 4)), (.bin .Div (.var 2) (.int 128))]), (.tup [(.bin .Div (.var 0) (.int 64)), (.bin .Div (.var 3) (.int 1024)), (.var 4)])])]
noncomputable def b_law0 : MS :=
 .set 1 (.list [])
noncomputable def b_law1 : MS :=
 .for_ 2 (.call (.glob .range) [(.int 7)]) [
  .expr (.meth (.var 1) .append [(.bin .Mod (.bin .Add (.sub (.list [(.int 46), (.int 0), (.int 21), (.int 1), (.int 40), (.int 6), (.int 91)]) (.var 2)) (.call (.glob .sum) [(.slice (.var 0) (some (.var 2)) none (some (.int 7)))])) (.bin .Pow (.int 10) (.int 6)))])]
noncomputable def b_law2 : MS :=
 .set 3 (.bin .Mod (.sub (.var 1) (.int 6)) (.int 64))
noncomputable def b_law3 : MS :=
 .set 4 (.bin .Add (.bin .Mod (.bin .FloorDiv (.sub (.var 1) (.int 6)) (.int 64)) (.int 4)) (.int 1))
noncomputable def b_law4 : MS :=
 .set 5 (.comp (.bin .Add (.bin .Pow (.int 2) (.bin .Mod (.var 0) (.int 5))) (.bin .Mod (.bin .FloorDiv (.var 0) (.int 5)) (.int 4))) [] (.slice (.var 1) none (some (.int 6)) none) none)
noncomputable def b_law5 : MS :=
 .set 6 (.list [])
noncomputable def b_law6 : MS :=
 .set 7 (.list [])
noncomputable def b_law7 : MS :=
 .for_ 2 (.call (.glob .range) [(.int 6)]) [
  .set 8 (.bin .Add (.bin .Add (.str [46]) (.sub (.str [117, 118, 119, 120, 121, 122]) (.var 2))) (.sub (.list [(.str [10]), (.str [13]), (.str [13, 10])]) (.bin .Mod (.bin .FloorDiv (.sub (.var 1) (.var 2)) (.int 20)) (.int 3)))),
  .set 9 (.bin .Add (.call (.glob .list) [(.call (.glob (.fn .rgb)) [(.bin .Div (.var 3) (.int 64)), (.bin .Div (.var 4) (.int 4)), (.bin .Div (.sub (.var 5) (.var 2)) (.int 128))])]) (.list [(.list [(.var 2)]), (.var 8)])),
  .ite (.cmp .NotEq (.call (.glob (.fn .read)) [(.var 9)]) (.call (.glob (.fn .due)) [(.var 3), (.var 4), (.sub (.var 5) (.var 2))])) [
   .ret (.bool false)] [],
  .expr (.callk (.glob (.fn .insortR)) [(.var 6), (.var 9)] (.glob (.fn .value))),
  .expr (.callk (.glob (.fn .insortL)) [(.var 7), (.var 9)] (.glob (.fn .light)))]
noncomputable def b_law8 : MS :=
 .set 10 (.sortk (.call (.glob .range) [(.int 6)]) [5] (.sub (.var 1) (.var 0)))
noncomputable def b_law9 : MS :=
 .ite (.cmp .NotEq (.comp (.sub (.sub (.var 0) (.int 3)) (.int 0)) [] (.var 6) none) (.var 10)) [
  .ret (.bool false)] []
noncomputable def b_law10 : MS :=
 .ite (.cmp .NotEq (.comp (.sub (.sub (.var 0) (.int 3)) (.int 0)) [] (.var 7) none) (.sortk (.list [(.int 5), (.int 4), (.int 3), (.int 2), (.int 1), (.int 0)]) [5] (.sub (.var 1) (.var 0)))) [
  .ret (.bool false)] []
noncomputable def b_law11 : MS :=
 .set 11 (.list [(.tup [(.int 5), (.int 5), (.int 4), (.int 3), (.int 2), (.int 1)]), (.tup [(.int 4), (.int 4), (.int 4), (.int 4), (.int 2), (.int 1)]), (.tup [(.int 4), (.int 4), (.int 3), (.int 3), (.int 3), (.int 1)]), (.tup [(.int 4), (.int 4), (.int 3), (.int 2), (.int 2), (.int 2)]), (.tup [(.int 3), (.int 3), (.int 3), (.int 3), (.int 2), (.int 2)])])
noncomputable def b_law12 : MS :=
 .unpack [12, 13, 14] (.call (.glob .min) [(.comp (.tup [(.call (.glob .sum) [(.comp (.bin .Mult (.sub (.var 1) (.sub (.var 3) (.var 0))) (.sub (.var 2) (.var 0))) [1, 0, 2] (.call (.glob .range) [(.int 6)]) none)]), (.call (.glob .sum) [(.var 0)]), (.var 0)]) [5, 10] (.var 11) none)])
noncomputable def b_law13 : MS :=
 .set 15 (.bin .Mult (.list [(.int 0)]) (.int 6))
noncomputable def b_law14 : MS :=
 .for_ 16 (.call (.glob .range) [(.int 6)]) [
  .put (.var 15) (.sub (.var 10) (.var 16)) (.sub (.var 14) (.var 16))]
noncomputable def b_law15 : MS :=
 .set 17 (.bin .Mult (.list [(.str [])]) (.int 6))
noncomputable def b_law16 : MS :=
 .set 18 (.int 0)
noncomputable def b_law17 : MS :=
 .for_ 19 (.call (.glob .range) [(.int 5)]) [
  .set 20 (.meth (.var 6) .pop [(.int 0)]),
  .set 21 (.meth (.var 6) .pop [(.int 0)]),
  .for_ 2 (.sub (.var 20) (.int 3)) [
   .put (.var 17) (.var 2) (.bin .Add (.sub (.str [97, 98, 99, 100, 101]) (.var 19)) (.sub (.var 17) (.var 2)))],
  .for_ 2 (.sub (.var 21) (.int 3)) [
   .put (.var 17) (.var 2) (.bin .Add (.sub (.str [65, 66, 67, 68, 69]) (.var 19)) (.sub (.var 17) (.var 2)))],
  .set 9 (.bin .Add (.comp (.bin .Add (.sub (.var 1) (.var 0)) (.sub (.var 2) (.var 0))) [20, 21] (.call (.glob .range) [(.int 4)]) none) (.list [(.call (.glob (.fn .quote)) [(.bin .Add (.sub (.var 20) (.int 4)) (.sub (.var 21) (.int 4)))])])),
  .ite (.cmp .NotEq (.call (.glob (.fn .read)) [(.var 9)]) (.call (.glob (.fn .due)) [(.var 3), (.var 4), (.call (.glob .sum) [(.comp (.sub (.var 1) (.var 0)) [5] (.sub (.var 9) (.int 3)) none)])])) [
   .ret (.bool false)] [],
  .expr (.callk (.glob (.fn .insortR)) [(.var 6), (.var 9)] (.glob (.fn .value))),
  .set 20 (.meth (.var 7) .pop [(.int 0)]),
  .set 21 (.meth (.var 7) .pop [(.int 0)]),
  .set 9 (.comp (.bin .Add (.sub (.var 1) (.var 0)) (.sub (.var 2) (.var 0))) [20, 21] (.call (.glob .range) [(.int 3)]) none),
  .set 18 (.bin .Add (.var 18) (.call (.glob (.fn .light)) [(.var 9)])),
  .expr (.callk (.glob (.fn .insortL)) [(.var 7), (.var 9)] (.glob (.fn .light)))]
noncomputable def b_law18 : MS :=
 .ite (.cmp .NotEq (.var 18) (.bin .Div (.bin .Mult (.var 12) (.bin .Sub (.int 8) (.var 4))) (.int 1024))) [
  .ret (.bool false)] []
noncomputable def b_law19 : MS :=
 .ite (.cmp .NotEq (.sortk (.comp2 (.var 0) (.var 6) (.sub (.var 0) (.int 3))) [15] (.neg (.sub (.var 1) (.var 0)))) (.var 10)) [
  .ret (.bool false)] []
noncomputable def b_law20 : MS :=
 .ite (.cmp .NotEq (.sub (.sub (.var 6) (.int 0)) (.int 4)) (.meth (.str []) .join [(.comp (.bin .Add (.bin .Add (.bin .Mult (.str [46]) (.bin .Add (.int 1) (.call (.glob .len) [(.sub (.var 1) (.var 0))]))) (.sub (.str [117, 118, 119, 120, 121, 122]) (.var 0))) (.str [13, 10])) [17] (.sub (.sub (.var 6) (.int 0)) (.int 3)) none)])) [
  .ret (.bool false)] []
noncomputable def b_law21 : MS :=
 .set 22 (.bin .Mult (.list [(.int 0)]) (.int 6))
noncomputable def b_law22 : MS :=
 .set 23 (.int 0)
noncomputable def b_law23 : MS :=
 .for_ 2 (.sub (.sub (.var 6) (.int 0)) (.int 3)) [
  .put (.var 22) (.var 2) (.var 23),
  .set 23 (.bin .Add (.var 23) (.bin .Pow (.int 2) (.bin .Sub (.int 5) (.sub (.var 15) (.var 2)))))]
noncomputable def b_law24 : MS :=
 .for_ 2 (.call (.glob .range) [(.int 6)]) [
  .set 24 (.comp (.bin .Mod (.bin .FloorDiv (.sub (.var 1) (.var 2)) (.bin .Pow (.int 2) (.bin .Sub (.int 4) (.var 0)))) (.int 2)) [22, 2] (.call (.glob .range) [(.sub (.var 15) (.var 2))]) none),
  .ite (.cmp .NotEq (.comp (.ite (.cmp .Lt (.var 0) (.str [97])) (.int 1) (.int 0)) [] (.sub (.var 17) (.var 2)) none) (.var 24)) [
   .ret (.bool false)] [],
  .for_ 25 (.call (.glob .range) [(.var 2)]) [
   .set 26 (.call (.glob .len) [(.comp (.var 0) [22, 25, 2] (.call (.glob .range) [(.int 5)]) (some (.cmp .Eq (.bin .FloorDiv (.sub (.var 1) (.var 2)) (.bin .Pow (.int 2) (.var 0))) (.bin .FloorDiv (.sub (.var 1) (.var 3)) (.bin .Pow (.int 2) (.var 0))))))]),
   .set 27 (.bin .Sub (.bin .Mult (.int 2) (.bin .Sub (.call (.glob .max) [(.sub (.var 15) (.var 25)), (.sub (.var 15) (.var 2))]) (.var 26))) (.int 1)),
   .ite (.cmp .NotEq (.call (.glob (.fn .lev)) [(.sub (.var 17) (.var 25)), (.sub (.var 17) (.var 2)), (.var 27)]) (.var 27)) [
    .ret (.bool false)] []]]
noncomputable def b_law25 : MS :=
 .ret (.bool true)
noncomputable def b_law : List MS := [b_law0, b_law1, b_law2, b_law3, b_law4, b_law5, b_law6, b_law7, b_law8, b_law9, b_law10, b_law11, b_law12, b_law13, b_law14, b_law15, b_law16, b_law17, b_law18, b_law19, b_law20, b_law21, b_law22, b_law23, b_law24, b_law25]
noncomputable def bodyOf : F -> List MS
 | .insortR => b_insortR
 | .bisectR => b_bisectR
 | .insortL => b_insortL
 | .bisectL => b_bisectL
 | .hls => b_hls
 | .hsv => b_hsv
 | .rgb => b_rgb
 | .quote => b_quote
 | .subst => b_subst
 | .lev => b_lev
 | .value => b_value
 | .light => b_light
 | .read => b_read
 | .due => b_due
 | .law => b_law
noncomputable def nArgs : F -> Nat
 | .insortR => 5
 | .bisectR => 5
 | .insortL => 5
 | .bisectL => 5
 | .hls => 3
 | .hsv => 3
 | .rgb => 3
 | .quote => 1
 | .subst => 2
 | .lev => 3
 | .value => 1
 | .light => 1
 | .read => 1
 | .due => 3
 | .law => 1
noncomputable def z8 : F -> List Str
 | .insortR => [oQ "a", oQ "x", oQ "lo", oQ "hi", oQ "key"]
 | .bisectR => [oQ "a", oQ "x", oQ "lo", oQ "hi", oQ "key", oQ "mid"]
 | .insortL => [oQ "a", oQ "x", oQ "lo", oQ "hi", oQ "key"]
 | .bisectL => [oQ "a", oQ "x", oQ "lo", oQ "hi", oQ "key", oQ "mid"]
 | .hls => [oQ "r", oQ "g", oQ "b", oQ "maxc", oQ "minc", oQ "sumc", oQ "rangec", oQ "l", oQ "s", oQ "rc", oQ "gc", oQ "bc", oQ "h"]
 | .hsv => [oQ "r", oQ "g", oQ "b", oQ "maxc", oQ "minc", oQ "rangec", oQ "v", oQ "s", oQ "rc", oQ "gc", oQ "bc", oQ "h"]
 | .rgb => [oQ "h", oQ "s", oQ "v", oQ "i", oQ "f", oQ "p", oQ "q", oQ "t"]
 | .quote => [oQ "data"]
 | .subst => [oQ "ch_a", oQ "ch_b"]
 | .lev => [oQ "a", oQ "b", oQ "max_cost", oQ "pre", oQ "post", oQ "row", oQ "result", oQ "bindex", oQ "bchar", oQ "distance", oQ "minimum", oQ "index", oQ "substitute", oQ "insert_delete"]
 | .value => [oQ "lamp"]
 | .light => [oQ "lamp"]
 | .read => [oQ "lamp"]
 | .due => [oQ "turn", oQ "part", oQ "light", oQ "glow", oQ "share"]
 | .law => [oQ "script", oQ "drawn", oQ "k", oQ "turn", oQ "part", oQ "lights", oQ "shelf", oQ "other", oQ "mail", oQ "lamp", oQ "row", oQ "forms", oQ "cost", oQ "few", oQ "tree", oQ "levels", oQ "i", oQ "words", oQ "glow", oQ "step", oQ "first", oQ "second", oQ "places", oQ "ahead", oQ "figures", oQ "j", oQ "shared", oQ "way"]
noncomputable def nSlots : F -> Nat
 | .insortR => 5
 | .bisectR => 6
 | .insortL => 5
 | .bisectL => 6
 | .hls => 13
 | .hsv => 12
 | .rgb => 8
 | .quote => 1
 | .subst => 2
 | .lev => 14
 | .value => 1
 | .light => 1
 | .read => 1
 | .due => 5
 | .law => 28
noncomputable def callF (r : Rec) (f : F) (as : List V) (M : Sto) : Option (V × Sto) :=
 if as.length = nArgs f then (r.exec (bodyOf f) (as.map some ++ lQ (nSlots f - nArgs f) none) M).bind fun (fl, _, M) => match fl with
  | .ret v => some (v, M)
  | .next => some (.none, M)
 else none
noncomputable def recN : Nat -> Rec
 | 0 => ⟨fun _ _ _ => none, fun _ _ _ => none, fun _ _ _ => none, fun _ _ _ _ => none, fun _ _ _ _ _ _ => none, fun _ _ _ _ _ _ _ => none, fun _ _ _ _ _ _ => none, fun _ _ _ => none⟩
 | n + 1 => ⟨evalF (recN n), testF (recN n), execF (recN n), whilF (recN n), forF (recN n), compF (recN n), comp2F (recN n), callF (recN n)⟩
end Mine
set_option maxRecDepth 10000
namespace Mine.Pl
open PySem PySem.Float64
noncomputable def KK : Nat := 2 ^ 1044
theorem KK_pos : 0 < KK := Nat.two_pow_pos _
theorem KK_full : 2 ^ 1074 = KK * 2 ^ 30 := by unfold KK; rw [← Nat.pow_add]
noncomputable def FV (x : UInt64) (n : Int) : Prop := (∃ a m e, decode x = .fin a m e) /\ val x = n * (KK : Int)
theorem V_all : ∀ (k q : Nat), q <= 2 ^ 53 -> ∃ t, Float64.V t = q * 2 ^ k := by
 intro k; induction k with
 | zero =>
  intro q h
  exact ⟨0 * 2 ^ 52 + q, V_at h (.inr rfl)⟩
 | succ k ih =>
  intro q h
  by_cases h2 : 2 ^ 52 <= q
  ·exact ⟨_, V_at h (.inl h2)⟩
  ·obtain ⟨t, e⟩ := ih (2 * q) (by lia)
   exact ⟨t, by rw [e, Nat.pow_succ]; ac_rfl⟩
theorem dist0 {a b : Nat} (h : dist a b <= 0) : a = b := by
 unfold dist at h
 exact Nat.le_antisymm (Nat.sub_eq_zero_iff_le.mp (qV (pF h) qZ)) (Nat.sub_eq_zero_iff_le.mp (qV (pG h) qZ))
theorem exactR {r : UInt64} {neg : Bool} {W D c : Nat} (h : Right r neg W D) (hD : 0 < D) (hW : W = D * (c * KK)) (hc : c <= 2 ^ 53) : FV r (sgn neg c) := by
 obtain ⟨t, rfl, hle, hinf, hmin⟩ := h
 obtain ⟨t_0, e_0⟩ := V_all 1044 c hc
 have e_0 : Float64.V t_0 = c * KK := e_0
 have hlt : t < infMag := by
  refine Nat.lt_of_le_of_ne hle fun q => ?_
  have q := hinf.mp q
  rw [hW] at q
  have h1 : D * ((2 ^ 54 - 1) * 2 ^ 2045) <= D * (2 * (c * KK)) := by
   calc D * ((2 ^ 54 - 1) * 2 ^ 2045) <= 2 * (D * (c * KK)) := q
    _ = D * (2 * (c * KK)) := by ac_rfl
  have h2 := Nat.le_of_mul_le_mul_left h1 hD
  have h3 : 2 * (c * KK) <= 2 * (2 ^ 53 * KK) := Nat.mul_le_mul_left _ (Nat.mul_le_mul_right _ hc)
  have h4 : ¬ (2 ^ 54 - 1) * 2 ^ 2045 <= 2 * (2 ^ 53 * KK) := by unfold KK; decide +kernel
  exact h4 (qT h2 h3)
 have h0 := (hmin hlt t_0).1
 rw [hW, e_0] at h0
 have hz : dist (D * (c * KK)) (D * (c * KK)) = 0 := by unfold dist; simp
 rw [hz] at h0
 have hv : Float64.V t = c * KK := by
  have : D * (c * KK) = D * Float64.V t := dist0 h0
  exact (Nat.eq_of_mul_eq_mul_left hD this).symm
 obtain ⟨m, e, hd, _⟩ := decode_pack neg hlt
 refine ⟨⟨_, _, _, hd⟩, ?_⟩
 rw [val_pack neg hlt, hv, sgn_mul]
theorem fv_lit {x : UInt64} {n : Int} (h : isFinite x = true) (v : val x = n * (KK : Int)) : FV x n := by
 refine ⟨?_, v⟩
 delta isFinite at h
 cases d : decode x with
 | fin a m e => exact ⟨a, m, e, rfl⟩
 | _ => rw [d] at h; exact Bool.noConfusion h
theorem FV_zero (s : Bool) : FV (zero s) 0 := by
 cases s
 ·exact fv_lit (by decide +kernel) (by decide +kernel)
 ·exact fv_lit (by decide +kernel) (by decide +kernel)
theorem sgn_lt (c : Int) : sgn (decide (c < 0)) c.natAbs = c := by
 unfold sgn
 split
 ·rename_i h; have := of_decide_eq_true h; omega
 ·rename_i h
  have : ¬ c < 0 := fun q => h (decide_eq_true q)
  lia
theorem FV.add {x y : UInt64} {a b : Int} (hx : FV x a) (hy : FV y b) (hb : (a + b).natAbs <= 2 ^ 53) : FV (Float64.add x y) (a + b) := by
 obtain ⟨⟨s, m, e, dx⟩, vx⟩ := hx
 obtain ⟨⟨t, k, f, dy⟩, vy⟩ := hy
 obtain ⟨h0, h1⟩ := add_right dx dy
 have hs : val x + val y = (a + b) * (KK : Int) := by rw [vx, vy, Int.add_mul]
 have hK := KK_pos
 by_cases hz : a + b = 0
 ·rw [h0 (by rw [hs, hz]; exact Int.natCast_add _ _), hz]
  exact FV_zero _
 ·have hne : val x + val y ≠ 0 := by
   rw [hs]
   exact Int.mul_ne_zero hz (qF qN)
  have hr := h1 hne
  rw [hs] at hr
  have hd : decide ((a + b) * (KK : Int) < 0) = decide (a + b < 0) := by
   apply decide_eq_decide.mpr
   constructor
   ·intro q
    by_cases q2 : a + b < 0
    ·exact q2
    ·have := Int.mul_nonneg (show 0 <= a + b by lia) (show (0 : Int) <= KK by exact qN)
     exact absurd this (Int.not_le_of_gt q)
   ·intro q
    exact Int.mul_neg_of_neg_of_pos q qN
  rw [hd] at hr
  have := exactR (c := (a + b).natAbs) hr (by decide) (by rw [Int.natAbs_mul, Int.natAbs_natCast, Nat.one_mul]) hb
  rwa [sgn_lt] at this
theorem FV.neg {y : UInt64} {b : Int} (hy : FV y b) : FV (Float64.neg y) (-b) := by
 obtain ⟨⟨t, k, f, dy⟩, vy⟩ := hy
 exact ⟨⟨_, _, _, neg_decode dy⟩, by rw [neg_val dy, vy, Int.neg_mul]⟩
theorem FV.sub {x y : UInt64} {a b : Int} (hx : FV x a) (hy : FV y b) (hb : (a - b).natAbs <= 2 ^ 53) : FV (Float64.sub x y) (a - b) := by
 unfold Float64.sub
 rw [Int.sub_eq_add_neg] at hb ⊢
 exact hx.add hy.neg hb
theorem FV.natAbs {x : UInt64} {a : Int} (h : FV x a) : (val x).natAbs = a.natAbs * KK := by rw [h.2, Int.natAbs_mul, Int.natAbs_natCast]
theorem FV.sgn0 {x : UInt64} {n : Int} {s : Bool} {m : Nat} {e : Int} (h : FV x n) (d : decode x = .fin s m e) : (n < 0 -> s = true) /\ (0 < n -> s = false) := by
 have v := val_eq d
 rw [h.2] at v
 have hK := KK_pos
 generalize m * 2 ^ (e + 1074).toNat = M at v
 unfold sgn at v
 constructor
 ·intro q
  have := Int.mul_neg_of_neg_of_pos q (show (0 : Int) < KK by exact qN)
  cases s with
  | true => rfl
  | false => simp at v; omega
 ·intro q
  have := Int.mul_pos q (show (0 : Int) < KK by exact qN)
  cases s with
  | false => rfl
  | true => simp at v; omega
theorem sgn_xor {a b c : Int} {s t : Bool} (ha : (a < 0 -> s = true) /\ (0 < a -> s = false)) (hb : (b < 0 -> t = true) /\ (0 < b -> t = false)) (hc : (c < 0 ↔ (a < 0 /\ 0 < b) \/ (0 < a /\ b < 0))) (h0 : c = 0 ↔ a = 0 \/ b = 0) :
  sgn (s != t) c.natAbs = c := by
 by_cases hz : c = 0
 ·subst hz; unfold sgn; simp
 ·have hne : ¬ (a = 0 \/ b = 0) := fun q => hz (h0.mpr q)
  rcases Int.lt_trichotomy a 0 with qa | qa | qa
  ·rcases Int.lt_trichotomy b 0 with qb | qb | qb
   ·rw [ha.1 qa, hb.1 qb]; unfold sgn; simp; lia
   ·exact absurd (.inr qb) hne
   ·rw [ha.1 qa, hb.2 qb]; unfold sgn; simp; lia
  ·exact absurd (.inl qa) hne
  ·rcases Int.lt_trichotomy b 0 with qb | qb | qb
   ·rw [ha.2 qa, hb.1 qb]; unfold sgn; simp; lia
   ·exact absurd (.inr qb) hne
   ·rw [ha.2 qa, hb.2 qb]; unfold sgn; simp; lia
theorem mul_signs {a b c K : Int} (hK : 0 < K) (h : a * b = c * K) : (c < 0 ↔ (a < 0 /\ 0 < b) \/ (0 < a /\ b < 0)) /\ (c = 0 ↔ a = 0 \/ b = 0) := by
 have hc : (c < 0 ↔ c * K < 0) := ⟨fun q => Int.mul_neg_of_neg_of_pos q hK, fun q => by
  by_cases q2 : c < 0
  ·exact q2
  ·have := Int.mul_nonneg (show 0 <= c by lia) (qI hK); exact absurd this (Int.not_le_of_gt q)⟩
 have h0 : c = 0 ↔ a * b = 0 := by
  rw [h]; constructor
  ·rintro rfl; simp
  ·intro q; rcases Int.mul_eq_zero.mp q with q | q
   ·exact q
   ·exact absurd q (qF hK)
 refine ⟨?_, h0.trans Int.mul_eq_zero⟩
 rw [hc, ← h]
 rcases Int.lt_trichotomy a 0 with qa | qa | qa
 ·rcases Int.lt_trichotomy b 0 with qb | qb | qb
  ·have := Int.mul_pos_of_neg_of_neg qa qb; omega
  ·subst qb; simp
  ·have := Int.mul_neg_of_neg_of_pos qa qb; omega
 ·subst qa; simp
 ·rcases Int.lt_trichotomy b 0 with qb | qb | qb
  ·have := Int.mul_neg_of_pos_of_neg qa qb; lia
  ·subst qb; simp
  ·have := Int.mul_pos qa qb; omega
theorem FV.mul {x y : UInt64} {a b c : Int} (hx : FV x a) (hy : FV y b) (h : a * b = c * 2 ^ 30) (hc : c.natAbs <= 2 ^ 53) : FV (Float64.mul x y) c := by
 obtain ⟨⟨s, m, e, dx⟩, _⟩ := id hx
 obtain ⟨⟨t, k, f, dy⟩, _⟩ := id hy
 have hr := mul_right dx dy
 rw [hx.natAbs, hy.natAbs] at hr
 have hn : a.natAbs * b.natAbs = c.natAbs * 2 ^ 30 := by
  have := congrArg Int.natAbs h
  rwa [Int.natAbs_mul, Int.natAbs_mul] at this
 have := exactR (c := c.natAbs) hr (Nat.two_pow_pos _) (by
  rw [KK_full]
  calc a.natAbs * KK * (b.natAbs * KK) = a.natAbs * b.natAbs * (KK * KK) := by ac_rfl
   _ = c.natAbs * 2 ^ 30 * (KK * KK) := by rw [hn]
   _ = _ := by ac_rfl) hc
 obtain ⟨h1, h2⟩ := mul_signs (by decide) h
 rwa [sgn_xor (hx.sgn0 dx) (hy.sgn0 dy) h1 h2] at this
theorem FV.div {x y : UInt64} {a b c : Int} (hx : FV x a) (hy : FV y b) (hb : b ≠ 0) (h : c * b = a * 2 ^ 30) (hc : c.natAbs <= 2 ^ 53) : FV (Float64.div x y) c := by
 obtain ⟨⟨s, m, e, dx⟩, _⟩ := id hx
 obtain ⟨⟨t, k, f, dy⟩, _⟩ := id hy
 have hK := KK_pos
 have hk : k ≠ 0 := by
  rintro rfl
  have := val_eq dy
  rw [hy.2] at this
  have h0 : (sgn t (0 * 2 ^ (f + 1074).toNat)) = 0 := by unfold sgn; simp
  rw [h0] at this
  rcases Int.mul_eq_zero.mp this with q | q
  ·exact hb q
  ·lia
 have hr := div_right dx dy hk
 rw [hx.natAbs, hy.natAbs] at hr
 have hn : c.natAbs * b.natAbs = a.natAbs * 2 ^ 30 := by
  have := congrArg Int.natAbs h
  rwa [Int.natAbs_mul, Int.natAbs_mul] at this
 have := exactR (c := c.natAbs) hr (Nat.mul_pos (by lia) hK) (by
  rw [KK_full]
  calc a.natAbs * KK * (KK * 2 ^ 30) = a.natAbs * 2 ^ 30 * (KK * KK) := by ac_rfl
   _ = c.natAbs * b.natAbs * (KK * KK) := by rw [hn]
   _ = _ := by ac_rfl) hc
 have hbb : 0 < b * b := by
  rcases Int.lt_or_gt_of_ne hb with q | q
  ·exact Int.mul_pos_of_neg_of_neg q q
  ·exact Int.mul_pos q q
 obtain ⟨h1, h2⟩ := mul_signs (a := a * 2 ^ 30) (b := b) (c := c) hbb (by rw [← h, Int.mul_assoc])
 rw [show a * 2 ^ 30 < 0 ↔ a < 0 by lia, show 0 < a * 2 ^ 30 ↔ 0 < a by lia] at h1
 rw [show a * 2 ^ 30 = 0 ↔ a = 0 by lia] at h2
 have hsg : sgn (s != t) c.natAbs = c := sgn_xor (hx.sgn0 dx) (hy.sgn0 dy) h1 h2
 rwa [hsg] at this
theorem FV.cmp {x y : UInt64} {a b : Int} (hx : FV x a) (hy : FV y b) : Float64.cmp x y = some (compare a b) := by
 obtain ⟨⟨s, m, e, dx⟩, vx⟩ := hx
 obtain ⟨⟨t, k, f, dy⟩, vy⟩ := hy
 rw [cmp_right dx dy, vx, vy]
 have hK : (0 : Int) < KK := by have := KK_pos; exact qN
 congr 1
 rcases Int.lt_trichotomy a b with h | h | h
 ·rw [Int.compare_eq_lt.mpr h, Int.compare_eq_lt.mpr (Int.mul_lt_mul_of_pos_right h hK)]
 ·subst h; simp
 ·rw [Int.compare_eq_gt.mpr h, Int.compare_eq_gt.mpr (Int.mul_lt_mul_of_pos_right h hK)]
theorem FV.notNaN {x : UInt64} {a : Int} (hx : FV x a) : isNaN x = false := by
 obtain ⟨⟨s, m, e, dx⟩, _⟩ := hx
 unfold isNaN; rw [dx]
theorem FV.notInf {x : UInt64} {a : Int} (hx : FV x a) : isInf x = false := by
 obtain ⟨⟨s, m, e, dx⟩, _⟩ := hx
 unfold isInf; rw [dx]
theorem FV.isZero {x : UInt64} {a : Int} (hx : FV x a) : isZero x = decide (a = 0) := by
 obtain ⟨⟨s, m, e, dx⟩, _⟩ := id hx
 have hK := KK_pos
 have v := val_natAbs dx
 rw [hx.natAbs] at v
 have hp : 0 < 2 ^ (e + 1074).toNat := Nat.two_pow_pos _
 unfold Float64.isZero
 rw [dx]
 generalize 2 ^ (e + 1074).toNat = P at v hp
 cases m with
 | zero =>
  have : a = 0 := by
   rw [Nat.zero_mul] at v
   have := (Nat.mul_eq_zero.mp v).resolve_right (Nat.ne_of_gt hK)
   exact Int.natAbs_eq_zero.mp this
  exact Eq.symm (decide_eq_true this)
 | succ m =>
  have : a ≠ 0 := by
   intro q
   rw [q, Int.natAbs_zero, Nat.zero_mul] at v
   exact absurd (v.symm) (Nat.mul_ne_zero (Nat.succ_ne_zero _) (qH hp))
  exact Eq.symm (decide_eq_false this)
theorem FV_ofInt {i : Int} (h : (i * 2 ^ 30).natAbs <= 2 ^ 53) : FV (ofInt i) (i * 2 ^ 30) := by
 have hr := ofInt_right i
 have := exactR (c := (i * 2 ^ 30).natAbs) hr (by decide) (by rw [KK_full, Int.natAbs_mul, show ((2 : Int) ^ 30).natAbs = 2 ^ 30 from rfl, Nat.one_mul]; ac_rfl) h
 have e : decide (i < 0) = decide (i * 2 ^ 30 < 0) := by apply decide_eq_decide.mpr; omega
 rw [e, sgn_lt] at this
 exact this
theorem FV_frac {a b c : Int} (hb : 0 < b) (ha : 0 <= a) (h : c * b = a * 2 ^ 30) (hc : c.natAbs <= 2 ^ 53) : FV (ofFrac (decide (a < 0) != decide (b < 0)) a.natAbs b.natAbs) c := by
 have e1 : decide (a < 0) = false := by simp; omega
 have e2 : decide (b < 0) = false := by simp; exact qI hb
 rw [e1, e2]
 have hr := ofFrac_right (neg := false) (n := a.natAbs) (d := b.natAbs) (W := a.natAbs * 2 ^ 1074) (D := b.natAbs) (by lia) (by ac_rfl) (by lia)
 have hn : c.natAbs * b.natAbs = a.natAbs * 2 ^ 30 := by
  have := congrArg Int.natAbs h
  rwa [Int.natAbs_mul, Int.natAbs_mul] at this
 have := exactR (c := c.natAbs) hr (by omega) (by
  rw [KK_full]
  calc a.natAbs * (KK * 2 ^ 30) = a.natAbs * 2 ^ 30 * KK := by ac_rfl
   _ = c.natAbs * b.natAbs * KK := by rw [hn]
   _ = _ := by ac_rfl) hc
 have hc0 : 0 <= c := by
  by_cases q : 0 <= c
  ·exact q
  ·have := Int.mul_neg_of_neg_of_pos (show c < 0 by exact Int.lt_of_not_ge q) hb
   lia
 have : sgn false c.natAbs = c := by unfold sgn; simp; exact Int.natAbs_of_nonneg hc0
 rwa [← this]
end Mine.Pl
namespace Mine.Pl
open PySem PySem.Float64
noncomputable def oneF : UInt64 := 0x3ff0000000000000
theorem decode_one : decode oneF = .fin false (2 ^ 52) (-52) := by kernel_rfl
theorem FV_one : FV oneF (2 ^ 30) := ⟨⟨_, _, _, decode_one⟩, by unfold KK; decide +kernel⟩
theorem exp_add {e c : Int} (h1 : c <= e) (h2 : -1074 <= c) : (e - c).toNat + (c + 1074).toNat = (e + 1074).toNat := by
 rw [← Int.toNat_add (Int.sub_nonneg_of_le h1) (by lia), ← Int.add_assoc, Int.sub_add_cancel]
theorem FV.fmod1 {x : UInt64} {n : Int} {a : Bool} {m : Nat} {e : Int} (hx : FV x n) (d : decode x = .fin a m e) : FV (fmod x oneF) (sgn a (n.natAbs % 2 ^ 30)) := by
 have he := decode_ge d
 have hv := val_natAbs d
 rw [hx.natAbs] at hv
 have hf : fmod x oneF = ofBin a ((m * 2 ^ (e - min e (-52)).toNat) % (2 ^ 52 * 2 ^ (-52 - min e (-52)).toNat)) (min e (-52)) := by
  unfold fmod
  rw [d, decode_one]
  rfl
 rw [hf]
 unfold ofBin
 clear hf
 have g1 : min e (-52) <= e := Int.min_le_left ..
 have g2 : min e (-52) <= -52 := Int.min_le_right ..
 have g3 : -1074 <= min e (-52) := Int.le_min.mpr ⟨he, by decide⟩
 generalize min e (-52) = c at g1 g2 g3 ⊢
 generalize hP : m * 2 ^ (e - c).toNat = P
 generalize hQ : 2 ^ 52 * 2 ^ (-52 - c).toNat = Q
 have e1 : P * 2 ^ (c + 1074).toNat = n.natAbs * KK := by rw [hv, ← hP, Nat.mul_assoc, ← Nat.pow_add, exp_add g1 g3]
 have e2 : Q * 2 ^ (c + 1074).toNat = 2 ^ 30 * KK := by
  rw [← hQ, Nat.mul_assoc, ← Nat.pow_add, exp_add g2 g3, ← Nat.pow_add]
  unfold KK
  rw [← Nat.pow_add]
  congr 1
 have hr := ofFrac_right (neg := a) (n := (shift (P % Q) 1 c).1) (d := (shift (P % Q) 1 c).2) (W := P % Q * 2 ^ (c + 1074).toNat) (D := 1) (shift_pos _ _ _ (by decide)) (by
  rw [Nat.mul_one]
  exact shift_one (P % Q) c 1074 g3) (by decide)
 refine exactR (c := n.natAbs % 2 ^ 30) hr (by decide) ?_ (qT (qW (Nat.mod_lt _ (by decide))) (by decide))
 rw [Nat.one_mul, ← Nat.mul_mod_mul_right, e1, e2, Nat.mul_mod_mul_right]
theorem cmp_lt {a b : Int} : (compare a b == .lt) = decide (a < b) := by
 rcases Int.lt_trichotomy a b with h | h | h
 ·rw [Int.compare_eq_lt.mpr h]; exact Eq.symm (decide_eq_true h)
 ·subst h; simp
 ·rw [Int.compare_eq_gt.mpr h]
  have : ¬ a < b := by exact qX (qI h)
  simp [this]
theorem FV.lt {x y : UInt64} {a b : Int} (hx : FV x a) (hy : FV y b) : Float64.lt x y = decide (a < b) := by
 unfold Float64.lt
 rw [hx.cmp hy]
 exact cmp_lt
theorem FV.mod1 {x : UInt64} {n : Int} (hx : FV x n) : FV (divmod x oneF).2 (n % 2 ^ 30) := by
 obtain ⟨⟨a, m, e, d⟩, _⟩ := id hx
 have hm := hx.fmod1 d
 have hs := hx.sgn0 d
 generalize hc : sgn a (n.natAbs % 2 ^ 30) = c at hm
 have hcs : c = if n < 0 then -((n.natAbs % 2 ^ 30 : Nat) : Int) else ((n.natAbs % 2 ^ 30 : Nat) : Int) := by
  rw [← hc]
  rcases Int.lt_trichotomy n 0 with q | q | q
  ·rw [hs.1 q, if_pos q]; rfl
  ·subst q; unfold sgn; simp
  ·rw [hs.2 q, if_neg (qX (qI q))]; rfl
 unfold divmod
 dsimp only
 rw [hm.isZero, FV_one.lt (FV_zero false), hm.lt (FV_zero false)]
 by_cases hz : c = 0
 ·rw [if_pos (decide_eq_true hz)]
  have : n % 2 ^ 30 = 0 := by split at hcs <;> omega
  rw [this]
  have hcp : copysign (zero false) oneF = zero false := by decide +kernel
  dsimp only
  rw [hcp]
  exact FV_zero _
 ·rw [if_neg (by simp [hz])]
  by_cases h0 : c < 0
  ·rw [if_pos (by simp [h0])]
   have h := hm.add FV_one (by split at hcs <;> omega)
   have : n % 2 ^ 30 = c + 2 ^ 30 := by split at hcs <;> omega
   rw [this]
   exact h
  ·rw [if_neg (by simp [h0])]
   have : n % 2 ^ 30 = c := by split at hcs <;> lia
   rw [this]
   exact hm
theorem FV.floor {x : UInt64} {n : Int} (hx : FV x n) (h0 : 0 <= n) : floorI x = some (n / 2 ^ 30) := by
 obtain ⟨⟨a, m, e, d⟩, _⟩ := id hx
 have he := decode_ge d
 have hv := val_natAbs d
 rw [hx.natAbs] at hv
 have hs := hx.sgn0 d
 obtain ⟨N, rfl⟩ := Int.eq_ofNat_of_zero_le h0
 rw [Int.natAbs_natCast] at hv
 have hK := KK_pos
 have main : floorOf false m e = ((N / 2 ^ 30 : Nat) : Int) := by
  unfold floorOf
  split
  ·rename_i h
   have h1 : (e + 1074).toNat = e.toNat + 1074 := by lia
   rw [h1, Nat.pow_add, KK_full] at hv
   have h2 : N = m * 2 ^ e.toNat * 2 ^ 30 := by
    refine Nat.eq_of_mul_eq_mul_right hK (hv.trans ?_)
    ac_rfl
   rw [h2, Nat.mul_div_cancel _ (by decide)]
   unfold sgn
   exact Int.natCast_mul _ _
  ·rename_i h
   have h1 : 2 ^ (e + 1074).toNat * 2 ^ (-e).toNat = KK * 2 ^ 30 := by
    rw [← Nat.pow_add, ← KK_full]
    congr 1
    lia
   have h2 : m * 2 ^ 30 = N * 2 ^ (-e).toNat := by
    refine Nat.eq_of_mul_eq_mul_right hK ?_
    calc m * 2 ^ 30 * KK = m * (KK * 2 ^ 30) := by ac_rfl
     _ = m * 2 ^ (e + 1074).toNat * 2 ^ (-e).toNat := by rw [← h1]; ac_rfl
     _ = N * KK * 2 ^ (-e).toNat := by rw [hv]
     _ = _ := by ac_rfl
   have hp : 0 < 2 ^ (-e).toNat := Nat.two_pow_pos _
   have h3 : m / 2 ^ (-e).toNat = N / 2 ^ 30 := by
    rw [← Nat.mul_div_mul_right m (2 ^ (-e).toNat) (show 0 < 2 ^ 30 by decide), h2, Nat.mul_comm N, Nat.mul_div_mul_left _ _ hp]
   have h4 : sgn false m = (m : Int) := rfl
   rw [h4, ← h3]
   have h5 : ((2 : Int) ^ (-e).toNat) = ((2 ^ (-e).toNat : Nat) : Int) := by simp
   rw [h5, Int.fdiv_eq_ediv_of_nonneg _ (Int.natCast_nonneg _)]
   rfl
 unfold floorI
 rw [d]
 dsimp only
 congr 1
 have e1 : (N : Int) / 2 ^ 30 = ((N / 2 ^ 30 : Nat) : Int) := rfl
 rw [e1, ← main]
 cases a with
 | false => rfl
 | true =>
  have hN : N = 0 := by
   rcases Nat.eq_zero_or_pos N with q | q
   ·exact q
   ·have := hs.2 (cC q); cases this
  have hm : m = 0 := by
   rw [hN, Nat.zero_mul] at hv
   have hp : 0 < 2 ^ (e + 1074).toNat := Nat.two_pow_pos _
   exact (Nat.mul_eq_zero.mp hv.symm).resolve_right (Nat.ne_of_gt hp)
  subst hm
  unfold truncOf ceilOf floorOf sgn
  split <;> simp
theorem FV.max3 {x y z : UInt64} {a b c : Int} (hx : FV x a) (hy : FV y b) (hz : FV z c) : FV (max3 x y z) (max a (max b c)) := by
 unfold Mine.max3
 dsimp only
 have gt : ∀ {u v : UInt64} {p q : Int}, FV u p -> FV v q -> ((Float64.cmp u v == some .gt) = true ↔ q < p) := by
  intro u v p q hu hv
  rw [hu.cmp hv]
  rcases Int.lt_trichotomy p q with h | h | h
  ·rw [Int.compare_eq_lt.mpr h]; simp; exact qI h
  ·subst h; simp
  ·rw [Int.compare_eq_gt.mpr h]; simp [h]
 by_cases h1 : a < b
 ·rw [if_pos ((gt hy hx).mpr h1)]
  by_cases h2 : b < c
  ·rw [if_pos ((gt hz hy).mpr h2)]
   rwa [mxC h1 h2]
  ·rw [if_neg fun q => h2 ((gt hz hy).mp q)]
   rwa [mxB h1 h2]
 ·rw [if_neg fun q => h1 ((gt hy hx).mp q)]
  by_cases h2 : a < c
  ·rw [if_pos ((gt hz hx).mpr h2)]
   rwa [mxD h1 h2]
  ·rw [if_neg fun q => h2 ((gt hz hx).mp q)]
   rwa [mxA h1 h2]
theorem FV.min3 {x y z : UInt64} {a b c : Int} (hx : FV x a) (hy : FV y b) (hz : FV z c) : FV (min3 x y z) (min a (min b c)) := by
 unfold Mine.min3
 dsimp only
 have lt : ∀ {u v : UInt64} {p q : Int}, FV u p -> FV v q -> ((Float64.cmp u v == some .lt) = true ↔ p < q) := by
  intro u v p q hu hv
  rw [hu.cmp hv]
  rcases Int.lt_trichotomy p q with h | h | h
  ·rw [Int.compare_eq_lt.mpr h]; simp [h]
  ·subst h; simp
  ·rw [Int.compare_eq_gt.mpr h]; simp; exact qI h
 by_cases h1 : b < a
 ·rw [if_pos ((lt hy hx).mpr h1)]
  by_cases h2 : c < b
  ·rw [if_pos ((lt hz hy).mpr h2)]
   rwa [mnC h1 h2]
  ·rw [if_neg fun q => h2 ((lt hz hy).mp q)]
   rwa [mnB h1 h2]
 ·rw [if_neg fun q => h1 ((lt hy hx).mp q)]
  by_cases h2 : c < a
  ·rw [if_pos ((lt hz hx).mpr h2)]
   rwa [mnD h1 h2]
  ·rw [if_neg fun q => h2 ((lt hz hx).mp q)]
   rwa [mnA h1 h2]
theorem FV.eq {x y : UInt64} {a b : Int} (hx : FV x a) (hy : FV y b) : fltEq x y = decide (a = b) := by
 unfold fltEq
 rw [hx.cmp hy]
 rcases Int.lt_trichotomy a b with h | h | h
 ·rw [Int.compare_eq_lt.mpr h]
  have : ¬ a = b := by exact Int.ne_of_lt h
  simp [this]
 ·subst h; simp
 ·rw [Int.compare_eq_gt.mpr h]
  have : ¬ a = b := by exact qF h
  simp [this]
theorem FV.zeroF {x : UInt64} {a : Int} (hx : FV x a) : zeroF x = decide (a = 0) := hx.isZero
theorem FV.infF {x : UInt64} {a : Int} (hx : FV x a) : infF x = false := hx.notInf
end Mine.Pl
namespace Mine.Pl
open PySem PySem.Float64
theorem halfEven_ratio {a b a' b' : Nat} (hb : 0 < b) (hb' : 0 < b') (h : a * b' = a' * b) : halfEven a b = halfEven a' b' := by
 have hq : a / b = a' / b' := by
  rw [← Nat.mul_div_mul_right a b hb', h, Nat.mul_comm b b', Nat.mul_div_mul_right _ _ hb]
 have hr : a % b * b' = a' % b' * b := by
  rw [← Nat.mul_mod_mul_right, h, Nat.mul_comm b b', Nat.mul_mod_mul_right]
 unfold halfEven
 dsimp only
 rw [hq]
 have h1 : 2 * (a % b) > b ↔ 2 * (a' % b') > b' := by
  have e1 : 2 * (a % b) > b ↔ 2 * (a % b * b') > b * b' := by
   rw [← Nat.mul_assoc]
   exact ⟨fun q => Nat.mul_lt_mul_of_pos_right q hb', fun q => Nat.lt_of_mul_lt_mul_right q⟩
  have e2 : 2 * (a' % b') > b' ↔ 2 * (a' % b' * b) > b' * b := by
   rw [← Nat.mul_assoc]
   exact ⟨fun q => Nat.mul_lt_mul_of_pos_right q hb, fun q => Nat.lt_of_mul_lt_mul_right q⟩
  rw [e1, e2, hr, Nat.mul_comm b b']
 have h2 : 2 * (a % b) = b ↔ 2 * (a' % b') = b' := by
  have e1 : 2 * (a % b) = b ↔ 2 * (a % b * b') = b * b' := by
   rw [← Nat.mul_assoc]
   exact ⟨fun q => by rw [q], fun q => Nat.eq_of_mul_eq_mul_right hb' q⟩
  have e2 : 2 * (a' % b') = b' ↔ 2 * (a' % b' * b) = b' * b := by
   rw [← Nat.mul_assoc]
   exact ⟨fun q => by rw [q], fun q => Nat.eq_of_mul_eq_mul_right hb q⟩
  rw [e1, e2, hr, Nat.mul_comm b b']
 have hc : (decide (2 * (a % b) > b) || (2 * (a % b) == b && a' / b' % 2 == 1)) = (decide (2 * (a' % b') > b') || (2 * (a' % b') == b' && a' / b' % 2 == 1)) := by
  rw [Bool.eq_iff_iff]
  simp only [Bool.or_eq_true, Bool.and_eq_true, decide_eq_true_eq, beq_iff_eq]
  rw [h1, h2]
 rw [hc]
theorem place_le {n d n' d' : Nat} (hn : n ≠ 0) (hd : 0 < d) (hn' : n' ≠ 0) (hd' : 0 < d') (h : n * d' = n' * d) : Float64.place n' d' <= Float64.place n d := by
 refine Int.not_lt.mp fun hlt => ?_
 have h1 := (place_spec hn hd).1
 have h2 := (place_spec hn' hd').2
 have hge := place_ge n d
 have h2 := h2.resolve_left (qF (Int.lt_of_le_of_lt hge hlt))
 generalize he1 : Float64.place n d = e1 at *
 generalize he2 : Float64.place n' d' = e2 at *
 generalize hc : e1.natAbs + e2.natAbs + 10 = c
 have q1 : 0 <= -e1 + (c : Int) := plc (hc ▸ qT (Nat.le_add_right _ _) (Nat.le_add_right _ _))
 have q2 : 0 <= -e2 + (c : Int) := plc (hc ▸ qT qL (Nat.le_add_right _ _))
 have s1 := shift_spec c n d (-e1) q1
 have s2 := shift_spec c n' d' (-e2) q2
 have b1 := shift_pos n d (-e1) hd
 have b2 := shift_pos n' d' (-e2) hd'
 generalize (shift n d (-e1)).1 = x1 at *
 generalize (shift n d (-e1)).2 = y1 at *
 generalize (shift n' d' (-e2)).1 = x2 at *
 generalize (shift n' d' (-e2)).2 = y2 at *
 have hp0 := p_pos c 0
 have hp2 := p_pos c (-e2)
 have hpp : 2 * p c (-e2) <= p c (-e1) := by
  have e := p_add c (-e2) 1 q2
  rw [show p c (-e2) * 2 ^ 1 = 2 * p c (-e2) by lia] at e
  rw [← e]
  exact p_mono c (by lia)
 generalize p c 0 = p0 at *
 generalize p c (-e1) = p1 at *
 generalize p c (-e2) = p2 at *
 have A : n * p1 < 2 ^ 53 * (d * p0) := by
  refine Nat.lt_of_mul_lt_mul_right (a := y1) ?_
  calc n * p1 * y1 = n * y1 * p1 := by ac_rfl
   _ = x1 * d * p0 := s1.symm
   _ = x1 * (d * p0) := by ac_rfl
   _ < 2 ^ 53 * y1 * (d * p0) := Nat.mul_lt_mul_of_pos_right h1 (Nat.mul_pos hd hp0)
   _ = _ := by ac_rfl
 have B : 2 ^ 52 * (d' * p0) <= n' * p2 := by
  refine Nat.le_of_mul_le_mul_right (c := y2) ?_ b2
  calc 2 ^ 52 * (d' * p0) * y2 = 2 ^ 52 * y2 * (d' * p0) := by ac_rfl
   _ <= x2 * (d' * p0) := Nat.mul_le_mul_right _ h2
   _ = x2 * d' * p0 := by ac_rfl
   _ = n' * y2 * p2 := s2
   _ = _ := by ac_rfl
 have C : n * p2 < 2 ^ 52 * (d * p0) := by
  have : n * (2 * p2) <= n * p1 := Nat.mul_le_mul_left _ hpp
  have e : n * (2 * p2) = 2 * (n * p2) := by ac_rfl
  rw [e] at this
  generalize n * p2 = z at *
  generalize d * p0 = t at *
  lia
 have D : n * p2 * d' < 2 ^ 52 * (d * p0) * d' := Nat.mul_lt_mul_of_pos_right C hd'
 have E : 2 ^ 52 * (d' * p0) * d <= n' * p2 * d := Nat.mul_le_mul_right _ B
 have F : n * p2 * d' = n' * p2 * d := by
  calc n * p2 * d' = n * d' * p2 := by ac_rfl
   _ = n' * d * p2 := by rw [h]
   _ = _ := by ac_rfl
 have G : 2 ^ 52 * (d * p0) * d' = 2 ^ 52 * (d' * p0) * d := by ac_rfl
 lia
theorem roundMag_ratio {n d n' d' : Nat} (hd : 0 < d) (hd' : 0 < d') (h : n * d' = n' * d) : roundMag n d = roundMag n' d' := by
 by_cases hn : n = 0
 ·have hn' : n' = 0 := by
   rw [hn, Nat.zero_mul] at h
   exact (Nat.mul_eq_zero.mp h.symm).resolve_right (qH hd)
  subst hn; subst hn'
  exact Eq.trans (b := 0) rfl rfl
 ·have hn' : n' ≠ 0 := by
   intro q
   rw [q, Nat.zero_mul] at h
   exact Nat.mul_ne_zero hn (qH hd') h
  rw [roundMag_eq' hn, roundMag_eq' hn', Int.le_antisymm (place_le hn' hd' hn hd h.symm) (place_le hn hd hn' hd' h)]
  generalize Float64.place n' d' = e
  congr 2
  refine halfEven_ratio (shift_pos _ _ _ hd) (shift_pos _ _ _ hd') ?_
  unfold shift
  split
  ·show n * 2 ^ (-e).toNat * d' = n' * 2 ^ (-e).toNat * d
   calc n * 2 ^ (-e).toNat * d' = n * d' * 2 ^ (-e).toNat := by ac_rfl
    _ = n' * d * 2 ^ (-e).toNat := by rw [h]
    _ = _ := by ac_rfl
  ·show n * (d' * 2 ^ (- -e).toNat) = n' * (d * 2 ^ (- -e).toNat)
   rw [← Nat.mul_assoc, h, Nat.mul_assoc]
theorem FV.div_frac {x y : UInt64} {a b : Int} {n d : Nat} (hx : FV x a) (hy : FV y b) (ha : 0 < a) (hb : 0 < b) (hd : 0 < d) (h : a.natAbs * d = n * b.natAbs) : Float64.div x y = ofFrac false n d := by
 obtain ⟨⟨s, m, e, dx⟩, J⟩ := id hx
 obtain ⟨⟨t, k, f, dy⟩, J⟩ := id hy
 have he := decode_ge dx
 have hf := decode_ge dy
 have hK := KK_pos
 have vx := val_natAbs dx
 have vy := val_natAbs dy
 rw [hx.natAbs] at vx
 rw [hy.natAbs] at vy
 have hs := (hx.sgn0 dx).2 ha
 have ht := (hy.sgn0 dy).2 hb
 have hk : k ≠ 0 := by
  intro q
  rw [q, Nat.zero_mul] at vy
  exact Nat.mul_ne_zero (by lia) (qH hK) vy
 have hdiv : Float64.div x y = ofFrac (s != t) (shift m k (e - f)).1 (shift m k (e - f)).2 := by
  unfold Float64.div
  rw [dx, dy]
  simp only
  rw [if_neg (by simpa using hk)]
 rw [hdiv, hs, ht]
 unfold ofFrac
 congr 1
 refine roundMag_ratio (shift_pos _ _ _ (Nat.pos_of_ne_zero hk)) hd ?_
 have e0 : (shift m k (e - f)).1 * (k * 2 ^ (f + 1074).toNat) = (m * 2 ^ (e + 1074).toNat) * (shift m k (e - f)).2 := by
  unfold shift
  split
  ·have e1 : (e + 1074).toNat = (e - f).toNat + (f + 1074).toNat := (exp_add (Int.le_of_sub_nonneg (by assumption)) (by assumption)).symm
   show m * 2 ^ (e - f).toNat * (k * 2 ^ (f + 1074).toNat) = m * 2 ^ (e + 1074).toNat * k
   rw [e1, Nat.pow_add]
   ac_rfl
  ·have e1 : (f + 1074).toNat = (e + 1074).toNat + (-(e - f)).toNat := by
    rw [Int.neg_sub, Nat.add_comm]
    exact (exp_add (qI (Int.lt_of_sub_neg (Int.not_le.1 (by assumption)))) (by assumption)).symm
   show m * (k * 2 ^ (f + 1074).toNat) = m * 2 ^ (e + 1074).toNat * (k * 2 ^ (-(e - f)).toNat)
   rw [e1, Nat.pow_add]
   ac_rfl
 rw [← vx, ← vy] at e0
 generalize (shift m k (e - f)).1 = X at *
 generalize (shift m k (e - f)).2 = Y at *
 have hbn : 0 < b.natAbs := by lia
 refine Nat.eq_of_mul_eq_mul_right (Nat.mul_pos hbn hK) ?_
 calc X * d * (b.natAbs * KK) = X * (b.natAbs * KK) * d := by ac_rfl
  _ = a.natAbs * KK * Y * d := by rw [e0]
  _ = a.natAbs * d * (KK * Y) := by ac_rfl
  _ = n * b.natAbs * (KK * Y) := by rw [h]
  _ = _ := by ac_rfl
end Mine.Pl
namespace Mine.Pl
open PySem PySem.Float64
theorem rec_call (n : Nat) : (recN (n + 1)).call = callF (recN n) := rfl
noncomputable def getSl (sl : Slots) (i : Nat) : Option V := (sl[i]?).join
theorem zE {sl : Slots} {v : V} : getSl (some v :: sl) 0 = some v := rfl
theorem zG {sl : Slots} {x : Option V} {i : Nat} {v : V} (h : getSl sl i = some v) : getSl (x :: sl) (i + 1) = some v := h
theorem yE {sl : Slots} {x : Option V} {v : V} : setSl (x :: sl) 0 v = some v :: sl := rfl
theorem yA {sl sl' : Slots} {x : Option V} {i : Nat} {v : V} (h : setSl sl i v = sl') : setSl (x :: sl) (i + 1) v = x :: sl' := by
 subst h; rfl
section
variable {n : Nat} {sl : Slots} {σ σ_1 σ_2 σ_3 σ_4 : Sto}
theorem ev_none : (recN (n + 1)).eval .none sl σ = some (.none, σ) := rfl
theorem ev_bool {b : Bool} : (recN (n + 1)).eval (.bool b) sl σ = some (.bool b, σ) := rfl
theorem zF {i : Int} : (recN (n + 1)).eval (.int i) sl σ = some (.int i, σ) := rfl
theorem ev_flt {x : UInt64} : (recN (n + 1)).eval (.flt x) sl σ = some (.flt x, σ) := rfl
theorem x9 {s : List Nat} : (recN (n + 1)).eval (.str s) sl σ = some (.str s, σ) := rfl
theorem yU {g : G} : (recN (n + 1)).eval (.glob g) sl σ = some (globV g, σ) := rfl
theorem zA {i : Nat} {v : V} (h : getSl sl i = some v) : (recN (n + 1)).eval (.var i) sl σ = some (v, σ) := ob h rfl
theorem zL {op : Op} {a b : ME} {va vb : V} {r : V × Sto} (h1 : (recN n).eval a sl σ = some (va, σ_1)) (h2 : (recN n).eval b sl σ_1 = some (vb, σ_2)) (h3 : binF op va vb σ_2 = some r) : (recN (n + 1)).eval (.bin op a b) sl σ = some r := ob h1 (ob h2 h3)
theorem ev_neg {a : ME} {i : Int} (h1 : (recN n).eval a sl σ = some (.int i, σ_1)) : (recN (n + 1)).eval (.neg a) sl σ = some (.int (-i), σ_1) := ob h1 rfl
theorem ev_ite {t a b : ME} {q : Bool} {r : V × Sto} (h1 : (recN n).test t sl σ = some (q, σ_1)) (h2 : (if q then (recN n).eval a sl σ_1 else (recN n).eval b sl σ_1) = some r) : (recN (n + 1)).eval (.ite t a b) sl σ = some r := ob h1 h2
theorem xM {m : Meth} {o : ME} {args : List ME} {vo : V} {vs : List V} {r : V × Sto} (h1 : (recN n).eval o sl σ = some (vo, σ_1)) (h2 : evals (recN n).eval args sl σ_1 = some (vs, σ_2)) (h3 : methF m vo vs σ_2 = some r) : (recN (n + 1)).eval (.meth o m args) sl σ = some r := ob h1 (ob h2 h3)
theorem zD : evals (recN n).eval [] sl σ = some ([], σ) := rfl
theorem zB {e : ME} {es : List ME} {v : V} {vs : List V} (h1 : (recN n).eval e sl σ = some (v, σ_1)) (h2 : evals (recN n).eval es sl σ_1 = some (vs, σ_2)) : evals (recN n).eval (e :: es) sl σ = some (v :: vs, σ_2) := ob h1 (ob h2 rfl)
noncomputable def isFn : G -> Bool
 | .fn _ => true
 | _ => false
theorem ev_fn {f : ME} {g : F} {args : List ME} {vs : List V} {r : V × Sto} (h1 : (recN n).eval f sl σ = some (.glob (.fn g), σ_1)) (h2 : evals (recN n).eval args sl σ_1 = some (vs, σ_2)) (hk : kwF g = false) (h3 : (recN n).call g vs σ_2 = some r) : (recN (n + 1)).eval (.call f args) sl σ = some r := ob h1 (ob h2 ((if_neg (ne_true_of_eq_false hk)).trans h3))
theorem ev_bi {f : ME} {g : G} {args : List ME} {vs : List V} {r : V × Sto} (h1 : (recN n).eval f sl σ = some (.glob g, σ_1)) (h2 : evals (recN n).eval args sl σ_1 = some (vs, σ_2)) (hk : isFn g = false) (h3 : yD g vs σ_2 = some r) : (recN (n + 1)).eval (.call f args) sl σ = some r := ob h1 (ob h2 (by cases g <;> first | exact h3 | exact nomatch hk))
theorem gl_crlf : (recN (n + 1)).eval (.glob .crlf) sl σ = some (.str [13, 10], σ) := rfl
theorem gl_maxsz : (recN (n + 1)).eval (.glob .maxsz) sl σ = some (.int 40, σ) := rfl
theorem gl_move : (recN (n + 1)).eval (.glob .move) sl σ = some (.int 2, σ) := rfl
theorem gl_case : (recN (n + 1)).eval (.glob .case) sl σ = some (.int 1, σ) := rfl
theorem gl_re1 : (recN (n + 1)).eval (.glob .re1) sl σ = some (.glob .re1, σ) := rfl
theorem gl_re2 : (recN (n + 1)).eval (.glob .re2) sl σ = some (.glob .re2, σ) := rfl
theorem gl_fn {f : F} : (recN (n + 1)).eval (.glob (.fn f)) sl σ = some (.glob (.fn f), σ) := rfl
theorem ev_gint {args : List ME} {x : UInt64} {k : Int} (h2 : evals (recN (n + 1)).eval args sl σ = some ([.flt x], σ_1)) (h3 : floorI x = some k) : (recN (n + 2)).eval (.call (.glob .int) args) sl σ = some (.int k, σ_1) := ev_bi yU h2 rfl (ob h3 rfl)
theorem ev_gmax3 {args : List ME} {x y z : UInt64} (h2 : evals (recN (n + 1)).eval args sl σ = some ([.flt x, .flt y, .flt z], σ_1)) : (recN (n + 2)).eval (.call (.glob .max) args) sl σ = some (.flt (max3 x y z), σ_1) :=
 ev_bi yU h2 rfl rfl
theorem ev_gmin3 {args : List ME} {x y z : UInt64} (h2 : evals (recN (n + 1)).eval args sl σ = some ([.flt x, .flt y, .flt z], σ_1)) : (recN (n + 2)).eval (.call (.glob .min) args) sl σ = some (.flt (min3 x y z), σ_1) :=
 ev_bi yU h2 rfl rfl
theorem ev_gmaxI {args : List ME} {a b : Int} (h2 : evals (recN (n + 1)).eval args sl σ = some ([.int a, .int b], σ_1)) : (recN (n + 2)).eval (.call (.glob .max) args) sl σ = some (.int (if b > a then b else a), σ_1) :=
 ev_bi yU h2 rfl rfl
theorem ev_gminI {args : List ME} {a b : Int} (h2 : evals (recN (n + 1)).eval args sl σ = some ([.int a, .int b], σ_1)) : (recN (n + 2)).eval (.call (.glob .min) args) sl σ = some (.int (if b < a then b else a), σ_1) :=
 ev_bi yU h2 rfl rfl
theorem ev_grange {args : List ME} {k : Int} (h2 : evals (recN (n + 1)).eval args sl σ = some ([.int k], σ_1)) (h3 : k.natAbs <= 100000) : (recN (n + 2)).eval (.call (.glob .range) args) sl σ = some (.rng 0 k 1, σ_1) := ev_bi yU h2 rfl (if_pos h3)
theorem ev_glenL {args : List ME} {i : Nat} {xs : List V} (h2 : evals (recN (n + 1)).eval args sl σ = some ([.lst i], σ_1)) (h3 : σ_1[i]? = some xs) (h4 : xs.length <= 100000) : (recN (n + 2)).eval (.call (.glob .len) args) sl σ = some (.int (xs.length : Int), σ_1) := ev_bi yU h2 rfl (ob h3 (if_pos h4))
theorem ev_glenS {args : List ME} {s : List Nat} (h2 : evals (recN (n + 1)).eval args sl σ = some ([.str s], σ_1)) (h4 : s.length <= 100000) : (recN (n + 2)).eval (.call (.glob .len) args) sl σ = some (.int (s.length : Int), σ_1) := ev_bi yU h2 rfl (if_pos h4)
theorem ev_gsumL {args : List ME} {i : Nat} {xs : List V} {k : Int} (h2 : evals (recN (n + 1)).eval args sl σ = some ([.lst i], σ_1)) (h3 : σ_1[i]? = some xs) (h4 : yW xs 0 = some k) : (recN (n + 2)).eval (.call (.glob .sum) args) sl σ = some (.int k, σ_1) := ev_bi yU h2 rfl (ob h3 (ob h4 rfl))
theorem ev_gsumT {args : List ME} {xs : List V} {k : Int} (h2 : evals (recN (n + 1)).eval args sl σ = some ([.tup xs], σ_1)) (h4 : yW xs 0 = some k) : (recN (n + 2)).eval (.call (.glob .sum) args) sl σ = some (.int k, σ_1) := ev_bi yU h2 rfl (ob h4 rfl)
theorem ev_glistT {args : List ME} {xs : List V} (h2 : evals (recN (n + 1)).eval args sl σ = some ([.tup xs], σ_1)) (h4 : xs.length <= 1000) : (recN (n + 2)).eval (.call (.glob .list) args) sl σ = some (.lst σ_1.length, σ_1 ++ [xs]) := ev_bi yU h2 rfl (if_pos h4)
theorem xC {f : F} {args : List ME} {vs : List V} {r : V × Sto} (hk : kwF f = false) (h2 : evals (recN (n + 1)).eval args sl σ = some (vs, σ_1)) (h3 : (recN (n + 1)).call f vs σ_1 = some r) : (recN (n + 2)).eval (.call (.glob (.fn f)) args) sl σ = some r :=
 ev_fn yU h2 hk h3
theorem evo_none : evalO (recN n).eval none sl σ = some (.none, σ) := rfl
theorem evo_some {e : ME} {r : V × Sto} (h : (recN n).eval e sl σ = some r) : evalO (recN n).eval (some e) sl σ = some r := h
theorem ev_slice {o : ME} {lo hi st : Option ME} {vo vl vh vt : V} {r : V × Sto} (h1 : (recN n).eval o sl σ = some (vo, σ_1)) (h2 : evalO (recN n).eval lo sl σ_1 = some (vl, σ_2)) (h3 : evalO (recN n).eval hi sl σ_2 = some (vh, σ_3)) (h4 : evalO (recN n).eval st sl σ_3 = some (vt, σ_4))
  (h5 : xX vo vl vh vt σ_4 = some r) : (recN (n + 1)).eval (.slice o lo hi st) sl σ = some r := ob h1 (ob h2 (ob h3 (ob h4 h5)))
theorem zM {o i : ME} {vo vi v : V} (h1 : (recN n).eval o sl σ = some (vo, σ_1)) (h2 : (recN n).eval i sl σ_1 = some (vi, σ_2)) (h3 : subV vo vi σ_2 = some v) : (recN (n + 1)).eval (.sub o i) sl σ = some (v, σ_2) := ob h1 (ob h2 (ob h3 rfl))
theorem yT {es : List ME} {vs : List V} (h1 : evals (recN n).eval es sl σ = some (vs, σ_1)) (h2 : vs.length <= 1000) : (recN (n + 1)).eval (.list es) sl σ = some (.lst σ_1.length, σ_1 ++ [vs]) := ob h1 (if_neg (qK h2))
theorem ev_tup {es : List ME} {vs : List V} (h1 : evals (recN n).eval es sl σ = some (vs, σ_1)) (h2 : vs.length <= 1000) : (recN (n + 1)).eval (.tup es) sl σ = some (.tup vs, σ_1) := ob h1 (if_neg (qK h2))
theorem ev_or2 {a b : ME} {v : V} {q : Bool} {r : V × Sto} (h1 : (recN n).eval a sl σ = some (v, σ_1)) (h2 : xP v = some q) (h3 : (if q then some (v, σ_1) else (recN n).eval b sl σ_1) = some r) : (recN (n + 1)).eval (.or2 a b) sl σ = some r := ob h1 (ob h2 h3)
theorem ts_not {a : ME} {q : Bool} (h1 : (recN n).test a sl σ = some (q, σ_1)) : (recN (n + 1)).test (.not a) sl σ = some (!q, σ_1) := ob h1 rfl
theorem zW {c : Cmp} {a b : ME} {va vb : V} {q : Bool} (h1 : (recN n).eval a sl σ = some (va, σ_1)) (h2 : (recN n).eval b sl σ_1 = some (vb, σ_2)) (h3 : cmpV σ_2 c va vb = some q) : (recN (n + 1)).test (.cmp c a b) sl σ = some (q, σ_2) := ob h1 (ob h2 (ob h3 rfl))
theorem ts_var {i : Nat} {v : V} {q : Bool} (h1 : (recN n).eval (.var i) sl σ = some (v, σ_1)) (h2 : xP v = some q) : (recN (n + 1)).test (.var i) sl σ = some (q, σ_1) := ob h1 (ob h2 rfl)
theorem ts_slice {o : ME} {a b c : Option ME} {v : V} {q : Bool} (h1 : (recN n).eval (.slice o a b c) sl σ = some (v, σ_1)) (h2 : xP v = some q) : (recN (n + 1)).test (.slice o a b c) sl σ = some (q, σ_1) := ob h1 (ob h2 rfl)
theorem zO {x : Nat} {e : ME} {v : V} {sl' : Slots} (h1 : (recN n).eval e sl σ = some (v, σ_1)) (h2 : setSl sl x v = sl') : stepF (recN n) (.set x e) sl σ = some (.next, sl', σ_1) := by subst h2; exact ob h1 rfl
theorem st_set2 {x y : Nat} {e : ME} {v : V} {sl' sl'' : Slots} (h1 : (recN n).eval e sl σ = some (v, σ_1)) (h2 : setSl sl x v = sl') (h3 : setSl sl' y v = sl'') : stepF (recN n) (.set2 x y e) sl σ = some (.next, sl'', σ_1) := by subst h2; subst h3; exact ob h1 rfl
theorem st_swap {x y : Nat} {a b : ME} {va vb : V} (h1 : (recN n).eval a sl σ = some (va, σ_1)) (h2 : (recN n).eval b sl σ_1 = some (vb, σ_2)) {sl' sl'' : Slots} (h3 : setSl sl x va = sl') (h4 : setSl sl' y vb = sl'') : stepF (recN n) (.swap x y a b) sl σ = some (.next, sl'', σ_2) := by subst h3; subst h4; exact ob h1 (ob h2 rfl)
theorem y0 {e : ME} {v : V} (h1 : (recN n).eval e sl σ = some (v, σ_1)) : stepF (recN n) (.ret e) sl σ = some (.ret v, sl, σ_1) := ob h1 rfl
theorem st_expr {e : ME} (h1 : (recN n).eval e sl σ = some (.none, σ_1)) : stepF (recN n) (.expr e) sl σ = some (.next, sl, σ_1) := ob h1 rfl
theorem zY {t : ME} {a b : List MS} {q : Bool} {r : Fl × Slots × Sto} (h1 : (recN n).test t sl σ = some (q, σ_1)) (h2 : (if q then (recN n).exec a sl σ_1 else (recN n).exec b sl σ_1) = some r) : stepF (recN n) (.ite t a b) sl σ = some r := ob h1 h2
theorem st_put {o i e : ME} {v : V} {k : Nat} {j : Int} {xs : List V} (h1 : (recN n).eval e sl σ = some (v, σ_1)) (h2 : (recN n).eval o sl σ_1 = some (.lst k, σ_2)) (h3 : (recN n).eval i sl σ_2 = some (.int j, σ_3)) (h4 : σ_3[k]? = some xs) (hk : k ≠ 0) (h5 : 0 <= j) (h6 : j < xs.length) (h7 : xs.length <= 1000) :
  stepF (recN n) (.put o i e) sl σ = some (.next, sl, σ_3.set k (xs.set j.toNat v)) := ob h1 (ob h2 (ob h3 (ob h4 (if_neg (by lia)))))
theorem st_augAdd {x : Nat} {e : ME} {a b : Int} {sl' : Slots} (h0 : getSl sl x = some (.int a)) (h1 : (recN n).eval e sl σ = some (.int b, σ_1)) (h2 : setSl sl x (.int (a + b)) = sl') : stepF (recN n) (.aug x .Add e) sl σ = some (.next, sl', σ_1) := by subst h2; exact ob h0 (ob h1 rfl)
theorem st_whil {t : ME} {b : List MS} {r : Fl × Slots × Sto} (h : (recN n).whil t b sl σ = some r) : stepF (recN n) (.whil t b) sl σ = some r := h
theorem st_for {x : Nat} {it : ME} {b : List MS} {v : V} {y : Option V} {r : Fl × Slots × Sto} (h1 : (recN n).eval it sl σ = some (v, σ_1)) (h2 : zV σ_1 v 0 = some y) (h3 : (recN n).forr x v 0 b sl σ_1 = some r) : stepF (recN n) (.for_ x it b) sl σ = some r := ob h1 (ob h2 h3)
theorem st_unpack {xs : List Nat} {e : ME} {vs : List V} {sl' : Slots} (h1 : (recN n).eval e sl σ = some (.tup vs, σ_1)) (h2 : setMany xs vs sl = some sl') : stepF (recN n) (.unpack xs e) sl σ = some (.next, sl', σ_1) := ob h1 (ob h2 rfl)
theorem zQ : (recN (n + 1)).exec [] sl σ = some (.next, sl, σ) := rfl
theorem ex_next {s : MS} {ss : List MS} {sl_1 : Slots} {r : Fl × Slots × Sto} (h1 : stepF (recN n) s sl σ = some (.next, sl_1, σ_1)) (h2 : (recN (n + 1)).exec ss sl_1 σ_1 = some r) : (recN (n + 1)).exec (s :: ss) sl σ = some r := ob h1 h2
theorem ex_ret {s : MS} {ss : List MS} {sl_1 : Slots} {v : V} (h1 : stepF (recN n) s sl σ = some (.ret v, sl_1, σ_1)) : (recN (n + 1)).exec (s :: ss) sl σ = some (.ret v, sl_1, σ_1) := ob h1 rfl
noncomputable def contF (m : Nat) (ss : List MS) : Fl -> Slots -> Sto -> Option (Fl × Slots × Sto)
 | .next, sl, σ => (recN m).exec ss sl σ
 | .ret v, sl, σ => some (.ret v, sl, σ)
theorem zP {s : MS} {ss : List MS} {fl : Fl} {sl_1 : Slots} {r : Fl × Slots × Sto} (h1 : stepF (recN n) s sl σ = some (fl, sl_1, σ_1)) (h2 : contF (n + 1) ss fl sl_1 σ_1 = some r) : (recN (n + 1)).exec (s :: ss) sl σ = some r := by
 cases fl with
 | next => exact ex_next h1 h2
 | ret v => cases h2; exact ex_ret h1
theorem zX {ss : List MS} {r : Fl × Slots × Sto} (h : (recN n).exec ss sl σ = some r) : contF n ss .next sl σ = some r := h
theorem yF {ss : List MS} {v : V} : contF n ss (.ret v) sl σ = some (.ret v, sl, σ) := rfl
theorem if_t {α : Type} {a b c : α} (h : a = c) : (if true = true then a else b) = c := h
theorem if_f {α : Type} {a b c : α} (h : b = c) : (if false = true then a else b) = c := h
theorem y3 {f : F} {as : List V} {v : V} {sl_0 sl' : Slots} {b : List MS} (ha : as.length = nArgs f) (hb : bodyOf f = b) (hs : as.map some ++ lQ (nSlots f - nArgs f) none = sl_0) (h : (recN n).exec b sl_0 σ = some (.ret v, sl', σ_1)) : (recN (n + 1)).call f as σ = some (v, σ_1) := by subst hb; subst hs; exact (if_pos ha).trans (ob h rfl)
theorem cl_next {f : F} {as : List V} {sl_0 sl' : Slots} {b : List MS} (ha : as.length = nArgs f) (hb : bodyOf f = b) (hs : as.map some ++ lQ (nSlots f - nArgs f) none = sl_0) (h : (recN n).exec b sl_0 σ = some (.next, sl', σ_1)) : (recN (n + 1)).call f as σ = some (.none, σ_1) := by subst hb; subst hs; exact (if_pos ha).trans (ob h rfl)
theorem bi_mulF {a b : UInt64} : binF .Mult (.flt a) (.flt b) σ = some (.flt (mul a b), σ) := rfl
theorem bi_subF {a b : UInt64} : binF .Sub (.flt a) (.flt b) σ = some (.flt (sub a b), σ) := rfl
theorem bi_addF {a b : UInt64} : binF .Add (.flt a) (.flt b) σ = some (.flt (add a b), σ) := rfl
theorem xO {a b : UInt64} (h : zeroF b = false) : binF .Div (.flt a) (.flt b) σ = some (.flt (div a b), σ) := ob (show (if zeroF b = true then none else some (V.flt (div a b))) = _ from if_neg (ne_true_of_eq_false h)) rfl
theorem bi_modF {a b : UInt64} (h : zeroF b = false) : binF .Mod (.flt a) (.flt b) σ = some (.flt (divmod a b).2, σ) := ob (show (if zeroF b = true then none else some (V.flt (divmod a b).2)) = _ from if_neg (ne_true_of_eq_false h)) rfl
theorem bi_subFI {a : UInt64} {i : Int} (h : infF (ofInt i) = false) : binF .Sub (.flt a) (.int i) σ = some (.flt (sub a (ofInt i)), σ) := ob (show (if Op.Sub = Op.Sub /\ infF (ofInt i) = false then some (V.flt (sub a (ofInt i))) else none) = _ from if_pos ⟨rfl, h⟩) rfl
theorem bi_addIF {a : UInt64} {i : Int} (h : infF (ofInt i) = false) : binF .Add (.int i) (.flt a) σ = some (.flt (add (ofInt i) a), σ) := ob (show (if Op.Add = Op.Add /\ infF (ofInt i) = false then some (V.flt (add (ofInt i) a)) else none) = _ from if_pos ⟨rfl, h⟩) rfl
theorem y6 {a b : Int} : binF .Add (.int a) (.int b) σ = some (.int (a + b), σ) := rfl
theorem xV {a b : Int} : binF .Sub (.int a) (.int b) σ = some (.int (a - b), σ) := rfl
theorem bi_mulI {a b : Int} (h : a.natAbs < 4294967296 /\ b.natAbs < 4294967296) : binF .Mult (.int a) (.int b) σ = some (.int (a * b), σ) := ob (show (if a.natAbs < 4294967296 /\ b.natAbs < 4294967296 then some (V.int (a * b)) else none) = _ from if_pos h) rfl
theorem bi_modI {a b : Int} (h : 0 < b /\ b < 1073741824) : binF .Mod (.int a) (.int b) σ = some (.int (a % b), σ) := ob (a := .int (a % b)) ((if_neg (by lia)).trans (by rw [Int.fmod_eq_emod_of_nonneg a (qI h.1)])) rfl
theorem bi_fdivI {a b : Int} (h : 0 < b /\ b < 1073741824) : binF .FloorDiv (.int a) (.int b) σ = some (.int (a / b), σ) := ob (a := .int (a / b)) ((if_neg (by lia)).trans (by rw [Int.fdiv_eq_ediv_of_nonneg a (qI h.1)])) rfl
theorem bi_powI {a b : Int} (h : 0 <= a /\ a <= 16 /\ 0 <= b /\ b <= 64) : binF .Pow (.int a) (.int b) σ = some (.int (a ^ b.toNat), σ) := ob (show (if 0 <= a /\ a <= 16 /\ 0 <= b /\ b <= 64 then some (V.int (a ^ b.toNat)) else none) = _ from if_pos h) rfl
theorem yZ {a b : Int} (h : 0 < b) (ha : 0 <= a) (hi : infF (ofFrac false a.natAbs b.natAbs) = false) : binF .Div (.int a) (.int b) σ = some (.flt (ofFrac false a.natAbs b.natAbs), σ) := by
 have e1 : (decide (a < 0) != decide (b < 0)) = false := by rw [decide_eq_false (Int.not_lt.mpr ha), decide_eq_false (qX (qI h) : ¬ b < 0)]; rfl
 refine ob (a := .flt (ofFrac false a.natAbs b.natAbs)) ((if_neg (qF h)).trans ?_) rfl
 rw [e1]; exact if_neg (ne_true_of_eq_false hi)
end
noncomputable def rgbOut (k : Int) (h s v : UInt64) : List UInt64 :=
 let f := sub (mul h 0x4018000000000000) (ofInt k)
 let p := mul v (sub 0x3ff0000000000000 s)
 let q := mul v (sub 0x3ff0000000000000 (mul s f))
 let t := mul v (sub 0x3ff0000000000000 (mul s (sub 0x3ff0000000000000 f)))
 if k = 0 then [v, t, p] else if k = 1 then [q, v, p] else if k = 2 then [p, v, t] else if k = 3 then [p, q, v] else if k = 4 then [t, p, v] else [v, p, q]
theorem eqI_t {σ : Sto} {a b : Int} (h : a = b) : cmpV σ .Eq (.int a) (.int b) = some true := by subst h; exact congrArg some (beq_self_eq_true a)
theorem eqI_f {σ : Sto} {a b : Int} (h : ¬ a = b) : cmpV σ .Eq (.int a) (.int b) = some false := congrArg some (beq_false_of_ne h)
theorem ltI_t {σ : Sto} {a b : Int} (h : a < b) : cmpV σ .Lt (.int a) (.int b) = some true := congrArg some (decide_eq_true h)
theorem ltI_f {σ : Sto} {a b : Int} (h : ¬ a < b) : cmpV σ .Lt (.int a) (.int b) = some false := congrArg some (decide_eq_false h)
theorem leI_t {σ : Sto} {a b : Int} (h : a <= b) : cmpV σ .LtE (.int a) (.int b) = some true := congrArg some (decide_eq_true h)
theorem leI_f {σ : Sto} {a b : Int} (h : ¬ a <= b) : cmpV σ .LtE (.int a) (.int b) = some false := congrArg some (decide_eq_false h)
theorem gtI_f {σ : Sto} {a b : Int} (h : ¬ b < a) : cmpV σ .Gt (.int a) (.int b) = some false := congrArg some (decide_eq_false h)
theorem leF {σ : Sto} {a b : UInt64} {x y : Int} {q : Bool} (ha : FV a x) (hb : FV b y) (hq : q = decide (x <= y)) : cmpV σ .LtE (.flt a) (.flt b) = some q := by
 have : (Float64.cmp a b == some .lt || Float64.cmp a b == some .eq) = decide (x <= y) := by
  rw [ha.cmp hb]
  rcases Int.lt_trichotomy x y with h | h | h
  ·rw [Int.compare_eq_lt.mpr h]; simp; exact qI h
  ·subst h; simp
  ·rw [Int.compare_eq_gt.mpr h]; simp; exact h
 subst hq
 show some (Float64.cmp a b == some .lt || Float64.cmp a b == some .eq) = _
 rw [this]
theorem isN_none {σ : Sto} : cmpV σ .Is .none .none = some true := rfl
theorem isN_fn {σ : Sto} {f : F} : cmpV σ .Is (.glob (.fn f)) .none = some false := rfl
theorem wN {σ : Sto} {a b : UInt64} {q : Bool} (h : fltEq a b = q) : cmpV σ .Eq (.flt a) (.flt b) = some q := by subst h; rfl
theorem bi_mod6 {k : Int} (h : 0 <= k /\ k < 6) : binF .Mod (.int k) (.int 6) σ = some (.int k, σ) := by rw [bi_modI (by decide), Int.emod_eq_of_lt h.1 h.2]
theorem sel {n : Nat} {k c : Int} {e : ME} {v R : V} {ss : List MS} {sl : Slots} (g : getSl sl 3 = some (.int k)) (he : (recN (n + 2)).eval e sl σ = some (v, σ)) (hv : k = c -> v = R) (hs : k ≠ c -> (recN (n + 4)).exec ss sl σ = some (.ret R, sl, σ)) :
  (recN (n + 4)).exec (.ite (.cmp .Eq (.var 3) (.int c)) [.ret e] [] :: ss) sl σ = some (.ret R, sl, σ) := by
 by_cases q : k = c
 ·rw [← hv q]
  exact zP (zY (zW (zA g) zF (eqI_t q)) (if_t (zP (y0 he) yF))) yF
 ·exact zP (zY (zW (zA g) zF (eqI_f q)) (if_f zQ)) (zX (hs q))
theorem rgb_run (n : Nat) (σ : Sto) (h s v : UInt64) (k : Int) (hk : 0 <= k /\ k < 6) (e0 : fltEq s 0 = false) (e1 : floorI (mul h 0x4018000000000000) = some k) (e2 : infF (ofInt k) = false) :
  (recN (n + 12)).call .rgb [.flt h, .flt s, .flt v] σ = some (.tup ((rgbOut k h s v).map .flt), σ) := by
 apply y3 (b := b_rgb) (sl_0 := [some (.flt h), some (.flt s), some (.flt v), none, none, none, none, none]) rfl rfl rfl
 unfold b_rgb
 repeat (first
  | (with_reducible first
   | apply zE | apply zG | apply yE | apply yA | exact ev_flt | exact zF | exact zD | exact bi_mulF | exact bi_subF | exact bi_subFI e2 | exact bi_mod6 hk | exact e1 | exact wN e0 | exact zQ | exact yF
   | apply zA | apply ev_gint | apply zL | apply zB | apply ev_tup | apply zW
   | apply sel | apply zP | apply zX | apply zO | apply y0 | apply zY | apply if_t | apply if_f)
  | exact nBL rfl
  | exact fun h => by subst h; rfl
  | intro _)
 lia
end Mine.Pl
namespace Mine.Pl
open PySem PySem.Float64
theorem FV_six : FV 0x4018000000000000 (6 * 2 ^ 30) := fv_lit (by decide +kernel) (by unfold KK; decide +kernel)
theorem FV_two : FV 0x4000000000000000 (2 * 2 ^ 30) := fv_lit (by decide +kernel) (by unfold KK; decide +kernel)
theorem FV_four : FV 0x4010000000000000 (4 * 2 ^ 30) := fv_lit (by decide +kernel) (by unfold KK; decide +kernel)
theorem FV_half : FV 0x3fe0000000000000 (2 ^ 29) := fv_lit (by decide +kernel) (by unfold KK; decide +kernel)
theorem FV_nil : FV 0x0000000000000000 0 := fv_lit (by decide +kernel) (by unfold KK; decide +kernel)
theorem FV_1 : FV 0x3ff0000000000000 (2 ^ 30) := FV_one
theorem z6 : zeroF 0x4018000000000000 = false := by rw [FV_six.zeroF]; decide
theorem z1 : zeroF 0x3ff0000000000000 = false := by rw [FV_1.zeroF]; decide
theorem z2 : zeroF 0x4000000000000000 = false := by rw [FV_two.zeroF]; decide
noncomputable def hueOut (k : Nat) (x y z : UInt64) : UInt64 :=
 let m := max3 x y z
 let g := sub m (min3 x y z)
 let rc := div (sub m x) g
 let gc := div (sub m y) g
 let bc := div (sub m z) g
 (divmod (div (if k = 0 then sub bc gc else if k = 1 then sub (add 0x4000000000000000 rc) bc else sub (add 0x4010000000000000 gc) rc) 0x4018000000000000) 0x3ff0000000000000).2
noncomputable abbrev hueIf (i j l d : Nat) : MS := .ite (.cmp .Eq (.var 0) (.var 3)) [.set d (.bin .Sub (.var l) (.var j))] [.ite (.cmp .Eq (.var 1) (.var 3)) [.set d (.bin .Sub (.bin .Add (.flt 0x4000000000000000) (.var i)) (.var l))] [.set d (.bin .Sub (.bin .Add (.flt 0x4010000000000000) (.var j)) (.var i))]]
theorem hue_if {n i j l d : Nat} {x y m rc gc bc : UInt64} {k : Nat} {sl sl_1 : Slots} {σ : Sto} (hk : (k = 0 /\ fltEq x m = true) \/ (k = 1 /\ fltEq x m = false /\ fltEq y m = true) \/ (k = 2 /\ fltEq x m = false /\ fltEq y m = false))
  (g0 : getSl sl 0 = some (.flt x)) (g1 : getSl sl 1 = some (.flt y)) (g3 : getSl sl 3 = some (.flt m)) (gi : getSl sl i = some (.flt rc)) (gj : getSl sl j = some (.flt gc)) (gl : getSl sl l = some (.flt bc))
  (hs : setSl sl d (.flt (if k = 0 then sub bc gc else if k = 1 then sub (add 0x4000000000000000 rc) bc else sub (add 0x4010000000000000 gc) rc)) = sl_1) : stepF (recN (n + 8)) (hueIf i j l d) sl σ = some (.next, sl_1, σ) := by
 subst hs
 rcases hk with ⟨rfl, c1⟩ | ⟨rfl, c1, c2⟩ | ⟨rfl, c1, c2⟩
 ·exact zY (zW (zA g0) (zA g3) (wN c1)) (if_t (zP (zO (zL (zA gl) (zA gj) bi_subF) rfl) (zX zQ)))
 ·exact zY (zW (zA g0) (zA g3) (wN c1)) (if_f (zP (zY (zW (zA g1) (zA g3) (wN c2)) (if_t (zP (zO (zL (zL ev_flt (zA gi) bi_addF) (zA gl) bi_subF) rfl) (zX zQ)))) (zX zQ)))
 ·exact zY (zW (zA g0) (zA g3) (wN c1)) (if_f (zP (zY (zW (zA g1) (zA g3) (wN c2)) (if_f (zP (zO (zL (zL ev_flt (zA gj) bi_addF) (zA gi) bi_subF) rfl) (zX zQ)))) (zX zQ)))
theorem hsv_run (n : Nat) (σ : Sto) (x y z : UInt64) (k : Nat) (e0 : fltEq (min3 x y z) (max3 x y z) = false) (e1 : zeroF (max3 x y z) = false) (e2 : zeroF (sub (max3 x y z) (min3 x y z)) = false)
  (hk : (k = 0 /\ fltEq x (max3 x y z) = true) \/ (k = 1 /\ fltEq x (max3 x y z) = false /\ fltEq y (max3 x y z) = true) \/ (k = 2 /\ fltEq x (max3 x y z) = false /\ fltEq y (max3 x y z) = false)) :
  (recN (n + 12)).call .hsv [.flt x, .flt y, .flt z] σ = some (.tup [.flt (hueOut k x y z), .flt (div (sub (max3 x y z) (min3 x y z)) (max3 x y z)), .flt (max3 x y z)], σ) := by
 apply y3 (b := b_hsv) (sl_0 := [some (.flt x), some (.flt y), some (.flt z), none, none, none, none, none, none, none, none, none]) rfl rfl rfl
 unfold b_hsv
 repeat (first
  | (with_reducible first
   | apply zE | apply zG | apply yE | apply yA | exact ev_flt | exact zF | exact zD | exact bi_mulF | exact bi_subF | exact bi_addF | exact xO e1 | exact xO e2 | exact xO z6 | exact bi_modF z1 | exact wN e0 | exact zQ | exact yF
   | apply zA | apply ev_gmax3 | apply ev_gmin3 | apply zL | apply zB | apply ev_tup | apply zW
   | apply hue_if hk | apply zP | apply zX | apply zO | apply y0 | apply zY | apply if_t | apply if_f)
  | exact nBL rfl
  | exact yF)
noncomputable def lightOut (x y z : UInt64) : UInt64 := div (add (max3 x y z) (min3 x y z)) 0x4000000000000000
noncomputable def shareOut (q : Bool) (x y z : UInt64) : UInt64 :=
 if q then div (sub (max3 x y z) (min3 x y z)) (add (max3 x y z) (min3 x y z)) else div (sub (max3 x y z) (min3 x y z)) (sub (sub 0x4000000000000000 (max3 x y z)) (min3 x y z))
theorem hls_run (n : Nat) (σ : Sto) (x y z : UInt64) (k : Nat) (q : Bool) (e0 : fltEq (min3 x y z) (max3 x y z) = false) (e1 : q = true -> zeroF (add (max3 x y z) (min3 x y z)) = false)
  (e3 : q = false -> zeroF (sub (sub 0x4000000000000000 (max3 x y z)) (min3 x y z)) = false) (e2 : zeroF (sub (max3 x y z) (min3 x y z)) = false)
  (eq : ∀ σ, cmpV σ .LtE (.flt (lightOut x y z)) (.flt 0x3fe0000000000000) = some q)
  (hk : (k = 0 /\ fltEq x (max3 x y z) = true) \/ (k = 1 /\ fltEq x (max3 x y z) = false /\ fltEq y (max3 x y z) = true) \/ (k = 2 /\ fltEq x (max3 x y z) = false /\ fltEq y (max3 x y z) = false)) :
  (recN (n + 12)).call .hls [.flt x, .flt y, .flt z] σ = some (.tup [.flt (hueOut k x y z), .flt (lightOut x y z), .flt (shareOut q x y z)], σ) := by
 unfold lightOut at eq
 cases q with
 | true =>
  have e1 := e1 rfl
  apply y3 (b := b_hls) (sl_0 := [some (.flt x), some (.flt y), some (.flt z), none, none, none, none, none, none, none, none, none, none]) rfl rfl rfl
  unfold b_hls
  repeat (first
   | (with_reducible first
    | apply zE | apply zG | apply yE | apply yA | exact ev_flt | exact zF | exact zD | exact bi_mulF | exact bi_subF | exact bi_addF | exact xO e1 | exact xO e2 | exact xO z6 | exact xO z2 | exact bi_modF z1 | exact wN e0 | exact eq _ | exact zQ | exact yF
    | apply zA | apply ev_gmax3 | apply ev_gmin3 | apply zL | apply zB | apply ev_tup | apply zW
    | apply hue_if hk | apply zP | apply zX | apply zO | apply y0 | apply zY | apply if_t | apply if_f)
   | exact nBL rfl
   | exact yF)
 | false =>
  have e1 := e3 rfl
  apply y3 (b := b_hls) (sl_0 := [some (.flt x), some (.flt y), some (.flt z), none, none, none, none, none, none, none, none, none, none]) rfl rfl rfl
  unfold b_hls
  repeat (first
   | (with_reducible first
    | apply zE | apply zG | apply yE | apply yA | exact ev_flt | exact zF | exact zD | exact bi_mulF | exact bi_subF | exact bi_addF | exact xO e1 | exact xO e2 | exact xO z6 | exact xO z2 | exact bi_modF z1 | exact wN e0 | exact eq _ | exact zQ | exact yF
    | apply zA | apply ev_gmax3 | apply ev_gmin3 | apply zL | apply zB | apply ev_tup | apply zW
    | apply hue_if hk | apply zP | apply zX | apply zO | apply y0 | apply zY | apply if_t | apply if_f)
   | exact nBL rfl
   | exact yF)
end Mine.Pl
namespace Mine.Pl
open PySem PySem.Float64
noncomputable def cv (T p : Nat) : Int × Int × Int :=
 let m : Int := 3 * T % 32
 let q : Int := 128 - p * m
 let t : Int := 128 - p * (32 - m)
 let o : Int := 128 - 32 * p
 match 3 * T / 32 with
 | 0 => (128, t, o)
 | 1 => (q, 128, o)
 | 2 => (o, 128, t)
 | 3 => (o, q, 128)
 | 4 => (t, o, 128)
 | _ => (128, o, q)
noncomputable def CvOk (T p : Nat) (a b c ra rb rc H : Int) (k : Nat) : Prop :=
 (128 - 32 * p <= a) /\ (128 - 32 * p <= b) /\ (128 - 32 * p <= c) /\ ((k = 0 /\ a = 128 /\ b <= 128 /\ c <= 128) \/ (k = 1 /\ a < 128 /\ b = 128 /\ c <= 128) \/ (k = 2 /\ a < 128 /\ b < 128 /\ c = 128)) /\ (a = 128 - 32 * p \/ b = 128 - 32 * p \/ c = 128 - 32 * p) /\ (ra * p = 128 - a) /\ (rb * p = 128 - b) /\ (rc * p = 128 - c) /\ (0 <= ra /\ ra <= 32) /\ (0 <= rb /\ rb <= 32) /\ (0 <= rc /\ rc <= 32) /\ (3 * H = (if k = 0 then rc - rb else if k = 1 then 64 + ra - rc else 128 + rb - ra)) /\ (H % 64 = T) /\ (-64 <= H /\ H <= 64)
section
variable {T p k : Nat} {a b c ra rb rc H : Int} (C : CvOk T p a b c ra rb rc H k)
include C
theorem CvOk.a0 : 128 - 32 * p <= a := C.1
theorem CvOk.b0 : 128 - 32 * p <= b := C.2.1
theorem CvOk.c0 : 128 - 32 * p <= c := C.2.2.1
theorem CvOk.mx : (k = 0 /\ a = 128 /\ b <= 128 /\ c <= 128) \/ (k = 1 /\ a < 128 /\ b = 128 /\ c <= 128) \/ (k = 2 /\ a < 128 /\ b < 128 /\ c = 128) := C.2.2.2.1
theorem CvOk.mn : a = 128 - 32 * p \/ b = 128 - 32 * p \/ c = 128 - 32 * p := C.2.2.2.2.1
theorem CvOk.ea : ra * p = 128 - a := C.2.2.2.2.2.1
theorem CvOk.eb : rb * p = 128 - b := C.2.2.2.2.2.2.1
theorem CvOk.ec : rc * p = 128 - c := C.2.2.2.2.2.2.2.1
theorem CvOk.la : 0 <= ra /\ ra <= 32 := C.2.2.2.2.2.2.2.2.1
theorem CvOk.lb : 0 <= rb /\ rb <= 32 := C.2.2.2.2.2.2.2.2.2.1
theorem CvOk.lc : 0 <= rc /\ rc <= 32 := C.2.2.2.2.2.2.2.2.2.2.1
theorem CvOk.hue : 3 * H = (if k = 0 then rc - rb else if k = 1 then 64 + ra - rc else 128 + rb - ra) := C.2.2.2.2.2.2.2.2.2.2.2.1
theorem CvOk.turn : H % 64 = T := C.2.2.2.2.2.2.2.2.2.2.2.2.1
theorem CvOk.lh : -64 <= H /\ H <= 64 := C.2.2.2.2.2.2.2.2.2.2.2.2.2
end
noncomputable def kOf (v : Int × Int × Int) : Nat := if v.1 = 128 then 0 else if v.2.1 = 128 then 1 else 2
noncomputable def hOf (v : Int × Int × Int) (p : Nat) : Int := (if kOf v = 0 then (128 - v.2.2) / p - (128 - v.2.1) / p else if kOf v = 1 then 64 + (128 - v.1) / p - (128 - v.2.2) / p else 128 + (128 - v.2.1) / p - (128 - v.1) / p) / 3
set_option synthInstance.maxSize 2000 in
set_option synthInstance.maxHeartbeats 400000 in
theorem cv_ok : ∀ T < 64, ∀ p < 5, 1 <= p -> CvOk T p (cv T p).1 (cv T p).2.1 (cv T p).2.2 ((128 - (cv T p).1) / p) ((128 - (cv T p).2.1) / p) ((128 - (cv T p).2.2) / p) (hOf (cv T p) p) (kOf (cv T p)) := by delta CvOk; decide +kernel
noncomputable def Col (T p : Nat) (L : Int) (x y z : UInt64) : Prop := FV x (L * (cv T p).1 * 2 ^ 16) /\ FV y (L * (cv T p).2.1 * 2 ^ 16) /\ FV z (L * (cv T p).2.2 * 2 ^ 16)
section
variable {T p k : Nat} {a b c ra rb rc H L : Int} {x y z : UInt64}
theorem CvOk.le (C : CvOk T p a b c ra rb rc H k) : a <= 128 /\ b <= 128 /\ c <= 128 := by rcases C.mx with q | q | q <;> lia
theorem nb {v c : Int} (h0 : -65536 <= v) (h1 : v <= 65536) (hc : 0 <= c /\ c <= 2 ^ 30) : (v * c).natAbs <= 2 ^ 53 := by
 rw [Int.natAbs_mul]
 exact qT (Nat.mul_le_mul (show v.natAbs <= 65536 by omega) (show c.natAbs <= 2 ^ 30 by exact aA hc.1 hc.2)) (by decide)
theorem FV.subm {x y : UInt64} {a b c : Int} (hx : FV x (a * c)) (hy : FV y (b * c)) (hc : 0 <= c /\ c <= 2 ^ 30) (h0 : -65536 <= a - b) (h1 : a - b <= 65536) : FV (Float64.sub x y) ((a - b) * c) := by
 rw [Int.sub_mul]
 exact hx.sub hy (by rw [← Int.sub_mul]; exact nb h0 h1 hc)
theorem max_is {a b c m : Int} (ha : a <= m) (hb : b <= m) (hc : c <= m) (h : a = m \/ b = m \/ c = m) : max a (max b c) = m := by
 refine Int.le_antisymm (Int.max_le.mpr ⟨ha, Int.max_le.mpr ⟨hb, hc⟩⟩) ?_
 rcases h with rfl | rfl | rfl
 ·exact Int.le_max_left ..
 ·exact iLT (Int.le_max_left ..) (Int.le_max_right ..)
 ·exact iLT (Int.le_max_right ..) (Int.le_max_right ..)
theorem min_is {a b c m : Int} (ha : m <= a) (hb : m <= b) (hc : m <= c) (h : a = m \/ b = m \/ c = m) : min a (min b c) = m := by
 refine Int.le_antisymm ?_ (Int.le_min.mpr ⟨ha, Int.le_min.mpr ⟨hb, hc⟩⟩)
 rcases h with rfl | rfl | rfl
 ·exact Int.min_le_left ..
 ·exact iLT (Int.min_le_right ..) (Int.min_le_left ..)
 ·exact iLT (Int.min_le_right ..) (Int.min_le_right ..)
theorem hsv_col (hp : 1 <= p /\ p < 5) (hL : 1 <= L /\ L <= 128) (C : CvOk T p a b c ra rb rc H k) (fx : FV x (L * a * 2 ^ 16)) (fy : FV y (L * b * 2 ^ 16)) (fz : FV z (L * c * 2 ^ 16)) :
  FV (max3 x y z) (L * 128 * 2 ^ 16) /\ FV (min3 x y z) (L * (128 - 32 * p) * 2 ^ 16) /\ FV (sub (max3 x y z) (min3 x y z)) (L * p * 2 ^ 21) /\ FV (hueOut k x y z) (T * 2 ^ 24) /\
   ((k = 0 /\ fltEq x (max3 x y z) = true) \/ (k = 1 /\ fltEq x (max3 x y z) = false /\ fltEq y (max3 x y z) = true) \/ (k = 2 /\ fltEq x (max3 x y z) = false /\ fltEq y (max3 x y z) = false)) := by
 have L0 : 0 <= L := iLT (by decide) hL.1
 have c16 : (0 : Int) <= 2 ^ 16 := by decide
 have A0 : L * (128 - 32 * p) <= L * a := Int.mul_le_mul_of_nonneg_left C.a0 L0
 have B0 : L * (128 - 32 * p) <= L * b := Int.mul_le_mul_of_nonneg_left C.b0 L0
 have C0 : L * (128 - 32 * p) <= L * c := Int.mul_le_mul_of_nonneg_left C.c0 L0
 have h32 : L * 128 - L * (128 - 32 * p) = 32 * (L * p) := by rw [← Int.mul_sub, Int.sub_sub_self, Int.mul_left_comm]
 have hLpos : 1 * 1 <= L * p := Int.mul_le_mul hL.1 (cC hp.1) (by decide) L0
 have hLpub : L * p <= 128 * 4 := Int.mul_le_mul hL.2 (cG hp.2) qN (by decide)
 have h32u : 32 * (L * p) <= 65536 := by lia
 have A1 : L * a <= L * 128 := Int.mul_le_mul_of_nonneg_left C.le.1 L0
 have B1 : L * b <= L * 128 := Int.mul_le_mul_of_nonneg_left C.le.2.1 L0
 have C1 : L * c <= L * 128 := Int.mul_le_mul_of_nonneg_left C.le.2.2 L0
 have fm : FV (max3 x y z) (L * 128 * 2 ^ 16) := by
  have := fx.max3 fy fz
  rwa [max_is (Int.mul_le_mul_of_nonneg_right A1 c16) (Int.mul_le_mul_of_nonneg_right B1 c16) (Int.mul_le_mul_of_nonneg_right C1 c16) (C.mx.imp (fun q => by rw [q.2.1]) (Or.imp (fun q => by rw [q.2.2.1]) fun q => by rw [q.2.2.2]))] at this
 have fn : FV (min3 x y z) (L * (128 - 32 * p) * 2 ^ 16) := by
  have := fx.min3 fy fz
  rwa [min_is (Int.mul_le_mul_of_nonneg_right A0 c16) (Int.mul_le_mul_of_nonneg_right B0 c16) (Int.mul_le_mul_of_nonneg_right C0 c16) (C.mn.imp (fun q => by rw [q]) (Or.imp (fun q => by rw [q]) fun q => by rw [q]))] at this
 have fg : FV (sub (max3 x y z) (min3 x y z)) (L * p * 2 ^ 21) := by
  have := fm.subm fn (by decide) (by rw [h32]; lia) (by rw [h32]; exact h32u)
  rw [h32, Int.mul_comm 32, Int.mul_assoc] at this
  exact this
 have gne : L * p * 2 ^ 21 ≠ 0 := Int.mul_ne_zero (qF hLpos) (by decide)
 have part : ∀ {w : UInt64} {d r : Int}, FV w (L * d * 2 ^ 16) -> r * p = 128 - d -> 0 <= r /\ r <= 32 -> L * d <= L * 128 -> L * (128 - 32 * p) <= L * d -> FV (div (sub (max3 x y z) w) (sub (max3 x y z) (min3 x y z))) (r * 2 ^ 25) := by
  intro w d r fw hr hl h1 h2
  have f1 := fm.subm fw (by decide) (iLT (by decide) (Int.sub_nonneg.mpr h1)) (iLT (Int.sub_le_sub_left h2 _) (h32 ▸ h32u))
  refine f1.div fg gne ?_ (nb (iLT (by decide) hl.1) (iLT hl.2 (by decide)) (by decide))
  rw [← Int.mul_sub, ← hr]
  ac_rfl
 have fra := part fx C.ea C.la A1 A0
 have frb := part fy C.eb C.lb B1 B0
 have frc := part fz C.ec C.lc C1 C0
 have c25 : 0 <= (2 : Int) ^ 25 /\ (2 : Int) ^ 25 <= 2 ^ 30 := by decide
 refine ⟨fm, fn, fg, ?_, ?_⟩
 ·unfold hueOut
  dsimp only
  have fin : ∀ {w : UInt64} {v : Int}, FV w (v * 2 ^ 25) -> 3 * H = v -> FV (divmod (div w 0x4018000000000000) 0x3ff0000000000000).2 (T * 2 ^ 24) := by
   intro w v fw hv
   have lh := C.lh
   have f1 : FV (div w 0x4018000000000000) (H * 2 ^ 24) := fw.div FV_six (by decide) (by rw [← hv]; lia) (nb (c := 2 ^ 24) (iLT (by decide) lh.1) (iLT lh.2 (by decide)) (by decide))
   have f2 := f1.mod1
   have e : H * 2 ^ 24 % 2 ^ 30 = T * 2 ^ 24 := by have := C.turn; clear f1 f2 fw hv lh; lia
   rw [e] at f2
   exact f2
  have hue := C.hue
  have la := C.la
  have lb := C.lb
  have lc := C.lc
  rcases C.mx with ⟨rfl, _⟩ | ⟨rfl, _⟩ | ⟨rfl, _⟩
  ·exact fin (frc.subm frb c25 (by lia) (by lia)) hue
  ·have f1 : FV (add 0x4000000000000000 (div (sub (max3 x y z) x) (sub (max3 x y z) (min3 x y z)))) ((64 + ra) * 2 ^ 25) := by
    have := FV_two.add fra (by lia)
    rw [Int.add_mul]; exact this
   exact fin (f1.subm frc c25 (by lia) (by lia)) hue
  ·have f1 : FV (add 0x4010000000000000 (div (sub (max3 x y z) y) (sub (max3 x y z) (min3 x y z)))) ((128 + rb) * 2 ^ 25) := by
    have := FV_four.add frb (by lia)
    rw [Int.add_mul]; exact this
   exact fin (f1.subm fra c25 (by lia) (by lia)) hue
 ·have lt : ∀ {d : Int} {w : UInt64}, FV w (L * d * 2 ^ 16) -> d < 128 -> fltEq w (max3 x y z) = false := fun fw h => by
   rw [fw.eq fm]
   exact decide_eq_false fun q => Int.ne_of_lt (Int.mul_lt_mul_of_pos_left h (Int.lt_of_lt_of_le (by decide) hL.1)) (Int.eq_of_mul_eq_mul_right (by decide) q)
  have is : ∀ {d : Int} {w : UInt64}, FV w (L * d * 2 ^ 16) -> d = 128 -> fltEq w (max3 x y z) = true := fun fw h => by
   rw [fw.eq fm, h]
   exact decide_eq_true rfl
  exact C.mx.imp (fun q => ⟨q.1, is fx q.2.1⟩) (Or.imp (fun q => ⟨q.1, lt fx q.2.1, is fy q.2.2.1⟩) fun q => ⟨q.1, lt fx q.2.1, lt fy q.2.2.1⟩)
structure Reads (T p : Nat) (L : Int) (hh s v h2 l sh : UInt64) : Prop where
 h : FV hh (T * 2 ^ 24)
 s : FV s (p * 2 ^ 28)
 v : FV v (L * 2 ^ 23)
 h2 : FV h2 (T * 2 ^ 24)
 l : FV l (L * (8 - p) * 2 ^ 20)
 sh : sh = if L * (8 - p) <= 512 then ofFrac false p (8 - p) else ofFrac false (L.toNat * p) (1024 - L.toNat * (8 - p))
theorem read_col (hp : 1 <= p /\ p < 5) (hL : 1 <= L /\ L <= 128) (C : CvOk T p a b c ra rb rc H k) (fx : FV x (L * a * 2 ^ 16)) (fy : FV y (L * b * 2 ^ 16)) (fz : FV z (L * c * 2 ^ 16)) :
  ∃ hh s v h2 l sh, Reads T p L hh s v h2 l sh /\ (∀ n σ, (recN (n + 12)).call .hsv [.flt x, .flt y, .flt z] σ = some (.tup [.flt hh, .flt s, .flt v], σ)) /\
   (∀ n σ, (recN (n + 12)).call .hls [.flt x, .flt y, .flt z] σ = some (.tup [.flt h2, .flt l, .flt sh], σ)) := by
 refine byC fun hG => ?_
 obtain ⟨fm, fn, fg, fh, hk⟩ := hsv_col hp hL C fx fy fz
 have hLp : L * (128 - 32 * p) = L * 128 - 32 * (L * p) := by grind
 have hLpos : 1 * 1 <= L * p := Int.mul_le_mul hL.1 (cC hp.1) (by decide) (qI hL.1)
 have hL8 : L * (8 - p) = L * 8 - L * p := by grind
 have hLpub : L * p <= L * 4 := Int.mul_le_mul_of_nonneg_left (cG hp.2) (qI hL.1)
 have e0 : fltEq (min3 x y z) (max3 x y z) = false := by rw [fn.eq fm]; simp; lia
 have e1 : zeroF (max3 x y z) = false := by rw [fm.zeroF]; simp; exact qF hL.1
 have e2 : zeroF (sub (max3 x y z) (min3 x y z)) = false := by rw [fg.zeroF]; simp; exact And.intro (qF hL.1) (qH hp.1)
 have fs : FV (div (sub (max3 x y z) (min3 x y z)) (max3 x y z)) (p * 2 ^ 28) := fg.div fm (by lia) (by grind) (nbm qN (cG hp.2 : (p : Int) <= 4))
 have g8 := l8 hp hL
 have fsum : FV (add (max3 x y z) (min3 x y z)) (L * (8 - p) * 2 ^ 21) := by
  have e : L * 128 * 2 ^ 16 + L * (128 - 32 * p) * 2 ^ 16 = L * (8 - p) * 2 ^ 21 := by lia
  exact e ▸ fm.add fn (e ▸ nbm (qI g8.1) g8.2)
 have fl : FV (lightOut x y z) (L * (8 - p) * 2 ^ 20) := fsum.div FV_two (by decide) (by lia) (nbm (qI g8.1) g8.2)
 have f3 : FV (sub (sub 0x4000000000000000 (max3 x y z)) (min3 x y z)) ((1024 - L * (8 - p)) * 2 ^ 21) := by
  have f1 := FV_two.sub fm (by lia)
  have e : 2 * 2 ^ 30 - L * 128 * 2 ^ 16 - L * (128 - 32 * p) * 2 ^ 16 = (1024 - L * (8 - p)) * 2 ^ 21 := by lia
  exact e ▸ f1.sub fn (e ▸ nbm (Int.sub_nonneg_of_le (iLT g8.2 (by decide))) (Int.sub_le_self _ (qI g8.1)))
 obtain ⟨N, rfl⟩ := Int.eq_ofNat_of_zero_le (show 0 <= L by exact qI hL.1)
 refine hG ?_
 have hN : ((N : Int)).toNat = N := rfl
 have hNp : ((N * p : Nat) : Int) = (N : Int) * p := by exact Int.natCast_mul _ _
 have hp8 : ((8 - p : Nat) : Int) = 8 - (p : Int) := by exact Int.natCast_sub (wB hp.2)
 have hN8 : ((N * (8 - p) : Nat) : Int) = (N : Int) * (8 - p) := by rw [Int.natCast_mul, hp8]
 have fv : FV (max3 x y z) ((N : Int) * 2 ^ 23) := by
  have e : (N : Int) * 128 * 2 ^ 16 = N * 2 ^ 23 := by lia
  rwa [e] at fm
 by_cases q : (N : Int) * (8 - p) <= 512
 ·refine ⟨_, _, _, _, _, shareOut true x y z, ⟨fh, fs, fv, fh, fl, ?_⟩, fun n σ => hsv_run n σ x y z k e0 e1 e2 hk, fun n σ => hls_run n σ x y z k true e0 (fun J => ?_) (fun h => by cases h) e2 (fun σ => leF fl FV_half ?_) hk⟩
  ·rw [if_pos q]
   exact fg.div_frac fsum (by lia) (by lia) (by lia) (by
    have e1 : ((N : Int) * p * 2 ^ 21).natAbs = N * p * 2 ^ 21 := by rw [← hNp]; rfl
    have e2 : ((N : Int) * (8 - p) * 2 ^ 21).natAbs = N * (8 - p) * 2 ^ 21 := by rw [← hN8]; rfl
    rw [e1, e2]
    ac_rfl)
  ·rw [fsum.zeroF]; simp; lia
  ·simp; lia
 ·refine ⟨_, _, _, _, _, shareOut false x y z, ⟨fh, fs, fv, fh, fl, ?_⟩, fun n σ => hsv_run n σ x y z k e0 e1 e2 hk, fun n σ => hls_run n σ x y z k false e0 (fun h => by cases h) (fun J => ?_) e2 (fun σ => leF fl FV_half ?_) hk⟩
  ·rw [if_neg q, hN]
   have hlt : N * (8 - p) < 1024 := Int.ofNat_lt.1 (Int.lt_of_le_of_lt (hN8 ▸ g8.2) (by decide))
   exact fg.div_frac f3 (by lia) (by lia) (by omega) (by
    have e1 : ((N : Int) * p * 2 ^ 21).natAbs = N * p * 2 ^ 21 := by rw [← hNp]; rfl
    have e2 : ((1024 - (N : Int) * (8 - p)) * 2 ^ 21).natAbs = (1024 - N * (8 - p)) * 2 ^ 21 := by rw [← hN8, n1024 (qW hlt)]; rfl
    rw [e1, e2]
    ac_rfl)
  ·rw [f3.zeroF]; simp; lia
  ·simp; lia
end
end Mine.Pl
namespace Mine.Pl
open PySem PySem.Float64
section
variable {T p : Nat} {L : Int} {h s v : UInt64}
theorem mul_v {w : UInt64} {d : Int} (hL : 1 <= L /\ L <= 128) (fv : FV v (L * 2 ^ 23)) (fw : FV w (d * 2 ^ 23)) (h0 : 0 <= d) (h1 : d <= 128) : FV (mul v w) (L * d * 2 ^ 16) := by
 have := Int.mul_le_mul hL.2 h1 h0 (by decide)
 have := Int.mul_nonneg (show 0 <= L by exact qI hL.1) h0
 exact fv.mul fw (by grind) (by lia)
theorem col_o (hp : 1 <= p /\ p < 5) (hL : 1 <= L /\ L <= 128) (fs : FV s (p * 2 ^ 28)) (fv : FV v (L * 2 ^ 23)) : FV (mul v (sub 0x3ff0000000000000 s)) (L * (128 - 32 * p) * 2 ^ 16) := by
 have e : (2 : Int) ^ 30 - p * 2 ^ 28 = (128 - 32 * p) * 2 ^ 23 := by lia
 have b0 : 0 <= 128 - 32 * (p : Int) := by lia
 have b1 : 128 - 32 * (p : Int) <= 128 := Int.sub_le_self _ (Int.mul_nonneg (by decide) qN)
 exact mul_v hL fv (e ▸ FV_1.sub fs (e ▸ nbm b0 b1)) b0 b1
theorem col_q {f : UInt64} {m : Int} (hp : 1 <= p /\ p < 5) (hL : 1 <= L /\ L <= 128) (hm : 0 <= m /\ m <= 32) (fs : FV s (p * 2 ^ 28)) (fv : FV v (L * 2 ^ 23)) (ff : FV f (m * 2 ^ 25)) : FV (mul v (sub 0x3ff0000000000000 (mul s f))) (L * (128 - p * m) * 2 ^ 16) := by
 have pm0 : 0 <= (p : Int) * m := Int.mul_nonneg qN hm.1
 have pm1 : (p : Int) * m <= 4 * 32 := Int.mul_le_mul (cG hp.2) hm.2 hm.1 (by decide)
 have f3 : FV (mul s f) (p * m * 2 ^ 23) := fs.mul ff (by grind) (nbm pm0 pm1)
 have e : (2 : Int) ^ 30 - p * m * 2 ^ 23 = (128 - p * m) * 2 ^ 23 := by lia
 have b0 : 0 <= 128 - (p : Int) * m := Int.sub_nonneg_of_le pm1
 have b1 : 128 - (p : Int) * m <= 128 := Int.sub_le_self _ pm0
 exact mul_v hL fv (e ▸ FV_1.sub f3 (e ▸ nbm b0 b1)) b0 b1
theorem col_f {k : Nat} {f : UInt64} (hT : T < 64) (hk : 3 * T / 32 = k) (f1 : FV f (3 * T * 2 ^ 25)) (fk : FV (ofInt (k : Int)) (k * 2 ^ 30)) : FV (sub f (ofInt (k : Int))) ((3 * T % 32 : Int) * 2 ^ 25) := by
 have e : 3 * (T : Int) * 2 ^ 25 - k * 2 ^ 30 = 3 * T % 32 * 2 ^ 25 := by lia
 have b0 : 0 <= 3 * (T : Int) % 32 := Int.emod_nonneg _ (by decide)
 have b1 : 3 * (T : Int) % 32 <= 32 := qI (Int.emod_lt_of_pos _ (by decide))
 have := f1.sub fk (by rw [e]; exact nbm b0 b1)
 rwa [e] at this
theorem col_1f {f : UInt64} {m : Int} (hm : 0 <= m /\ m <= 32) (ff : FV f (m * 2 ^ 25)) : FV (sub 0x3ff0000000000000 f) ((32 - m) * 2 ^ 25) := by
 have := FV_1.sub ff (by lia)
 have e : (2 : Int) ^ 30 - m * 2 ^ 25 = (32 - m) * 2 ^ 25 := by lia
 rwa [e] at this
theorem col_v (fv : FV v (L * 2 ^ 23)) : FV v (L * 128 * 2 ^ 16) := by
 have e : L * 2 ^ 23 = L * 128 * 2 ^ 16 := by lia
 rwa [e] at fv
theorem col_six {k : Nat} (h : k < 6) : k = 0 \/ k = 1 \/ k = 2 \/ k = 3 \/ k = 4 \/ k = 5 := by exact l6 h
theorem hue_mul (hT : T < 64) (fh : FV h (T * 2 ^ 24)) : FV (mul h 0x4018000000000000) (3 * T * 2 ^ 25) := fh.mul FV_six (by lia) (nbm (Int.mul_nonneg (by decide) qN) (Int.mul_le_mul_of_nonneg_left (cG hT : (T : Int) <= 63) (by decide)))
theorem sat_ne (hp : 1 <= p /\ p < 5) (fs : FV s (p * 2 ^ 28)) : fltEq s 0 = false := by rw [fs.eq FV_nil]; simp; exact qH hp.1
theorem hue_floor {k : Nat} {f : UInt64} (hk : 3 * T / 32 = k) (f1 : FV f (3 * T * 2 ^ 25)) : floorI f = some (k : Int) := by
 have e1 := f1.floor qN
 have e1' : (3 * (T : Int) * 2 ^ 25) / 2 ^ 30 = (k : Int) := by lia
 rwa [e1'] at e1
theorem rgb_col (hT : T < 64) (hp : 1 <= p /\ p < 5) (hL : 1 <= L /\ L <= 128) (fh : FV h (T * 2 ^ 24)) (fs : FV s (p * 2 ^ 28)) (fv : FV v (L * 2 ^ 23)) :
  ∃ x y z, Col T p L x y z /\ ∀ n σ, (recN (n + 12)).call .rgb [.flt h, .flt s, .flt v] σ = some (.tup [.flt x, .flt y, .flt z], σ) := by
 obtain ⟨k, hk⟩ : ∃ k, 3 * T / 32 = k := ⟨_, rfl⟩
 have hk6 : k < 6 := by lia
 have hm : 0 <= (3 * T % 32 : Int) /\ (3 * T % 32 : Int) <= 32 := by lia
 have hm' : 0 <= 32 - (3 * T % 32 : Int) /\ 32 - (3 * T % 32 : Int) <= 32 := by lia
 have fk : FV (ofInt (k : Int)) (k * 2 ^ 30) := FV_ofInt (nbm qN (cG hk6 : (k : Int) <= 5))
 have run := fun n σ => rgb_run n σ h s v k (And.intro qN (cC hk6)) (sat_ne hp fs) (hue_floor hk (hue_mul hT fh)) fk.infF
 have f2 := col_f hT hk (hue_mul hT fh) fk
 have fo := col_o hp hL fs fv
 have fq := col_q hp hL hm fs fv f2
 have ft := col_q hp hL hm' fs fv (col_1f hm f2)
 have fv' := col_v fv
 unfold Col cv
 dsimp only
 rw [hk]
 rcases col_six hk6 with rfl | rfl | rfl | rfl | rfl | rfl
 ·exact ⟨_, _, _, ⟨fv', ft, fo⟩, run⟩
 ·exact ⟨_, _, _, ⟨fq, fv', fo⟩, run⟩
 ·exact ⟨_, _, _, ⟨fo, fv', ft⟩, run⟩
 ·exact ⟨_, _, _, ⟨fo, fq, fv'⟩, run⟩
 ·exact ⟨_, _, _, ⟨ft, fo, fv'⟩, run⟩
 ·exact ⟨_, _, _, ⟨fv', fo, fq⟩, run⟩
theorem cv_bounds (hT : T < 64) (hp : 1 <= p /\ p < 5) : (0 <= (cv T p).1 /\ (cv T p).1 <= 128) /\ (0 <= (cv T p).2.1 /\ (cv T p).2.1 <= 128) /\ (0 <= (cv T p).2.2 /\ (cv T p).2.2 <= 128) := by
 have C := cv_ok T hT p hp.2 hp.1
 have h : (0 : Int) <= 128 - 32 * p := by lia
 exact ⟨⟨iLT h C.a0, C.le.1⟩, ⟨iLT h C.b0, C.le.2.1⟩, ⟨iLT h C.c0, C.le.2.2⟩⟩
theorem Col.add (hT : T < 64) (hp : 1 <= p /\ p < 5) {L_1 L_2 : Int} {x_1 y_1 z_1 x_2 y_2 z_2 : UInt64} (c_1 : Col T p L_1 x_1 y_1 z_1) (c_2 : Col T p L_2 x_2 y_2 z_2) (h1 : 0 <= L_1) (h2 : 0 <= L_2) (h : L_1 + L_2 <= 128) :
  Col T p (L_1 + L_2) (Float64.add x_1 x_2) (Float64.add y_1 y_2) (Float64.add z_1 z_2) := by
 have B := cv_bounds hT hp
 have one : ∀ {u w : UInt64} {a : Int}, 0 <= a /\ a <= 128 -> FV u (L_1 * a * 2 ^ 16) -> FV w (L_2 * a * 2 ^ 16) -> FV (Float64.add u w) ((L_1 + L_2) * a * 2 ^ 16) := by
  intro u w a ha fu fw
  have e : L_1 * a * 2 ^ 16 + L_2 * a * 2 ^ 16 = (L_1 + L_2) * a * 2 ^ 16 := by grind
  have hb : (L_1 + L_2) * a <= 128 * 128 := Int.mul_le_mul h ha.2 ha.1 (by decide)
  have hc : 0 <= (L_1 + L_2) * a := Int.mul_nonneg (by lia) ha.1
  exact e ▸ fu.add fw (e ▸ nbm hc hb)
 exact ⟨one B.1 c_1.1 c_2.1, one B.2.1 c_1.2.1 c_2.2.1, one B.2.2 c_1.2.2 c_2.2.2⟩
theorem frac_fin {n d : Nat} (hd : 0 < d) (hn : n <= 2 ^ 30) : ∃ m e, decode (ofFrac false n d) = .fin false m e := by
 obtain ⟨t, ht, hle, hinf, J⟩ := ofFrac_right (neg := false) (n := n) (d := d) (W := n * 2 ^ 1074) (D := d) hd (by ac_rfl) hd
 have hlt : t < infMag := by
  refine Nat.lt_of_le_of_ne hle fun q => ?_
  have q := hinf.mp q
  have h1 : (2 ^ 54 - 1) * 2 ^ 2045 <= d * ((2 ^ 54 - 1) * 2 ^ 2045) := Nat.le_mul_of_pos_left _ hd
  have h2 : 2 * (n * 2 ^ 1074) <= 2 * (2 ^ 30 * 2 ^ 1074) := Nat.mul_le_mul_left _ (Nat.mul_le_mul_right _ hn)
  have h3 : ¬ (2 ^ 54 - 1) * 2 ^ 2045 <= 2 * (2 ^ 30 * 2 ^ 1074) := by decide +kernel
  exact h3 (qT h1 (qT q h2))
 obtain ⟨m, e, hd, J⟩ := decode_pack false hlt
 exact ⟨m, e, by rw [ht]; exact hd⟩
theorem eq_self {x : UInt64} {a : Bool} {m : Nat} {e : Int} (h : decode x = .fin a m e) : eqA (.flt x) (.flt x) = some true := by
 have h1 : isNaN x = false := by unfold isNaN; rw [h]
 have h2 : fltEq x x = true := by unfold fltEq; rw [cmp_right h h]; simp
 show (if isNaN x || isNaN x then none else some (fltEq x x)) = _; rw [h1, h2]; rfl
theorem FV.eqA {x y : UInt64} {a b : Int} (hx : FV x a) (hy : FV y b) (h : a = b) : Mine.eqA (.flt x) (.flt y) = some true := by
 show (if isNaN x || isNaN y then none else some (fltEq x y)) = _; rw [hx.notNaN, hy.notNaN, hx.eq hy, decide_eq_true h]; rfl
theorem sm {a : Int} (h0 : 0 <= a) (h1 : a <= 1024) : a.natAbs < 4294967296 := by omega
theorem fracs {v c d : Int} (h0 : 0 <= v) (h1 : v <= 1024) (hd : 0 < d) (hc : c * d = 2 ^ 30) (hb : 0 <= c /\ c <= 2 ^ 30) : FV (ofFrac false v.natAbs d.natAbs) (v * c) := by
 have hb : (v * c).natAbs <= 2 ^ 53 := by
  rw [Int.natAbs_mul]
  exact qT (Nat.mul_le_mul (show v.natAbs <= 1024 by exact aA h0 h1) (show c.natAbs <= 2 ^ 30 by exact aA hb.1 hb.2)) (by decide)
 have := FV_frac (a := v) (b := d) (c := v * c) hd h0 (by rw [Int.mul_assoc, hc]) hb
 rwa [decide_eq_false (Int.not_lt.mpr h0), decide_eq_false (Int.not_lt.mpr (qI hd))] at this
theorem due_run (hT : T < 64) (hp : 1 <= p /\ p < 5) (hL : 1 <= L /\ L <= 128) : ∃ a b c a' l sh, Reads T p L a b c a' l sh /\ ∀ n σ, (recN (n + 12)).call .due [.int T, .int p, .int L] σ = some (.lst σ.length, σ ++ [[.tup [.flt a, .flt b, .flt c], .tup [.flt a', .flt l, .flt sh]]]) := by
 have T0 : 0 <= (T : Int) := Int.natCast_nonneg _
 have p0 : 0 <= (p : Int) := Int.natCast_nonneg _
 have p1 : (p : Int) <= 1024 := by lia
 have L0 : 0 <= L := by exact qI hL.1
 have L1 : L <= 1024 := by exact iLT hL.2 qN
 have q0 : 0 < 8 - (p : Int) := by omega
 have q1 := qI q0
 have q2 : 8 - (p : Int) <= 1024 := by lia
 have g0 : 0 <= L * (8 - p) := Int.mul_nonneg L0 q1
 have g1 : L * (8 - p) <= 128 * 7 := Int.mul_le_mul hL.2 (by lia) q1 (by decide)
 have k0 : 0 <= L * p := Int.mul_nonneg L0 p0
 have k1 : L * p <= 128 * 4 := Int.mul_le_mul hL.2 (cG hp.2) p0 (by decide)
 have fT := fracs (c := 2 ^ 24) (d := 64) T0 (by lia) (by decide) (by decide) (by decide)
 have fp := fracs (c := 2 ^ 28) (d := 4) p0 p1 (by decide) (by decide) (by decide)
 have fL := fracs (c := 2 ^ 23) (d := 128) L0 L1 (by decide) (by decide) (by decide)
 have fg := fracs (c := 2 ^ 20) (d := 1024) g0 (iLT g1 (by decide)) (by decide) (by decide) (by decide)
 have iT := fT.infF; have ip := fp.infF; have iL := fL.infF; have ig := fg.infF
 have nI : ∀ {n d : Nat}, 0 < d -> n <= 2 ^ 30 -> infF (ofFrac false n d) = false := by
  intro n d h1 h2
  obtain ⟨m, e, q⟩ := frac_fin h1 h2
  unfold infF isInf
  rw [q]
 by_cases q : L * (8 - p) <= 512
 ·have is : infF (ofFrac false (p : Int).natAbs (8 - (p : Int)).natAbs) = false := nI (by omega) (wB hp.2)
  refine ⟨_, _, _, _, _, ofFrac false (p : Int).natAbs (8 - (p : Int)).natAbs, ⟨fT, fp, fL, fT, fg, ?_⟩, ?_⟩
  ·rw [if_pos q]
   have e : (8 - (p : Int)).natAbs = 8 - p := by
    show (((8 : Nat) : Int) - (p : Int)).natAbs = _
    rw [← Int.ofNat_sub (qW (Nat.lt_trans hp.2 (by decide)))]; rfl
   rw [e]; rfl
  ·intro n σ
   apply y3 (b := b_due) (sl_0 := [some (.int T), some (.int p), some (.int L), none, none]) rfl rfl rfl
   unfold b_due
   repeat (first
    | (with_reducible first
    | apply zE | apply zG | apply yE | apply yA | exact ev_flt | exact zF | exact zD | exact bi_mulI ⟨sm (by assumption) (by first | assumption | decide), sm (by assumption) (by assumption)⟩ | exact xV
    | exact yZ (by assumption) (by assumption) is | exact yZ (by decide) (by assumption) iT | exact yZ (by decide) (by assumption) ip | exact yZ (by decide) (by assumption) iL | exact yZ (by decide) (by assumption) ig
    | exact leI_t q | exact zQ | exact yF
    | apply zA | apply zL | apply zB | apply ev_tup | apply yT | apply zW
    | apply zP | apply zX | apply zO | apply y0 | apply zY | apply if_t | apply if_f)
    | exact nBL rfl
    | exact yF)
 ·have q3 : 0 < 1024 - L * (8 - p) := by omega
  have is : infF (ofFrac false (L * p).natAbs (1024 - L * (8 - p)).natAbs) = false := nI (by omega) (by omega)
  refine ⟨_, _, _, _, _, ofFrac false (L * p).natAbs (1024 - L * (8 - p)).natAbs, ⟨fT, fp, fL, fT, fg, ?_⟩, ?_⟩
  ·rw [if_neg q]
   obtain ⟨N, rfl⟩ := Int.eq_ofNat_of_zero_le (show 0 <= L by omega)
   have hp8 : ((8 - p : Nat) : Int) = 8 - (p : Int) := by exact Int.natCast_sub (wB hp.2)
   have hN8 : ((N * (8 - p) : Nat) : Int) = (N : Int) * (8 - p) := by rw [Int.natCast_mul, hp8]
   have e1 : ((N : Int) * p).natAbs = N * p := by rw [← Int.natCast_mul]; rfl
   have e2 : (1024 - (N : Int) * (8 - p)).natAbs = 1024 - N * (8 - p) := by rw [← hN8, n1024 (Int.ofNat_le.1 (hN8 ▸ Int.sub_nonneg.1 (qI q3)))]; rfl
   rw [e1, e2]; rfl
  ·intro n σ
   apply y3 (b := b_due) (sl_0 := [some (.int T), some (.int p), some (.int L), none, none]) rfl rfl rfl
   unfold b_due
   repeat (first
    | (with_reducible first
    | apply zE | apply zG | apply yE | apply yA | exact ev_flt | exact zF | exact zD | exact bi_mulI ⟨sm (by assumption) (by first | assumption | decide), sm (by assumption) (by assumption)⟩ | exact xV
    | exact yZ (by assumption) (by assumption) is | exact yZ (by decide) (by assumption) iT | exact yZ (by decide) (by assumption) ip | exact yZ (by decide) (by assumption) iL | exact yZ (by decide) (by assumption) ig
    | exact leI_f q | exact zQ | exact yF
    | apply zA | apply zL | apply zB | apply ev_tup | apply yT | apply zW
    | apply zP | apply zX | apply zO | apply y0 | apply zY | apply if_t | apply if_f)
    | exact nBL rfl
    | exact yF)
end
end Mine.Pl
namespace Mine.Pl
open PySem PySem.Float64
theorem zH {σ : Sto} {k : Nat} {xs : List V} {i : Int} {j : Nat} {v : V} (h : σ[k]? = some xs) (hi : i = (j : Int)) (hl : xs.length <= 1000000) (hv : xs[j]? = some v) : subV (.lst k) (.int i) σ = some v := by
 subst hi
 have hj : j < xs.length := (gSI.mp hv).1
 have hp : Mine.place xs.length (j : Int) = some j := by
  unfold Mine.place
  rw [if_neg (qK hl), if_pos qN, if_pos (by simpa using hj)]
  rfl
 exact ob h (ob hp hv)
theorem sub_tup {σ : Sto} {xs : List V} {i : Int} {j : Nat} {v : V} (hi : i = (j : Int)) (hl : xs.length <= 1000000) (hv : xs[j]? = some v) : subV (.tup xs) (.int i) σ = some v := by
 subst hi
 have hj : j < xs.length := (gSI.mp hv).1
 have hp : Mine.place xs.length (j : Int) = some j := by
  unfold Mine.place
  rw [if_neg (qK hl), if_pos qN, if_pos (by simpa using hj)]
  rfl
 exact ob hp hv
theorem zK {σ : Sto} {xs ys : List V} {k : Nat} (h : σ[k]? = some xs) : (σ ++ [ys])[k]? = some xs := by
 rw [gAL (gSI.mp h).1, h]
theorem zI {σ : Sto} {ys : List V} : (σ ++ [ys])[σ.length]? = some ys := by simp
theorem kw_hsv : kwF .hsv = false := rfl
theorem kw_hls : kwF .hls = false := rfl
theorem kw_rgb : kwF .rgb = false := rfl
theorem kw_quote : kwF .quote = false := rfl
theorem kw_subst : kwF .subst = false := rfl
theorem kw_lev : kwF .lev = false := rfl
theorem kw_light : kwF .light = false := rfl
theorem kw_read : kwF .read = false := rfl
theorem kw_due : kwF .due = false := rfl
theorem value_run {x y z a b c : UInt64} {rest : List V} {σ : Sto} {k : Nat} (n : Nat) (h : σ[k]? = some (.flt x :: .flt y :: .flt z :: rest)) (hl : rest.length <= 1000) (e : ∀ n σ, (recN (n + 12)).call .hsv [.flt x, .flt y, .flt z] σ = some (.tup [.flt a, .flt b, .flt c], σ)) :
  (recN (n + 20)).call .value [.lst k] σ = some (.flt c, σ) := by
 have s0 : ∀ σ', σ' = σ -> subV (.lst k) (.int 0) σ' = some (.flt x) := fun σ' q => by subst q; exact zH h (j := 0) rfl (by simp; exact qT hl qL) rfl
 have s1 : ∀ σ', σ' = σ -> subV (.lst k) (.int 1) σ' = some (.flt y) := fun σ' q => by subst q; exact zH h (j := 1) rfl (by simp; exact qT hl qL) rfl
 have s2 : ∀ σ', σ' = σ -> subV (.lst k) (.int 2) σ' = some (.flt z) := fun σ' q => by subst q; exact zH h (j := 2) rfl (by simp; exact qT hl qL) rfl
 have t2 : ∀ σ', subV (.tup [.flt a, .flt b, .flt c]) (.int 2) σ' = some (.flt c) := fun σ' => sub_tup (j := 2) rfl qL rfl
 apply y3 (b := b_value) (sl_0 := [some (.lst k)]) rfl rfl rfl
 unfold b_value
 repeat (first
  | (with_reducible first
  | apply zE | apply zG | exact zF | exact zD | exact s0 _ rfl | exact s1 _ rfl | exact s2 _ rfl | exact t2 _ | exact kw_hsv | exact e _ _ | exact yF
  | apply zA | apply zM | apply zB | apply xC
  | apply zP | apply y0))
theorem light_run {x y z a b c : UInt64} {rest : List V} {σ : Sto} {k : Nat} (n : Nat) (h : σ[k]? = some (.flt x :: .flt y :: .flt z :: rest)) (hl : rest.length <= 1000) (e : ∀ n σ, (recN (n + 12)).call .hls [.flt x, .flt y, .flt z] σ = some (.tup [.flt a, .flt b, .flt c], σ)) :
  (recN (n + 20)).call .light [.lst k] σ = some (.flt b, σ) := by
 have s0 : ∀ σ', σ' = σ -> subV (.lst k) (.int 0) σ' = some (.flt x) := fun σ' q => by subst q; exact zH h (j := 0) rfl (by simp; exact qT hl qL) rfl
 have s1 : ∀ σ', σ' = σ -> subV (.lst k) (.int 1) σ' = some (.flt y) := fun σ' q => by subst q; exact zH h (j := 1) rfl (by simp; exact qT hl qL) rfl
 have s2 : ∀ σ', σ' = σ -> subV (.lst k) (.int 2) σ' = some (.flt z) := fun σ' q => by subst q; exact zH h (j := 2) rfl (by simp; exact qT hl qL) rfl
 have t2 : ∀ σ', subV (.tup [.flt a, .flt b, .flt c]) (.int 1) σ' = some (.flt b) := fun σ' => sub_tup (j := 1) rfl qL rfl
 apply y3 (b := b_light) (sl_0 := [some (.lst k)]) rfl rfl rfl
 unfold b_light
 repeat (first
  | (with_reducible first
  | apply zE | apply zG | exact zF | exact zD | exact s0 _ rfl | exact s1 _ rfl | exact s2 _ rfl | exact t2 _ | exact kw_hls | exact e _ _ | exact yF
  | apply zA | apply zM | apply zB | apply xC
  | apply zP | apply y0))
theorem read_run {x y z a b c a' b' c' : UInt64} {rest : List V} {σ : Sto} {k : Nat} (n : Nat) (h : σ[k]? = some (.flt x :: .flt y :: .flt z :: rest)) (hl : rest.length <= 1000)
  (e : ∀ n σ, (recN (n + 12)).call .hsv [.flt x, .flt y, .flt z] σ = some (.tup [.flt a, .flt b, .flt c], σ)) (e' : ∀ n σ, (recN (n + 12)).call .hls [.flt x, .flt y, .flt z] σ = some (.tup [.flt a', .flt b', .flt c'], σ)) :
  (recN (n + 20)).call .read [.lst k] σ = some (.lst σ.length, σ ++ [[.tup [.flt a, .flt b, .flt c], .tup [.flt a', .flt b', .flt c']]]) := by
 have s0 : ∀ σ', σ' = σ -> subV (.lst k) (.int 0) σ' = some (.flt x) := fun σ' q => by subst q; exact zH h (j := 0) rfl (by simp; exact qT hl qL) rfl
 have s1 : ∀ σ', σ' = σ -> subV (.lst k) (.int 1) σ' = some (.flt y) := fun σ' q => by subst q; exact zH h (j := 1) rfl (by simp; exact qT hl qL) rfl
 have s2 : ∀ σ', σ' = σ -> subV (.lst k) (.int 2) σ' = some (.flt z) := fun σ' q => by subst q; exact zH h (j := 2) rfl (by simp; exact qT hl qL) rfl
 apply y3 (b := b_read) (sl_0 := [some (.lst k)]) rfl rfl rfl
 unfold b_read
 repeat (first
  | (with_reducible first
  | apply zE | apply zG | exact zF | exact zD | exact s0 _ rfl | exact s1 _ rfl | exact s2 _ rfl | exact kw_hls | exact kw_hsv | exact e _ _ | exact e' _ _ | exact yF
  | apply zA | apply zM | apply zB | apply xC | apply yT
  | apply zP | apply y0)
  | exact nBL rfl)
theorem reads_eq {T p : Nat} {L : Int} {a b c a' l sh x y z x' m th : UInt64} (hT : T < 64) (hp : 1 <= p /\ p < 5) (hL : 1 <= L /\ L <= 128) (R : Reads T p L a b c a' l sh) (S : Reads T p L x y z x' m th) :
  eqL [.tup [.flt a, .flt b, .flt c], .tup [.flt a', .flt l, .flt sh]] [.tup [.flt x, .flt y, .flt z], .tup [.flt x', .flt m, .flt th]] = some true := by
 have hsh : eqA (.flt sh) (.flt th) = some true := by
  rw [R.sh, S.sh]
  split
  ·obtain ⟨m, e, h⟩ := frac_fin (n := p) (d := 8 - p) (by lia) (wB hp.2)
   exact eq_self h
  ·rename_i q
   obtain ⟨N, rfl⟩ := Int.eq_ofNat_of_zero_le (show 0 <= L by exact qI hL.1)
   have h1 : N * (8 - p) <= 128 * 7 := Nat.mul_le_mul (cA hL.2) (by lia)
   have h2 : N * p <= 128 * 4 := Nat.mul_le_mul (cA hL.2) (qO hp.2)
   have e0 : ((N : Int)).toNat = N := rfl
   rw [e0]
   obtain ⟨m, e, h⟩ := frac_fin (n := N * p) (d := 1024 - N * (8 - p)) (by lia) (qT h2 qL)
   exact eq_self h
 have c : ∀ {f : V -> V -> Option Bool} {a b as bs}, f a b = some true -> eqW f as bs = some true -> eqW f (a :: as) (b :: bs) = some true := fun h k => ob h (ob k rfl)
 exact (if_pos rfl).trans (c (c (R.h.eqA S.h rfl) (c (R.s.eqA S.s rfl) (c (R.v.eqA S.v rfl) rfl))) (c (c (R.h2.eqA S.h2 rfl) (c (R.l.eqA S.l rfl) (c hsh rfl))) rfl))
noncomputable def Mods (M : List Nat) (σ σ' : Sto) : Prop := σ.length <= σ'.length /\ ∀ i xs, i ∉ M -> σ[i]? = some xs -> σ'[i]? = some xs
theorem Mods.refl {M : List Nat} {σ : Sto} : Mods M σ σ := ⟨Nat.le_refl _, fun J J J h => h⟩
theorem Mods.trans {M : List Nat} {σ σ_1 σ_2 : Sto} (a : Mods M σ σ_1) (b : Mods M σ_1 σ_2) : Mods M σ σ_2 := ⟨qT a.1 b.1, fun i xs hi h => b.2 i xs hi (a.2 i xs hi h)⟩
theorem Mods.app {M : List Nat} {σ : Sto} {l : Sto} : Mods M σ (σ ++ l) := ⟨by simp, fun i xs J h => by rw [gAL (gSI.mp h).1, h]⟩
theorem Mods.set {M : List Nat} {σ : Sto} {k : Nat} {ys : List V} (hk : k ∈ M) : Mods M σ (σ.set k ys) := ⟨by simp, fun i xs hi h => by rw [gSN (fun q : k = i => hi (q ▸ hk)), h]⟩
theorem Mods.mono {M N : List Nat} {σ σ' : Sto} (a : Mods M σ σ') (h : ∀ i ∈ M, i ∈ N) : Mods N σ σ' := ⟨a.1, fun i xs hi q => a.2 i xs (fun r => hi (h i r)) q⟩
theorem Mods.new {M N : List Nat} {σ σ' : Sto} (a : Mods M σ σ') (h : ∀ i ∈ M, i ∈ N \/ σ.length <= i) : Mods N σ σ' :=
 ⟨a.1, fun i xs hi q => a.2 i xs (fun r => (h i r).elim hi fun s => absurd (gSI.mp q).1 (qK s)) q⟩
theorem Mods.nil {M : List Nat} {σ σ' : Sto} (a : Mods [] σ σ') : Mods M σ σ' := a.mono (List.nil_subset _)
theorem zT {σ : Sto} {i : Nat} {xs : List V} (h : σ[i]? = some xs) : i < σ.length := (gSI.mp h).1
theorem yR {σ : Sto} {k : Nat} {xs ys : List V} (h : σ[k]? = some xs) : (σ.set k ys)[k]? = some ys := by
 rw [List.getElem?_set_self (zT h)]
structure Hue (T p : Nat) (L : Int) (σ : Sto) (v : V) (i : Nat) (x y z : UInt64) (rest : List V) : Prop where
 v : v = .lst i
 at_ : σ[i]? = some (.flt x :: .flt y :: .flt z :: rest)
 col : Col T p L x y z
 len : rest.length <= 1000
theorem Hue.mods {T p : Nat} {L : Int} {σ σ' : Sto} {v : V} {i : Nat} {x y z : UInt64} {rest : List V} {M : List Nat} (h : Hue T p L σ v i x y z rest) (m : Mods M σ σ') (hi : i ∉ M) : Hue T p L σ' v i x y z rest := ⟨h.v, m.2 _ _ hi h.at_, h.col, h.len⟩
section
variable {T p : Nat} {L : Int} {σ : Sto} {v : V} {i : Nat} {x y z : UInt64} {rest : List V}
theorem Hue.reads (hT : T < 64) (hp : 1 <= p /\ p < 5) (hL : 1 <= L /\ L <= 128) (H : Hue T p L σ v i x y z rest) : ∃ hh s w h2 l sh, Reads T p L hh s w h2 l sh /\ (∀ n σ, (recN (n + 12)).call .hsv [.flt x, .flt y, .flt z] σ = some (.tup [.flt hh, .flt s, .flt w], σ)) /\
   (∀ n σ, (recN (n + 12)).call .hls [.flt x, .flt y, .flt z] σ = some (.tup [.flt h2, .flt l, .flt sh], σ)) :=
 read_col hp hL (cv_ok T hT p hp.2 hp.1) H.col.1 H.col.2.1 H.col.2.2
theorem Hue.value (hT : T < 64) (hp : 1 <= p /\ p < 5) (hL : 1 <= L /\ L <= 128) (H : Hue T p L σ v i x y z rest) : ∃ w, FV w (L * 2 ^ 23) /\ ∀ n, (recN (n + 20)).call .value [v] σ = some (.flt w, σ) := by
 refine byC fun hG => ?_
 obtain ⟨hh, s, w, h2, l, sh, R, e, e'⟩ := H.reads hT hp hL
 refine hG ?_
 exact ⟨w, R.v, fun n => by rw [H.v]; exact value_run n H.at_ H.len e⟩
theorem Hue.light (hT : T < 64) (hp : 1 <= p /\ p < 5) (hL : 1 <= L /\ L <= 128) (H : Hue T p L σ v i x y z rest) : ∃ w, FV w (L * (8 - p) * 2 ^ 20) /\ ∀ n, (recN (n + 20)).call .light [v] σ = some (.flt w, σ) := by
 refine byC fun hG => ?_
 obtain ⟨hh, s, w, h2, l, sh, R, e, e'⟩ := H.reads hT hp hL
 refine hG ?_
 exact ⟨l, R.l, fun n => by rw [H.v]; exact light_run n H.at_ H.len e'⟩
theorem Hue.check (hT : T < 64) (hp : 1 <= p /\ p < 5) (hL : 1 <= L /\ L <= 128) (H : Hue T p L σ v i x y z rest) : ∃ ra rb, (∀ n, (recN (n + 20)).call .read [v] σ = some (.lst σ.length, σ ++ [ra])) /\
  (∀ n σ', (recN (n + 12)).call .due [.int T, .int p, .int L] σ' = some (.lst σ'.length, σ' ++ [rb])) /\ eqL ra rb = some true := by
 refine byC fun hG => ?_
 obtain ⟨hh, s, w, h2, l, sh, R, e, e'⟩ := H.reads hT hp hL
 obtain ⟨a, b, c, a', l', sh', R', due⟩ := due_run hT hp hL
 refine hG ?_
 exact ⟨_, _, fun n => by rw [H.v]; exact read_run n H.at_ H.len e e', due, reads_eq hT hp hL R R'⟩
end
end Mine.Pl
namespace Mine.Pl
open PySem PySem.Float64
section
variable {n : Nat} {sl sl_1 sl_2 : Slots} {σ σ_1 σ_2 σ_3 : Sto}
theorem wh_step {t : ME} {b : List MS} {r : Fl × Slots × Sto} (h1 : (recN n).test t sl σ = some (true, σ_1)) (h2 : (recN n).exec b sl σ_1 = some (.next, sl_1, σ_2)) (h3 : (recN n).whil t b sl_1 σ_2 = some r) : (recN (n + 1)).whil t b sl σ = some r := ob h1 (ob h2 h3)
theorem wh_end {t : ME} {b : List MS} (h1 : (recN n).test t sl σ = some (false, σ_1)) : (recN (n + 1)).whil t b sl σ = some (.next, sl, σ_1) := ob h1 rfl
theorem fr_end {x : Nat} {v : V} {i : Nat} {b : List MS} (h : zV σ v i = some none) : (recN (n + 1)).forr x v i b sl σ = some (.next, sl, σ) := ob h rfl
theorem xT {x : Nat} {v y : V} {i : Nat} {b : List MS} {r : Fl × Slots × Sto} (h : zV σ v i = some (some y)) (h1 : setSl sl x y = sl_1) (h2 : (recN n).exec b sl_1 σ = some (.next, sl_2, σ_2)) (h3 : (recN n).forr x v (i + 1) b sl_2 σ_2 = some r) : (recN (n + 1)).forr x v i b sl σ = some r := by subst h1; exact ob h (ob h2 h3)
theorem cp_end {e : ME} {cap : Slots} {v : V} {i : Nat} {c : Option ME} {acc : List V} (h : zV σ v i = some none) : (recN (n + 1)).comp e cap v i c acc σ = some (acc, σ) := ob h rfl
theorem cp_step {e : ME} {cap : Slots} {v y w : V} {i : Nat} {acc : List V} {r : List V × Sto} (h : zV σ v i = some (some y)) (h1 : (recN n).eval e (some y :: cap) σ = some (w, σ_1)) (h2 : acc.length < 1000) (h3 : (recN n).comp e cap v (i + 1) none (acc ++ [w]) σ_1 = some r) : (recN (n + 1)).comp e cap v i none acc σ = some r := ob h (ob (a := (true, σ)) rfl (ob h1 ((if_neg (Nat.not_le.mpr h2)).trans h3)))
theorem cp_yes {e t : ME} {cap : Slots} {v y w : V} {i : Nat} {acc : List V} {r : List V × Sto} (h : zV σ v i = some (some y)) (ht : (recN n).test t (some y :: cap) σ = some (true, σ_1)) (h1 : (recN n).eval e (some y :: cap) σ_1 = some (w, σ_2)) (h2 : acc.length < 1000) (h3 : (recN n).comp e cap v (i + 1) (some t) (acc ++ [w]) σ_2 = some r) : (recN (n + 1)).comp e cap v i (some t) acc σ = some r := ob h (ob ht (ob h1 ((if_neg (Nat.not_le.mpr h2)).trans h3)))
theorem cp_no {e t : ME} {cap : Slots} {v y : V} {i : Nat} {acc : List V} {r : List V × Sto} (h : zV σ v i = some (some y)) (ht : (recN n).test t (some y :: cap) σ = some (false, σ_1)) (h3 : (recN n).comp e cap v (i + 1) (some t) acc σ_1 = some r) : (recN (n + 1)).comp e cap v i (some t) acc σ = some r := ob h (ob ht h3)
theorem xN {e it : ME} {fr : List Nat} {c : Option ME} {v : V} {y : Option V} {vs : List V} {cap : Slots} (h1 : (recN n).eval it sl σ = some (v, σ_1)) (h2 : zV σ_1 v 0 = some y) (hc : zU sl fr = cap) (h3 : (recN n).comp e cap v 0 c [] σ_1 = some (vs, σ_2)) : (recN (n + 1)).eval (.comp e fr it c) sl σ = some (.lst σ_2.length, σ_2 ++ [vs]) := by subst hc; exact ob h1 (ob h2 (ob h3 rfl))
theorem ev_callk2 {f key : ME} {args : List ME} {g : F} {a x k : V} {r : V × Sto} (hg : g = .insortR \/ g = .insortL) (h1 : (recN n).eval f sl σ = some (.glob (.fn g), σ_1)) (h2 : evals (recN n).eval args sl σ_1 = some ([a, x], σ_2)) (h3 : (recN n).eval key sl σ_2 = some (k, σ_3)) (h4 : (recN n).call g [a, x, .int 0, .none, k] σ_3 = some r) :
  (recN (n + 1)).eval (.callk f args key) sl σ = some r := ob h1 (ob h2 (ob h3 (by rcases hg with rfl | rfl <;> exact h4)))
theorem ev_callk4 {f key : ME} {args : List ME} {g : F} {a x l h k : V} {r : V × Sto} (hg : g = .bisectR \/ g = .bisectL) (h1 : (recN n).eval f sl σ = some (.glob (.fn g), σ_1)) (h2 : evals (recN n).eval args sl σ_1 = some ([a, x, l, h], σ_2)) (h3 : (recN n).eval key sl σ_2 = some (k, σ_3)) (h4 : (recN n).call g [a, x, l, h, k] σ_3 = some r) :
  (recN (n + 1)).eval (.callk f args key) sl σ = some r := ob h1 (ob h2 (ob h3 (by rcases hg with rfl | rfl <;> exact h4)))
theorem ltF {a b : UInt64} {x y : Int} {q : Bool} (ha : FV a x) (hb : FV b y) (hq : decide (x < y) = q) : cmpV σ .Lt (.flt a) (.flt b) = some q := by
 subst hq
 show some (Float64.cmp a b == some .lt) = _
 rw [ha.cmp hb]
 exact congrArg some cmp_lt
end
noncomputable def Keyed (K : F) (σ : Sto) (vs : List V) (ks : List Int) : Prop := ks.length = vs.length /\ ∀ (j : Nat) (v : V), vs[j]? = some v -> ∃ (f : UInt64) (k : Int), ks[j]? = some k /\ FV f k /\ ∀ n, (recN (n + 20)).call K [v] σ = some (.flt f, σ)
noncomputable def Asc (ks : List Int) : Prop := ∀ (i j : Nat) (a b : Int), i <= j -> ks[i]? = some a -> ks[j]? = some b -> a <= b
noncomputable abbrev bst (id : Nat) (x : UInt64) (K : F) (lo hi : Nat) (mid : Option V) : Slots := [some (.lst id), some (.flt x), some (.int (lo : Nat)), some (.int (hi : Nat)), some (.glob (.fn K)), mid]
theorem bis_test {id lo hi N : Nat} {x : UInt64} {K : F} {mid : Option V} {σ : Sto} {q : Bool} (h : decide (lo < hi) = q) : (recN (N + 2)).test (.cmp .Lt (.var 2) (.var 3)) (bst id x K lo hi mid) σ = some (q, σ) :=
 zW (zA (zG (zG zE))) (zA (zG (zG (zG zE)))) (congrArg some (by rw [← h]; exact decide_eq_decide.mpr Int.ofNat_lt))
theorem bis_loop {B : List MS} {σ : Sto} {id len n : Nat} {x : UInt64} {K : F} {LT GE : Nat -> Prop}
  (hB : ∀ (N lo hi m : Nat) (mid : Option V), lo < hi -> hi <= len -> m = (lo + hi) / 2 -> m < len -> ∃ q : Bool, (if q = true then GE m else LT m) /\ (recN (N + 40)).exec B (bst id x K lo hi mid) σ = some (.next, if q = true then bst id x K lo m (some (.int (m : Nat))) else bst id x K (m + 1) hi (some (.int (m : Nat))), σ))
  (m1 : ∀ j m, j <= m -> m < len -> LT m -> LT j) (m2 : ∀ j m, m <= j -> m < len -> GE m -> GE j) :
  ∀ (d lo hi : Nat) (mid : Option V), hi <= lo + d -> lo <= hi -> hi <= len -> (∀ j, j < lo -> LT j) -> (∀ j, hi <= j -> GE j) ->
   ∃ i mid', (recN (n + d + 41)).whil (.cmp .Lt (.var 2) (.var 3)) B (bst id x K lo hi mid) σ = some (.next, bst id x K i i mid', σ) /\ i <= len /\ (∀ j, j < i -> LT j) /\ ∀ j, i <= j -> GE j := by
 intro d; induction d with
 | zero =>
  intro lo hi mid hd h1 h2 h3 h4
  obtain rfl : lo = hi := Nat.le_antisymm h1 hd
  exact ⟨lo, mid, wh_end (bis_test (decide_eq_false (nIR _))), h2, h3, h4⟩
 | succ d ih =>
  intro lo hi mid hd h1 h2 h3 h4
  by_cases hlt : lo < hi
  ·obtain ⟨m, hm⟩ : ∃ m, m = (lo + hi) / 2 := ⟨_, rfl⟩
   have ha : lo <= m := hm ▸ hfA hlt
   have hb : m < hi := hm ▸ hfB hlt
   have hml := qA hb h2
   obtain ⟨q, hq, run⟩ := hB (n + d + 1) lo hi m mid hlt h2 hm hml
   have e : n + (d + 1) + 41 = n + d + 1 + 40 + 1 := by exact Nat.add_assoc _ _ _
   rw [e]
   cases q with
   | true =>
    obtain ⟨i, mid', r, o⟩ := ih lo m (some (.int (m : Nat))) (qO (qA hb hd)) ha (qW hml) h3 fun j hj => m2 j m hj hml hq
    exact ⟨i, mid', wh_step (bis_test (decide_eq_true hlt)) run r, o⟩
   | false =>
    obtain ⟨i, mid', r, o⟩ := ih (m + 1) hi (some (.int (m : Nat))) (hfC hd ha) hb h2 (fun j hj => m1 j m (qO hj) hml hq) h4
    exact ⟨i, mid', wh_step (bis_test (decide_eq_true hlt)) run r, o⟩
  ·obtain rfl : lo = hi := Nat.le_antisymm h1 (Nat.le_of_not_lt hlt)
   exact ⟨lo, mid, wh_end (bis_test (decide_eq_false (nIR _))), h2, h3, h4⟩
section
variable {K : F} {σ : Sto} {id : Nat} {vs : List V} {ks : List Int} {x : UInt64} {X : Int}
theorem bis_b1 {lo hi m : Nat} (hm : m = (lo + hi) / 2) : binF .FloorDiv (.int ((lo : Int) + (hi : Int))) (.int 2) σ = some (.int (m : Int), σ) := by
 rw [bi_fdivI (by decide), hm]; rfl
theorem bis_b2 {m : Nat} : binF .Add (.int (m : Int)) (.int 1) σ = some (.int ((m + 1 : Nat) : Int), σ) := by rw [y6]; rfl
noncomputable abbrev bodyR : List MS := [.set 5 (.bin .FloorDiv (.bin .Add (.var 2) (.var 3)) (.int 2)), .ite (.cmp .Lt (.var 1) (.call (.var 4) [(.sub (.var 0) (.var 5))])) [.set 3 (.var 5)] [.set 2 (.bin .Add (.var 5) (.int 1))]]
noncomputable abbrev bodyL : List MS := [.set 5 (.bin .FloorDiv (.bin .Add (.var 2) (.var 3)) (.int 2)), .ite (.cmp .Lt (.call (.var 4) [(.sub (.var 0) (.var 5))]) (.var 1)) [.set 2 (.bin .Add (.var 5) (.int 1))] [.set 3 (.var 5)]]
theorem bodyR_run {lo hi m N : Nat} {mid : Option V} {v : V} {f : UInt64} {q : Bool} (hK : kwF K = false) (hm : m = (lo + hi) / 2) (c1 : subV (.lst id) (.int (m : Int)) σ = some v) (hcall : ∀ n, (recN (n + 20)).call K [v] σ = some (.flt f, σ)) (c2 : cmpV σ .Lt (.flt x) (.flt f) = some q) :
  (recN (N + 40)).exec bodyR (bst id x K lo hi mid) σ = some (.next, if q = true then bst id x K lo m (some (.int (m : Nat))) else bst id x K (m + 1) hi (some (.int (m : Nat))), σ) := by
 have b1 := bis_b1 (σ := σ) hm
 have b2 := bis_b2 (σ := σ) (m := m)
 cases q
 ·show _ = some (Fl.next, bst id x K (m + 1) hi (some (.int (m : Nat))), σ)
  repeat (with_reducible first | exact b1 | exact b2 | exact y6 | exact c1 | exact c2 | exact hcall _ | exact hK | exact zF | exact zD | apply zE | apply zG | apply yE | apply yA | exact zQ | apply zA | apply zL | apply zM | apply ev_fn | apply zB | apply zW | apply zP | apply zX | apply zO | apply zY | apply if_t | apply if_f)
 ·show _ = some (Fl.next, bst id x K lo m (some (.int (m : Nat))), σ)
  repeat (with_reducible first | exact b1 | exact b2 | exact y6 | exact c1 | exact c2 | exact hcall _ | exact hK | exact zF | exact zD | apply zE | apply zG | apply yE | apply yA | exact zQ | apply zA | apply zL | apply zM | apply ev_fn | apply zB | apply zW | apply zP | apply zX | apply zO | apply zY | apply if_t | apply if_f)
theorem bodyL_run {lo hi m N : Nat} {mid : Option V} {v : V} {f : UInt64} {q : Bool} (hK : kwF K = false) (hm : m = (lo + hi) / 2) (c1 : subV (.lst id) (.int (m : Int)) σ = some v) (hcall : ∀ n, (recN (n + 20)).call K [v] σ = some (.flt f, σ)) (c2 : cmpV σ .Lt (.flt f) (.flt x) = some (!q)) :
  (recN (N + 40)).exec bodyL (bst id x K lo hi mid) σ = some (.next, if q = true then bst id x K lo m (some (.int (m : Nat))) else bst id x K (m + 1) hi (some (.int (m : Nat))), σ) := by
 have b1 := bis_b1 (σ := σ) hm
 have b2 := bis_b2 (σ := σ) (m := m)
 cases q
 ·show _ = some (Fl.next, bst id x K (m + 1) hi (some (.int (m : Nat))), σ)
  have c2 : cmpV σ .Lt (.flt f) (.flt x) = some true := c2
  repeat (with_reducible first | exact b1 | exact b2 | exact y6 | exact c1 | exact c2 | exact hcall _ | exact hK | exact zF | exact zD | apply zE | apply zG | apply yE | apply yA | exact zQ | apply zA | apply zL | apply zM | apply ev_fn | apply zB | apply zW | apply zP | apply zX | apply zO | apply zY | apply if_t | apply if_f)
 ·show _ = some (Fl.next, bst id x K lo m (some (.int (m : Nat))), σ)
  have c2 : cmpV σ .Lt (.flt f) (.flt x) = some false := c2
  repeat (with_reducible first | exact b1 | exact b2 | exact y6 | exact c1 | exact c2 | exact hcall _ | exact hK | exact zF | exact zD | apply zE | apply zG | apply yE | apply yA | exact zQ | apply zA | apply zL | apply zM | apply ev_fn | apply zB | apply zW | apply zP | apply zX | apply zO | apply zY | apply if_t | apply if_f)
variable (hK : kwF K = false) (hv : σ[id]? = some vs) (hl : vs.length <= 1000) (key : Keyed K σ vs ks) (asc : Asc ks) (fx : FV x X) (n : Nat)
include hK hv hl key asc fx
theorem bisR_loop (d lo hi : Nat) (mid : Option V) (hd : hi - lo <= d) (h1 : lo <= hi) (h2 : hi <= vs.length) (h3 : ∀ (j : Nat), j < lo -> ∀ (k : Int), ks[j]? = some k -> k <= X) (h4 : ∀ (j : Nat), hi <= j -> ∀ (k : Int), ks[j]? = some k -> X < k) :
  ∃ i mid', (recN (n + d + 41)).whil (.cmp .Lt (.var 2) (.var 3)) bodyR (bst id x K lo hi mid) σ = some (.next, bst id x K i i mid', σ) /\ i <= vs.length /\ (∀ (j : Nat), j < i -> ∀ (k : Int), ks[j]? = some k -> k <= X) /\ (∀ (j : Nat), i <= j -> ∀ (k : Int), ks[j]? = some k -> X < k) := by
 refine bis_loop (LT := fun j => ∀ k, ks[j]? = some k -> k <= X) (GE := fun j => ∀ k, ks[j]? = some k -> X < k) (fun N lo hi m mid hlt hh hm hml => ?_) (fun j m hj hml h k hk => ?_) (fun j m hj hml h k hk => ?_) d lo hi mid (Nat.sub_le_iff_le_add'.1 hd) h1 h2 h3 h4
 ·obtain ⟨f, k, hk, fk, hcall⟩ := key.2 m vs[m] (gEG hml)
  refine ⟨decide (X < k), ?_, bodyR_run hK hm (zH hv (j := m) rfl (qT hl (by decide)) (gEG hml)) hcall (ltF fx fk rfl)⟩
  by_cases q : X < k
  ·rw [if_pos (decide_eq_true q)]
   exact fun k' hk' => sE (hk.symm.trans hk') q
  ·rw [if_neg (by simpa using q)]
   exact fun k' hk' => sE (hk.symm.trans hk') (Int.not_lt.mp q)
 ·have hm := gEG (l := ks) (i := m) (by rw [key.1]; exact hml)
  exact iLT (asc j m _ _ hj hk hm) (h _ hm)
 ·have hm := gEG (l := ks) (i := m) (by rw [key.1]; exact hml)
  exact Int.lt_of_lt_of_le (h _ hm) (asc m j _ _ hj hm hk)
theorem bisL_loop (d lo hi : Nat) (mid : Option V) (hd : hi - lo <= d) (h1 : lo <= hi) (h2 : hi <= vs.length) (h3 : ∀ (j : Nat), j < lo -> ∀ (k : Int), ks[j]? = some k -> k < X) (h4 : ∀ (j : Nat), hi <= j -> ∀ (k : Int), ks[j]? = some k -> X <= k) :
  ∃ i mid', (recN (n + d + 41)).whil (.cmp .Lt (.var 2) (.var 3)) bodyL (bst id x K lo hi mid) σ = some (.next, bst id x K i i mid', σ) /\ i <= vs.length /\ (∀ (j : Nat), j < i -> ∀ (k : Int), ks[j]? = some k -> k < X) /\ (∀ (j : Nat), i <= j -> ∀ (k : Int), ks[j]? = some k -> X <= k) := by
 refine bis_loop (LT := fun j => ∀ k, ks[j]? = some k -> k < X) (GE := fun j => ∀ k, ks[j]? = some k -> X <= k) (fun N lo hi m mid hlt hh hm hml => ?_) (fun j m hj hml h k hk => ?_) (fun j m hj hml h k hk => ?_) d lo hi mid (Nat.sub_le_iff_le_add'.1 hd) h1 h2 h3 h4
 ·obtain ⟨f, k, hk, fk, hcall⟩ := key.2 m vs[m] (gEG hml)
  refine ⟨!decide (k < X), ?_, bodyL_run hK hm (zH hv (j := m) rfl (qT hl (by decide)) (gEG hml)) hcall (ltF fk fx (Bool.not_not _).symm)⟩
  by_cases q : k < X
  ·rw [if_neg (by simpa using q)]
   exact fun k' hk' => sE (hk.symm.trans hk') q
  ·rw [if_pos (by simpa using q)]
   exact fun k' hk' => sE (hk.symm.trans hk') (Int.not_lt.mp q)
 ·have hm := gEG (l := ks) (i := m) (by rw [key.1]; exact hml)
  exact Int.lt_of_le_of_lt (asc j m _ _ hj hk hm) (h _ hm)
 ·have hm := gEG (l := ks) (i := m) (by rw [key.1]; exact hml)
  exact iLT (h _ hm) (asc m j _ _ hj hm hk)
end
theorem bisR_run {K : F} {σ : Sto} {id : Nat} {vs : List V} {ks : List Int} {x : UInt64} {X : Int} (hK : kwF K = false) (hv : σ[id]? = some vs) (hl : vs.length <= 10) (key : Keyed K σ vs ks) (asc : Asc ks) (fx : FV x X) (n : Nat) :
  ∃ i : Nat, (recN (n + 60)).call .bisectR [.lst id, .flt x, .int 0, .none, .glob (.fn K)] σ = some (.int i, σ) /\ i <= vs.length /\ (∀ (j : Nat) (k : Int), j < i -> ks[j]? = some k -> k <= X) /\ (∀ (j : Nat) (k : Int), i <= j -> ks[j]? = some k -> X < k) := by
 obtain ⟨i, mid', run, h⟩ := bisR_loop hK hv (qT hl qL) key asc fx (n + 6) 10 0 vs.length none hl qZ qR (fun j hj => absurd hj (Nat.not_lt_zero _)) (fun j hj k hk => by
  have := (gSI.mp hk).1
  rw [key.1] at this
  exact absurd this (qK hj))
 refine ⟨i, ?_, h.1, fun j k hj => h.2.1 j hj k, fun j k hj => h.2.2 j hj k⟩
 have c0 : cmpV σ .Lt (.int 0) (.int 0) = some false := ltI_f (Int.lt_irrefl _)
 have l1 : vs.length <= 100000 := by exact qT hl qL
 apply y3 (b := b_bisectR) (sl_0 := [some (.lst id), some (.flt x), some (.int 0), some .none, some (.glob (.fn K)), none]) rfl rfl rfl
 unfold b_bisectR
 repeat (first
  | (with_reducible first | exact c0 | exact isN_none | exact isN_fn | exact hv | exact l1 | exact zF | exact ev_none | exact zD | apply zE | apply zG | apply yE | apply yA | exact zQ | exact yF | apply zA | apply ev_glenL | apply zB | apply zW | apply zP | apply zX | apply zO | apply zY | apply if_t | apply if_f | apply y0 | apply st_whil)
  | exact run)
theorem bisL_run {K : F} {σ : Sto} {id : Nat} {vs : List V} {ks : List Int} {x : UInt64} {X : Int} (hK : kwF K = false) (hv : σ[id]? = some vs) (hl : vs.length <= 10) (key : Keyed K σ vs ks) (asc : Asc ks) (fx : FV x X) (n : Nat) :
  ∃ i : Nat, (recN (n + 60)).call .bisectL [.lst id, .flt x, .int 0, .none, .glob (.fn K)] σ = some (.int i, σ) /\ i <= vs.length /\ (∀ (j : Nat) (k : Int), j < i -> ks[j]? = some k -> k < X) /\ (∀ (j : Nat) (k : Int), i <= j -> ks[j]? = some k -> X <= k) := by
 obtain ⟨i, mid', run, h⟩ := bisL_loop hK hv (qT hl qL) key asc fx (n + 6) 10 0 vs.length none hl qZ qR (fun j hj => absurd hj (Nat.not_lt_zero _)) (fun j hj k hk => by
  have := (gSI.mp hk).1
  rw [key.1] at this
  exact absurd this (qK hj))
 refine ⟨i, ?_, h.1, fun j k hj => h.2.1 j hj k, fun j k hj => h.2.2 j hj k⟩
 have c0 : cmpV σ .Lt (.int 0) (.int 0) = some false := ltI_f (Int.lt_irrefl _)
 have l1 : vs.length <= 100000 := by exact qT hl qL
 apply y3 (b := b_bisectL) (sl_0 := [some (.lst id), some (.flt x), some (.int 0), some .none, some (.glob (.fn K)), none]) rfl rfl rfl
 unfold b_bisectL
 repeat (first
  | (with_reducible first | exact c0 | exact isN_none | exact isN_fn | exact hv | exact l1 | exact zF | exact ev_none | exact zD | apply zE | apply zG | apply yE | apply yA | exact zQ | exact yF | apply zA | apply ev_glenL | apply zB | apply zW | apply zP | apply zX | apply zO | apply zY | apply if_t | apply if_f | apply y0 | apply st_whil)
  | exact run)
theorem me_insert {σ : Sto} {i : Nat} {xs : List V} {p : Nat} {x : V} (h : σ[i]? = some xs) (hi : i ≠ 0) (hl : xs.length <= 1000) (hp : p <= xs.length) : methF .insert (.lst i) [.int p, x] σ = some (.none, σ.set i (xs.take p ++ x :: xs.drop p)) := by
 refine ob h ((if_neg ?_).trans rfl)
 unfold i63 big; lia
theorem insR_run {K : F} {σ : Sto} {id : Nat} {vs : List V} {ks : List Int} {w : V} {x : UInt64} {X : Int} (hK : kwF K = false) (hid : id ≠ 0) (hv : σ[id]? = some vs) (hl : vs.length <= 10) (key : Keyed K σ vs ks) (asc : Asc ks) (kx : ∀ n, (recN (n + 20)).call K [w] σ = some (.flt x, σ)) (fx : FV x X) (n : Nat) :
  ∃ i : Nat, (recN (n + 80)).call .insortR [.lst id, w, .int 0, .none, .glob (.fn K)] σ = some (.none, σ.set id (vs.take i ++ w :: vs.drop i)) /\ i <= vs.length /\ (∀ (j : Nat) (k : Int), j < i -> ks[j]? = some k -> k <= X) /\ (∀ (j : Nat) (k : Int), i <= j -> ks[j]? = some k -> X < k) := by
 obtain ⟨i, run, h⟩ := bisR_run hK hv hl key asc fx (n + 16)
 refine ⟨i, ?_, h⟩
 have ins := me_insert (x := w) hv hid (qT hl qL) h.1
 apply cl_next (b := b_insortR) (sl_0 := [some (.lst id), some w, some (.int 0), some .none, some (.glob (.fn K))]) rfl rfl rfl
 unfold b_insortR
 repeat (first
  | (with_reducible first | exact ins | exact isN_fn | exact hK | exact kx _ | exact zF | exact ev_none | exact zD | apply zE | apply zG | apply yE | apply yA | exact zQ | exact yF | exact gl_fn | apply zA | apply ev_fn | apply ev_callk4 (.inl rfl) | apply xM | apply zB | apply zW | apply zP | apply zX | apply zO | apply st_expr | apply zY | apply if_t | apply if_f)
  | exact run)
theorem insL_run {K : F} {σ : Sto} {id : Nat} {vs : List V} {ks : List Int} {w : V} {x : UInt64} {X : Int} (hK : kwF K = false) (hid : id ≠ 0) (hv : σ[id]? = some vs) (hl : vs.length <= 10) (key : Keyed K σ vs ks) (asc : Asc ks) (kx : ∀ n, (recN (n + 20)).call K [w] σ = some (.flt x, σ)) (fx : FV x X) (n : Nat) :
  ∃ i : Nat, (recN (n + 80)).call .insortL [.lst id, w, .int 0, .none, .glob (.fn K)] σ = some (.none, σ.set id (vs.take i ++ w :: vs.drop i)) /\ i <= vs.length /\ (∀ (j : Nat) (k : Int), j < i -> ks[j]? = some k -> k < X) /\ (∀ (j : Nat) (k : Int), i <= j -> ks[j]? = some k -> X <= k) := by
 obtain ⟨i, run, h⟩ := bisL_run hK hv hl key asc fx (n + 16)
 refine ⟨i, ?_, h⟩
 have ins := me_insert (x := w) hv hid (qT hl qL) h.1
 apply cl_next (b := b_insortL) (sl_0 := [some (.lst id), some w, some (.int 0), some .none, some (.glob (.fn K))]) rfl rfl rfl
 unfold b_insortL
 repeat (first
  | (with_reducible first | exact ins | exact isN_fn | exact hK | exact kx _ | exact zF | exact ev_none | exact zD | apply zE | apply zG | apply yE | apply yA | exact zQ | exact yF | exact gl_fn | apply zA | apply ev_fn | apply ev_callk4 (.inr rfl) | apply xM | apply zB | apply zW | apply zP | apply zX | apply zO | apply st_expr | apply zY | apply if_t | apply if_f)
  | exact run)
end Mine.Pl
namespace Mine.Pl
open PySem PySem.Float64
section
variable {α : Type} (key : α -> Nat)
noncomputable def insR (x : α) (l : List α) : List α := ins (fun a b => key a < key b) x l
noncomputable def insL (x : α) (l : List α) : List α := ins (fun a b => key a <= key b) x l
theorem insR_at (x : α) (l : List α) (i : Nat) (h : i <= l.length) (h1 : ∀ (j : Nat) (y : α), j < i -> l[j]? = some y -> key y <= key x) : (∀ (j : Nat) (y : α), i <= j -> l[j]? = some y -> key x < key y) -> l.take i ++ x :: l.drop i = insR key x l :=
 ins_at (c := fun a b => key a < key b) x l i h fun j y a b => qK (h1 j y a b)
theorem insL_at (x : α) (l : List α) (i : Nat) (h : i <= l.length) (h1 : ∀ (j : Nat) (y : α), j < i -> l[j]? = some y -> key y < key x) : (∀ (j : Nat) (y : α), i <= j -> l[j]? = some y -> key x <= key y) -> l.take i ++ x :: l.drop i = insL key x l :=
 ins_at (c := fun a b => key a <= key b) x l i h fun j y a b => Nat.not_le_of_lt (h1 j y a b)
noncomputable def Up (l : List α) : Prop := l.Pairwise fun a b => key a <= key b
theorem mem_insR {x y : α} {l : List α} : y ∈ insR key x l ↔ y = x \/ y ∈ l := (yN l).mem_iff.trans mC
theorem ins_up {x : α} {c : α -> α -> Prop} [DecidableRel c] (h1 : ∀ y, c x y -> key x <= key y) (h2 : ∀ y, ¬ c x y -> key y <= key x) {l : List α} (h : Up key l) : Up key (ins c x l) :=
 ins_e (c := c) (x := x) (C := fun l m => Up key l -> Up key m) (fun J => List.pairwise_singleton _ _)
  (fun y r q h => List.pairwise_cons.mpr ⟨fun z hz => (mC.mp hz).elim (fun e => e ▸ h1 y q) fun hz => qT (h1 y q) ((List.pairwise_cons.mp h).1 z hz), h⟩)
  (fun y r q ih h => List.pairwise_cons.mpr ⟨fun z hz => (mC.mp ((yN r).mem_iff.mp hz)).elim (fun e => e ▸ h2 y q) ((List.pairwise_cons.mp h).1 z), ih (List.pairwise_cons.mp h).2⟩) l h
theorem insR_up {x : α} {l : List α} : Up key l -> Up key (insR key x l) := ins_up key (fun J => qW) fun J => qG
theorem insL_up {x : α} {l : List α} : Up key l -> Up key (insL key x l) := ins_up key (fun J h => h) fun J h => qW (Nat.lt_of_not_le h)
theorem Up.asc {l : List α} (h : Up key l) {c : Int} (hc : 0 <= c) : Asc (l.map fun d => (key d : Int) * c) := by
 intro i j a b hij ha hb
 simp only [gMP, Option.map_eq_some_iff] at ha hb
 obtain ⟨x, hx, rfl⟩ := ha
 obtain ⟨y, hy, rfl⟩ := hb
 obtain ⟨hi, rfl⟩ := gSI.mp hx
 obtain ⟨hj, rfl⟩ := gSI.mp hy
 have hle : key l[i] <= key l[j] := by
  by_cases e : i = j
  ·subst e; exact Nat.le_refl _
  ·exact List.pairwise_iff_getElem.mp h i j hi hj (Nat.lt_of_le_of_ne hij e)
 exact Int.mul_le_mul_of_nonneg_right (cD hle) hc
theorem Up.tail {x : α} {l : List α} (h : Up key (x :: l)) : Up key l := (List.pairwise_cons.mp h).2
theorem length_insR {x : α} {l : List α} : (insR key x l).length = l.length + 1 := (yN l).length_eq
theorem length_insL {x : α} {l : List α} : (insL key x l).length = l.length + 1 := (yN l).length_eq
theorem insL_insR (x y : α) (l : List α) : insL key x (insR key y l) = insR key y (insL key x l) :=
 ins_ins (c := fun a b => key a <= key b) (d := fun a b => key a < key b) ⟨qK, qG⟩ (fun J a b => qK (qT a (qG b))) (fun J a b c => a (qW (qD c b))) l
end
theorem insR_map {α β : Type} (ka : α -> Nat) (kb : β -> Nat) (f : α -> β) (h : ∀ a, kb (f a) = ka a) (x : α) (l : List α) : (insR ka x l).map f = insR kb (f x) (l.map f) := ins_map x l fun a J => by rw [h, h]
theorem insL_map {α β : Type} (ka : α -> Nat) (kb : β -> Nat) (f : α -> β) (h : ∀ a, kb (f a) = ka a) (x : α) (l : List α) : (insL ka x l).map f = insL kb (f x) (l.map f) := ins_map x l fun a J => by rw [h, h]
theorem insR_comm (x y : Nat) (l : List Nat) : insR id x (insR id y l) = insR id y (insR id x l) := by
 by_cases e : x = y
 ·rw [e]
 ·exact ins_ins (c := fun a b : Nat => a < b) (d := fun a b : Nat => a < b) ⟨fun h => qK (qW h), fun h => Nat.lt_of_le_of_ne (qG h) e⟩ (fun J a b => qK (qW (qA a (qG b)))) (fun J a b c => a (Nat.lt_trans c b)) l
end Mine.Pl
namespace Mine.Pl
open PySem PySem.Float64
noncomputable def rowOf (n c : Nat) (e : List Nat) : List Nat := lQ n 46 ++ c :: e
noncomputable def EndOk (e : List Nat) : Prop := e = [10] \/ e = [13] \/ e = [13, 10]
noncomputable def LetOk (c : Nat) : Prop := 117 <= c /\ c <= 122
noncomputable def DotHead (l : List Nat) : Prop := l = [] \/ ∃ r, l = 46 :: r
theorem crF_pass {c : Nat} {r repl : List Nat} (h1 : c ≠ 10) (h2 : c ≠ 13) : crF repl (c :: r) = c :: crF repl r :=
 crG_f fun h => (Bool.or_eq_true_iff.mp h).elim (fun e => h1 (eq_of_beq e)) fun e => h2 (eq_of_beq e)
theorem crF_dots {repl r : List Nat} : ∀ n, crF repl (lQ n 46 ++ r) = lQ n 46 ++ crF repl r := by
 intro n; induction n with
 | zero =>
  exact rfl
 | succ n ih =>
  rw [lRS, List.cons_append, crF_pass (by decide) (by decide), ih]
  rfl
theorem crF_end {e r : List Nat} (he : EndOk e) (hr : DotHead r) : crF [13, 10] (e ++ r) = [13, 10] ++ crF [13, 10] r := by
 rcases he with rfl | rfl | rfl
 ·rfl
 ·rcases hr with rfl | ⟨r, rfl⟩ <;> rfl
 ·rfl
theorem crF_row {n c : Nat} {e r : List Nat} (hc : LetOk c) (he : EndOk e) (hr : DotHead r) : crF [13, 10] (rowOf n c e ++ r) = rowOf n c [13, 10] ++ crF [13, 10] r := by
 obtain ⟨h1, h2⟩ := hc
 unfold rowOf
 rw [List.append_assoc, crF_dots, List.cons_append, crF_pass (wG h1) (wG h1), crF_end he hr]
 exact Eq.symm (List.append_assoc _ _ _)
theorem dotF_dots {repl r : List Nat} : ∀ n, dotF repl false (lQ n 46 ++ r) = lQ n 46 ++ dotF repl false r := by
 intro n; induction n with
 | zero =>
  exact rfl
 | succ n ih =>
  exact congrArg (46 :: ·) ih
theorem dotF_row {n c : Nat} {r : List Nat} (hc : LetOk c) : dotF [46, 46] true (rowOf (n + 1) c [13, 10] ++ r) = rowOf (n + 2) c [13, 10] ++ dotF [46, 46] true r := by
 obtain ⟨h1, h2⟩ := hc
 have h3 : (c == 10) = false := beq_false_of_ne (wG h1)
 unfold rowOf
 have e : dotF [46, 46] false ([c, 13, 10] ++ r) = [c, 13, 10] ++ dotF [46, 46] true r := (dotF_f rfl).trans (congrArg (c :: ·) (by rw [h3]; rfl))
 rw [lRS, List.append_assoc, List.cons_append, dotF_t rfl, dotF_dots, e]
 exact (List.append_assoc (46 :: 46 :: lQ n 46) [c, 13, 10] _).symm
noncomputable def zZ (l : List (Nat × Nat × List Nat)) : List Nat := (l.map fun x => rowOf x.1 x.2.1 x.2.2).flatten
noncomputable def RowsOk (l : List (Nat × Nat × List Nat)) : Prop := ∀ x ∈ l, 1 <= x.1 /\ LetOk x.2.1 /\ EndOk x.2.2
theorem rows_head {l : List (Nat × Nat × List Nat)} (h : RowsOk l) : DotHead (zZ l) := by
 cases l with
 | nil => exact .inl rfl
 | cons x r =>
  obtain ⟨n, c, e⟩ := x
  have := (h (n, c, e) mcS).1
  cases n with
  | zero => simp at this
  | succ n => exact .inr ⟨_, by simp [zZ, rowOf, lRS]; rfl⟩
theorem crF_rows : ∀ {l : List (Nat × Nat × List Nat)}, RowsOk l -> crF [13, 10] (zZ l) = zZ (l.map fun x => (x.1, x.2.1, [13, 10])) := by
 intro l; induction l with
 | nil =>
  intro _
  exact rfl
 | cons x r ih =>
  intro h
  have h0 := h x mcS
  have hr : RowsOk r := fun y hy => h y (mT _ hy)
  have ih := ih hr
  have e : zZ (x :: r) = rowOf x.1 x.2.1 x.2.2 ++ zZ r := by rfl
  rw [e, crF_row h0.2.1 h0.2.2 (rows_head hr), ih]
  exact List.nil_append _
theorem dotF_rows : ∀ {l : List (Nat × Nat × List Nat)}, RowsOk l -> (∀ x ∈ l, x.2.2 = [13, 10]) -> dotF [46, 46] true (zZ l) = zZ (l.map fun x => (x.1 + 1, x.2.1, x.2.2)) := by
 intro l; induction l with
 | nil =>
  intro _ _
  exact rfl
 | cons x r ih =>
  intro h hc
  have h0 := h x mcS
  have hr : RowsOk r := fun y hy => h y (mT _ hy)
  have ih := ih hr (fun y hy => hc y (mT _ hy))
  have e : zZ (x :: r) = rowOf x.1 x.2.1 x.2.2 ++ zZ r := by rfl
  have hx := hc x mcS
  obtain ⟨n, c, e'⟩ := x
  simp only at hx h0
  subst hx
  cases n with
  | zero => simp at h0
  | succ n =>
   rw [e, dotF_row h0.2.1, ih]
   rfl
theorem quote_rows {l : List (Nat × Nat × List Nat)} (h : RowsOk l) : dotF [46, 46] true (crF [13, 10] (zZ l)) = zZ (l.map fun x => (x.1 + 1, x.2.1, [13, 10])) := by
 rw [crF_rows h, dotF_rows]
 ·rw [mM]; rfl
 ·intro x hx
  obtain ⟨y, hy, rfl⟩ := mP.mp hx
  exact ⟨(h y hy).1, (h y hy).2.1, .inr (.inr rfl)⟩
 ·intro x hx
  obtain ⟨y, hy, rfl⟩ := mP.mp hx
  rfl
theorem crG_len (repl : List Nat) (hr : repl.length = 2) (l : List Nat) : ∀ h, (crG repl h l).length <= 2 * l.length := by
 induction l with
 | nil => exact fun J => qZ
 | cons c r ih =>
  have ih := fun h => Nat.add_le_add_right (ih h) 2
  refine fun h => iteInduction (motive := fun l : List Nat => l.length <= 2 * r.length + 2) (fun J => Nat.le_of_add_right_le (ih _)) fun J => iteInduction (motive := fun l : List Nat => l.length <= 2 * r.length + 2) (fun J => ?_) fun J => Nat.le_of_succ_le (ih _)
  rw [List.length_append, hr, Nat.add_comm]
  exact ih _
theorem quote_run {σ : Sto} {s : List Nat} (n : Nat) (h : s.length <= 5000) : (recN (n + 12)).call .quote [.str s] σ = some (.str (dotF [46, 46] true (crF [13, 10] s)), σ) := by
 have m2 : ∀ σ, methF .sub (.glob .re2) [.str [13, 10], .str s] σ = some (.str (crF [13, 10] s), σ) := fun σ => (if_pos (qT h qL)).trans ((if_neg (fun q => nomatch q.1)).trans (if_pos ⟨rfl, rfl⟩))
 have hl : (crF [13, 10] s).length <= 2 * s.length := crG_len [13, 10] rfl s false
 have m1 : ∀ σ, methF .sub (.glob .re1) [.str [46, 46], .str (crF [13, 10] s)] σ = some (.str (dotF [46, 46] true (crF [13, 10] s)), σ) := fun σ => (if_pos (by lia)).trans (if_pos ⟨rfl, rfl⟩)
 apply y3 (b := b_quote) (sl_0 := [some (.str s)]) rfl rfl rfl
 unfold b_quote
 repeat (with_reducible first | exact m1 _ | exact m2 _ | exact x9 | exact zD | apply zE | apply zG | exact yF | exact gl_re1 | exact gl_re2 | exact gl_crlf | apply zA | apply xM | apply zB | apply zP | apply y0)
end Mine.Pl
namespace Mine.Pl
open PySem PySem.Float64
theorem range1 {a n : Nat} (h : a <= n) : sliceRange (a : Int) (n : Int) 1 = (lR (n - a)).map (a + ·) := by
 unfold sliceRange
 have hc : (if (1 : Int) > 0 then (if (a : Int) < n then ((n : Int) - a + 1 - 1) / 1 else 0) else (if (a : Int) > n then ((a : Int) - n - 1 - 1) / (-1) else 0)).toNat = n - a := by
  rw [if_pos (by decide)]
  split
  ·rw [Int.add_sub_cancel, Int.ediv_one]; exact Int.toNat_sub n a
  ·exact (Nat.sub_eq_zero_of_le (Int.ofNat_le.1 (Int.not_lt.1 (by assumption)))).symm
 simp only [hc]
 apply List.map_congr_left
 intro k _
 lia
theorem pick_drop {s : List Nat} {a : Nat} (h : a <= s.length) : pickS s (some (a : Int)) none = s.drop a := by
 have e : Builtin.Str.strSliceIndices (some (a : Int)) none 1 s.length = (lR (s.length - a)).map (a + ·) := by
  unfold Builtin.Str.strSliceIndices
  simp only [show (1 : Int) > 0 by decide, if_true]
  have e1 : (if (a : Int) < 0 then (a : Int) + s.length else a) = a := if_neg (qX qN)
  have e2 : max 0 (min (a : Int) (s.length : Int)) = a := by rw [Int.min_eq_left (Int.ofNat_le.2 h), Int.max_eq_right qN]
  rw [e1, e2]
  exact range1 h
 unfold pickS
 dsimp only
 rw [e]
 split
 ·rename_i q
  simp at q
  by_cases hs : s.length = 0
  ·have := List.eq_nil_of_length_eq_zero hs
   subst this; simp
  ·have : a = 0 := by lia
   subst this; simp
 ·apply List.ext_getElem?
  intro i
  rw [List.filterMap_map]
  have : ∀ (m : Nat), m <= s.length - a -> (lR m).filterMap ((fun x => s[x]?) ∘ (a + ·)) = (s.drop a).take m := by
   intro m
   induction m with
   | zero => simp
   | succ m ih =>
    intro hm
    rw [List.range_succ, List.filterMap_append, ih (qW hm)]
    have hlt : a + m < s.length := by lia
    simp [hlt, List.take_succ]
  rw [this _ qR, List.take_of_length_le (by simp)]
theorem pick_all {s : List Nat} : pickS s none none = s := by
 have e : Builtin.Str.strSliceIndices none none 1 s.length = (lR s.length) := by
  unfold Builtin.Str.strSliceIndices
  simp only [show (1 : Int) > 0 by decide, if_true]
  have := range1 (a := 0) (n := s.length) qZ
  simpa using this
 unfold pickS
 dsimp only
 rw [e]
 simp
theorem sl_drop {σ : Sto} {s : List Nat} {a : Nat} (h : a <= s.length) (hl : s.length <= 1000) : xX (.str s) (.int (a : Int)) .none .none σ = some (.str (s.drop a), σ) := by
 refine ob rfl (ob rfl (ob rfl ((if_pos ⟨rfl, by exact qT hl qL⟩).trans ?_)))
 rw [pick_drop h]
theorem sl_all {σ : Sto} {s : List Nat} (hl : s.length <= 1000) : xX (.str s) .none .none .none σ = some (.str s, σ) := by
 refine ob rfl (ob rfl (ob rfl ((if_pos ⟨rfl, by exact qT hl qL⟩).trans ?_)))
 rw [pick_all]
theorem sub_str {σ : Sto} {s : List Nat} {i : Int} {j c : Nat} (hi : i = (j : Int)) (hl : s.length <= 1000) (hv : s[j]? = some c) : subV (.str s) (.int i) σ = some (.str [c]) := by
 subst hi
 have hj : j < s.length := (gSI.mp hv).1
 have hp : Mine.place s.length (j : Int) = some j := by
  unfold Mine.place
  rw [if_neg (wE hl), if_pos qN, if_pos (by simpa using hj)]
  rfl
 exact ob hp (ob hv rfl)
theorem sub_last {σ : Sto} {s : List Nat} {i : Int} {c : Nat} (hi : i = -1) (hl : s.length <= 1000) (hv : s.getLast? = some c) : subV (.str s) (.int i) σ = some (.str [c]) := by
 subst hi
 have hne : s ≠ [] := by rintro rfl; simp at hv
 have hpos : 0 < s.length := List.length_pos_iff.mpr hne
 have hp : Mine.place s.length (-1) = some (s.length - 1) := by
  unfold Mine.place
  rw [if_neg (by exact wE hl), if_neg (by exact Int.lt_irrefl _), if_pos (by lia)]
  congr 1
  lia
 rw [List.getLast?_eq_getElem?] at hv
 exact ob hp (ob hv rfl)
theorem eqS_t {σ : Sto} {a b : List Nat} (h : a = b) : cmpV σ .Eq (.str a) (.str b) = some true := by subst h; exact congrArg some (beq_self_eq_true a)
theorem eqS_f {σ : Sto} {a b : List Nat} (h : ¬ a = b) : cmpV σ .Eq (.str a) (.str b) = some false := congrArg some (beq_false_of_ne h)
noncomputable def substP (c d : Nat) : Option Int := if c = d then some 0 else match lowC c, lowC d with
 | some x, some y => some (if x = y then 1 else 2)
 | _, _ => none
theorem subst_run {σ : Sto} {c d : Nat} {k : Int} (n : Nat) (h : substP c d = some k) : (recN (n + 12)).call .subst [.str [c], .str [d]] σ = some (.int k, σ) := by
 unfold substP at h
 split at h
 ·rename_i q
  subst q; cases h
  have e0 : ∀ σ, cmpV σ .Eq (.str [c]) (.str [c]) = some true := fun σ => eqS_t rfl
  apply y3 (b := b_subst) (sl_0 := [some (.str [c]), some (.str [c])]) rfl rfl rfl
  unfold b_subst
  repeat (with_reducible first | exact e0 _ | exact zF | exact zD | apply zE | apply zG | exact yF | apply zA | apply zW | apply zP | apply y0 | apply zY | apply if_t)
 ·rename_i q
  have e0 : ∀ σ, cmpV σ .Eq (.str [c]) (.str [d]) = some false := fun σ => eqS_f (by simpa using q)
  cases hc : lowC c with
  | none => simp [hc] at h
  | some x =>
   cases hd : lowC d with
   | none => simp [hc, hd] at h
   | some y =>
    simp only [hc, hd, Option.some.injEq] at h
    have l1 : ∀ σ, methF .lower (.str [c]) [] σ = some (.str [x], σ) := fun σ => ob hc rfl
    have l2 : ∀ σ, methF .lower (.str [d]) [] σ = some (.str [y], σ) := fun σ => ob hd rfl
    by_cases hxy : x = y
    ·rw [if_pos hxy] at h
     subst h
     have e1 : ∀ σ, cmpV σ .Eq (.str [x]) (.str [y]) = some true := fun σ => eqS_t (by rw [hxy])
     apply y3 (b := b_subst) (sl_0 := [some (.str [c]), some (.str [d])]) rfl rfl rfl
     unfold b_subst
     repeat (with_reducible first | exact e0 _ | exact e1 _ | exact l1 _ | exact l2 _ | exact zF | exact zD | apply zE | apply zG | exact yF | exact zQ | exact gl_case | exact gl_move | apply zA | apply xM | apply zW | apply zP | apply zX | apply y0 | apply zY | apply if_t | apply if_f)
    ·rw [if_neg hxy] at h
     subst h
     have e1 : ∀ σ, cmpV σ .Eq (.str [x]) (.str [y]) = some false := fun σ => eqS_f (by simpa using hxy)
     apply y3 (b := b_subst) (sl_0 := [some (.str [c]), some (.str [d])]) rfl rfl rfl
     unfold b_subst
     repeat (with_reducible first | exact e0 _ | exact e1 _ | exact l1 _ | exact l2 _ | exact zF | exact zD | apply zE | apply zG | exact yF | exact zQ | exact gl_case | exact gl_move | apply zA | apply xM | apply zW | apply zP | apply zX | apply y0 | apply zY | apply if_t | apply if_f)
end Mine.Pl
namespace Mine.Pl
open PySem PySem.Float64
theorem xE {σ : Sto} {n i : Nat} (hn : n <= 100000) : zV σ (.rng 0 (n : Int) 1) i = some (if i < n then some (.int (i : Int)) else none) := by
 have hl : yO 0 (n : Int) 1 = n := by unfold yO; split <;> lia
 show (if 0 < (1 : Int) /\ (1 : Int) <= 2 /\ (0 : Int).natAbs <= 100000 /\ (n : Int).natAbs <= 100000 then _ else _) = _
 rw [if_pos ⟨by decide, by decide, by decide, by exact hn⟩, hl]
 simp
theorem yC {σ : Sto} {n i : Nat} (hn : n <= 100000) (hi : i < n) : zV σ (.rng 0 (n : Int) 1) i = some (some (.int (i : Int))) := by rw [xE hn, if_pos hi]
theorem xS {σ : Sto} {n i : Nat} (hn : n <= 100000) (hi : ¬ i < n) : zV σ (.rng 0 (n : Int) 1) i = some none := by rw [xE hn, if_neg hi]
noncomputable def inn (c : Nat) : List Nat -> List Int -> Int -> Int -> Int -> Option (List Int × Int × Int × Int)
 | [], row, dist, res, mn => (match row with
  | [] => some ([], dist, res, mn)
  | _ :: _ => none)
 | a :: as, row, dist, res, mn => match row with
  | [] => none
  | d :: row => Option.bind (substP c a) fun k =>
   let ins := (if d < res then d else res) + 2
   let s := dist + k
   let res' := if s < ins then s else ins
   Option.bind (inn c as row d res' (if res' < mn then res' else mn)) fun p => some (res' :: p.1, p.2)
@[elab_as_elim] theorem inn_e {c a : Nat} {as : List Nat} {d : Int} {row : List Int} {dist res mn : Int} {p : List Int × Int × Int × Int} {C : List Int × Int × Int × Int -> Prop} (h : inn c (a :: as) (d :: row) dist res mn = some p)
  (k : ∀ k, substP c a = some k -> ∀ r', (if dist + k < (if d < res then d else res) + 2 then dist + k else (if d < res then d else res) + 2) = r' -> ∀ m', (if r' < mn then r' else mn) = m' -> ∀ p, inn c as row d r' m' = some p -> C (r' :: p.1, p.2)) : C p :=
 obE h fun q hq h => obE h fun p hi h => sE h (k q hq _ rfl _ rfl p hi)
noncomputable def outs (A : List Nat) (mx : Int) : List Nat -> Nat -> List Int -> Int -> Option Int
 | [], _, _, res => some res
 | c :: b, i, row, _ => Option.bind (inn c A row ((i : Int) * 2) ((i : Int) * 2) 9223372036854775807) fun p => if mx < p.2.2.2 then none else outs A mx b (i + 1) p.1 p.2.2.1
noncomputable def innBody : List MS := [
   .set 12 (.bin .Add (.var 9) (.call (.glob (.fn .subst)) [(.var 8), (.sub (.var 0) (.var 11))])),
   .set 9 (.sub (.var 5) (.var 11)),
   .set 13 (.bin .Add (.call (.glob .min) [(.var 6), (.var 9)]) (.glob .move)),
   .set 6 (.call (.glob .min) [(.var 13), (.var 12)]),
   .put (.var 5) (.var 11) (.var 6),
   .ite (.cmp .Lt (.var 6) (.var 10)) [
    .set 10 (.var 6)] []]
theorem last_set {σ : Sto} {xs ys : List V} : (σ ++ [xs]).set σ.length ys = σ ++ [ys] := by
 rw [List.set_append_right _ _ qR]; simp
theorem ite_fn {α β : Type} {c : Prop} [Decidable c] {a b m : α} (f : α -> β) (h : (if c then a else b) = m) : (if decide c = true then f a else f b) = f m := by
 subst h
 by_cases q : c
 ·rw [if_pos q, decide_eq_true q]; rfl
 ·rw [if_neg q, decide_eq_false q]; rfl
theorem ite_set {n : Nat} {t : ME} {x : Nat} {e : ME} {q : Bool} {v : V} {sl sl' sl_2 : Slots} {σ : Sto} (h1 : (recN (n + 1)).test t sl σ = some (q, σ)) (h2 : (recN n).eval e sl σ = some (v, σ)) (h3 : setSl sl x v = sl') (h4 : (if q then sl' else sl) = sl_2) : stepF (recN (n + 1)) (.ite t [.set x e] []) sl σ = some (.next, sl_2, σ) := by
 subst h4
 cases q with
 | true => exact zY h1 (if_t (zP (zO h2 h3) (zX zQ)))
 | false => exact zY h1 (if_f zQ)
theorem st_setE {n x : Nat} {sl sl' : Slots} {σ σ_1 : Sto} {args : List ME} {a b r : Int} (hr : (if b < a then b else a) = r) (h2 : evals (recN (n + 1)).eval args sl σ = some ([.int a, .int b], σ_1)) (h : setSl sl x (.int r) = sl') : stepF (recN (n + 2)) (.set x (.call (.glob .min) args)) sl σ = some (.next, sl', σ_1) := zO (ev_gminI h2) (hr.symm ▸ h)
theorem inn_body {σ σ' : Sto} {A b : List Nat} {mx d k res res' dist mn mn' : Int} {s3 s4 s7 s12 s13 : Option V} {a c i w : Nat} {X : List Int} (m : Nat) (hw : w ≠ 0) (hA : A.length <= 100) (ha : A[i]? = some a) (hx : X[i]? = some d) (hX : X.length <= 100) (hσ : σ[w]? = some (X.map .int)) (hσ' : σ.set w ((X.map V.int).set i (.int res')) = σ')
  (hk : substP c a = some k) (hr' : (if dist + k < (if d < res then d else res) + 2 then dist + k else (if d < res then d else res) + 2) = res') (hm' : (if res' < mn then res' else mn) = mn') :
  (recN (m + 40)).exec innBody [some (.str A), some (.str b), some (.int mx), s3, s4, some (.lst w), some (.int res), s7, some (.str [c]), some (.int dist), some (.int mn), some (.int (i : Int)), s12, s13] σ =
   some (.next, [some (.str A), some (.str b), some (.int mx), s3, s4, some (.lst w), some (.int res'), s7, some (.str [c]), some (.int d), some (.int mn'), some (.int (i : Int)), some (.int (dist + k)), some (.int ((if d < res then d else res) + 2))], σ') := by
 have g1 : ∀ σ, subV (.str A) (.int (i : Int)) σ = some (.str [a]) := fun σ => sub_str rfl (qT hA qL) ha
 have sb := fun m (σ : Sto) => subst_run (σ := σ) m hk
 have hX' : (X.map V.int).length <= 1000 := qT (qE (lM _)) (qT hX qL)
 have g2 : subV (.lst w) (.int (i : Int)) σ = some (.int d) := zH hσ rfl (qT hX' qL) (by rw [gMP, hx]; rfl)
 have m1 : ∀ n sl, (recN (n + 1)).eval (.glob .move) sl σ = some (.int 2, σ) := fun n sl => gl_move
 have hi : ((i : Nat) : Int) < (X.map V.int).length := Int.ofNat_lt.mpr (Nat.lt_of_lt_of_eq (gSI.mp hx).1 (lM _).symm)
 have st5 := fun (sl : Slots) h1 h2 h3 => st_put (n := m + 39) (sl := sl) (o := .var 5) (i := .var 11) (e := .var 6) (v := .int res') (k := w) (j := (i : Int)) (σ := σ) (σ_1 := σ) (σ_2 := σ) (σ_3 := σ) h1 h2 h3 hσ hw (Int.natCast_nonneg _) hi hX'
 rw [Int.toNat_natCast, hσ'] at st5
 have c1 : ∀ σ, cmpV σ .Lt (.int res') (.int mn) = some (decide (res' < mn)) := fun σ => by
  by_cases hlt : res' < mn
  ·rw [decide_eq_true hlt]; exact ltI_t hlt
  ·rw [decide_eq_false hlt]; exact ltI_f hlt
 unfold innBody
 repeat (first
  | (with_reducible first | exact y6 | exact g1 _ | exact g2 | exact sb _ _ | exact c1 _ | exact kw_subst | exact m1 _ _ | exact zD | apply zE | apply zG | apply yE | apply yA | exact zQ | apply zA | apply zL | apply xC | apply zM | apply ev_gminI | apply zB | apply zW | apply zP | apply zX | apply st_setE hr' | apply zO | apply st5 | apply ite_set)
  )
 ·exact ite_fn (fun v : Int => [some (.str A), some (.str b), some (.int mx), s3, s4, some (.lst w), some (.int res'), s7, some (.str [c]), some (.int d), some (.int v), some (.int (i : Int)), some (.int (dist + k)), some (.int ((if d < res then d else res) + 2))]) hm'
 ·exact zX zQ
theorem inn_loop {σ : Sto} {A b : List Nat} {mx : Int} {s3 s4 s7 : Option V} {c : Nat} (hσ : 0 < σ.length) (hA : A.length <= 100) (n : Nat) :
  ∀ (as : List Nat) (i : Nat) (done rest X Y : List Int) (dist res mn : Int) (q : List Int × Int × Int × Int) (s11 s12 s13 : Option V), A.drop i = as -> X = done ++ rest -> done.length = i -> X.length = A.length -> inn c as rest dist res mn = some q -> Y = done ++ q.1 ->
   ∀ {C : Prop}, (∀ t11 t12 t13, (recN (n + 40 + as.length)).forr 11 (.rng 0 (A.length : Nat) 1) i innBody
    [some (.str A), some (.str b), some (.int mx), s3, s4, some (.lst σ.length), some (.int res), s7, some (.str [c]), some (.int dist), some (.int mn), s11, s12, s13] (σ ++ [X.map .int]) =
    some (.next, [some (.str A), some (.str b), some (.int mx), s3, s4, some (.lst σ.length), some (.int q.2.2.1), s7, some (.str [c]), some (.int q.2.1), some (.int q.2.2.2), t11, t12, t13], σ ++ [Y.map .int]) -> C) -> C := by
 intro as; induction as with
 | nil =>
  intro i done rest X Y dist res mn q s11 s12 s13 hA' hX hd hl h hY C
  cases rest with
  | cons => exact nE h
  | nil =>
   revert hY
   refine sE h fun hY kk => kk s11 s12 s13 ?_
   rw [hX, hY]
   exact fr_end (n := n + 39) (xS (qT hA qL) (qK (List.drop_eq_nil_iff.mp hA')))
 | cons a as ih =>
  intro i done rest X Y dist res mn q s11 s12 s13 hA' hX hd hl h hY C
  cases rest with
  | nil => exact nE h
  | cons d rest =>
   revert hY
   refine inn_e h fun k hk res' hr' mn' hm' p hi hY kk => ?_
   have ha : A[i]? = some a := by rw [← Nat.add_zero i, ← List.getElem?_drop, hA']; rfl
   have hx : X[i]? = some d := by rw [hX, List.getElem?_append_right (qE hd), hd, Nat.sub_self]; rfl
   refine ih (i + 1) (done ++ [res']) rest (X.set i res') Y d res' mn' p _ _ _ (by rw [← List.drop_drop, hA']; rfl) (by rw [hX, List.set_append_right _ _ (qE hd), hd, Nat.sub_self, List.append_assoc]; rfl) (by rw [List.length_append, hd]; rfl) (List.length_set.trans hl) hi
    (hY.trans (List.append_assoc done [res'] p.1).symm) fun u11 u12 u13 run => kk u11 u12 u13 (xT (n := n + 40 + as.length) (yC (qT hA qL) (gSI.mp ha).1) rfl
     ((Nat.add_right_comm n as.length 40) ▸ inn_body (n + as.length) (qH hσ) hA ha hx (qT (qE hl) hA) zI (last_set.trans (congrArg (fun l => σ ++ [l]) (List.map_set ..).symm)) hk hr' hm') run)
end Mine.Pl
namespace Mine.Pl
open PySem PySem.Float64
theorem inn_len (c : Nat) : ∀ (as : List Nat) (row : List Int) (dist res mn : Int) (p : List Int × Int × Int × Int), inn c as row dist res mn = some p -> p.1.length = as.length := by
 intro as; induction as with
 | nil => intro row; cases row with
  | nil => exact fun J J J J h => sE (C := fun q => q.1.length = 0) h rfl
  | cons => exact fun J J J J h => nE h
 | cons a as ih => intro row; cases row with
  | nil => exact fun J J J J h => nE h
  | cons d row => exact fun J J J J h => inn_e (C := fun p => p.1.length = as.length + 1) h fun J J J J J J J hi => congrArg (· + 1) (ih row _ _ _ _ hi)
noncomputable def outBody : List MS := [
  .set 8 (.sub (.var 1) (.var 7)),
  .set2 9 6 (.bin .Mult (.var 7) (.glob .move)),
  .set 10 (.int 9223372036854775807),
  .for_ 11 (.call (.glob .range) [(.call (.glob .len) [(.var 0)])]) innBody,
  .ite (.cmp .Gt (.var 10) (.var 2)) [
   .ret (.bin .Add (.var 2) (.int 1))] []]
theorem out_body {σ σ' : Sto} {A B : List Nat} {mx res x y z : Int} {s3 s4 s8 s9 s10 s11 s12 s13 t11 t12 t13 : Option V} {c i w : Nat} (m : Nat) (hA : A.length <= 100) (hB : B.length <= 100) (hc : B[i]? = some c) (hz : ¬ mx < z)
  (run : (recN (m + 59)).forr 11 (.rng 0 (A.length : Nat) 1) 0 innBody [some (.str A), some (.str B), some (.int mx), s3, s4, some (.lst w), some (.int ((i : Int) * 2)), some (.int (i : Int)), some (.str [c]), some (.int ((i : Int) * 2)), some (.int 9223372036854775807), s11, s12, s13] σ =
   some (.next, [some (.str A), some (.str B), some (.int mx), s3, s4, some (.lst w), some (.int y), some (.int (i : Int)), some (.str [c]), some (.int x), some (.int z), t11, t12, t13], σ')) :
  (recN (m + 60)).exec outBody [some (.str A), some (.str B), some (.int mx), s3, s4, some (.lst w), some (.int res), some (.int (i : Int)), s8, s9, s10, s11, s12, s13] σ =
   some (.next, [some (.str A), some (.str B), some (.int mx), s3, s4, some (.lst w), some (.int y), some (.int (i : Int)), some (.str [c]), some (.int x), some (.int z), t11, t12, t13], σ') := by
 have i2 : zV σ (.rng 0 (A.length : Int) 1) 0 = some (if 0 < A.length then some (.int ((0 : Nat) : Int)) else none) := xE (qT hA qL)
 have g1 : ∀ σ, subV (.str B) (.int (i : Int)) σ = some (.str [c]) := fun σ => sub_str rfl (qT hB qL) hc
 have b1 : ∀ σ, binF .Mult (.int (i : Int)) (.int 2) σ = some (.int ((i : Int) * 2), σ) := fun σ => bi_mulI ⟨(wH (qT (qW (gSI.mp hc).1) hB) : i < 4294967296), by decide⟩
 have l1 : A.length <= 100000 := qT hA qL
 have l2 : (A.length : Int).natAbs <= 100000 := l1
 have c1 : ∀ σ, cmpV σ .Gt (.int z) (.int mx) = some false := fun σ => gtI_f hz
 unfold outBody
 repeat (first
  | (with_reducible first | exact run | exact b1 _ | exact g1 _ | exact i2 | exact l1 | exact l2 | exact c1 _ | exact zF | exact gl_move | exact zD | apply zE | apply zG | apply yE | apply yA | exact zQ | apply zA | apply zL | apply ev_grange | apply ev_glenS | apply zM | apply zB | apply zW | apply zP | apply zX | apply zO | apply st_set2 | apply st_for | apply zY | apply if_t | apply if_f))
theorem out_loop {σ : Sto} {A B : List Nat} {mx : Int} {s3 s4 : Option V} (hσ : 0 < σ.length) (hA : A.length <= 100) (hB : B.length <= 100) (n : Nat) :
  ∀ (bs : List Nat) (i : Nat) (row : List Int) (res d : Int) (s7 s8 s9 s10 s11 s12 s13 : Option V), B.drop i = bs -> row.length = A.length -> outs A mx bs i row res = some d ->
   ∀ {C : Prop}, (∀ row' t7 t8 t9 t10 t11 t12 t13, (recN (n + 60 + A.length + bs.length)).forr 7 (.rng 0 (B.length : Nat) 1) i outBody
    [some (.str A), some (.str B), some (.int mx), s3, s4, some (.lst σ.length), some (.int res), s7, s8, s9, s10, s11, s12, s13] (σ ++ [row.map .int]) =
    some (.next, [some (.str A), some (.str B), some (.int mx), s3, s4, some (.lst σ.length), some (.int d), t7, t8, t9, t10, t11, t12, t13], σ ++ [row']) -> C) -> C := by
 intro bs; induction bs with
 | nil =>
  intro i row res d s7 s8 s9 s10 s11 s12 s13 hB' hr h C kk
  refine kk (row.map .int) s7 s8 s9 s10 s11 s12 s13 ?_
  rw [sI h]
  exact (show n + 59 + A.length + 1 = n + 60 + A.length from Nat.add_right_comm (n + 59) A.length 1) ▸ fr_end (xS (qT hB qL) (qK (List.drop_eq_nil_iff.mp hB')))
 | cons c bs ih =>
  intro i row res d s7 s8 s9 s10 s11 s12 s13 hB' hr h C kk
  refine obE h fun p hi h => ifN h fun hz he => ?_
  have hc : B[i]? = some c := by rw [← Nat.add_zero i, ← List.getElem?_drop, hB']; rfl
  refine inn_loop (σ := σ) (b := B) (mx := mx) (s3 := s3) (s4 := s4) (s7 := some (.int (i : Int))) (c := c) hσ hA (n + 19 + bs.length) A 0 [] row row p.1 _ _ _ p s11 s12 s13 rfl rfl rfl hr hi rfl fun t11 t12 t13 run => ?_
  refine ih (i + 1) p.1 p.2.2.1 d (some (.int (i : Int))) (some (.str [c])) (some (.int p.2.1)) (some (.int p.2.2.2)) t11 t12 t13 (by rw [← List.drop_drop, hB']; rfl) (inn_len c _ _ _ _ _ _ hi) he fun row' t7 t8 t9 t10 u11 u12 u13 run2 => kk row' t7 t8 t9 t10 u11 u12 u13 ?_
  have e : n + 60 + A.length + bs.length = (n + A.length + bs.length) + 60 := by lia
  have e3 : n + 19 + bs.length + 40 + A.length = (n + A.length + bs.length) + 59 := by lia
  exact xT (n := n + 60 + A.length + bs.length) (yC (qT hB qL) (gSI.mp hc).1) rfl (e ▸ out_body _ hA hB hc hz (e3 ▸ run)) run2
end Mine.Pl
namespace Mine.Pl
open PySem PySem.Float64
section
variable {n : Nat} {sl : Slots} {σ σ_1 σ_2 : Sto}
theorem ts_and {ts : List ME} {r : Bool × Sto} (h : testAll (recN n).test ts sl σ = some r) : (recN (n + 1)).test (.and ts) sl σ = some r := h
theorem ts_or {ts : List ME} {r : Bool × Sto} (h : testAny (recN n).test ts sl σ = some r) : (recN (n + 1)).test (.or ts) sl σ = some r := h
theorem ta_nil : testAll (recN n).test [] sl σ = some (true, σ) := rfl
theorem ta_cons {t : ME} {ts : List ME} {q : Bool} {r : Bool × Sto} (h1 : (recN n).test t sl σ = some (q, σ_1)) (h2 : (if q = true then testAll (recN n).test ts sl σ_1 else some (false, σ_1)) = some r) : testAll (recN n).test (t :: ts) sl σ = some r := ob h1 h2
theorem to_nil : testAny (recN n).test [] sl σ = some (false, σ) := rfl
theorem to_cons {t : ME} {ts : List ME} {q : Bool} {r : Bool × Sto} (h1 : (recN n).test t sl σ = some (q, σ_1)) (h2 : (if q = true then some (true, σ_1) else testAny (recN n).test ts sl σ_1) = some r) : testAny (recN n).test (t :: ts) sl σ = some r := ob h1 h2
theorem ts_not_t {a : ME} (h1 : (recN n).test a sl σ = some (true, σ_1)) : (recN (n + 1)).test (.not a) sl σ = some (false, σ_1) := ts_not h1
theorem tr_str {s : List Nat} (h : s ≠ []) (hl : s.length <= 1000) : xP (.str s) = some true := by
 have : s.length < 100000 := by exact qD hl qL
 refine (if_pos this).trans ?_
 cases s with
 | nil => exact absurd rfl h
 | cons a r => rfl
theorem obx {x : Bool × Sto} : some x = some x := rfl
theorem tr_zero : xP (.int 0) = some false := rfl
end
noncomputable def preTest : ME := .and [(.slice (.var 0) (some (.var 3)) none none), (.slice (.var 1) (some (.var 3)) none none), (.cmp .Eq (.sub (.var 0) (.var 3)) (.sub (.var 1) (.var 3)))]
theorem pre_test {σ : Sto} {A B : List Nat} {z : Option V} {us : Slots} {i a b : Nat} {q : Bool} (m : Nat) (lA : A.length <= 200) (lB : B.length <= 200) (hA : A[i]? = some a) (hB : B[i]? = some b) (hq : ∀ σ, cmpV σ .Eq (.str [a]) (.str [b]) = some q) :
  (recN (m + 29)).test preTest (some (.str A) :: some (.str B) :: z :: some (.int (i : Nat)) :: us) σ = some (q, σ) := by
 have d : ∀ {L : List Nat} {a : Nat}, L.length <= 200 -> L[i]? = some a -> (∀ σ, xX (.str L) (.int (i : Int)) .none .none σ = some (.str (L.drop i), σ)) /\ xP (.str (L.drop i)) = some true /\ ∀ σ, subV (.str L) (.int (i : Int)) σ = some (.str [a]) := fun hl h =>
  have hi := (gSI.mp h).1
  ⟨fun σ => sl_drop (qW hi) (qT hl qL), tr_str (fun e => absurd (List.drop_eq_nil_iff.mp e) (Nat.not_le_of_lt hi)) (qT (qT (qE List.length_drop) (Nat.sub_le _ _)) (qT hl qL)), fun σ => sub_str rfl (qT hl qL) h⟩
 have dA := d lA hA
 have dB := d lB hB
 have dA1 := dA.1; have dB1 := dB.1; have dA2 := dA.2.1; have dB2 := dB.2.1; have dA3 := dA.2.2; have dB3 := dB.2.2
 unfold preTest
 cases q <;> repeat (with_reducible first | exact dA1 _ | exact dB1 _ | exact dA2 | exact dB2 | exact dA3 _ | exact dB3 _ | exact hq _ | exact ta_nil | exact obx | apply zE | apply zG | apply ts_and | apply ta_cons | apply ts_slice | apply ev_slice | apply evo_none | apply evo_some | apply zM | apply zA | apply zW | apply if_t | apply if_f)
theorem pre_loop {σ : Sto} {A B : List Nat} {x y k : Nat} {z : Option V} {us : Slots} (hxy : x ≠ y) (lA : A.length <= 200) (lB : B.length <= 200) (hA : A[k]? = some x) (hB : B[k]? = some y) (hc : ∀ j, j < k -> ∃ c, A[j]? = some c /\ B[j]? = some c) (n : Nat) :
  ∀ (d i : Nat), i + d = k -> (recN (n + 30 + d)).whil preTest [.aug 3 .Add (.int 1)] (some (.str A) :: some (.str B) :: z :: some (.int (i : Nat)) :: us) σ = some (.next, some (.str A) :: some (.str B) :: z :: some (.int (k : Nat)) :: us, σ) := by
 intro d; induction d with
 | zero =>
  intro i h
  rw [show i = k from h]
  exact wh_end (n := n + 29) (pre_test n lA lB hA hB fun σ => eqS_f fun e => hxy (List.cons.inj e).1)
 | succ d ih =>
  intro i h
  obtain ⟨c, h1, h2⟩ := hc i (pA h)
  have e2 : n + d + 30 = n + 30 + d := Nat.add_right_comm n d 30
  refine wh_step (n := n + 30 + d) (e2 ▸ pre_test (n + d + 1) lA lB h1 h2 fun σ => eqS_t rfl) ?_ (ih (i + 1) (pB h))
  exact e2 ▸ zP (n := n + d + 29) (st_augAdd (zG (zG (zG zE))) zF (yA (yA (yA yE)))) (zX zQ)
noncomputable def rowInit (k : Nat) : List Int := (lR k).map fun (i : Nat) => 2 + (i : Int) * 2
theorem rng_init {σ : Sto} {k : Nat} (hk : 1 <= k /\ k <= 100) : yD .range [.int 2, .int (2 * ((k : Int) + 1)), .int 2] σ = some (.rng 2 (2 * ((k : Int) + 1)) 2, σ) /\ yD .list [.rng 2 (2 * ((k : Int) + 1)) 2] σ = some (.lst σ.length, σ ++ [(rowInit k).map .int]) := by
 have hl : yO 2 (2 * ((k : Int) + 1)) 2 = k := by unfold yO; split <;> lia
 constructor
 ·show (if _ /\ _ /\ _ then _ else _) = _
  rw [if_pos ⟨rfl, by exact qL, by lia⟩]
 ·show (if _ /\ _ /\ _ /\ _ /\ _ then _ else _) = _
  rw [if_pos ⟨by decide, by decide, by exact qL, by lia, by exact eE hl hk.2⟩]
  unfold rngInts newL
  rw [hl]
  rfl
noncomputable def levP (A B : List Nat) (mx : Int) : Option Int := outs A mx B 0 (rowInit A.length) 0
noncomputable def tailBody : List MS := [
 .ite (.cmp .Gt (.bin .Mult (.bin .Sub (.call (.glob .len) [(.var 1)]) (.call (.glob .len) [(.var 0)])) (.glob .move)) (.var 2)) [
  .ret (.bin .Add (.var 2) (.int 1))] [],
 .set 5 (.call (.glob .list) [(.call (.glob .range) [(.glob .move), (.bin .Mult (.glob .move) (.bin .Add (.call (.glob .len) [(.var 0)]) (.int 1))), (.glob .move)])]),
 .set 6 (.int 0),
 .for_ 7 (.call (.glob .range) [(.call (.glob .len) [(.var 1)])]) outBody,
 .ret (.var 6)]
theorem z9 {n : Nat} {sl : Slots} {σ σ_1 : Sto} {args : List ME} {vs : List V} {r : V × Sto} (h2 : evals (recN (n + 1)).eval args sl σ = some (vs, σ_1)) (h3 : yD .range vs σ_1 = some r) : (recN (n + 2)).eval (.call (.glob .range) args) sl σ = some r :=
 ev_bi yU h2 rfl h3
theorem ev_glist {n : Nat} {sl : Slots} {σ σ_1 : Sto} {args : List ME} {vs : List V} {r : V × Sto} (h2 : evals (recN (n + 1)).eval args sl σ = some (vs, σ_1)) (h3 : yD .list vs σ_1 = some r) : (recN (n + 2)).eval (.call (.glob .list) args) sl σ = some r :=
 ev_bi yU h2 rfl h3
theorem tail_run {σ : Sto} {A B : List Nat} {mx d : Int} {s3 s4 s5 s6 s7 s8 s9 s10 s11 s12 s13 : Option V} (hσ : 0 < σ.length) (hA : 1 <= A.length /\ A.length <= 20) (hB : B.length <= 20) (hAB : A.length <= B.length) (hmx : ((B.length : Int) - A.length) * 2 <= mx) (h : levP A B mx = some d) (n : Nat) :
  ∃ row sl', (recN (n + 120)).exec tailBody [some (.str A), some (.str B), some (.int mx), s3, s4, s5, s6, s7, s8, s9, s10, s11, s12, s13] σ = some (.ret (.int d), sl', σ ++ [row]) := by
 refine out_loop (σ := σ) (A := A) (B := B) (mx := mx) (s3 := s3) (s4 := s4) hσ (qT hA.2 qL) (qT hB qL) (n + 59 - A.length - B.length) B 0 (rowInit A.length) 0 d s7 s8 s9 s10 s11 s12 s13 rfl (by simp [rowInit]) h fun row' t7 t8 t9 t10 t11 t12 t13 run => ?_
 have e1 : n + 59 - A.length - B.length + 60 + A.length + B.length = n + 119 := by lia
 rw [e1] at run
 refine ⟨row', ?_⟩
 have b1 : ∀ σ, binF .Mult (.int ((B.length : Int) - A.length)) (.int 2) σ = some (.int (((B.length : Int) - A.length) * 2), σ) := fun σ => bi_mulI ⟨s32d (by assumption) (by assumption : B.length <= 20), by decide⟩
 have b2 : ∀ σ, binF .Mult (.int 2) (.int ((A.length : Int) + 1)) σ = some (.int (2 * ((A.length : Int) + 1)), σ) := fun σ => bi_mulI ⟨by decide, (wH (Nat.succ_le_succ hA.2) : A.length + 1 < 4294967296)⟩
 have c1 : ∀ σ, cmpV σ .Gt (.int (((B.length : Int) - A.length) * 2)) (.int mx) = some false := fun σ => gtI_f (qX hmx)
 have l1 : A.length <= 100000 := by exact qT hA.2 qL
 have l2 : B.length <= 100000 := by exact qT hB qL
 have l3 : (B.length : Int).natAbs <= 100000 := by exact l2
 have r1 := fun σ => (rng_init (σ := σ) (k := A.length) (And.intro hA.1 (wA hA.2))).1
 have r2 := fun σ => (rng_init (σ := σ) (k := A.length) (And.intro hA.1 (wA hA.2))).2
 have i2 : zV (σ ++ [(rowInit A.length).map V.int]) (.rng 0 (B.length : Int) 1) 0 = some (if 0 < B.length then some (.int ((0 : Nat) : Int)) else none) := xE l2
 have rB : ∀ σ, yD .range [.int (B.length : Int)] σ = some (.rng 0 (B.length : Int) 1, σ) := fun σ => if_pos l3
 unfold tailBody
 apply Exists.intro
 repeat (with_reducible first | exact run | exact b1 _ | exact b2 _ | exact c1 _ | exact xV | exact y6 | exact l1 | exact l2 | exact l3 | exact rB _ | exact r1 _ | exact r2 _ | exact i2 | exact zF | exact gl_move | exact zD | apply zE | apply zG | apply yE | apply yA | exact zQ | exact yF | apply zA | apply zL | apply z9 | apply ev_glist | apply ev_glenS | apply zM | apply zB | apply zW | apply zP | apply zX | apply zO | apply st_set2 | apply st_for | apply y0 | apply zY | apply if_t | apply if_f)
theorem lev_run {σ : Sto} {c a' b' : List Nat} {x y la lb : Nat} {mx d : Int} (hσ : 0 < σ.length) (hxy : x ≠ y) (hc : c.length <= 10) (hl : a'.length <= 10) (hl' : b'.length <= 10) (hla : (x :: a').getLast? = some la) (hlb : (y :: b').getLast? = some lb) (hne : la ≠ lb)
  (hmx : ((b'.length : Int) - a'.length) * 2 <= mx) (hmx' : ((a'.length : Int) - b'.length) * 2 <= mx) (h : (if b'.length < a'.length then levP (y :: b') (x :: a') mx else levP (x :: a') (y :: b') mx) = some d) (n : Nat) :
  ∃ row, (recN (n + 150)).call .lev [.str (c ++ x :: a'), .str (c ++ y :: b'), .int mx] σ = some (.int d, σ ++ [row]) := by
 have pre := pre_loop (σ := σ) (A := c ++ x :: a') (B := c ++ y :: b') (k := c.length) (z := some (.int mx)) (us := [none, none, none, none, none, none, none, none, none, none]) hxy (by simp; lia) (by simp; lia) (by simp) (by simp) (fun j hj => ⟨c[j], by rw [gAL hj, gEG hj], by rw [gAL hj, gEG hj]⟩) (n + 118 - c.length) c.length 0 (Nat.zero_add _)
 have e1 : n + 118 - c.length + 30 + c.length = n + 148 := fz (fk (by assumption))
 rw [e1] at pre
 unfold preTest at pre
 change (recN (n + 148)).whil _ _ [_, _, _, some (.int 0), _, _, _, _, _, _, _, _, _, _] _ = _ at pre
 have ne1 : ∀ σ, cmpV σ .Eq (.str (c ++ x :: a')) (.str (c ++ y :: b')) = some false := fun σ => eqS_f (by simpa using fun q J => hxy q)
 have d1 : ∀ σ, xX (.str (c ++ x :: a')) (.int (c.length : Int)) .none .none σ = some (.str (x :: a'), σ) := fun σ => by rw [sl_drop (by simp) (by simp; lia)]; simp
 have d2 : ∀ σ, xX (.str (c ++ y :: b')) (.int (c.length : Int)) .none .none σ = some (.str (y :: b'), σ) := fun σ => by rw [sl_drop (by simp) (by simp; lia)]; simp
 have f1 : ∀ σ, xX (.str (x :: a')) .none .none .none σ = some (.str (x :: a'), σ) := fun σ => sl_all (by simp; exact qT hl qL)
 have f2 : ∀ σ, xX (.str (y :: b')) .none .none .none σ = some (.str (y :: b'), σ) := fun σ => sl_all (by simp; exact qT hl' qL)
 have t1 : xP (.str (x :: a')) = some true := tr_str (List.cons_ne_nil _ _) (by simp; exact qT hl qL)
 have t2 : xP (.str (y :: b')) = some true := tr_str (List.cons_ne_nil _ _) (by simp; exact qT hl' qL)
 have g1 : ∀ σ, subV (.str (x :: a')) (.int (0 - 1)) σ = some (.str [la]) := fun σ => sub_last rfl (by simp; exact qT hl qL) hla
 have g2 : ∀ σ, subV (.str (y :: b')) (.int (0 - 1)) σ = some (.str [lb]) := fun σ => sub_last rfl (by simp; exact qT hl' qL) hlb
 have q : ∀ σ, cmpV σ .Eq (.str [la]) (.str [lb]) = some false := fun σ => eqS_f (by simpa using hne)
 have l1 : (x :: a').length <= 100000 := by simp; exact qT hl qL
 have l2 : (y :: b').length <= 100000 := by simp; exact qT hl' qL
 have m1 : ∀ σ, cmpV σ .Gt (.int ((x :: a').length : Int)) (.int 40) = some false := fun σ => gtI_f (by simp; lia)
 have m2 : ∀ σ, cmpV σ .Gt (.int ((y :: b').length : Int)) (.int 40) = some false := fun σ => gtI_f (by simp; lia)
 by_cases hs : b'.length < a'.length
 ·rw [if_pos hs] at h
  have w : ∀ σ, cmpV σ .Lt (.int ((y :: b').length : Int)) (.int ((x :: a').length : Int)) = some true := fun σ => ltI_t (by simp; exact hs)
  obtain ⟨row, sl', tail⟩ := tail_run (σ := σ) (A := y :: b') (B := x :: a') (mx := mx) (s3 := some (.int (c.length : Int))) (s4 := some (.int 0)) (s5 := none) (s6 := none) (s7 := none) (s8 := none) (s9 := none) (s10 := none) (s11 := none) (s12 := none) (s13 := none) hσ (by simp; exact qT hl' qL) (by simp; exact qT hl qL) (by simp; exact qW hs) (by simp; lia) h (n + 29)
  unfold tailBody outBody innBody at tail
  refine ⟨row, ?_⟩
  apply y3 (b := b_lev) (sl_0 := [some (.str (c ++ x :: a')), some (.str (c ++ y :: b')), some (.int mx), none, none, none, none, none, none, none, none, none, none, none]) rfl rfl rfl
  unfold b_lev
  repeat (with_reducible first | exact tail | exact pre | exact ne1 _ | exact d1 _ | exact d2 _ | exact f1 _ | exact f2 _ | exact t1 | exact t2 | exact tr_zero | exact g1 _ | exact g2 _ | exact q _ | exact l1 | exact l2 | exact m1 _ | exact m2 _ | exact w _ | exact xV | exact y6 | exact zF | exact ev_none | exact gl_maxsz | exact zD | exact to_nil | exact obx | apply zE | apply zG | apply yE | apply yA | exact zQ | exact yF | apply zA | apply ev_or2 | apply zL | apply ev_glenS | apply ev_slice | apply evo_none | apply evo_some | apply zM | apply zB | apply ts_and | apply ta_cons | apply ts_or | apply to_cons | apply ts_not_t | apply ts_slice | apply ts_var | apply zW | apply zX | apply zO | apply st_whil | apply st_swap | apply zY | apply if_t | apply if_f | apply wh_end | apply zP)
 ·rw [if_neg hs] at h
  have w : ∀ σ, cmpV σ .Lt (.int ((y :: b').length : Int)) (.int ((x :: a').length : Int)) = some false := fun σ => ltI_f (by simp; exact qG hs)
  obtain ⟨row, sl', tail⟩ := tail_run (σ := σ) (A := x :: a') (B := y :: b') (mx := mx) (s3 := some (.int (c.length : Int))) (s4 := some (.int 0)) (s5 := none) (s6 := none) (s7 := none) (s8 := none) (s9 := none) (s10 := none) (s11 := none) (s12 := none) (s13 := none) hσ (by simp; exact qT hl qL) (by simp; exact qT hl' qL) (by simp; exact qG hs) (by simp; lia) h (n + 29)
  unfold tailBody outBody innBody at tail
  refine ⟨row, ?_⟩
  apply y3 (b := b_lev) (sl_0 := [some (.str (c ++ x :: a')), some (.str (c ++ y :: b')), some (.int mx), none, none, none, none, none, none, none, none, none, none, none]) rfl rfl rfl
  unfold b_lev
  repeat (with_reducible first | exact tail | exact pre | exact ne1 _ | exact d1 _ | exact d2 _ | exact f1 _ | exact f2 _ | exact t1 | exact t2 | exact tr_zero | exact g1 _ | exact g2 _ | exact q _ | exact l1 | exact l2 | exact m1 _ | exact m2 _ | exact w _ | exact xV | exact y6 | exact zF | exact ev_none | exact gl_maxsz | exact zD | exact to_nil | exact obx | apply zE | apply zG | apply yE | apply yA | exact zQ | exact yF | apply zA | apply ev_or2 | apply zL | apply ev_glenS | apply ev_slice | apply evo_none | apply evo_some | apply zM | apply zB | apply ts_and | apply ta_cons | apply ts_or | apply to_cons | apply ts_not_t | apply ts_slice | apply ts_var | apply zW | apply zX | apply zO | apply st_whil | apply st_swap | apply zY | apply if_t | apply if_f | apply wh_end | apply zP)
end Mine.Pl
namespace Mine.Pl
open PySem
noncomputable abbrev D := Nat × List (Nat × List Nat)
noncomputable def y9 (st : Nat) (a b : D) : D := (a.1 + b.1, a.2.map (fun x => (x.1, (97 + st) :: x.2)) ++ b.2.map (fun x => (x.1, (65 + st) :: x.2)))
noncomputable def stepD (st : Nat) : List D -> List D
 | a :: b :: r => insR Prod.fst (y9 st a b) r
 | l => l
noncomputable def runD (l : List D) : List D := stepD 4 (stepD 3 (stepD 2 (stepD 1 (stepD 0 l))))
noncomputable def formsP : List (List Nat) := [[5, 5, 4, 3, 2, 1], [4, 4, 4, 4, 2, 1], [4, 4, 3, 3, 3, 1], [4, 4, 3, 2, 2, 2], [3, 3, 3, 3, 2, 2]]
noncomputable def formP (j : Nat) : List Nat := formsP.getD j []
noncomputable def placesP (form : List Nat) : List (Nat × List Nat) -> Nat -> List (Nat × Nat)
 | [], _ => []
 | (i, _) :: r, ahead => (i, ahead) :: placesP form r (ahead + 2 ^ (5 - form.getD i 0))
noncomputable def placeP (form : List Nat) (its : List (Nat × List Nat)) (i : Nat) : Nat := ((placesP form its 0).lookup i).getD 0
noncomputable def wordP (its : List (Nat × List Nat)) (i : Nat) : List Nat := (its.lookup i).getD []
noncomputable def wM (place level : Nat) : List Nat := (lR level).map fun i => place / 2 ^ (4 - i) % 2
noncomputable def bitsP (w : List Nat) : List Nat := w.map fun c => if c < 97 then 1 else 0
noncomputable def splitP : List Nat -> List Nat -> List Nat × List Nat × List Nat
 | x :: a, y :: b => if x = y then let (c, r) := splitP a b; (x :: c, r) else ([], x :: a, y :: b)
 | a, b => ([], a, b)
noncomputable def sharedP (p q : Nat) : Nat := ((lR 5).filter fun i => p / 2 ^ i = q / 2 ^ i).length
noncomputable def wayP (l l' p q : Nat) : Int := 2 * ((max l l' : Nat) - (sharedP p q : Int)) - 1
noncomputable def pairP (w w' : List Nat) (way : Int) : Bool := match splitP w w' with
 | (c, x :: a, y :: b) => decide (x ≠ y) && decide (c.length <= 10) && decide (a.length <= 10) && decide (b.length <= 10) && decide ((x :: a).getLast? ≠ (y :: b).getLast?) && decide (((b.length : Int) - a.length) * 2 <= way) && decide (((a.length : Int) - b.length) * 2 <= way) &&
  decide ((if b.length < a.length then levP (y :: b) (x :: a) way else levP (x :: a) (y :: b) way) = some way)
 | _ => false
noncomputable def sortP (form : List Nat) (its : List (Nat × List Nat)) : List Nat := (its.foldl (fun acc x => insR (fun i => 5 - form.getD i 0) x.1 acc) [])
noncomputable def okH (its : List (Nat × List Nat)) (j : Nat) : Bool :=
 decide (its.length = 6) && (lR 6).all (fun i => (its.map Prod.fst).contains i) && its.all (fun x => decide (x.2.length = (formP j).getD x.1 0) && decide (x.2 ≠ []) && x.2.all (fun c => decide (c < 128))) && decide (sortP (formP j) its = [0, 1, 2, 3, 4, 5]) &&
  (lR 6).all (fun i => decide (bitsP (wordP its i) = wM (placeP (formP j) its i) ((formP j).getD i 0)) &&
   (lR 6).all fun i' => decide (i = i') || pairP (wordP its i) (wordP its i') (wayP ((formP j).getD i 0) ((formP j).getD i' 0) (placeP (formP j) its i) (placeP (formP j) its i')))
noncomputable def sums : List Nat -> List Nat -> Nat
 | [], _ => 0
 | l :: ls, vs => match vs with
  | [] => 0
  | v :: vs => v * l + sums ls vs
theorem sums_le : ∀ (ls vs : List Nat), (∀ a ∈ ls, a <= 5) -> (∀ a ∈ vs, a <= 19) -> sums ls vs <= 95 * vs.length := by
 intro ls; induction ls with
 | nil => exact fun J J J => Nat.zero_le _
 | cons l ls ih => intro vs; cases vs with
  | nil => exact fun J J => Nat.le_refl _
  | cons v vs => exact fun h1 h2 => qT (Nat.add_le_add (Nat.mul_le_mul (h2 v mcS) (h1 l mcS)) (ih vs (fun a h => h1 a (mT _ h)) fun a h => h2 a (mT _ h))) (qE (Nat.add_comm 95 _))
noncomputable def costP (s_0 s_1 s_2 s_3 s_4 s_5 : Nat) (j : Nat) : Nat := sums (formP j) [s_0, s_1, s_2, s_3, s_4, s_5]
noncomputable def IsPick (c : Nat -> Nat) (j : Nat) : Prop := j < 5 /\ (∀ i, i < j -> c j <= c i) /\ (∀ i, j < i -> i < 5 -> c j < c i)
end Mine.Pl
namespace Mine.Pl
open PySem
noncomputable abbrev Vec := List Nat
noncomputable def dot : Vec -> List Nat -> Nat
 | [], _ => 0
 | a :: v, l => match l with
  | [] => 0
  | g :: gs => a * g + dot v gs
theorem dot_c {a g : Nat} {v : Vec} {gs : List Nat} : dot (a :: v) (g :: gs) = a * g + dot v gs := rfl
theorem dot_n {g : List Nat} : dot [] g = 0 := rfl
noncomputable def vadd : Vec -> Vec -> Vec
 | [], w => w
 | a :: v, w => match w with
  | [] => a :: v
  | b :: w => (a + b) :: vadd v w
noncomputable def vle : Vec -> Vec -> Bool
 | [], _ => true
 | a :: v, w => match w with
  | [] => false
  | b :: w => Nat.ble a b && vle v w
theorem y8 : ∀ (v w : Vec) (g : List Nat), dot (vadd v w) g = dot v g + dot w g := by
 intro v; induction v with
 | nil => exact fun J J => (Nat.zero_add _).symm
 | cons a v ih => intro w; cases w with
  | nil => exact fun J => rfl
  | cons b w => intro g; cases g with
   | nil => rfl
   | cons g gs =>
    show (a + b) * g + dot (vadd v w) gs = (a * g + dot v gs) + (b * g + dot w gs)
    rw [ih, Nat.add_mul, Nat.add_add_add_comm]
theorem dot_smul (m : Nat) : ∀ (v : Vec) (g : List Nat), dot (v.map (m * ·)) g = m * dot v g := by
 intro v; induction v with
 | nil => exact fun J => rfl
 | cons a v ih => intro g; cases g with
  | nil => rfl
  | cons g gs =>
   show m * a * g + dot (v.map (m * ·)) gs = m * (a * g + dot v gs)
   rw [ih, Nat.mul_add, Nat.mul_assoc]
theorem dot_le : ∀ (v w : Vec) (g : List Nat), vle v w = true -> dot v g <= dot w g := by
 intro v; induction v with
 | nil => exact fun J J J => Nat.zero_le _
 | cons a v ih => intro w; cases w with
  | nil => exact fun J h => fE h
  | cons b w => intro g; cases g with
   | nil => exact fun J => Nat.le_refl _
   | cons g gs => exact fun h => Nat.add_le_add (Nat.mul_le_mul_right _ (nBL (Bool.and_eq_true_iff.mp h).1)) (ih w gs (Bool.and_eq_true_iff.mp h).2)
noncomputable abbrev Fs := List (Vec × Vec)
noncomputable def Holds (g : List Nat) (f : Fs) : Prop := ∀ p ∈ f, dot p.1 g <= dot p.2 g
noncomputable def lin (a b : Vec) : Fs -> List Nat -> Option (List Nat)
 | _, [] => none
 | f, m :: t => if m = 9 then (if vle a b then some t else none) else match f with
  | [] => none
  | p :: f => lin (vadd (p.2.map (m * ·)) a) (vadd (p.1.map (m * ·)) b) f t
theorem lin_ok {g : List Nat} : ∀ {t t' : List Nat} {f : Fs} {a b : Vec}, lin a b f t = some t' -> Holds g f -> dot a g <= dot b g := by
 intro t; induction t with
 | nil =>
  intro _ _ _ _ h _
  exact nE h
 | cons m t ih =>
  intro t' f a b h hf
  replace h : (if m = 9 then _ else _) = some t' := h
  by_cases q : m = 9
  ·rw [if_pos q] at h
   exact ifE h fun h J => dot_le _ _ _ h
  ·rw [if_neg q] at h
   cases f with
   | nil => exact nE h
   | cons p f =>
    have h1 := ih h fun x hx => hf x (.tail _ hx)
    have h2 := Nat.mul_le_mul_left m (hf p (.head _))
    rw [y8, y8, dot_smul, dot_smul] at h1
    exact Nat.le_of_add_le_add_left (qT h1 (Nat.add_le_add_right h2 _))
noncomputable def dd (f : Fs) (k : List Nat -> Option (List Nat)) (t : List Nat) : Option (List Nat) :=
 if t.headD 1 = 0 then lin [1] [] f (t.drop 1) else k t
theorem dd_ok {g : List Nat} {f : Fs} {k : List Nat -> Option (List Nat)} {t t' : List Nat} (h : dd f k t = some t') (hf : Holds (1 :: g) f) : k t = some t' := by
 unfold dd at h
 by_cases q : t.headD 1 = 0
 ·rw [if_pos q] at h
  exact absurd (lin_ok h hf) (by show ¬ 1 * 1 + 0 <= 0; decide)
 ·rwa [if_neg q] at h
section
variable {S : Type} (w : S -> Vec) (q : Nat)
noncomputable def insC (x : S) : List S -> (List S -> Fs -> List Nat -> Option (List Nat)) -> Fs -> List Nat -> Option (List Nat)
 | [], k, f, t => dd f (k [x] f) t
 | y :: r, k, f, t => dd f (fun t => Option.bind (k (x :: y :: r) ((vadd [q] (w x), w y) :: f) (t.drop 1)) fun t => insC x r (fun l => k (y :: l)) ((vadd [1 - q] (w y), w x) :: f) t) t
theorem insC_ok {β : Type} {g : List Nat} (ev : S -> β) {lt : β -> β -> Prop} [DecidableRel lt] (hlt : ∀ x y, lt (ev x) (ev y) ↔ dot (w x) (1 :: g) + q <= dot (w y) (1 :: g)) (hq : q <= 1) {x : S} :
  ∀ {r : List S} {k : List S -> Fs -> List Nat -> Option (List Nat)} {f : Fs} {t t' : List Nat}, insC w q x r k f t = some t' -> Holds (1 :: g) f ->
   ∃ l f' t_1 t_2, k l f' t_1 = some t_2 /\ Holds (1 :: g) f' /\ ins lt (ev x) (r.map ev) = l.map ev := by
 intro r; induction r with
 | nil =>
  intro k f t t' h hf
  exact ⟨_, _, _, _, dd_ok h hf, hf, rfl⟩
 | cons y r ih =>
  intro k f t t' h hf
  refine obE (dd_ok h hf) fun t_1 h1 h2 => ?_
  by_cases c : lt (ev x) (ev y)
  ·refine ⟨_, _, _, _, h1, fun p hp => ?_, if_pos c⟩
   cases hp with
   | head => rw [y8, Nat.add_comm]; exact qT (qE (congrArg _ (Nat.mul_one q))) ((hlt x y).mp c)
   | tail _ hp => exact hf p hp
  ·have hh : Holds (1 :: g) ((vadd [1 - q] (w y), w x) :: f) := fun p hp => by
    cases hp with
    | head =>
     have := mt (hlt x y).mpr c
     rw [y8]
     show (1 - q) * 1 + 0 + _ <= _
     lia
    | tail _ hp => exact hf p hp
   refine byC fun hG => ?_
   obtain ⟨l, f', a, b, e1, e2, e3⟩ := ih h2 hh
   refine hG ?_
   exact ⟨_, _, _, _, e1, e2, (if_neg c).trans (congrArg (ev y :: ·) e3)⟩
end
noncomputable def sV : List Vec := [[1,1,0,0,0,0,0],[1,1,1,0,0,0,0],[1,1,1,1,0,0,0],[1,1,1,1,1,0,0],[1,1,1,1,1,1,0],[1,1,1,1,1,1,1]]
noncomputable def comb : List Nat -> List Vec -> Vec
 | l :: ls, v :: vs => vadd (v.map (l * ·)) (comb ls vs)
 | _, _ => []
noncomputable def costV (j : Nat) : Vec := comb (formP j) sV
noncomputable def claims (sl : Nat -> Nat) (j : Nat) (f : Fs) : List Nat -> List Nat -> Option (List Nat)
 | [], t => some t
 | i :: is, t => Option.bind (lin (vadd [sl i] (costV j)) (costV i) f t) (claims sl j f is)
theorem claims_ok {g : List Nat} {sl : Nat -> Nat} {j : Nat} {f : Fs} (hf : Holds (1 :: g) f) : ∀ {is t t' : List Nat}, claims sl j f is t = some t' -> ∀ i ∈ is, dot (costV j) (1 :: g) + sl i <= dot (costV i) (1 :: g) := by
 intro is; induction is with
 | nil =>
  intro _ _ _ _ hi
  exact mN hi
 | cons k is ih =>
  intro t t' h i hi
  refine obE h fun t_1 h1 h2 => ?_
  cases hi with
  | head =>
   have := lin_ok h1 hf
   rw [y8, Nat.add_comm] at this
   exact qT (qE (congrArg (_ + ·) ((Nat.mul_one _).symm))) this
  | tail _ hi => exact ih h2 i hi
noncomputable def startD (s_0 s_1 s_2 s_3 s_4 s_5 : Nat) : List D := [(s_0, [(0, [])]), (s_1, [(1, [])]), (s_2, [(2, [])]), (s_3, [(3, [])]), (s_4, [(4, [])]), (s_5, [(5, [])])]
noncomputable def iterD : Nat -> Nat -> List D -> List D
 | 0, _, ds => ds
 | r + 1, st, ds => iterD r (st + 1) (stepD st ds)
theorem iterD_five (ds : List D) : iterD 5 0 ds = runD ds := rfl
noncomputable def stepW : List Nat × Nat -> List Nat × Nat
 | (a :: b :: r, g) => (insL id (a + b) r, g + (a + b))
 | x => x
noncomputable def runW (l : List Nat) : Nat := (stepW (stepW (stepW (stepW (stepW (l, 0)))))).2
noncomputable def iterW : Nat -> List Nat × Nat -> List Nat × Nat
 | 0, x => x
 | r + 1, x => iterW r (stepW x)
theorem iterW_five (ws : List Nat) : (iterW 5 (ws, 0)).2 = runW ws := rfl
noncomputable abbrev SD := Vec × List (Nat × List Nat)
noncomputable def mergeS (st : Nat) (a b : SD) : SD := (vadd a.1 b.1, a.2.map (fun x => (x.1, (97 + st) :: x.2)) ++ b.2.map (fun x => (x.1, (65 + st) :: x.2)))
noncomputable def leafC (f : Fs) : List SD -> List Nat -> Option (List Nat)
 | [x], c :: t => if c < 7 /\ okH x.2 (c - 2) = true then claims (fun i => if i <= c - 2 then 0 else 1) (c - 2) f [0, 1, 2, 3, 4] t else none
 | _, _ => none
noncomputable def goD : Nat -> Nat -> List SD -> Fs -> List Nat -> Option (List Nat)
 | 0, _, l, f, t => dd f (leafC f l) t
 | n + 1, st, a :: b :: r, f, t => insC Prod.fst 1 (mergeS st a b) r (goD n (st + 1)) f t
 | _ + 1, _, _, _, _ => none
noncomputable def leafW (f : Fs) (acc : Vec) : List Nat -> Option (List Nat)
 | [] => none
 | c :: t => if c < 7 then Option.bind (lin acc (costV (c - 2)) f t) fun t => Option.bind (lin (costV (c - 2)) acc f t) fun t => claims (fun J => 0) (c - 2) f [0, 1, 2, 3, 4] t else none
noncomputable def goW : Nat -> Vec -> List Vec -> Fs -> List Nat -> Option (List Nat)
 | 0, acc, _, f, t => dd f (leafW f acc) t
 | n + 1, acc, a :: b :: r, f, t => insC id 0 (vadd a b) r (goW n (vadd acc (vadd a b))) f t
 | _ + 1, _, _, _, _ => none
noncomputable def evD (g : List Nat) (x : SD) : D := (dot x.1 g, x.2)
theorem five {C : Nat -> Prop} (h : ∀ i ∈ [0, 1, 2, 3, 4], C i) {i : Nat} (hi : i < 5) : C i := h i (mR.mpr hi)
theorem goD_ok {g : List Nat} : ∀ {n st : Nat} {l : List SD} {f : Fs} {t t' : List Nat}, goD n st l f t = some t' -> Holds (1 :: g) f ->
  ∃ v its j, iterD n st (l.map (evD (1 :: g))) = [(v, its)] /\ IsPick (fun j => dot (costV j) (1 :: g)) j /\ okH its j = true := by
 intro n; induction n with
 | zero =>
  intro st l f t t' h hf
  have h := dd_ok h hf
  cases l with
  | nil => exact nE h
  | cons x l => cases l with
  | cons _ _ => exact nE h
  | nil => cases t with
  | nil => exact nE h
  | cons c t =>
   refine ifE h fun hc h => ⟨_, x.2, c - 2, rfl, ⟨by have := hc.1; omega, fun i hi => ?_, fun i hi h5 => ?_⟩, hc.2⟩
   ·have := five (claims_ok hf h) (i := i) (by have := hc.1; omega)
    rwa [if_pos (qW hi)] at this
   ·have := five (claims_ok hf h) h5
    rwa [if_neg (Nat.not_le.mpr hi)] at this
 | succ n ih => intro st l; cases l with
  | nil => exact nE
  | cons a l => cases l with
   | nil => exact nE
   | cons b r =>
    intro f t t' h hf
    refine byC fun hG => ?_
    obtain ⟨l, f', t_1, t_2, h1, h2, h3⟩ := insC_ok (g := g) Prod.fst 1 (evD (1 :: g)) (lt := fun a b => a.1 < b.1) (fun J J => Iff.rfl) qR h hf
    refine hG ?_
    have e : evD (1 :: g) (mergeS st a b) = y9 st (evD (1 :: g) a) (evD (1 :: g) b) := Prod.ext (y8 _ _ _) rfl
    rw [e] at h3
    have := ih h1 h2
    rwa [← h3] at this
theorem goW_ok {g : List Nat} : ∀ {n : Nat} {acc : Vec} {l : List Vec} {f : Fs} {t t' : List Nat}, goW n acc l f t = some t' -> Holds (1 :: g) f ->
  ∃ j, j < 5 /\ (iterW n (l.map (dot · (1 :: g)), dot acc (1 :: g))).2 = dot (costV j) (1 :: g) /\ ∀ i, i < 5 -> dot (costV j) (1 :: g) <= dot (costV i) (1 :: g) := by
 intro n; induction n with
 | zero =>
  intro acc l f t t' h hf
  have h := dd_ok h hf
  cases t with
  | nil => exact nE h
  | cons c t => exact ifE h fun hc h => obE h fun t h1 h => obE h fun t h2 h => ⟨c - 2, by omega, Nat.le_antisymm (lin_ok h1 hf) (lin_ok h2 hf), fun i hi => five (claims_ok hf h) hi⟩
 | succ n ih => intro acc l; cases l with
  | nil => exact nE
  | cons a l => cases l with
   | nil => exact nE
   | cons b r =>
    intro f t t' h hf
    refine byC fun hG => ?_
    obtain ⟨l, f', t_1, t_2, h1, h2, h3⟩ := insC_ok (g := g) id 0 (dot · (1 :: g)) (lt := fun a b => a <= b) (fun J J => Iff.rfl) qZ h hf
    refine hG ?_
    have := ih h1 h2
    rw [← h3, y8, y8, y8] at this
    exact this
noncomputable def tell : Nat -> Nat -> List Nat
 | 0, _ => []
 | n + 1, x => x % 10 :: tell n (x / 10)
theorem run_D : (goD 5 0 (sV.zipIdx.map fun x => (x.1, [(x.2, [])])) [] (tell 1187 99100000091919169101000101910191019101910101911019910000000910091000910000100691019100000101910001101991000000091091000109100000106910191091000001099100000910000000491919910000091000000041191000010119101910101199100000009100910009100010006910191000001019100011019910000000910910010910010010691019109100000109910000910010000491919910000910010000411910000101199100000091010910910000106920010191091000010910009910000003919191000991000000311910910001091099100000391919109910000031119101191000000991009100091000591001019100001019100110191000000991091010010910010591000101910000109109910100009100004919199101000091000041191000101191000009910109100010910591001019100010910910009100000929191910009100000921191001091091091000092919191091000092111910009910109101091059100101910109109100091000929191910009100092119110910910910092919191091009211119100000099100910009100059100101910000101910011019100000099109101001091001059100010191000010910991010000910000491919910100009100004119100010119100000991010910001091059100101910001091091000910000092919191000910000092119100109109109100009291919109100009211191000991010910109105910010191010910910009100092919191000910009211911091091091009291919109100921111)).isSome = true := by decide +kernel
theorem run_W : (goW 5 [] sV [] (tell 1673 99100000091919199691010001019910000009109109109910691011911019910009191919969101000101911019910091091091099110691011191010191101991000000091009100091000010099691000101910000010191000110199100000009109100010910000010996910001019109100000109910000091000000099491919910000091000000099411910000101199100091010910000109100101099691101001019109109910000910000009910004919199100009100000099100041191011910101199100000009100910009100010009969100001019100000101910001101991000000091091001091001001099691000010191091000001099100009100100009949191991000091001000099411910000101199100000091010910910000109969120010191091000010910009910000009939191910009910000009931191091000109109910000099391919109910000099311199100091101091091010996991000919191996191091010911000991000993919191100099100099311910911091099100993919191099100993111191000000991009100091000995910010191200001019100110191000000991091010010910010995910001019100001091099101000091000099491919910100009100009941191200010119100000991010910001091099591200101910001091091000910000099929191910009100000999211910010910910910000999291919109100009992111910009910109101091099591000991001919199519101091091000910009992919191000910009992119110910910910099929191910910099921111910000009910091000910009959100101910000009910091000910009100000091059100000101191001101910000009910910100109100109959100010191000010910991010000910000994919199101000091000099411910011091109910910994919199109109941119100000991010910001091099591200101910001091091000910000099929191910009100000999211910010910910910000999291919109100009992111910009910109101091099591000991001919199519101091091000910009992919191000910009992119110910910910099929191910910099921111)).isSome = true := by decide +kernel
theorem gaps {s_0 s_1 s_2 s_3 s_4 s_5 : Nat} (h0 : 1 <= s_0) (h1 : s_0 <= s_1) (h2 : s_1 <= s_2) (h3 : s_2 <= s_3) (h4 : s_3 <= s_4) (h5 : s_4 <= s_5) : ∃ g, sV.map (dot · (1 :: g)) = [s_0, s_1, s_2, s_3, s_4, s_5] := by
 obtain ⟨g0, rfl⟩ := Nat.exists_eq_add_of_le h0
 obtain ⟨g1, rfl⟩ := Nat.exists_eq_add_of_le h1
 obtain ⟨g2, rfl⟩ := Nat.exists_eq_add_of_le h2
 obtain ⟨g3, rfl⟩ := Nat.exists_eq_add_of_le h3
 obtain ⟨g4, rfl⟩ := Nat.exists_eq_add_of_le h4
 obtain ⟨g5, rfl⟩ := Nat.exists_eq_add_of_le h5
 exact ⟨[g0, g1, g2, g3, g4, g5], by simp [sV, dot_c, dot_n, Nat.add_assoc]⟩
theorem dot_comb {g : List Nat} : ∀ (ls : List Nat) (vs : List Vec), dot (comb ls vs) g = sums ls (vs.map (dot · g)) := by
 intro ls; induction ls with
 | nil => exact fun J => rfl
 | cons l ls ih => intro vs; cases vs with
  | nil => rfl
  | cons v vs =>
   show dot (vadd _ _) _ = dot v g * l + sums ls (vs.map (dot · g))
   rw [y8, dot_smul, ih, Nat.mul_comm]
theorem costs {s_0 s_1 s_2 s_3 s_4 s_5 : Nat} {g : List Nat} (e : sV.map (dot · g) = [s_0, s_1, s_2, s_3, s_4, s_5]) {j : Nat} : dot (costV j) g = costP s_0 s_1 s_2 s_3 s_4 s_5 j := (dot_comb _ _).trans (congrArg (sums _) e)
theorem huff {s_0 s_1 s_2 s_3 s_4 s_5 : Nat} (h0 : 1 <= s_0) (h1 : s_0 <= s_1) (h2 : s_1 <= s_2) (h3 : s_2 <= s_3) (h4 : s_3 <= s_4) (h5 : s_4 <= s_5) :
  ∃ t its j, runD (startD s_0 s_1 s_2 s_3 s_4 s_5) = [(t, its)] /\ IsPick (costP s_0 s_1 s_2 s_3 s_4 s_5) j /\ okH its j = true := by
 obtain ⟨g, e⟩ := gaps h0 h1 h2 h3 h4 h5
 obtain ⟨t', h⟩ := Option.isSome_iff_exists.mp run_D
 obtain ⟨v, its, j, a, ⟨b, c, d⟩, o⟩ := goD_ok (g := g) h fun J => mN
 refine ⟨v, its, j, ?_, ⟨b, fun i hi => ?_, fun i hi h5 => ?_⟩, o⟩
 ·have : startD s_0 s_1 s_2 s_3 s_4 s_5 = (sV.zipIdx.map fun x => (x.1, [(x.2, [])])).map (evD (1 :: g)) := by
   simp only [sV, mcC, List.cons.injEq] at e
   obtain ⟨rfl, rfl, rfl, rfl, rfl, rfl, J⟩ := e
   rfl
  rw [this]
  exact a
 ·rw [← costs e, ← costs e]; exact c i hi
 ·rw [← costs e, ← costs e]; exact d i hi h5
theorem runW_pick {s_0 s_1 s_2 s_3 s_4 s_5 j : Nat} (h0 : 1 <= s_0) (h1 : s_0 <= s_1) (h2 : s_1 <= s_2) (h3 : s_2 <= s_3) (h4 : s_3 <= s_4) (h5 : s_4 <= s_5) (h : IsPick (costP s_0 s_1 s_2 s_3 s_4 s_5) j) : runW [s_0, s_1, s_2, s_3, s_4, s_5] = costP s_0 s_1 s_2 s_3 s_4 s_5 j := by
 obtain ⟨g, e⟩ := gaps h0 h1 h2 h3 h4 h5
 obtain ⟨t', hr⟩ := Option.isSome_iff_exists.mp run_W
 obtain ⟨k, hk, a, b⟩ := goW_ok (g := g) hr fun J => mN
 obtain ⟨hj, c, d⟩ := h
 rw [e] at a
 refine (show _ = _ from a).trans (.trans (costs e) ?_)
 have b := b j hj
 rw [costs e, costs e] at b
 rcases Nat.lt_trichotomy k j with q | q | q
 ·exact Nat.le_antisymm b (c k q)
 ·rw [q]
 ·exact absurd b (Nat.not_le.mpr (d k q hk))
end Mine.Pl
namespace Mine.Pl
open PySem
noncomputable def HL (sl : Slots) : Prop := sl.length = 28
theorem zN {sl : Slots} {x : Nat} {v : V} (h : HL sl) : HL (setSl sl x v) := by unfold HL setSl at *; simpa using h
theorem gs_eq {sl : Slots} {x : Nat} {v : V} (h : HL sl) (hx : x < 28) : getSl (setSl sl x v) x = some v := by
 unfold HL at h
 simp [getSl, setSl, h, hx]
theorem gs_ne {sl : Slots} {x y : Nat} {v w : V} (h : x ≠ y) (h2 : getSl sl y = some w) : getSl (setSl sl x v) y = some w := by
 unfold getSl setSl at *
 rw [gSN h, h2]
theorem gs_ne' {sl : Slots} {x y : Nat} {v : V} (h : x ≠ y) : getSl (setSl sl x v) y = getSl sl y := by
 unfold getSl setSl
 rw [gSN h]
noncomputable def Same (X : List Nat) (sl sl' : Slots) : Prop := (HL sl -> HL sl') /\ ∀ y, y ∉ X -> getSl sl' y = getSl sl y
theorem Same.refl {X : List Nat} {sl : Slots} : Same X sl sl := ⟨id, fun J J => rfl⟩
theorem Same.trans {X : List Nat} {a b c : Slots} (h : Same X a b) (k : Same X b c) : Same X a c := ⟨fun q => k.1 (h.1 q), fun y hy => (k.2 y hy).trans (h.2 y hy)⟩
theorem Same.set {X : List Nat} {a : Slots} {x : Nat} {v : V} (hx : x ∈ X) : Same X a (setSl a x v) := ⟨zN, fun y hy => gs_ne' fun q => hy (q ▸ hx)⟩
theorem Same.get {X : List Nat} {a b : Slots} (h : Same X a b) {y : Nat} {v : V} (g : getSl a y = some v) (hy : y ∉ X) : getSl b y = some v := (h.2 y hy).trans g
theorem Same.mono {X Y : List Nat} {a b : Slots} (h : Same X a b) (k : ∀ x ∈ X, x ∈ Y) : Same Y a b := ⟨h.1, fun y hy => h.2 y fun q => hy (k y q)⟩
section
variable {n : Nat} {sl : Slots} {σ σ_1 σ_2 : Sto}
theorem me_append {i : Nat} {xs : List V} {x : V} (h : σ[i]? = some xs) (hi : i ≠ 0) (hl : xs.length <= 1000) : methF .append (.lst i) [x] σ = some (.none, σ.set i (xs ++ [x])) := ob h (if_neg (by unfold big; lia))
theorem me_pop {i : Nat} {x : V} {xs : List V} (h : σ[i]? = some (x :: xs)) (hi : i ≠ 0) (hl : xs.length <= 1000) : methF .pop (.lst i) [.int 0] σ = some (x, σ.set i xs) := ob h (if_neg (by lia))
theorem sl_lst {i : Nat} {xs : List V} {lo hi st : V} {a b c : Option Int} (h : σ[i]? = some xs) (h1 : partO lo = some a) (h2 : partO hi = some b) (h3 : partO st = some c) (hc : c ≠ some 0) (hl : xs.length <= 1000) : xX (.lst i) lo hi st σ = some (.lst σ.length, σ ++ [pickL xs a b c]) := ob h1 (ob h2 (ob h3 (ob h (if_neg (by rintro (q | q); exact hc q; exact absurd q (qK hl))))))
theorem ev_sortk {src body : ME} {fr : List Nat} {v : V} {xs : List V} {is : List Int} {ps : List (Int × V)} {cap : Slots} (h1 : (recN n).eval src sl σ = some (v, σ_1)) (h2 : sortSrc σ_1 v = some xs) (h3 : isInts xs = some is) (h4 : is.length = 6 /\ is.Nodup) (hc : zU sl fr = cap)
  (h5 : xB (fun x σ => (recN n).eval body (some x :: cap) σ) xs σ_1 = some (ps, σ_2)) : (recN (n + 1)).eval (.sortk src fr body) sl σ = some (.lst σ_2.length, σ_2 ++ [(sortK ps).map (·.2)]) := by subst hc; exact ob h1 (ob h2 (ob h3 ((if_pos h4).trans (ob h5 rfl))))
end
theorem cp_gen {σ : Sto} {src : V} {N K : Nat} {e : ME} {cap : Slots} (items ws : Nat -> V) (hN : N <= 100) (hit : ∀ σ', Mods [] σ σ' -> ∀ j, zV σ' src j = some (if j < N then some (items j) else none))
  (h : ∀ j, j < N -> ∀ σ', Mods [] σ σ' -> ∀ m, ∃ σ'', (recN (m + K)).eval e (some (items j) :: cap) σ' = some (ws j, σ'') /\ Mods [] σ' σ'') (n : Nat) :
  ∀ (d i : Nat) (σ_0 : Sto), Mods [] σ σ_0 -> i + d = N -> ∃ σ', (recN (n + K + 1 + d)).comp e cap src i none ((lR i).map ws) σ_0 = some ((lR N).map ws, σ') /\ Mods [] σ_0 σ' := by
 intro d; induction d with
 | zero =>
  intro i σ_0 m0 hd
  have : i = N := by exact hd
  subst this
  exact ⟨σ_0, cp_end (by rw [hit _ m0, if_neg (nIR _)]), .refl⟩
 | succ d ih =>
  intro i σ_0 m0 hd
  obtain ⟨σ_1, e1, m1⟩ := h i (pA hd) σ_0 m0 (n + 1 + d)
  obtain ⟨σ_2, e2, m2⟩ := ih (i + 1) σ_1 (m0.trans m1) (pB hd)
  refine ⟨σ_2, ?_, m1.trans m2⟩
  have a1 : n + K + 1 + (d + 1) = n + 1 + d + K + 1 := by lia
  have a2 : n + K + 1 + d = n + 1 + d + K := by lia
  rw [a2, List.range_succ, List.map_append] at e2
  rw [a1]
  exact cp_step (by rw [hit _ m0, if_pos (pA hd)]) e1 (by simp; lia) e2
theorem z7 {σ : Sto} {i : Nat} {xs : List V} (h : σ[i]? = some xs) (j : Nat) : zV σ (.lst i) j = some xs[j]? := ob h rfl
theorem pickL_ints (is : List Int) (a b c : Option Int) : ∃ js : List Int, pickL (is.map V.int) a b c = js.map V.int := by
 unfold pickL
 generalize sliceRange _ _ _ = ix
 induction ix with
 | nil => exact ⟨[], rfl⟩
 | cons i ix ih =>
  obtain ⟨js, e⟩ := ih
  rw [List.filterMap_cons]
  cases hi : (is.map V.int)[i]? with
  | none => exact ⟨js, e⟩
  | some v =>
   rw [gMP] at hi
   obtain ⟨x, hx, rfl⟩ := Option.map_eq_some_iff.mp hi
   exact ⟨x :: js, by show V.int x :: _ = _; rw [e]; rfl⟩
theorem sumInts_ints : ∀ (js : List Int) (a : Int), yW (js.map V.int) a = some (a + js.sum) := by
 intro js; induction js with
 | nil =>
  intro a
  exact congrArg some (Int.add_zero a).symm
 | cons x r ih =>
  intro a
  exact (ih (a + x)).trans (congrArg some (Int.add_assoc a x r.sum))
theorem draw_loop {d : Nat} {is : List Int} (hd : d ≠ 0) (hl : is.length <= 63) (n : Nat) : ∀ (r i : Nat) (sl : Slots) (σ : Sto) (ds : List Int), HL sl -> i + r = 7 -> getSl sl 0 = some (.lst 0) -> getSl sl 1 = some (.lst d) -> σ[0]? = some (is.map .int) -> σ[d]? = some (ds.map .int) -> ds.length = i -> (∀ x ∈ ds, 0 <= x /\ x < 1000000) ->
  ∀ {C : Prop}, (∀ (sl' : Slots) (σ' : Sto) (ds' : List Int), (recN (n + 40 + r)).forr 2 (.rng 0 (7 : Nat) 1) i [
  .expr (.meth (.var 1) .append [(.bin .Mod (.bin .Add (.sub (.list [(.int 46), (.int 0), (.int 21), (.int 1), (.int 40), (.int 6), (.int 91)]) (.var 2)) (.call (.glob .sum) [(.slice (.var 0) (some (.var 2)) none (some (.int 7)))])) (.bin .Pow (.int 10) (.int 6)))])] sl σ = some (.next, sl', σ') -> Same [2] sl sl' -> Mods [d] σ σ' -> σ'[d]? = some (ds'.map .int) -> ds'.length = 7 -> (∀ x ∈ ds', 0 <= x /\ x < 1000000) -> C) -> C := by
 intro r; induction r with
 | zero =>
  intro i sl σ ds h hr g0 g1 m0 md hds hx P kk
  have : i = 7 := by exact hr
  subst this
  exact kk sl σ ds (fr_end (n := n + 39) (xS (by decide) (nIR _))) .refl .refl md hds hx
 | succ r ih =>
  intro i sl σ ds h hr g0 g1 m0 md hds hx P kk
  let C : List V := [.int 46, .int 0, .int 21, .int 1, .int 40, .int 6, .int 91]
  have hi : i < 7 := by exact pA hr
  obtain ⟨c, hc⟩ : ∃ c : Int, C[i]? = some (.int c) := by
   have : i = 0 \/ i = 1 \/ i = 2 \/ i = 3 \/ i = 4 \/ i = 5 \/ i = 6 := l7 (pA (by assumption))
   rcases this with rfl | rfl | rfl | rfl | rfl | rfl | rfl <;> exact ⟨_, rfl⟩
  obtain ⟨js, hjs⟩ := pickL_ints is (some (i : Int)) none (some 7)
  have a1 : subV (.lst σ.length) (.int (i : Int)) (σ ++ [C]) = some (.int c) := zH zI rfl (by decide) hc
  have a2 : xX (.lst 0) (.int (i : Int)) .none (.int 7) (σ ++ [C]) = some (.lst (σ ++ [C]).length, (σ ++ [C]) ++ [js.map .int]) := by
   rw [sl_lst (a := some (i : Int)) (b := none) (c := some 7) (zK m0) rfl rfl rfl (by decide) (by simp; exact qT hl qL), hjs]
  have a3 : ((σ ++ [C]) ++ [js.map V.int])[(σ ++ [C]).length]? = some (js.map V.int) := zI
  have a4 := sumInts_ints js 0
  have b1 : ∀ σ, binF .Pow (.int 10) (.int 6) σ = some (.int 1000000, σ) := fun σ => rfl
  have b2 : ∀ σ, binF .Mod (.int (c + (0 + js.sum))) (.int 1000000) σ = some (.int ((c + (0 + js.sum)) % 1000000), σ) := fun σ => bi_modI (by decide)
  have md' : ((σ ++ [C]) ++ [js.map V.int])[d]? = some (ds.map .int) := zK (zK md)
  have a5 : methF .append (.lst d) [.int ((c + (0 + js.sum)) % 1000000)] ((σ ++ [C]) ++ [js.map V.int]) = some (.none, ((σ ++ [C]) ++ [js.map V.int]).set d (ds.map .int ++ [.int ((c + (0 + js.sum)) % 1000000)])) := me_append md' hd (by simp; exact eC hds (wB hi))
  have hds' : ds.map V.int ++ [.int ((c + (0 + js.sum)) % 1000000)] = (ds ++ [(c + (0 + js.sum)) % 1000000]).map V.int := by exact Eq.symm List.map_append
  rw [hds'] at a5
  have hget := yR (ys := (ds ++ [(c + (0 + js.sum)) % 1000000]).map V.int) md'
  have m0' : (((σ ++ [C]) ++ [js.map V.int]).set d ((ds ++ [(c + (0 + js.sum)) % 1000000]).map V.int))[0]? = some (is.map .int) := by
   rw [gSN hd]; exact zK (zK m0)
  have sa : Same [2] sl (setSl sl 2 (.int (i : Int))) := .set mcS
  refine ih (i + 1) (setSl sl 2 (.int (i : Int))) _ (ds ++ [(c + (0 + js.sum)) % 1000000]) (zN h) (pB hr) (sa.get g0 (by decide)) (sa.get g1 (by decide)) m0' hget (by simp [hds]) (by
   intro x hx'
   rcases mA.mp hx' with q | q
   ·exact hx x q
   ·simp at q; subst q; lia) fun sl' σ' ds' run s1 s2 s3 s4 s5 => ?_
  refine kk sl' σ' ds' ?_ (sa.trans s1) ?_ s3 s4 s5
  ·have e1 : n + 40 + (r + 1) = n + r + 40 + 1 := by exact qC
   have e2 : n + 40 + r = n + r + 40 := by exact qC
   rw [e2] at run
   rw [e1]
   refine xT (yC (n := 7) (by decide) hi) rfl ?_ run
   have g0' := sa.get g0 (by decide)
   have g1' := sa.get g1 (by decide)
   have g2' : getSl (setSl sl 2 (.int (i : Int))) 2 = some (.int (i : Int)) := gs_eq h (by decide)
   have hC : C.length <= 1000 := by decide
   repeat (with_reducible first | exact b1 _ | exact b2 _ | exact a1 | exact a2 | exact a3 | exact a4 | exact a5 | exact y6 | exact hC | exact zF | exact zD | exact zQ | exact g0' | exact g1' | exact g2' | apply zA | apply zL | apply zM | apply yT | apply ev_slice | apply evo_none | apply evo_some | apply ev_gsumL | apply xM | apply zB | apply zP | apply zX | apply st_expr)
  ·refine Mods.trans (Mods.app.trans (Mods.app.trans (Mods.set mcS))) s2
end Mine.Pl
namespace Mine.Pl
open PySem
noncomputable def yX (x : Int) : Int := 2 ^ (x % 5).toNat + x / 5 % 4
theorem lightI_range (x : Int) : 1 <= yX x /\ yX x <= 19 := by
 unfold yX
 have h : (x % 5).toNat = 0 \/ (x % 5).toNat = 1 \/ (x % 5).toNat = 2 \/ (x % 5).toNat = 3 \/ (x % 5).toNat = 4 := l5 (tm (m := 5) (by decide))
 have h2 : 0 <= x / 5 % 4 /\ x / 5 % 4 < 4 := ⟨Int.emod_nonneg _ (by decide), Int.emod_lt_of_pos _ (by decide)⟩
 rcases h with h | h | h | h | h <;> rw [h] <;> simp <;> lia
theorem pick6 (a b c d e f g : V) : pickL [a, b, c, d, e, f, g] none (some 6) none = [a, b, c, d, e, f] := by rfl
structure Pre (sl : Slots) (σ : Sto) (d lid s o T p : Nat) (x : Nat -> Int) (l : Nat -> Nat) : Prop where
 hl : HL sl
 g1 : getSl sl 1 = some (.lst d)
 md : σ[d]? = some ((lR 7).map fun k => .int (x k))
 g3 : getSl sl 3 = some (.int T)
 g4 : getSl sl 4 = some (.int p)
 hT : T < 64
 hp : 1 <= p /\ p < 5
 g5 : getSl sl 5 = some (.lst lid)
 ml : σ[lid]? = some ((lR 6).map fun k => .int (l k))
 hl6 : ∀ k, 1 <= l k /\ l k <= 19
 g6 : getSl sl 6 = some (.lst s)
 ms : σ[s]? = some []
 g7 : getSl sl 7 = some (.lst o)
 mo : σ[o]? = some []
 ns : s ≠ 0
 no : o ≠ 0
 so : s ≠ o
 ds : d ≠ s
 d_o : d ≠ o
 ls : lid ≠ s
 lo : lid ≠ o
theorem zC {n : Nat} {s : MS} {ss : List MS} {sl sl_1 : Slots} {σ σ_1 : Sto} {r : Fl × Slots × Sto} (h1 : stepF (recN n) s sl σ = some (.next, sl_1, σ_1)) (h2 : (recN (n + 1)).exec ss sl_1 σ_1 = some r) : (recN (n + 1)).exec (s :: ss) sl σ = some r := ex_next h1 h2
theorem prelude {is : List Int} (hl : is.length <= 63) (n : Nat) (ss : List MS) :
  ∀ {C : Prop}, (∀ sl σ d lid s o T p x l, Pre sl σ d lid s o T p x l -> (∀ r, (recN (n + 101)).exec ss sl σ = some r ->
   (recN (n + 101)).exec (b_law0 :: b_law1 :: b_law2 :: b_law3 :: b_law4 :: b_law5 :: b_law6 :: ss) (some (.lst 0) :: lQ 27 none) [is.map .int] = some r) -> C) -> C := by
 generalize hsl : (some (V.lst 0) :: lQ 27 none : Slots) = sl_0
 have H0 : HL sl_0 := by rw [← hsl]; rfl
 have k0 : getSl sl_0 0 = some (.lst 0) := by rw [← hsl]; rfl
 generalize hσ : ([is.map V.int] : Sto) = σ_0
 have z0 : σ_0[0]? = some (is.map .int) := by rw [← hσ]; rfl
 have len0 : σ_0.length = 1 := by rw [← hσ]; rfl
 intro C kk
 have md0 : (σ_0 ++ [[]])[σ_0.length]? = some [] := zI
 refine draw_loop (d := σ_0.length) (by lia) hl (n + 53) 7 0 (setSl sl_0 1 (.lst σ_0.length)) (σ_0 ++ [[]]) [] (zN H0) rfl (gs_ne (by decide) k0) (gs_eq H0 (by decide)) (zK z0) md0 rfl (by exact fun J h => nomatch h) fun sl1 σ1 ds run s1 m1 hd hdl hdx => ?_
 have H1 := s1.1 (zN H0)
 have f1 := s1.get (gs_eq (v := .lst σ_0.length) (x := 1) H0 (by decide)) (by decide)
 obtain ⟨x0, x1, x2, x3, x4, x5, x6, rfl⟩ : ∃ x0 x1 x2 x3 x4 x5 x6, ds = [x0, x1, x2, x3, x4, x5, x6] := len_e hdl fun a J h => ⟨a, (six_of h).imp fun J => Exists.imp fun J => Exists.imp fun J => Exists.imp fun J => Exists.imp fun J => Exists.imp fun J e => congrArg (a :: ·) e⟩
 have hx0 := hdx x0 mcS; have hx1 := hdx x1 (mT _ mcS); have hx2 := hdx x2 (by simp); have hx3 := hdx x3 (by simp); have hx4 := hdx x4 (by simp); have hx5 := hdx x5 (by simp); have hx6 := hdx x6 (by simp)
 simp only [mcC, List.map_nil] at hd
 generalize hdd : σ_0.length = d at *
 have t1 : ∀ σ, σ[d]? = some [V.int x0, .int x1, .int x2, .int x3, .int x4, .int x5, .int x6] -> subV (.lst d) (.int 6) σ = some (.int x6) := fun σ q => zH (j := 6) q rfl qL rfl
 have t1 := t1 _ hd
 have b1 : ∀ σ, binF .Mod (.int x6) (.int 64) σ = some (.int (x6 % 64), σ) := fun σ => bi_modI (by decide)
 have b2 : ∀ σ, binF .FloorDiv (.int x6) (.int 64) σ = some (.int (x6 / 64), σ) := fun σ => bi_fdivI (by decide)
 have b3 : ∀ σ, binF .Mod (.int (x6 / 64)) (.int 4) σ = some (.int (x6 / 64 % 4), σ) := fun σ => bi_modI (by decide)
 obtain ⟨T, hT⟩ := Int.eq_ofNat_of_zero_le (show 0 <= x6 % 64 by lia)
 obtain ⟨p, hp⟩ := Int.eq_ofNat_of_zero_le (show 0 <= x6 / 64 % 4 + 1 by lia)
 rw [hT] at b1
 have b4 : ∀ σ, binF .Add (.int (x6 / 64 % 4)) (.int 1) σ = some (.int p, σ) := fun σ => by rw [y6, hp]
 let items : Nat -> V := fun j => ([V.int x0, .int x1, .int x2, .int x3, .int x4, .int x5].getD j .none)
 let X : Nat -> Int := fun j => [x0, x1, x2, x3, x4, x5, x6].getD j 0
 have hitem : ∀ j, j < 6 -> items j = .int (X j) := by
  intro j hj
  rcases col_six hj with rfl | rfl | rfl | rfl | rfl | rfl <;> rfl
 have hXb : ∀ j, j < 6 -> 0 <= X j /\ X j < 1000000 := by
  intro j hj
  rcases col_six hj with rfl | rfl | rfl | rfl | rfl | rfl <;> assumption
 have hsl6 : xX (.lst d) .none (.int 6) .none σ1 = some (.lst σ1.length, σ1 ++ [[V.int x0, .int x1, .int x2, .int x3, .int x4, .int x5]]) := by
  rw [sl_lst (a := none) (b := some 6) (c := none) hd rfl rfl rfl (by decide) qL, pick6]
 have hsrc : (σ1 ++ [[V.int x0, .int x1, .int x2, .int x3, .int x4, .int x5]])[σ1.length]? = some [V.int x0, .int x1, .int x2, .int x3, .int x4, .int x5] := zI
 obtain ⟨σ2, e2, m2⟩ := cp_gen (σ := σ1 ++ [[V.int x0, .int x1, .int x2, .int x3, .int x4, .int x5]]) (src := .lst σ1.length) (N := 6) (K := 40) (cap := []) (e := .bin .Add (.bin .Pow (.int 2) (.bin .Mod (.var 0) (.int 5))) (.bin .Mod (.bin .FloorDiv (.var 0) (.int 5)) (.int 4))) items (fun j => .int (yX (X j))) (by decide)
  (fun σ' m j => by
   rw [z7 (m.2 _ _ nmN hsrc)]
   congr 1
   by_cases hj : j < 6
   ·rw [if_pos hj]
    rcases col_six hj with rfl | rfl | rfl | rfl | rfl | rfl <;> rfl
   ·rw [if_neg hj]; exact List.getElem?_eq_none (by simp; exact qG hj))
  (fun j hj σ' m k => by
   refine ⟨σ', ?_, .refl⟩
   rw [hitem j hj]
   have q := hXb j hj
   generalize X j = x at q ⊢
   have c1 : ∀ σ, binF .Mod (.int x) (.int 5) σ = some (.int (x % 5), σ) := fun σ => bi_modI (by decide)
   have c2 : ∀ σ, binF .Pow (.int 2) (.int (x % 5)) σ = some (.int (2 ^ (x % 5).toNat), σ) := fun σ => bi_powI (by lia)
   have c3 : ∀ σ, binF .FloorDiv (.int x) (.int 5) σ = some (.int (x / 5), σ) := fun σ => bi_fdivI (by decide)
   have c4 : ∀ σ, binF .Mod (.int (x / 5)) (.int 4) σ = some (.int (x / 5 % 4), σ) := fun σ => bi_modI (by decide)
   have c5 : ∀ σ, binF .Add (.int (2 ^ (x % 5).toNat)) (.int (x / 5 % 4)) σ = some (.int (yX x), σ) := fun σ => rfl
   repeat (with_reducible first | exact c1 _ | exact c2 _ | exact c3 _ | exact c4 _ | exact c5 _ | exact zF | apply zE | apply zA | apply zL))
  (n + 52) 6 0 _ .refl rfl
 let l : Nat -> Nat := fun k => (yX (X k)).toNat
 have hll : ∀ k, 1 <= l k /\ l k <= 19 := fun k => by have := lightI_range (X k); show 1 <= (yX (X k)).toNat /\ (yX (X k)).toNat <= 19; lia
 have hlI : ∀ k, yX (X k) = (l k : Int) := fun k => by have := lightI_range (X k); show _ = (((yX (X k)).toNat : Nat) : Int); lia
 have hd2 : σ2[d]? = some [V.int x0, .int x1, .int x2, .int x3, .int x4, .int x5, .int x6] := m2.2 _ _ nmN (zK hd)
 have L1 := (gSI.mp hd).1
 have L2 := m2.1
 simp only [List.length_append, List.length_singleton] at L2
 have e0 : (lR 0).map (fun j => V.int (yX (X j))) = [] := rfl
 rw [e0] at e2
 have hcap : zU (setSl (setSl sl1 3 (.int T)) 4 (.int p)) [] = [] := rfl
 let sl6 : Slots := setSl (setSl (setSl (setSl (setSl sl1 3 (.int T)) 4 (.int p)) 5 (.lst σ2.length)) 6 (.lst (σ2.length + 1))) 7 (.lst (σ2.length + 2))
 let σ6 : Sto := σ2 ++ [(lR 6).map (fun j => V.int (yX (X j)))] ++ [[]] ++ [[]]
 refine kk sl6 σ6 d σ2.length (σ2.length + 1) (σ2.length + 2) T p X l ⟨?_, ?_, ?_, ?_, ?_, ?_, ?_, ?_, ?_, hll, ?_, ?_, ?_, ?_, by exact Nat.succ_ne_zero _, by exact Nat.succ_ne_zero _, by exact nNL qR, by lia, by lia, by exact nNL qR, by exact nNL qU⟩ (fun r hr => ?_)
 ·exact zN (zN (zN (zN (zN H1))))
 ·exact gs_ne (by decide) (gs_ne (by decide) (gs_ne (by decide) (gs_ne (by decide) (gs_ne (by decide) f1))))
 ·exact zK (zK (zK hd2))
 ·exact gs_ne (by decide) (gs_ne (by decide) (gs_ne (by decide) (gs_ne (by decide) (gs_eq H1 (by decide)))))
 ·exact gs_ne (by decide) (gs_ne (by decide) (gs_ne (by decide) (gs_eq (zN H1) (by decide))))
 ·lia
 ·lia
 ·exact gs_ne (by decide) (gs_ne (by decide) (gs_eq (zN (zN H1)) (by decide)))
 ·have : (lR 6).map (fun k => V.int (l k : Nat)) = (lR 6).map (fun j => V.int (yX (X j))) := List.map_congr_left fun k J => by rw [hlI]
  rw [this]
  exact zK (zK zI)
 ·exact gs_ne (by decide) (gs_eq (zN (zN (zN H1))) (by decide))
 ·have : σ2.length + 1 = (σ2 ++ [(lR 6).map (fun j => V.int (yX (X j)))]).length := by exact Eq.symm List.length_append
  rw [this]
  exact zK zI
 ·exact gs_eq (zN (zN (zN (zN H1)))) (by decide)
 ·have : σ2.length + 2 = (σ2 ++ [(lR 6).map (fun j => V.int (yX (X j)))] ++ [[]]).length := by simp
  rw [this]
  exact zI
 ·have n1 : σ2.length + 1 = (σ2 ++ [(lR 6).map (fun j => V.int (yX (X j)))]).length := by exact Eq.symm List.length_append
  have n2 : σ2.length + 2 = (σ2 ++ [(lR 6).map (fun j => V.int (yX (X j)))] ++ [[]]).length := by simp
  have i7 : zV (σ_0 ++ [[]]) (.rng 0 (7 : Int) 1) 0 = some (some (.int 0)) := yC (n := 7) (i := 0) (by decide) (by decide)
  have r7 : ∀ σ, yD .range [.int 7] σ = some (.rng 0 (7 : Int) 1, σ) := fun σ => rfl
  have hn0 : ([] : List V).length <= 1000 := by decide
  have f1' : getSl (setSl sl1 3 (.int T)) 1 = some (.lst d) := gs_ne (by decide) f1
  have f1'' : getSl (setSl (setSl sl1 3 (.int T)) 4 (.int p)) 1 = some (.lst d) := gs_ne (by decide) f1'
  have i0 : zV (σ1 ++ [[V.int x0, .int x1, .int x2, .int x3, .int x4, .int x5]]) (.lst σ1.length) 0 = some (some (.int x0)) := by rw [z7 hsrc]; rfl
  refine zC (sl_1 := setSl sl_0 1 (.lst d)) (σ_1 := σ_0 ++ [[]]) ?_ (zC (sl_1 := sl1) (σ_1 := σ1) ?_ (zC (sl_1 := setSl sl1 3 (.int T)) (σ_1 := σ1) ?_ (zC (sl_1 := setSl (setSl sl1 3 (.int T)) 4 (.int p)) (σ_1 := σ1) ?_ (zC (sl_1 := setSl (setSl (setSl sl1 3 (.int T)) 4 (.int p)) 5 (.lst σ2.length)) (σ_1 := σ2 ++ [(lR 6).map (fun j => V.int (yX (X j)))]) ?_ (zC (sl_1 := setSl (setSl (setSl (setSl sl1 3 (.int T)) 4 (.int p)) 5 (.lst σ2.length)) 6 (.lst (σ2.length + 1))) (σ_1 := σ2 ++ [(lR 6).map (fun j => V.int (yX (X j)))] ++ [[]]) ?_ (zC ?_ hr))))))
  ·subst hdd
   unfold b_law0
   exact zO (yT zD hn0) rfl
  ·unfold b_law1
   exact st_for (z9 (n := n + 98) (zB zF zD) (r7 _)) i7 run
  ·unfold b_law2
   exact zO (zL (n := n + 99) (zM (zA f1) zF t1) zF (b1 _)) rfl
  ·unfold b_law3
   exact zO (zL (n := n + 99) (zL (zL (zM (zA f1') zF t1) zF (b2 _)) zF (b3 _)) zF (b4 _)) rfl
  ·unfold b_law4
   exact zO (xN (n := n + 99) (ev_slice (zA f1'') evo_none (evo_some zF) evo_none hsl6) i0 hcap e2) rfl
  ·unfold b_law5
   refine zO (v := .lst (σ2.length + 1)) ?_ rfl
   rw [n1]
   exact yT zD hn0
  ·unfold b_law6
   refine zO (v := .lst (σ2.length + 2)) ?_ rfl
   rw [n2]
   exact yT zD hn0
end Mine.Pl
namespace Mine.Pl
open PySem PySem.Float64
theorem bi_addL {σ : Sto} {i j : Nat} {xs ys : List V} (h : σ[i]? = some xs) (h' : σ[j]? = some ys) (hi : i ≠ 0) (hj : j ≠ 0) (hl : xs.length + ys.length <= 1000) : binF .Add (.lst i) (.lst j) σ = some (.lst σ.length, σ ++ [xs ++ ys]) := ob h (ob h' (if_pos ⟨rfl, hi, hj, hl⟩))
theorem bi_addS {σ : Sto} {a b : List Nat} (h : a.length + b.length <= 100000) : binF .Add (.str a) (.str b) σ = some (.str (a ++ b), σ) := ob (show (if Op.Add = Op.Add /\ a.length + b.length <= 100000 then some (V.str (a ++ b)) else none) = _ from if_pos ⟨rfl, h⟩) rfl
theorem neL {σ : Sto} {i j : Nat} {xs ys : List V} (h : σ[i]? = some xs) (h' : σ[j]? = some ys) (e : eqL xs ys = some true) : cmpV σ .NotEq (.lst i) (.lst j) = some false := ob (ob h (ob h' e)) rfl
theorem frac64 {T : Nat} (hT : T < 64) : ∃ h, FV h (T * 2 ^ 24) /\ ∀ σ, binF .Div (.int T) (.int 64) σ = some (.flt h, σ) := by
 have f : FV (ofFrac false (T : Int).natAbs (64 : Int).natAbs) (T * 2 ^ 24) := by
  have := FV_frac (a := (T : Int)) (b := 64) (c := T * 2 ^ 24) (by decide) qN (by lia) (nbm qN (cG hT : (T : Int) <= 63))
  have e : (decide ((T : Int) < 0) != decide ((64 : Int) < 0)) = false := by simp
  rwa [e] at this
 exact ⟨_, f, fun σ => yZ (by decide) qN f.infF⟩
theorem frac4 {p : Nat} (hp : p < 5) : ∃ h, FV h (p * 2 ^ 28) /\ ∀ σ, binF .Div (.int p) (.int 4) σ = some (.flt h, σ) := by
 have f : FV (ofFrac false (p : Int).natAbs (4 : Int).natAbs) (p * 2 ^ 28) := by
  have := FV_frac (a := (p : Int)) (b := 4) (c := p * 2 ^ 28) (by decide) qN (by lia) (nbm qN (cG hp : (p : Int) <= 4))
  have e : (decide ((p : Int) < 0) != decide ((4 : Int) < 0)) = false := by simp
  rwa [e] at this
 exact ⟨_, f, fun σ => yZ (by decide) qN f.infF⟩
theorem frac128 {L : Nat} (hL : L <= 128) : ∃ h, FV h ((L : Int) * 2 ^ 23) /\ ∀ σ, binF .Div (.int L) (.int 128) σ = some (.flt h, σ) := by
 have f : FV (ofFrac false (L : Int).natAbs (128 : Int).natAbs) (L * 2 ^ 23) := by
  have := FV_frac (a := (L : Int)) (b := 128) (c := L * 2 ^ 23) (by decide) qN (by lia) (nbm qN (cF hL : (L : Int) <= 128))
  have e : (decide ((L : Int) < 0) != decide ((128 : Int) < 0)) = false := by simp
  rwa [e] at this
 exact ⟨_, f, fun σ => yZ (by decide) qN f.infF⟩
section
variable {β : Type} {R : V -> β -> Prop} {key : β -> Nat} {T p : Nat} {σ : Sto} {s : Nat} {vs : List V} {bs : List β} {v : V} {b : β}
theorem keyed_value (hT : T < 64) (hp : 1 <= p /\ p < 5) (a : All2 R vs bs) (hR : ∀ v b, R v b -> (1 <= key b /\ key b <= 128) /\ ∃ i x y z rest, Hue T p (key b : Nat) σ v i x y z rest) : Keyed .value σ vs (bs.map fun b => (key b : Int) * 2 ^ 23) := by
 refine ⟨by simp [a.length], fun j v hv => ?_⟩
 refine byC fun hG => ?_
 obtain ⟨b, hb, r⟩ := a.get hv
 obtain ⟨hk, i, x, y, z, rest, H⟩ := hR v b r
 obtain ⟨w, fw, e⟩ := H.value hT hp (And.intro (cC hk.1) (cD hk.2))
 refine hG ?_
 exact ⟨w, (key b : Int) * 2 ^ 23, by simp [hb], fw, e⟩
theorem keyed_light (hT : T < 64) (hp : 1 <= p /\ p < 5) (a : All2 R vs bs) (hR : ∀ v b, R v b -> (1 <= key b /\ key b <= 128) /\ ∃ i x y z rest, Hue T p (key b : Nat) σ v i x y z rest) : Keyed .light σ vs (bs.map fun b => (key b : Int) * ((8 - p) * 2 ^ 20)) := by
 refine ⟨by simp [a.length], fun j v hv => ?_⟩
 refine byC fun hG => ?_
 obtain ⟨b, hb, r⟩ := a.get hv
 obtain ⟨hk, i, x, y, z, rest, H⟩ := hR v b r
 obtain ⟨w, fw, e⟩ := H.light hT hp (And.intro (cC hk.1) (cD hk.2))
 refine hG ?_
 exact ⟨w, (key b : Int) * ((8 - p) * 2 ^ 20), by simp [hb], by rwa [← Int.mul_assoc], e⟩
theorem row_insR (hT : T < 64) (hp : 1 <= p /\ p < 5) (hs : s ≠ 0) (hv : σ[s]? = some vs) (a : All2 R vs bs) (hR : ∀ v b, R v b -> (1 <= key b /\ key b <= 128) /\ ∃ i x y z rest, Hue T p (key b : Nat) σ v i x y z rest) (up : Up key bs) (hl : bs.length <= 10) (hr : R v b) :
  ∃ vs', (∀ n, (recN (n + 80)).call .insortR [.lst s, v, .int 0, .none, .glob (.fn .value)] σ = some (.none, σ.set s vs')) /\ All2 R vs' (insR key b bs) := by
 refine byC fun hG => ?_
 obtain ⟨hk, i, x, y, z, rest, H⟩ := hR v b hr
 obtain ⟨w, fw, e⟩ := H.value hT hp (And.intro (cC hk.1) (cD hk.2))
 have hvl := a.length
 have cpos : ∀ {m n : Nat}, (m : Int) * 2 ^ 23 <= (n : Int) * 2 ^ 23 ↔ m <= n := by intro m n; simp
 have main := fun n => insR_run (K := .value) (w := v) rfl hs hv (eC hvl hl) (keyed_value hT hp a hR) (up.asc key (c := 2 ^ 23) (by decide)) e fw n
 obtain ⟨i, J, h1, h2, h3⟩ := main 0
 refine hG ?_
 refine ⟨vs.take i ++ v :: vs.drop i, fun n => ?_, ?_⟩
 ·refine byC fun hG => ?_
  obtain ⟨i', r', h1', h2', h3'⟩ := main n
  refine hG ?_
  have : i' = i := by
   rcases Nat.lt_trichotomy i' i with q | q | q
   ·have hb : i' < bs.length := by lia
    have e1 : (bs.map fun b => (key b : Int) * 2 ^ 23)[i']? = some ((key bs[i'] : Int) * 2 ^ 23) := by simp [hb]
    have := h2 i' _ q e1
    have := h3' i' _ qR e1
    lia
   ·exact q
   ·have hb : i < bs.length := by lia
    have e1 : (bs.map fun b => (key b : Int) * 2 ^ 23)[i]? = some ((key bs[i] : Int) * 2 ^ 23) := by simp [hb]
    have := h2' i _ q e1
    have := h3 i _ qR e1
    lia
  rw [← this]; exact r'
 ·have := insR_at key b bs i (qT h1 (qE hvl)) (fun j y hj hy => by
   have := h2 j ((key y : Int) * 2 ^ 23) hj (by simp [hy])
   lia) (fun j y hj hy => by
   have := h3 j ((key y : Int) * 2 ^ 23) hj (by simp [hy])
   lia)
  rw [← this]
  exact a.ins hr i
theorem row_insL (hT : T < 64) (hp : 1 <= p /\ p < 5) (hs : s ≠ 0) (hv : σ[s]? = some vs) (a : All2 R vs bs) (hR : ∀ v b, R v b -> (1 <= key b /\ key b <= 128) /\ ∃ i x y z rest, Hue T p (key b : Nat) σ v i x y z rest) (up : Up key bs) (hl : bs.length <= 10) (hr : R v b) :
  ∃ vs', (∀ n, (recN (n + 80)).call .insortL [.lst s, v, .int 0, .none, .glob (.fn .light)] σ = some (.none, σ.set s vs')) /\ All2 R vs' (insL key b bs) := by
 refine byC fun hG => ?_
 obtain ⟨hk, i, x, y, z, rest, H⟩ := hR v b hr
 obtain ⟨w, fw, e⟩ := H.light hT hp (And.intro (cC hk.1) (cD hk.2))
 refine hG ?_
 have fw : FV w ((key b : Int) * ((8 - p) * 2 ^ 20)) := by rwa [← Int.mul_assoc]
 have hvl := a.length
 have hc : 0 < ((8 : Int) - p) * 2 ^ 20 := by lia
 have main := fun n => insL_run (K := .light) (w := v) rfl hs hv (eC hvl hl) (keyed_light hT hp a hR) (up.asc key (c := (8 - p) * 2 ^ 20) (qI hc)) e fw n
 generalize ((8 : Int) - p) * 2 ^ 20 = c at hc main
 have clt : ∀ {m n : Nat}, (m : Int) * c < (n : Int) * c -> m < n := by
  intro m n h
  have := Int.lt_of_mul_lt_mul_right h (qI hc)
  exact cA this
 have cle : ∀ {m n : Nat}, (m : Int) * c <= (n : Int) * c -> m <= n := by
  intro m n h
  have := Int.le_of_mul_le_mul_right h hc
  exact cA this
 refine byC fun hG => ?_
 obtain ⟨i, J, h1, h2, h3⟩ := main 0
 refine hG ?_
 refine ⟨vs.take i ++ v :: vs.drop i, fun n => ?_, ?_⟩
 ·refine byC fun hG => ?_
  obtain ⟨i', r', h1', h2', h3'⟩ := main n
  refine hG ?_
  have : i' = i := by
   rcases Nat.lt_trichotomy i' i with q | q | q
   ·have hb : i' < bs.length := by lia
    have e1 : (bs.map fun b => (key b : Int) * c)[i']? = some ((key bs[i'] : Int) * c) := by simp [hb]
    have a1 := clt (h2 i' _ q e1)
    have a2 := cle (h3' i' _ qR e1)
    exact absurd a2 (Nat.not_le_of_lt a1)
   ·exact q
   ·have hb : i < bs.length := by lia
    have e1 : (bs.map fun b => (key b : Int) * c)[i]? = some ((key bs[i] : Int) * c) := by simp [hb]
    have a1 := clt (h2' i _ q e1)
    have a2 := cle (h3 i _ qR e1)
    exact absurd a2 (Nat.not_le_of_lt a1)
  rw [← this]; exact r'
 ·have := insL_at key b bs i (qT h1 (qE hvl)) (fun j y hj hy => clt (h2 j ((key y : Int) * c) hj (by simp [hy]))) (fun j y hj hy => cle (h3 j ((key y : Int) * c) hj (by simp [hy])))
  rw [← this]
  exact a.ins hr i
end
noncomputable def mailD (ends : Nat -> List Nat) (its : List (Nat × List Nat)) : List (Nat × Nat × List Nat) := its.map fun x => (1 + x.2.length, 117 + x.1, if x.2 = [] then ends x.1 else [13, 10])
noncomputable def Lamp (M : List Nat) (T p : Nat) (ends : Nat -> List Nat) (σ : Sto) (v : V) (d : D) : Prop :=
 (1 <= d.1 /\ d.1 <= 128) /\ ∃ i x y z kid, Hue T p (d.1 : Nat) σ v i x y z [.lst kid, .str (zZ (mailD ends d.2))] /\ σ[kid]? = some (d.2.map fun x => .int (x.1 : Nat)) /\ i ∉ M /\ kid ∉ M /\ i ≠ 0 /\ kid ≠ 0
theorem Lamp.hue {M : List Nat} {T p : Nat} {ends : Nat -> List Nat} {σ : Sto} {v : V} {d : D} (h : Lamp M T p ends σ v d) : (1 <= d.1 /\ d.1 <= 128) /\ ∃ i x y z rest, Hue T p (d.1 : Nat) σ v i x y z rest :=
 ⟨h.1, h.2.imp fun J => Exists.imp fun J => Exists.imp fun J => Exists.imp fun _ ⟨_, q⟩ => ⟨_, q.1⟩⟩
theorem Lamp.mods {M : List Nat} {T p : Nat} {ends : Nat -> List Nat} {σ σ' : Sto} {v : V} {d : D} (h : Lamp M T p ends σ v d) (m : Mods M σ σ') : Lamp M T p ends σ' v d := by
 obtain ⟨a, i, x, y, z, kid, H, hk, hi, hkid, n1, n2⟩ := h
 exact ⟨a, i, x, y, z, kid, H.mods m hi, m.2 _ _ hkid hk, hi, hkid, n1, n2⟩
end Mine.Pl
namespace Mine.Pl
open PySem PySem.Float64
noncomputable def leafD (l : Nat -> Nat) (k : Nat) : D := (l k, [(k, [])])
noncomputable def xA (l : Nat -> Nat) : Nat -> List D
 | 0 => []
 | k + 1 => insR Prod.fst (leafD l k) (xA l k)
noncomputable def xI (l : Nat -> Nat) : Nat -> List D
 | 0 => []
 | k + 1 => insL Prod.fst (leafD l k) (xI l k)
theorem shelfAt_len (l : Nat -> Nat) : ∀ k, (xA l k).length = k := by
 intro k; induction k with
 | zero =>
  exact rfl
 | succ k ih =>
  exact (length_insR _).trans (congrArg _ ih)
theorem otherAt_len (l : Nat -> Nat) : ∀ k, (xI l k).length = k := by
 intro k; induction k with
 | zero =>
  exact rfl
 | succ k ih =>
  exact (length_insL _).trans (congrArg _ ih)
theorem shelfAt_up (l : Nat -> Nat) : ∀ k, Up Prod.fst (xA l k) := by
 intro k; induction k with
 | zero =>
  exact .nil
 | succ k ih =>
  exact insR_up _ ih
theorem otherAt_up (l : Nat -> Nat) : ∀ k, Up Prod.fst (xI l k) := by
 intro k; induction k with
 | zero =>
  exact .nil
 | succ k ih =>
  exact insL_up _ ih
noncomputable def yY (x : Nat -> Int) (k : Nat) : List Nat := ([[10], [13], [13, 10]] : List (List Nat)).getD (x k / 20 % 3).toNat []
theorem endsOf_ok (x : Nat -> Int) (k : Nat) : EndOk (yY x k) := by
 have : (x k / 20 % 3).toNat = 0 \/ (x k / 20 % 3).toNat = 1 \/ (x k / 20 % 3).toNat = 2 := l3 (tm (m := 3) (by decide))
 unfold yY EndOk
 rcases this with h | h | h <;> rw [h] <;> decide
theorem zS {f : Nat -> V} {N k : Nat} (h : k < N) : ((lR N).map f)[k]? = some (f k) := by
 simp [h]
noncomputable def lampBody : List MS := [
  .set 8 (.bin .Add (.bin .Add (.str [46]) (.sub (.str [117, 118, 119, 120, 121, 122]) (.var 2))) (.sub (.list [(.str [10]), (.str [13]), (.str [13, 10])]) (.bin .Mod (.bin .FloorDiv (.sub (.var 1) (.var 2)) (.int 20)) (.int 3)))),
  .set 9 (.bin .Add (.call (.glob .list) [(.call (.glob (.fn .rgb)) [(.bin .Div (.var 3) (.int 64)), (.bin .Div (.var 4) (.int 4)), (.bin .Div (.sub (.var 5) (.var 2)) (.int 128))])]) (.list [(.list [(.var 2)]), (.var 8)])),
  .ite (.cmp .NotEq (.call (.glob (.fn .read)) [(.var 9)]) (.call (.glob (.fn .due)) [(.var 3), (.var 4), (.sub (.var 5) (.var 2))])) [
   .ret (.bool false)] [],
  .expr (.callk (.glob (.fn .insortR)) [(.var 6), (.var 9)] (.glob (.fn .value))),
  .expr (.callk (.glob (.fn .insortL)) [(.var 7), (.var 9)] (.glob (.fn .light)))]
theorem lamps_loop {d lid s o T p : Nat} {x : Nat -> Int} {l : Nat -> Nat} (hT : T < 64) (hp : 1 <= p /\ p < 5) (hl6 : ∀ k, 1 <= l k /\ l k <= 19) (ns : s ≠ 0) (no : o ≠ 0) (so : s ≠ o) (nd : d ≠ s /\ d ≠ o) (nl : lid ≠ s /\ lid ≠ o) (n : Nat) :
  ∀ (r k : Nat) (sl : Slots) (σ : Sto) (vs vo : List V), k + r = 6 -> HL sl -> getSl sl 1 = some (.lst d) -> getSl sl 3 = some (.int T) -> getSl sl 4 = some (.int p) -> getSl sl 5 = some (.lst lid) -> getSl sl 6 = some (.lst s) -> getSl sl 7 = some (.lst o) ->
   σ[d]? = some ((lR 7).map fun k => .int (x k)) -> σ[lid]? = some ((lR 6).map fun k => .int (l k)) -> σ[s]? = some vs -> σ[o]? = some vo -> All2 (Lamp [s, o] T p (yY x) σ) vs (xA l k) -> All2 (Lamp [s, o] T p (yY x) σ) vo (xI l k) ->
   ∀ {C : Prop}, (∀ sl' σ' vs' vo', (recN (n + 120 + r)).forr 2 (.rng 0 (6 : Nat) 1) k lampBody sl σ = some (.next, sl', σ') -> Same [2, 8, 9] sl sl' -> Mods [s, o] σ σ' -> σ'[s]? = some vs' -> σ'[o]? = some vo' -> All2 (Lamp [s, o] T p (yY x) σ') vs' (xA l 6) -> All2 (Lamp [s, o] T p (yY x) σ') vo' (xI l 6) -> C) -> C := by
 intro r; induction r with
 | zero =>
  intro k sl σ vs vo hk H g1 g3 g4 g5 g6 g7 md ml ms mo as ao C kk
  have : k = 6 := by lia -zetaDelta
  subst this
  exact kk sl σ vs vo (fr_end (n := n + 119) (xS (by decide) (by lia -zetaDelta))) .refl .refl ms mo as ao
 | succ r ih =>
  intro k sl σ vs vo hk H g1 g3 g4 g5 g6 g7 md ml ms mo as ao C kk
  have hk6 : k < 6 := by lia -zetaDelta
  let C : List V := [.str [10], .str [13], .str [13, 10]]
  let σa : Sto := σ ++ [C]
  let m : List Nat := [46] ++ [117 + k] ++ yY x k
  have sA : Same [2, 8, 9] sl (setSl sl 2 (.int (k : Int))) := .set mcS
  have H2 := zN (x := 2) (v := .int (k : Int)) H
  have k2 : getSl (setSl sl 2 (.int (k : Int))) 2 = some (.int (k : Int)) := gs_eq H (by decide)
  have k1 := sA.get g1 (by decide)
  have c1 : ∀ σ, subV (.str [117, 118, 119, 120, 121, 122]) (.int (k : Int)) σ = some (.str [117 + k]) := fun σ => sub_str rfl (by decide) (by rcases col_six hk6 with rfl | rfl | rfl | rfl | rfl | rfl <;> rfl)
  have c2 : subV (.lst d) (.int (k : Int)) σa = some (.int (x k)) := zH (zK md) rfl qL (zS (by lia -zetaDelta))
  have c3 : ∀ σ, binF .FloorDiv (.int (x k)) (.int 20) σ = some (.int (x k / 20), σ) := fun σ => bi_fdivI (by decide)
  have c4 : ∀ σ, binF .Mod (.int (x k / 20)) (.int 3) σ = some (.int (x k / 20 % 3), σ) := fun σ => bi_modI (by decide)
  have c5 : subV (.lst σ.length) (.int (x k / 20 % 3)) σa = some (.str (yY x k)) := by
   refine zH (j := (x k / 20 % 3).toNat) zI (by lia -zetaDelta) (by decide) ?_
   have : (x k / 20 % 3).toNat = 0 \/ (x k / 20 % 3).toNat = 1 \/ (x k / 20 % 3).toNat = 2 := l3 (tm (m := 3) (by decide))
   unfold yY
   rcases this with h | h | h <;> rw [h] <;> rfl
  have hel : (yY x k).length <= 2 := by rcases endsOf_ok x k with h | h | h <;> rw [h] <;> decide
  have c6 : ∀ σ, binF .Add (.str [46]) (.str [117 + k]) σ = some (.str ([46] ++ [117 + k]), σ) := fun σ => bi_addS qL
  have c7 : ∀ σ, binF .Add (.str ([46] ++ [117 + k])) (.str (yY x k)) σ = some (.str m, σ) := fun σ => bi_addS (by simp; lia -zetaDelta)
  have hC : C.length <= 1000 := by decide
  obtain ⟨fh, ffh, eh⟩ := frac64 hT
  obtain ⟨fs, ffs, es⟩ := frac4 hp.2
  obtain ⟨fv, ffv, ev⟩ := frac128 (L := l k) (by have := hl6 k; lia -zetaDelta)
  obtain ⟨X, Y, Z, hcol, rgb⟩ := rgb_col hT hp (L := (l k : Int)) (by have := hl6 k; lia -zetaDelta) ffh ffs ffv
  let sl1 : Slots := setSl (setSl sl 2 (.int (k : Int))) 8 (.str m)
  have sB : Same [2, 8, 9] sl sl1 := sA.trans (.set (mT _ mcS))
  have H3 : HL sl1 := zN H2
  have b2 : getSl sl1 2 = some (.int (k : Int)) := gs_ne (by decide) k2
  have b3 := sB.get g3 (by decide)
  have b4 := sB.get g4 (by decide)
  have b5 := sB.get g5 (by decide)
  have b8 : getSl sl1 8 = some (.str m) := gs_eq H2 (by decide)
  have d1 : subV (.lst lid) (.int (k : Int)) σa = some (.int (l k)) := zH (zK ml) rfl qL (zS hk6)
  let σb : Sto := σa ++ [[.flt X, .flt Y, .flt Z]]
  let σc : Sto := σb ++ [[.int (k : Int)]]
  let σd : Sto := σc ++ [[.lst σb.length, .str m]]
  let σe : Sto := σd ++ [[V.flt X, .flt Y, .flt Z] ++ [.lst σb.length, .str m]]
  have hσ : 0 < σ.length := by have := zT ms; lia -zetaDelta
  have la : σa.length = σ.length + 1 := by exact List.length_append
  have lb : σb.length = σ.length + 2 := by simp [σb, la]
  have lc : σc.length = σ.length + 3 := by simp [σc, lb]
  have ld : σd.length = σ.length + 4 := by simp [σd, lc]
  have q1 : σd[σa.length]? = some [V.flt X, .flt Y, .flt Z] := zK (zK zI)
  have q2 : σd[σc.length]? = some [V.lst σb.length, .str m] := zI
  have d2 : binF .Add (.lst σa.length) (.lst σc.length) σd = some (.lst σd.length, σe) := bi_addL q1 q2 (by lia -zetaDelta) (by lia -zetaDelta) qL
  let sl2 : Slots := setSl sl1 9 (.lst σd.length)
  have sC : Same [2, 8, 9] sl sl2 := sB.trans (.set (by decide))
  have H4 : HL sl2 := zN H3
  have e9 : getSl sl2 9 = some (.lst σd.length) := gs_eq H3 (by decide)
  have e2 : getSl sl2 2 = some (.int (k : Int)) := gs_ne (by decide) b2
  have e3 := sC.get g3 (by decide)
  have e4 := sC.get g4 (by decide)
  have e5 := sC.get g5 (by decide)
  have e6 := sC.get g6 (by decide)
  have e7 := sC.get g7 (by decide)
  have M1 : Mods [] σ σe := .trans .app (.trans .app (.trans .app (.trans .app .app)))
  have hue : Hue T p (l k : Nat) σe (.lst σd.length) σd.length X Y Z [.lst σb.length, .str m] := ⟨rfl, zI, hcol, by exact qW hC⟩
  obtain ⟨ra, rb, rd, du, hq⟩ := hue.check hT hp (by have := hl6 k; lia -zetaDelta)
  have f1 : (σe ++ [ra] ++ [rb])[σe.length]? = some ra := zK zI
  have f2 : (σe ++ [ra] ++ [rb])[(σe ++ [ra]).length]? = some rb := zI
  have f3 := neL f1 f2 hq
  have f4 : subV (.lst lid) (.int (k : Int)) (σe ++ [ra]) = some (.int (l k)) := zH (zK (M1.2 _ _ nmN ml)) rfl qL (zS hk6)
  let σf : Sto := σe ++ [ra] ++ [rb]
  have M2 : Mods [] σ σf := M1.trans (.trans .app .app)
  have hslt := zT ms
  have holt := zT mo
  have hrow : zZ (mailD (yY x) [(k, [])]) = m := by exact List.append_nil _
  have newL : Lamp [s, o] T p (yY x) σf (.lst σd.length) (leafD l k) := by
   refine ⟨by have := hl6 k; show 1 <= l k /\ l k <= 128; lia -zetaDelta, σd.length, X, Y, Z, σb.length, ?_, zK (zK (zK (zK zI))), by simp; lia -zetaDelta, by simp; lia -zetaDelta, by lia -zetaDelta, by lia -zetaDelta⟩
   show Hue T p (l k : Nat) σf (.lst σd.length) σd.length X Y Z [.lst σb.length, .str (zZ (mailD (yY x) [(k, [])]))]
   rw [hrow]
   exact hue.mods (M := []) (.trans .app .app) nmN
  have as2 := as.mono fun J J h => Lamp.mods h M2.nil
  have ao2 := ao.mono fun J J h => Lamp.mods h M2.nil
  obtain ⟨vs1, ins1, as3⟩ := row_insR (key := Prod.fst) hT hp ns (M2.2 s vs nmN ms) as2 (fun J J h => Lamp.hue h) (shelfAt_up l k) (by rw [shelfAt_len]; lia -zetaDelta) newL
  let σg : Sto := σf.set s vs1
  have M3 : Mods [s, o] σf σg := .set mcS
  have mo3 : σg[o]? = some vo := by
   show (σf.set s vs1)[o]? = _
   rw [gSN so]; exact M2.2 o vo nmN mo
  obtain ⟨vo1, ins2, ao3⟩ := row_insL (key := Prod.fst) hT hp no mo3 (ao2.mono fun J J h => Lamp.mods h M3) (fun J J h => Lamp.hue h) (otherAt_up l k) (by rw [otherAt_len]; lia -zetaDelta) (newL.mods M3)
  let σh : Sto := σg.set o vo1
  have M4 : Mods [s, o] σg σh := .set (mT _ mcS)
  have M5 : Mods [s, o] σ σh := M2.nil.trans (M3.trans M4)
  have msh : σh[s]? = some vs1 := by
   show (σg.set o vo1)[s]? = _
   rw [gSN so.symm]; exact yR (M2.2 s vs nmN ms)
  have moh : σh[o]? = some vo1 := yR mo3
  refine ih (k + 1) sl2 σh vs1 vo1 (by lia -zetaDelta) H4 (sC.get g1 (by decide)) e3 e4 e5 e6 e7 (M5.2 _ _ (by simp [nd]) md) (M5.2 _ _ (by simp [nl]) ml) msh moh (as3.mono fun J J h => Lamp.mods h (M3.trans M4)) (ao3.mono fun J J h => Lamp.mods h M4) fun sl' σ' vs' vo' run r1 r2 r3 r4 r5 r6 => ?_
  refine kk sl' σ' vs' vo' ?_ (sC.trans r1) (M5.trans r2) r3 r4 r5 r6
  have a1 : n + 120 + (r + 1) = n + r + 120 + 1 := by lia -zetaDelta
  have a2 : n + 120 + r = n + r + 120 := by lia -zetaDelta
  rw [a2] at run
  rw [a1]
  refine xT (yC (n := 6) (by decide) hk6) rfl ?_ run
  unfold lampBody
  have hC2 : [V.int (k : Int)].length <= 1000 := by exact qQ
  have hC3 : [V.lst σb.length, V.str m].length <= 1000 := by exact qW hC
  have hC4 : [V.flt X, V.flt Y, V.flt Z].length <= 1000 := by trivial
  refine zC (n := n + r + 119) (sl_1 := sl1) (σ_1 := σa) ?_ (zC (sl_1 := sl2) (σ_1 := σe) ?_ (zC (sl_1 := sl2) (σ_1 := σf) ?_ (zC (sl_1 := sl2) (σ_1 := σg) ?_ (zC (sl_1 := sl2) (σ_1 := σh) ?_ zQ))))
  ·exact zO (zL (n := n + r + 118) (zL x9 (zM x9 (zA k2) (c1 _)) (c6 _)) (zM (yT (zB x9 (zB x9 (zB x9 zD))) hC) (zL (zL (zM (zA k1) (zA k2) c2) zF (c3 _)) zF (c4 _)) c5) (c7 _)) rfl
  ·exact zO (zL (n := n + r + 118) (ev_glistT (n := n + r + 116) (zB (xC kw_rgb (zB (zL (zA b3) zF (eh _)) (zB (zL (zA b4) zF (es _)) (zB (zL (zM (zA b5) (zA b2) d1) zF (ev _)) zD))) (rgb (n + r + 104) _)) zD) hC4)
    (yT (zB (yT (zB (zA b2) zD) hC2) (zB (zA b8) zD)) hC3) d2) rfl
  ·exact zY (zW (n := n + r + 118) (xC (n := n + r + 116) kw_read (zB (zA e9) zD) (rd (n + r + 97))) (xC (n := n + r + 116) kw_due (zB (zA e3) (zB (zA e4) (zB (zM (zA e5) (zA e2) f4) zD))) (du (n + r + 105) _)) f3) (if_f zQ)
  ·exact st_expr (ev_callk2 (n := n + r + 118) (.inl rfl) gl_fn (zB (zA e6) (zB (zA e9) zD)) gl_fn (ins1 (n + r + 38)))
  ·exact st_expr (ev_callk2 (n := n + r + 118) (.inr rfl) gl_fn (zB (zA e7) (zB (zA e9) zD)) gl_fn (ins2 (n + r + 38)))
end Mine.Pl
namespace Mine.Pl
open PySem
noncomputable def idxAt (l : Nat -> Nat) : Nat -> List Nat
 | 0 => []
 | k + 1 => insR l k (idxAt l k)
noncomputable def jdxAt (l : Nat -> Nat) : Nat -> List Nat
 | 0 => []
 | k + 1 => insL l k (jdxAt l k)
theorem xY (l : Nat -> Nat) : ∀ k, xA l k = (idxAt l k).map (leafD l) := by
 intro k; induction k with
 | zero =>
  exact rfl
 | succ k ih =>
  exact (congrArg _ ih).trans (insR_map l Prod.fst (leafD l) (fun J => rfl) _ _).symm
theorem other_idx (l : Nat -> Nat) : ∀ k, xI l k = (jdxAt l k).map (leafD l) := by
 intro k; induction k with
 | zero =>
  exact rfl
 | succ k ih =>
  exact (congrArg _ ih).trans (insL_map l Prod.fst (leafD l) (fun J => rfl) _ _).symm
theorem idx_perm (l : Nat -> Nat) : ∀ k, (idxAt l k).Perm (lR k) := by
 intro k; induction k with
 | zero =>
  exact .refl _
 | succ k ih =>
  rw [List.range_succ]
  exact (yN _).trans ((ih.cons k).trans (List.perm_append_singleton k _).symm)
theorem jdx_perm (l : Nat -> Nat) : ∀ k, (jdxAt l k).Perm (lR k) := by
 intro k; induction k with
 | zero =>
  exact .refl _
 | succ k ih =>
  rw [List.range_succ]
  exact (yN _).trans ((ih.cons k).trans (List.perm_append_singleton k _).symm)
theorem insL_nil' {α : Type} {key : α -> Nat} {x : α} : insL key x [] = insR key x [] := rfl
theorem jdx_six (l : Nat -> Nat) : jdxAt l 6 = [5, 4, 3, 2, 1, 0].foldl (fun acc k => insR l k acc) [] := by
 show insL l 5 (insL l 4 (insL l 3 (insL l 2 (insL l 1 (insR l 0 []))))) = _
 simp only [List.foldl_cons, List.foldl_nil, insL_nil', insL_insR]
theorem idx_six (l : Nat -> Nat) : idxAt l 6 = [0, 1, 2, 3, 4, 5].foldl (fun acc k => insR l k acc) [] := by
 rfl
theorem fold_perm {a b : List Nat} (h : a.Perm b) : a.foldr (insR id) [] = b.foldr (insR id) [] := by
 induction h with
 | nil => rfl
 | cons x _ ih => simp only [List.foldr_cons, ih]
 | swap x y r => simp only [List.foldr_cons]; exact insR_comm y x _
 | trans _ _ ih1 ih2 => exact ih1.trans ih2
theorem idx_lights (l : Nat -> Nat) : (idxAt l 6).map l = (jdxAt l 6).map l := by
 have h : ∀ k as, (insR l k as).map l = insR id (l k) (as.map l) := fun k as => insR_map l id l (fun J => rfl) k as
 rw [idx_six, jdx_six]
 simp only [List.foldl_cons, List.foldl_nil, h, List.map_nil]
 have := fold_perm (a := [l 5, l 4, l 3, l 2, l 1, l 0]) (b := [l 0, l 1, l 2, l 3, l 4, l 5]) (by
  have : [l 5, l 4, l 3, l 2, l 1, l 0] = [l 0, l 1, l 2, l 3, l 4, l 5].reverse := rfl
  rw [this]
  exact List.reverse_perm _)
 simpa using this
theorem sortK_fold {α : Type} (key : α -> Nat) (kz : α -> Int) (g : α -> V) (h : ∀ a b, kz a < kz b ↔ key a < key b) (xs : List α) : sortK (xs.map fun a => (kz a, g a)) = (xs.foldl (fun acc x => insR key x acc) []).map fun a => (kz a, g a) :=
 ins_foldl (P := fun J => True) (c := fun a b => key a < key b) (d := fun a b : Int × V => a.1 < b.1) (f := fun a => (kz a, g a)) (fun a b J J => (h a b).symm) xs [] (fun J J => trivial) fun J J => trivial
theorem eqW_c {f : V -> V -> Option Bool} {a b : V} {as bs : List V} (h : f a b = some true) (k : eqW f as bs = some true) : eqW f (a :: as) (b :: bs) = some true := ob h (ob k rfl)
theorem ltW_t {f g : V -> V -> Option Bool} {a b : V} {as bs : List V} (h : f a b = some true) : ltW f g (a :: as) (b :: bs) = ltW f g as bs := ob h rfl
theorem ltW_f {f g : V -> V -> Option Bool} {a b : V} {as bs : List V} (h : f a b = some false) : ltW f g (a :: as) (b :: bs) = g a b := ob h rfl
theorem eqIs_ints : ∀ ks : List Nat, eqIs (ks.map fun k => V.int (k : Nat)) (ks.map fun k => V.int (k : Nat)) = some true := by
 intro ks; induction ks with
 | nil =>
  exact rfl
 | cons k r ih =>
  exact eqW_c (f := eqI) (congrArg some (beq_self_eq_true (k : Int))) ih
theorem eqL_ints (ks : List Nat) : eqL (ks.map fun k => V.int (k : Nat)) (ks.map fun k => V.int (k : Nat)) = some true := by
 unfold eqL
 rw [if_pos rfl, eqIs_ints]
theorem ltBs_c {a b : Int} {as bs : List V} : ltBs (.int a :: as) (.int b :: bs) = if a = b then ltBs as bs else some (decide (a < b)) := by
 by_cases h : a = b
 ·rw [if_pos h]; exact ltW_t (f := eqI) (congrArg some (beq_iff_eq.mpr h))
 ·rw [if_neg h]; exact ltW_f (f := eqI) (congrArg some (beq_false_of_ne h))
theorem ltT_int {c c' s s' : Int} {f f' : V} (hs : s < s') : ltT (.tup [.int c, .int s, f]) (.tup [.int c', .int s', f']) = some (decide (c <= c')) := by
 show (if 3 = 3 then ltBs [.int c, .int s, f] [.int c', .int s', f'] else none) = _
 rw [if_pos rfl]
 rw [ltBs_c]
 by_cases h : c = c'
 ·rw [if_pos h, ltBs_c, if_neg (Int.ne_of_lt hs), decide_eq_true hs, decide_eq_true (Int.le_of_eq h)]
 ·rw [if_neg h]; exact congrArg some (decide_eq_decide.mpr (by lia))
noncomputable def sumForm (j : Nat) : Int := 20 - j
noncomputable def yL (j : Nat) : V := .tup ((formP j).map fun x => V.int (x : Nat))
noncomputable def tp (c : Nat -> Nat) (j : Nat) : V := .tup [.int (c j : Nat), .int (sumForm j), yL j]
theorem min_step {c : Nat -> Nat} {a b : Nat} {r : List V} (h : b < a) : minTup (tp c b) (tp c a :: r) = if c a <= c b then minTup (tp c a) r else minTup (tp c b) r := by
 have e : ltT (tp c a) (tp c b) = some (decide ((c a : Int) <= (c b : Int))) := ltT_int (by unfold sumForm; lia)
 by_cases q : c a <= c b
 ·rw [if_pos q]; exact ob (e.trans (congrArg some (decide_eq_true (Int.ofNat_le.mpr q)))) rfl
 ·rw [if_neg q]; exact ob (e.trans (congrArg some (decide_eq_false (fun k => q (Int.ofNat_le.mp k))))) rfl
theorem min_run {c : Nat -> Nat} {j : Nat} (h : IsPick c j) : ∀ d a b, a + d = 5 -> b < a -> (∀ i, i < a -> c b <= c i /\ (b < i -> c b < c i)) -> minTup (tp c b) ((List.range' a d).map (tp c)) = some (tp c j) := by
 intro d; induction d with
 | zero =>
  intro a b e hb k
  obtain ⟨h0, h1, h2⟩ := h
  rcases Nat.lt_trichotomy b j with q | q | q
  ·exact absurd (h1 b q) (Nat.not_le.mpr ((k j (eA e h0)).2 q))
  ·subst q; rfl
  ·exact absurd (h2 b q (qA hb (qE e))) (qK (k j (qM q hb)).1)
 | succ d ih =>
  intro a b e hb k
  refine (min_step hb).trans ?_
  by_cases q : c a <= c b
  ·rw [if_pos q]
   refine ih (a + 1) a (pB e) (Nat.lt_succ_self a) fun i hi => ?_
   rcases Nat.lt_succ_iff_lt_or_eq.mp hi with hi | rfl
   ·exact ⟨qT q (k i hi).1, fun x => absurd hi (Nat.lt_asymm x)⟩
   ·exact ⟨Nat.le_refl _, fun x => absurd x (nIR _)⟩
  ·rw [if_neg q]
   refine ih (a + 1) b (pB e) (Nat.lt_succ_of_lt hb) fun i hi => ?_
   rcases Nat.lt_succ_iff_lt_or_eq.mp hi with hi | rfl
   ·exact k i hi
   ·exact ⟨Nat.le_of_not_le q, fun J => Nat.lt_of_not_le q⟩
theorem min_forms {c : Nat -> Nat} {j : Nat} (h : IsPick c j) : minTup (tp c 0) [tp c 1, tp c 2, tp c 3, tp c 4] = some (tp c j) :=
 min_run h 4 1 0 rfl (by decide) fun i hi => by cases Nat.lt_one_iff.mp hi; exact ⟨Nat.le_refl _, fun x => absurd x (nIR _)⟩
theorem wD {N r : Nat} {f : Nat -> V} {v : V} (h : r < N) : ((lR N).map f).set r v = (lR N).map fun k => if k = r then v else f k := by
 apply List.ext_getElem?
 intro i
 rw [List.getElem?_set]
 by_cases hi : i < N
 ·by_cases hr : r = i
  ·subst hr
   simp [h]
  ·simp [hr, hi, Ne.symm hr]
 ·have : ¬ r = i := by lia
  simp [this, hi]
end Mine.Pl
namespace Mine.Pl
open PySem PySem.Float64
theorem cap1 {sl : Slots} {a : Nat} {v : V} (h : getSl sl a = some v) : zU sl [a] = [some v] := by
 unfold getSl at h
 simp [zU, h]
theorem cap2 {sl : Slots} {a b : Nat} {v w : V} (h : getSl sl a = some v) (h2 : getSl sl b = some w) : zU sl [a, b] = [some v, some w] := by
 unfold getSl at h h2
 simp [zU, h, h2]
theorem keys_of {σ : Sto} {body : ME} {cap : Slots} {m : Nat} (kz : Nat -> Int) (xs : List Nat) (h : ∀ a ∈ xs, (recN m).eval body (some (.int (a : Nat)) :: cap) σ = some (.int (kz a), σ)) :
  xB (fun x σ => (recN m).eval body (some x :: cap) σ) (xs.map fun a => V.int (a : Nat)) σ = some (xs.map fun a => (kz a, V.int (a : Nat)), σ) := by
 induction xs with
 | nil => rfl
 | cons a r ih =>
  have ih := ih fun b hb => h b (mT _ hb)
  exact ob (h a (.head _)) (ob ih rfl)
theorem isInts_nats (xs : List Nat) : isInts (xs.map fun a => V.int (a : Nat)) = some (xs.map fun (a : Nat) => (a : Int)) := by
 induction xs with
 | nil => rfl
 | cons a r ih => exact ob ih rfl
theorem nodup_nats {xs : List Nat} (h : xs.Nodup) : (xs.map fun (a : Nat) => (a : Int)).Nodup := by
 unfold List.Nodup at h ⊢
 rw [List.pairwise_map]
 exact h.imp (by intro a b hab; lia)
theorem sort_lights {σ σ' : Sto} {sl : Slots} {src : ME} {v : V} {lid n : Nat} {l : Nat -> Nat} {xs : List Nat} (h5 : getSl sl 5 = some (.lst lid)) (ml : σ'[lid]? = some ((lR 6).map fun k => .int (l k))) (h1 : (recN (n + 10)).eval src sl σ = some (v, σ')) (h2 : sortSrc σ' v = some (xs.map fun a => V.int (a : Nat))) (h4 : xs.length = 6) (hn : xs.Nodup) (h6 : ∀ a ∈ xs, a < 6) :
  (recN (n + 11)).eval (.sortk src [5] (.sub (.var 1) (.var 0))) sl σ = some (.lst σ'.length, σ' ++ [(xs.foldl (fun acc x => insR l x acc) []).map fun a => V.int (a : Nat)]) := by
 have hk := keys_of (σ := σ') (body := .sub (.var 1) (.var 0)) (cap := [some (.lst lid)]) (m := n + 10) (fun a => (l a : Int)) xs (fun a ha => zM (n := n + 9) (zA (zG zE)) (zA zE) (zH ml rfl qL (zS (h6 a ha))))
 have := ev_sortk (n := n + 10) h1 h2 (isInts_nats xs) ⟨by simp [h4], nodup_nats hn⟩ (cap1 h5) hk
 rw [this, sortK_fold l (fun a => (l a : Int)) (fun a => V.int (a : Nat)) (by intro a b; exact Int.ofNat_le), mM]
 rfl
theorem row_numbers {M : List Nat} {T p s slot n : Nat} {ends : Nat -> List Nat} {σ : Sto} {sl : Slots} {vs : List V} {l : Nat -> Nat} {R : List Nat} (hR : R.length = 6) (g : getSl sl slot = some (.lst s)) (ms : σ[s]? = some vs) (as : All2 (Lamp M T p ends σ) vs (R.map (leafD l))) :
  ∃ σ', (recN (n + 60)).eval (.comp (.sub (.sub (.var 0) (.int 3)) (.int 0)) [] (.var slot) none) sl σ = some (.lst σ'.length, σ' ++ [R.map fun a => V.int (a : Nat)]) /\ Mods [] σ σ' := by
 have hlen : vs.length = 6 := by rw [as.length]; simp [hR]
 have hws : (lR 6).map (fun j => V.int (R.getD j 0 : Nat)) = R.map fun a => V.int (a : Nat) := by
  obtain ⟨a, b, c, d, e, f, rfl⟩ := six_of hR
  rfl
 obtain ⟨σ', e, m⟩ := cp_gen (σ := σ) (src := .lst s) (N := 6) (K := 40) (cap := []) (e := .sub (.sub (.var 0) (.int 3)) (.int 0)) (fun j => vs.getD j .none) (fun j => .int (R.getD j 0 : Nat)) (by decide)
  (fun σ' m j => by
   rw [z7 (m.2 _ _ nmN ms)]
   congr 1
   by_cases hj : j < 6
   ·rw [if_pos hj]
    have : j < vs.length := by exact eA hlen hj
    simp [this]
   ·rw [if_neg hj]; exact List.getElem?_eq_none (eD hlen hj))
  (fun j hj σ' m k => by
   refine ⟨σ', ?_, .refl⟩
   have hjv : j < vs.length := by exact eA hlen hj
   have hv : vs[j]? = some (vs.getD j .none) := by simp [hjv]
   refine byC fun hG => ?_
   obtain ⟨dd, hd, hL⟩ := as.get hv
   have hjR : j < R.length := by exact eA hR hj
   have : dd = leafD l (R.getD j 0) := by
    simp [hjR] at hd
    rw [← hd]; simp [hjR]
   subst this
   obtain ⟨J, i, x, y, z, kid, H, hk, J⟩ := hL
   refine hG ?_
   rw [H.v]
   have a1 : subV (.lst i) (.int 3) σ' = some (.lst kid) := zH (j := 3) (m.2 _ _ nmN H.at_) rfl qL rfl
   have a2 : subV (.lst kid) (.int 0) σ' = some (.int (R.getD j 0 : Nat)) := zH (j := 0) (m.2 _ _ nmN hk) rfl qQ rfl
   exact zM (n := k + 39) (zM (zA zE) zF a1) zF a2)
  (n + 12) 6 0 σ .refl rfl
 refine ⟨σ', ?_, m⟩
 rw [hws] at e
 exact xN (n := n + 59) (y := vs[0]?) (zA g) (z7 ms 0) rfl e
theorem sum_nats (xs : List Nat) : yW (xs.map fun a => V.int (a : Nat)) 0 = some ((xs.sum : Nat) : Int) := by
 have : ∀ (xs : List Nat) (a : Int), yW (xs.map fun a => V.int (a : Nat)) a = some (a + (xs.sum : Nat)) := by
  intro xs
  induction xs with
  | nil => intro a; exact congrArg some (Int.add_zero a).symm
  | cons x r ih => intro a; exact (ih (a + x)).trans (congrArg some (Int.add_assoc a x (r.sum : Nat)))
 simpa using this xs 0
theorem tup_of (j : Nat) (hj : j < 5) : yL j = .tup ((lR 6).map fun i => V.int ((formP j).getD i 0 : Nat)) := by
 have : j = 0 \/ j = 1 \/ j = 2 \/ j = 3 \/ j = 4 := by exact l5 hj
 rcases this with rfl | rfl | rfl | rfl | rfl <;> rfl
theorem form_le (j i : Nat) (hj : j < 5) : (formP j).getD i 0 <= 5 := by
 have h5 : j = 0 \/ j = 1 \/ j = 2 \/ j = 3 \/ j = 4 := by exact l5 hj
 by_cases hi : i < 6
 ·rcases h5 with rfl | rfl | rfl | rfl | rfl <;> rcases col_six hi with rfl | rfl | rfl | rfl | rfl | rfl <;> decide
 ·have : (formP j).length <= i := by rcases h5 with rfl | rfl | rfl | rfl | rfl <;> (show 6 <= i; exact qG hi)
  simp [this]
theorem mul_small {σ : Sto} {a b : Nat} (ha : a <= 19) (hb : b <= 5) : binF .Mult (.int (a : Nat)) (.int (b : Nat)) σ = some (.int (a * b : Nat), σ) := by
 rw [bi_mulI (And.intro (wH ha) (wH hb))]
 simp
theorem sum_cost {j : Nat} {l : Nat -> Nat} {r_0 r_1 r_2 r_3 r_4 r_5 : Nat} (hj : j < 5) : yW ((lR 6).map fun i => V.int (l ([r_0, r_1, r_2, r_3, r_4, r_5].getD i 0) * (formP j).getD i 0 : Nat)) 0 = some ((costP (l r_0) (l r_1) (l r_2) (l r_3) (l r_4) (l r_5) j : Nat) : Int) := by
 have e1 : ((lR 6).map fun i => V.int (l ([r_0, r_1, r_2, r_3, r_4, r_5].getD i 0) * (formP j).getD i 0 : Nat)) = ((lR 6).map fun i => l ([r_0, r_1, r_2, r_3, r_4, r_5].getD i 0) * (formP j).getD i 0).map fun a => V.int (a : Nat) := by rw [mM]; rfl
 rw [e1, sum_nats]
 congr 2
 have h5 : j = 0 \/ j = 1 \/ j = 2 \/ j = 3 \/ j = 4 := by exact l5 hj
 rcases h5 with rfl | rfl | rfl | rfl | rfl <;> rfl
theorem sum_form {j : Nat} (hj : j < 5) : ∃ xs, yL j = .tup xs /\ yW xs 0 = some (sumForm j) := by
 have h5 : j = 0 \/ j = 1 \/ j = 2 \/ j = 3 \/ j = 4 := by exact l5 hj
 rcases h5 with rfl | rfl | rfl | rfl | rfl <;> exact ⟨_, rfl, by decide⟩
theorem cost_tree {σ : Sto} {lid rid j n : Nat} {l : Nat -> Nat} {r_0 r_1 r_2 r_3 r_4 r_5 : Nat} (hj : j < 5) (hl : ∀ k, 1 <= l k /\ l k <= 19) (hr : ∀ a ∈ [r_0, r_1, r_2, r_3, r_4, r_5], a < 6) (ml : σ[lid]? = some ((lR 6).map fun k => .int (l k))) (mr : σ[rid]? = some ([r_0, r_1, r_2, r_3, r_4, r_5].map fun a => V.int (a : Nat))) :
  ∃ σ', (recN (n + 80)).eval (.tup [(.call (.glob .sum) [(.comp (.bin .Mult (.sub (.var 1) (.sub (.var 3) (.var 0))) (.sub (.var 2) (.var 0))) [1, 0, 2] (.call (.glob .range) [(.int 6)]) none)]), (.call (.glob .sum) [(.var 0)]), (.var 0)]) [some (yL j), some (.lst lid), some (.lst rid)] σ =
   some (tp (costP (l r_0) (l r_1) (l r_2) (l r_3) (l r_4) (l r_5)) j, σ') /\ Mods [] σ σ' := by
 let f := formP j
 let R := [r_0, r_1, r_2, r_3, r_4, r_5]
 have hprod : ∀ a i, l a * f.getD i 0 <= 19 * 5 := fun a i => Nat.mul_le_mul (hl a).2 (form_le j i hj)
 refine byC fun hG => ?_
 obtain ⟨σ', e, m⟩ := cp_gen (σ := σ) (src := .rng 0 (6 : Nat) 1) (N := 6) (K := 40) (cap := [some (.lst lid), some (yL j), some (.lst rid)]) (e := .bin .Mult (.sub (.var 1) (.sub (.var 3) (.var 0))) (.sub (.var 2) (.var 0))) (fun i => .int (i : Nat)) (fun i => .int (l (R.getD i 0) * f.getD i 0 : Nat)) (by decide)
  (fun σ' m i => xE (by decide))
  (fun i hi σ' m k => by
   refine ⟨σ', ?_, .refl⟩
   have hRi : R[i]? = some (R.getD i 0) := by rcases col_six hi with rfl | rfl | rfl | rfl | rfl | rfl <;> rfl
   have hR6 : R.getD i 0 < 6 := hr _ (mOG hRi)
   have a1 : subV (.lst rid) (.int (i : Int)) σ' = some (.int (R.getD i 0 : Nat)) := zH (m.2 _ _ nmN mr) rfl qL (by rw [gMP, hRi]; rfl)
   have a2 : subV (.lst lid) (.int (R.getD i 0 : Nat)) σ' = some (.int (l (R.getD i 0) : Nat)) := zH (m.2 _ _ nmN ml) rfl qL (zS hR6)
   have a3 : subV (yL j) (.int (i : Int)) σ' = some (.int (f.getD i 0 : Nat)) := by
    rw [tup_of j hj]
    exact sub_tup rfl qL (zS hi)
   have b1 : ∀ σ, binF .Mult (.int (l (R.getD i 0) : Nat)) (.int (f.getD i 0 : Nat)) σ = some (.int (l (R.getD i 0) * f.getD i 0 : Nat), σ) := fun σ => mul_small (hl _).2 (form_le j i hj)
   exact zL (n := k + 39) (zM (zA (zG zE)) (zM (zA (zG (zG (zG zE)))) (zA zE) a1) a2) (zM (zA (zG (zG zE))) (zA zE) a3) (b1 _))
  (n + 30) 6 0 σ .refl rfl
 have hs1 := sum_cost (l := l) (r_0 := r_0) (r_1 := r_1) (r_2 := r_2) (r_3 := r_3) (r_4 := r_4) (r_5 := r_5) hj
 obtain ⟨xs, hx1, hx2⟩ := sum_form hj
 refine hG ?_
 have r6 : ∀ σ, yD .range [.int 6] σ = some (.rng 0 (6 : Int) 1, σ) := fun σ => rfl
 refine ⟨σ' ++ [(lR 6).map fun i => V.int (l (R.getD i 0) * f.getD i 0 : Nat)], ?_, m.trans .app⟩
 have i0 : zV σ (.rng 0 (6 : Nat) 1) 0 = some (some (.int ((0 : Nat) : Int))) := yC (by decide) (by decide)
 refine ev_tup (n := n + 79) (vs := [.int (costP (l r_0) (l r_1) (l r_2) (l r_3) (l r_4) (l r_5) j : Nat), .int (sumForm j), yL j]) (zB (ev_gsumL (n := n + 77) (zB (xN (n := n + 77) (z9 (n := n + 75) (zB zF zD) (r6 _)) i0 rfl e) zD) zI hs1) (zB ?_ (zB (zA zE) zD))) qL
 refine ev_gsumT (n := n + 77) (xs := xs) (zB (zA ?_) zD) hx2
 rw [hx1]; exact zE
end Mine.Pl
namespace Mine.Pl
open PySem PySem.Float64
theorem bi_mulL {σ : Sto} {i : Nat} {xs : List V} {n : Int} (h : σ[i]? = some xs) (hi : i ≠ 0) (hn : 0 <= n /\ n <= 1000) (hl : xs.length <= 1000) : binF .Mult (.lst i) (.int n) σ = some (.lst σ.length, σ ++ [(lQ n.toNat xs).flatten]) := ob h (if_pos ⟨rfl, hi, hn.1, hn.2, hl⟩)
theorem ev_gminL {n : Nat} {sl : Slots} {σ σ_1 : Sto} {args : List ME} {i : Nat} {x v : V} {r : List V} (h2 : evals (recN (n + 1)).eval args sl σ = some ([.lst i], σ_1)) (h3 : σ_1[i]? = some (x :: r)) (h4 : minTup x r = some v) : (recN (n + 2)).eval (.call (.glob .min) args) sl σ = some (v, σ_1) := ev_bi yU h2 rfl (ob h3 (ob h4 rfl))
theorem lev_loop {vid rid j : Nat} {ρ pos : Nat -> Nat} (hj : j < 5) (hv : vid ≠ 0) (hvr : vid ≠ rid) (h1 : ∀ i, i < 6 -> ρ i < 6 /\ pos (ρ i) = i) (h2 : ∀ k, k < 6 -> ρ (pos k) = k) (n : Nat) :
  ∀ (r i : Nat) (sl : Slots) (σ : Sto), i + r = 6 -> HL sl -> getSl sl 10 = some (.lst rid) -> getSl sl 14 = some (yL j) -> getSl sl 15 = some (.lst vid) -> σ[rid]? = some ((lR 6).map fun i => V.int (ρ i : Nat)) ->
   σ[vid]? = some ((lR 6).map fun k => V.int ((if pos k < i then (formP j).getD (pos k) 0 else 0 : Nat) : Int)) ->
   ∃ sl', (recN (n + 30 + r)).forr 16 (.rng 0 (6 : Nat) 1) i [.put (.var 15) (.sub (.var 10) (.var 16)) (.sub (.var 14) (.var 16))] sl σ = some (.next, sl', σ.set vid ((lR 6).map fun k => V.int (((formP j).getD (pos k) 0 : Nat) : Int))) /\ Same [16] sl sl' := by
 intro r; induction r with
 | zero =>
  intro i sl σ hi H g10 g14 g15 mr mv
  have : i = 6 := by exact hi
  subst this
  refine ⟨sl, ?_, .refl⟩
  have e : ((lR 6).map fun k => V.int ((if pos k < 6 then (formP j).getD (pos k) 0 else 0 : Nat) : Int)) = (lR 6).map fun k => V.int (((formP j).getD (pos k) 0 : Nat) : Int) := by
   apply List.map_congr_left
   intro k hk
   have hk6 := mR.mp hk
   by_cases q : pos k < 6
   ·rw [if_pos q]
   ·rw [if_neg q]
    have : (formP j).length <= pos k := by
     have h5 : j = 0 \/ j = 1 \/ j = 2 \/ j = 3 \/ j = 4 := by exact l5 hj
     rcases h5 with rfl | rfl | rfl | rfl | rfl <;> (show 6 <= pos k; exact qG q)
    simp [this]
  rw [e] at mv
  have : σ.set vid ((lR 6).map fun k => V.int (((formP j).getD (pos k) 0 : Nat) : Int)) = σ := by
   have hlt := zT mv
   rw [gEG hlt] at mv
   rw [← sI mv]
   exact List.set_getElem_self hlt
  rw [this]
  exact fr_end (n := n + 29) (xS (by decide) (nIR _))
 | succ r ih =>
  intro i sl σ hi H g10 g14 g15 mr mv
  have hi6 : i < 6 := by exact pA hi
  obtain ⟨hρ, hpρ⟩ := h1 i hi6
  have sA : Same [16] sl (setSl sl 16 (.int (i : Int))) := .set mcS
  have k16 : getSl (setSl sl 16 (.int (i : Int))) 16 = some (.int (i : Int)) := gs_eq H (by decide)
  have k10 := sA.get g10 (by decide)
  have k14 := sA.get g14 (by decide)
  have k15 := sA.get g15 (by decide)
  have a1 : subV (yL j) (.int (i : Int)) σ = some (.int ((formP j).getD i 0 : Nat)) := by
   rw [tup_of j hj]
   exact sub_tup rfl qL (zS hi6)
  have a2 : subV (.lst rid) (.int (i : Int)) σ = some (.int (ρ i : Nat)) := zH mr rfl qL (zS hi6)
  have e1 : ((lR 6).map fun k => V.int ((if pos k < i then (formP j).getD (pos k) 0 else 0 : Nat) : Int)).set (ρ i : Int).toNat (.int ((formP j).getD i 0 : Nat)) = (lR 6).map fun k => V.int ((if pos k < i + 1 then (formP j).getD (pos k) 0 else 0 : Nat) : Int) := by
   rw [Int.toNat_natCast, wD hρ]
   apply List.map_congr_left
   intro k hk
   have hk6 := mR.mp hk
   by_cases q : k = ρ i
   ·subst q
    rw [if_pos rfl, hpρ, if_pos (by exact qR)]
   ·rw [if_neg q]
    have hne : pos k ≠ i := fun w => q (by rw [← w, h2 k hk6])
    by_cases q2 : pos k < i
    ·rw [if_pos q2, if_pos (by exact qS q2)]
    ·rw [if_neg q2, if_neg (by lia)]
  have mv' := yR (ys := (lR 6).map fun k => V.int ((if pos k < i + 1 then (formP j).getD (pos k) 0 else 0 : Nat) : Int)) mv
  obtain ⟨sl', run, s1⟩ := ih (i + 1) (setSl sl 16 (.int (i : Int))) _ (pB hi) (zN H) k10 k14 k15 (by rw [gSN hvr]; exact mr) mv'
  rw [List.set_set] at run
  refine ⟨sl', ?_, sA.trans s1⟩
  have b1 : n + 30 + (r + 1) = n + r + 30 + 1 := by exact qC
  have b2 : n + 30 + r = n + r + 30 := by exact qC
  rw [b2] at run
  rw [b1]
  refine xT (yC (n := 6) (by decide) hi6) rfl ?_ run
  have := st_put (n := n + r + 29) (o := .var 15) (i := .sub (.var 10) (.var 16)) (e := .sub (.var 14) (.var 16)) (zM (n := n + r + 28) (zA k14) (zA k16) a1) (zA k15) (zM (n := n + r + 28) (zA k10) (zA k16) a2) mv hv qN (by simp; exact cC hρ) qL
  rw [e1] at this
  exact zC this zQ
noncomputable abbrev MidmrF (σ : Sto) (rid : Nat) (ρ : Nat -> Nat) : Prop := σ[rid]? = some ((lR 6).map fun i => V.int (ρ i : Nat))
noncomputable abbrev MidmvF (σ : Sto) (vid j : Nat) (pos : Nat -> Nat) : Prop := σ[vid]? = some ((lR 6).map fun k => V.int (((formP j).getD (pos k) 0 : Nat) : Int))
noncomputable abbrev MidneF (lid s o rid vid wid : Nat) : Prop := s ≠ 0 /\ o ≠ 0 /\ wid ≠ 0 /\ s ≠ o /\ lid ≠ s /\ lid ≠ o /\ rid ≠ s /\ rid ≠ o /\ vid ≠ s /\ vid ≠ o /\ wid ≠ s /\ wid ≠ o /\ wid ≠ lid /\ wid ≠ rid /\ wid ≠ vid
structure Mid (sl : Slots) (σ : Sto) (lid s o rid vid wid T p c j : Nat) (l ρ pos : Nat -> Nat) : Prop where
 hl : HL sl
 g3 : getSl sl 3 = some (.int T)
 g4 : getSl sl 4 = some (.int p)
 g5 : getSl sl 5 = some (.lst lid)
 ml : σ[lid]? = some ((lR 6).map fun k => .int (l k))
 g6 : getSl sl 6 = some (.lst s)
 g7 : getSl sl 7 = some (.lst o)
 g10 : getSl sl 10 = some (.lst rid)
 mr : MidmrF σ rid ρ
 g12 : getSl sl 12 = some (.int (c : Nat))
 g15 : getSl sl 15 = some (.lst vid)
 mv : MidmvF σ vid j pos
 g17 : getSl sl 17 = some (.lst wid)
 mw : σ[wid]? = some ((lR 6).map fun J => V.str [])
 g18 : getSl sl 18 = some (.int 0)
 ne : MidneF lid s o rid vid wid
theorem Lamp.fresh {M : List Nat} {T p w : Nat} {ends : Nat -> List Nat} {σ : Sto} {v : V} {d : D} (h : Lamp M T p ends σ v d) (hw : σ.length <= w) : Lamp (w :: M) T p ends σ v d :=
 ⟨h.1, h.2.imp fun J => Exists.imp fun J => Exists.imp fun J => Exists.imp fun J => Exists.imp fun J q => ⟨q.1, q.2.1, fun m => (mC.mp m).elim (nNL (qA (zT q.1.at_) hw)) q.2.2.1, fun m => (mC.mp m).elim (nNL (qA (zT q.2.1) hw)) q.2.2.2.1, q.2.2.2.2⟩⟩
theorem middle {d lid s o T p j n : Nat} {x : Nat -> Int} {l : Nat -> Nat} {sl : Slots} {σ : Sto} {vs vo : List V} {r_0 r_1 r_2 r_3 r_4 r_5 : Nat} {pos : Nat -> Nat} {R : List Nat} {c : Nat -> Nat} (hRR : R = [r_0, r_1, r_2, r_3, r_4, r_5]) (hcc : c = costP (l r_0) (l r_1) (l r_2) (l r_3) (l r_4) (l r_5)) (hR : idxAt l 6 = R) (h1 : ∀ i, i < 6 -> R.getD i 0 < 6 /\ pos (R.getD i 0) = i)
  (h2 : ∀ k, k < 6 -> R.getD (pos k) 0 = k) (hr : ∀ a ∈ R, a < 6) (hl6 : ∀ k, 1 <= l k /\ l k <= 19) (pick : IsPick c j)
  (H : HL sl) (g3 : getSl sl 3 = some (.int T)) (g4 : getSl sl 4 = some (.int p)) (g5 : getSl sl 5 = some (.lst lid)) (g6 : getSl sl 6 = some (.lst s)) (g7 : getSl sl 7 = some (.lst o))
  (ml : σ[lid]? = some ((lR 6).map fun k => .int (l k))) (ms : σ[s]? = some vs) (mo : σ[o]? = some vo) (as : All2 (Lamp [s, o] T p (yY x) σ) vs (xA l 6)) (ao : All2 (Lamp [s, o] T p (yY x) σ) vo (xI l 6))
  (ne : s ≠ 0 /\ o ≠ 0 /\ s ≠ o /\ lid ≠ s /\ lid ≠ o) (ss : List MS) :
  ∀ {C : Prop}, (∀ sl' σ' rid vid wid, Mid sl' σ' lid s o rid vid wid T p (c j) j l (fun i => R.getD i 0) pos -> Mods [] σ σ' -> σ.length <= wid -> (∀ r, (recN (n + 101)).exec ss sl' σ' = some r -> (recN (n + 101)).exec (b_law8 :: b_law9 :: b_law10 :: b_law11 :: b_law12 :: b_law13 :: b_law14 :: b_law15 :: b_law16 :: ss) sl σ = some r) -> C) -> C := by
 intro C kk
 have hσ0 : 0 < σ.length := by have := zT ms; lia -zetaDelta
 have hs := zT ms
 have ho := zT mo
 have hlid := zT ml
 have r6 : ∀ σ, yD .range [.int 6] σ = some (.rng 0 (6 : Int) 1, σ) := fun σ => rfl
 have e8 := sort_lights (n := n + 89) (sl := sl) (xs := [0, 1, 2, 3, 4, 5]) g5 ml (z9 (n := n + 97) (zB zF zD) (r6 _)) (h2 := rfl) rfl (by decide) (by decide)
 rw [← idx_six, hR] at e8
 let σ8 : Sto := σ ++ [R.map fun a => V.int (a : Nat)]
 let sl8 := setSl sl 10 (.lst σ.length)
 have S8 : Same [10] sl sl8 := .set mcS
 have k10 : getSl sl8 10 = some (.lst σ.length) := gs_eq H (by decide)
 have m8 : Mods [] σ σ8 := .app
 have mr8 : σ8[σ.length]? = some (R.map fun a => V.int (a : Nat)) := zI
 rw [xY, hR] at as
 obtain ⟨σ9, e9, m9⟩ := row_numbers (n := n + 39) (slot := 6) (sl := sl8) (σ := σ8) (by rw [hRR]; rfl) (S8.get g6 (by decide)) (m8.2 _ _ nmN ms) (as.mono fun J J h => Lamp.mods h m8.nil)
 let σ9' : Sto := σ9 ++ [R.map fun a => V.int (a : Nat)]
 have m9' : Mods [] σ σ9' := m8.trans (m9.trans .app)
 have mr9 : σ9'[σ.length]? = some (R.map fun a => V.int (a : Nat)) := zK (m9.2 _ _ nmN mr8)
 have c9 := neL (σ := σ9') zI mr9 (eqL_ints R)
 rw [other_idx] at ao
 have hR' : (jdxAt l 6).length = 6 := by rw [(jdx_perm l 6).length_eq]; rfl
 obtain ⟨σ10, e10, m10⟩ := row_numbers (n := n + 39) (slot := 7) (sl := sl8) (σ := σ9') hR' (S8.get g7 (by decide)) (m9'.2 _ _ nmN mo) (ao.mono fun J J h => Lamp.mods h m9'.nil)
 let σa : Sto := σ10 ++ [(jdxAt l 6).map fun a => V.int (a : Nat)]
 let σb : Sto := σa ++ [[V.int 5, .int 4, .int 3, .int 2, .int 1, .int 0]]
 have mb : Mods [] σ σb := m9'.trans (m10.trans (.trans .app .app))
 have e10b := sort_lights (n := n + 88) (sl := sl8) (xs := [5, 4, 3, 2, 1, 0]) (S8.get g5 (by decide)) (mb.2 _ _ nmN ml) (src := .list [(.int 5), (.int 4), (.int 3), (.int 2), (.int 1), (.int 0)]) (σ := σa) (v := .lst σa.length) (yT (n := n + 97) (zB zF (zB zF (zB zF (zB zF (zB zF (zB zF zD)))))) (by decide)) (h2 := zI) rfl (by decide) (by decide)
 rw [← jdx_six] at e10b
 let σc : Sto := σb ++ [(jdxAt l 6).map fun a => V.int (a : Nat)]
 have mc : Mods [] σ σc := mb.trans .app
 have c10 : cmpV σc .NotEq (.lst σ10.length) (.lst σb.length) = some false := neL (zK (zK zI)) zI (eqL_ints (jdxAt l 6))
 let F : List V := [yL 0, yL 1, yL 2, yL 3, yL 4]
 let σd : Sto := σc ++ [F]
 let sl11 := setSl sl8 11 (.lst σc.length)
 have S11 : Same [10, 11] sl sl11 := (S8.mono (by decide)).trans (.set (mT _ mcS))
 have md : Mods [] σ σd := mc.trans .app
 have k11 : getSl sl11 11 = some (.lst σc.length) := gs_eq (zN H) (by decide)
 have k10' : getSl sl11 10 = some (.lst σ.length) := gs_ne (by decide) k10
 have mrd : σd[σ.length]? = some (R.map fun a => V.int (a : Nat)) := zK (zK (zK (zK (m10.2 _ _ nmN mr9))))
 obtain ⟨hj5, J, J⟩ := id pick
 obtain ⟨σe, e12, me⟩ := cp_gen (σ := σd) (src := .lst σc.length) (N := 5) (K := 80) (cap := [some (.lst lid), some (.lst σ.length)]) (e := .tup [(.call (.glob .sum) [(.comp (.bin .Mult (.sub (.var 1) (.sub (.var 3) (.var 0))) (.sub (.var 2) (.var 0))) [1, 0, 2] (.call (.glob .range) [(.int 6)]) none)]), (.call (.glob .sum) [(.var 0)]), (.var 0)]) (fun i => F.getD i .none) (fun i => tp (c) i) (by decide)
  (fun σ' m i => by
   rw [z7 (m.2 _ _ nmN zI)]
   congr 1
   by_cases hi : i < 5
   ·rw [if_pos hi]
    have : i = 0 \/ i = 1 \/ i = 2 \/ i = 3 \/ i = 4 := by lia -zetaDelta
    rcases this with rfl | rfl | rfl | rfl | rfl <;> rfl
   ·rw [if_neg hi]; exact List.getElem?_eq_none (by show 5 <= i; lia -zetaDelta))
  (fun i hi σ' m k => by
   have hF : F.getD i .none = yL i := by
    have : i = 0 \/ i = 1 \/ i = 2 \/ i = 3 \/ i = 4 := by lia -zetaDelta
    rcases this with rfl | rfl | rfl | rfl | rfl <;> rfl
   rw [hF]
   rw [hcc]
   exact cost_tree hi hl6 (hRR ▸ hr) ((md.trans m).2 _ _ nmN ml) (hRR ▸ m.2 _ _ nmN mrd))
  (n + 12) 5 0 σd .refl rfl
 let σf : Sto := σe ++ [(lR 5).map fun i => tp c i]
 have mf : Mods [] σ σf := md.trans (me.trans .app)
 have hmin := min_forms pick
 have a12 : σf[σe.length]? = some (tp c 0 :: [tp c 1, tp c 2, tp c 3, tp c 4]) := zI
 let sl12 := setSl (setSl (setSl sl11 12 (.int (c j : Nat))) 13 (.int (sumForm j))) 14 (yL j)
 have S12 : Same [10, 11, 12, 13, 14] sl sl12 := (S11.mono (by decide)).trans ((Same.set (by decide)).trans ((Same.set (by decide)).trans (.set (by decide))))
 have H11 : HL sl11 := zN (zN H)
 let σg : Sto := σf ++ [[V.int 0]]
 let Z : List V := [.int 0, .int 0, .int 0, .int 0, .int 0, .int 0]
 let σh : Sto := σg ++ [Z]
 have lf : 0 < σf.length := by have := mf.1; lia -zetaDelta
 have a13 : binF .Mult (.lst σf.length) (.int 6) σg = some (.lst σg.length, σh) := bi_mulL zI (by lia -zetaDelta) (by decide) (by decide)
 let sl13 := setSl sl12 15 (.lst σg.length)
 have H12 : HL sl12 := zN (zN (zN H11))
 have S13 : Same [10, 11, 12, 13, 14, 15] sl sl13 := (S12.mono (by decide)).trans (.set (by decide))
 have mh : Mods [] σ σh := mf.trans (.trans .app .app)
 have lg : σg.length = σf.length + 1 := by exact List.length_append
 have hfl := mf.1
 have mrh : σh[σ.length]? = some (R.map fun a => V.int (a : Nat)) := zK (zK (zK (me.2 _ _ nmN mrd)))
 have mrh : σh[σ.length]? = some ((lR 6).map fun i => V.int (R.getD i 0 : Nat)) := by rw [mrh, hRR]; rfl
 have hlt : σ.length < σf.length := zT (zK (ys := (lR 5).map fun i => tp c i) (me.2 _ _ nmN mrd))
 obtain ⟨sl14, e14, s14⟩ := lev_loop (vid := σg.length) (rid := σ.length) (ρ := fun i => R.getD i 0) (pos := pos) hj5 (by lia -zetaDelta) (by lia -zetaDelta) h1 h2 (n + 64) 6 0 sl13 σh rfl (zN H12)
  (gs_ne (by decide) (gs_ne (by decide) (gs_ne (by decide) (gs_ne (by decide) k10')))) (gs_ne (by decide) (gs_eq (zN (zN H11)) (by decide))) (gs_eq H12 (by decide)) mrh zI
 let W : List V := (lR 6).map fun k => V.int (((formP j).getD (pos k) 0 : Nat) : Int)
 let σi : Sto := σh.set σg.length W
 have H14 : HL sl14 := s14.1 (zN H12)
 have S14 : Same [10, 11, 12, 13, 14, 15, 16] sl sl14 := (S13.mono (by decide)).trans (s14.mono (by decide))
 have mi : Mods [] σ σi := (mh.nil.trans (Mods.set (M := [σg.length]) mcS)).new (N := []) (fun i hi => by simp only [mS] at hi; subst hi; right; lia -zetaDelta)
 have hil : σi.length = σf.length + 2 := by simp [σi, σh, lg]
 have mvi : σi[σg.length]? = some W := yR (ys := W) (zI (σ := σg) (ys := Z))
 have mri : σi[σ.length]? = some ((lR 6).map fun i => V.int (R.getD i 0 : Nat)) := by
  show (σh.set σg.length W)[σ.length]? = _
  rw [gSN (by lia -zetaDelta)]; exact mrh
 let σj : Sto := σi ++ [[V.str []]]
 let E : List V := [.str [], .str [], .str [], .str [], .str [], .str []]
 let σk : Sto := σj ++ [E]
 have lj : σj.length = σf.length + 3 := by simp [σj, hil]
 have a15 : binF .Mult (.lst σi.length) (.int 6) σj = some (.lst σj.length, σk) := bi_mulL zI (by lia -zetaDelta) (by decide) (by decide)
 let sl15 := setSl sl14 17 (.lst σj.length)
 let sl16 := setSl sl15 18 (.int 0)
 have S16 : Same [10, 11, 12, 13, 14, 15, 16, 17, 18] sl sl16 := (S14.mono (by decide)).trans ((Same.set (by decide)).trans (.set (by decide)))
 have H15 : HL sl15 := zN H14
 have mk : Mods [] σ σk := mi.trans (.trans .app .app)
 have S16' : Same [17, 18] sl14 sl16 := (Same.set mcS).trans (.set (mT _ mcS))
 have S1416 : Same [16, 17, 18] sl13 sl16 := (s14.mono (by decide)).trans (S16'.mono (by decide))
 refine kk sl16 σk σ.length σg.length σj.length ⟨zN H15, S16.get g3 (by decide), S16.get g4 (by decide), S16.get g5 (by decide), mk.2 _ _ nmN ml, S16.get g6 (by decide), S16.get g7 (by decide), ?_, ?_, ?_, ?_, ?_, ?_, zI, gs_eq H15 (by decide), ?_⟩ mk (by lia -zetaDelta) (fun r hr' => ?_)
 ·exact S1416.get (gs_ne (by decide) (gs_ne (by decide) (gs_ne (by decide) (gs_ne (by decide) k10')))) (by decide)
 ·exact zK (zK mri)
 ·exact S1416.get (gs_ne (by decide) (gs_ne (by decide) (gs_ne (by decide) (gs_eq H11 (by decide))))) (by decide)
 ·exact S1416.get (gs_eq H12 (by decide)) (by decide)
 ·exact zK (zK mvi)
 ·exact gs_ne (by decide) (gs_eq H14 (by decide))
 ·exact midne ne hs ho hlid (by lia -zetaDelta) (by lia -zetaDelta)
 ·refine zC (sl_1 := sl8) (σ_1 := σ8) ?_ (zC (sl_1 := sl8) (σ_1 := σ9') ?_ (zC (sl_1 := sl8) (σ_1 := σc) ?_ (zC (sl_1 := sl11) (σ_1 := σd) ?_ (zC (sl_1 := sl12) (σ_1 := σf) ?_ (zC (sl_1 := sl13) (σ_1 := σh) ?_ (zC (sl_1 := sl14) (σ_1 := σi) ?_ (zC (sl_1 := sl15) (σ_1 := σk) ?_ (zC (sl_1 := sl16) (σ_1 := σk) ?_ hr'))))))))
  ·unfold b_law8
   exact zO e8 rfl
  ·unfold b_law9
   exact zY (zW (n := n + 99) e9 (zA k10) c9) (if_f zQ)
  ·unfold b_law10
   exact zY (zW (n := n + 99) e10 e10b c10) (if_f zQ)
  ·unfold b_law11
   have e11 : (recN (n + 100)).eval (.list [(.tup [(.int 5), (.int 5), (.int 4), (.int 3), (.int 2), (.int 1)]), (.tup [(.int 4), (.int 4), (.int 4), (.int 4), (.int 2), (.int 1)]), (.tup [(.int 4), (.int 4), (.int 3), (.int 3), (.int 3), (.int 1)]), (.tup [(.int 4), (.int 4), (.int 3), (.int 2), (.int 2), (.int 2)]), (.tup [(.int 3), (.int 3), (.int 3), (.int 3), (.int 2), (.int 2)])]) sl8 σc = some (.lst σc.length, σd) := rfl
   exact zO e11 rfl
  ·unfold b_law12
   have i0 : zV σd (.lst σc.length) 0 = some (some (yL 0)) := by rw [z7 zI]; rfl
   have hcap : zU sl11 [5, 10] = [some (.lst lid), some (.lst σ.length)] := cap2 (S11.get g5 (by decide)) k10'
   exact st_unpack (ev_gminL (n := n + 98) (zB (xN (n := n + 98) (zA k11) i0 hcap e12) zD) a12 hmin) rfl
  ·unfold b_law13
   exact zO (zL (n := n + 99) (yT (n := n + 98) (zB zF zD) qQ) zF a13) rfl
  ·unfold b_law14
   exact st_for (z9 (n := n + 98) (zB zF zD) (r6 _)) (yC (n := 6) (i := 0) (by decide) (by decide)) e14
  ·unfold b_law15
   exact zO (zL (n := n + 99) (yT (n := n + 98) (zB x9 zD) qQ) zF a15) rfl
  ·unfold b_law16
   exact zO zF rfl
end Mine.Pl
namespace Mine.Pl
open PySem PySem.Float64
noncomputable def addElt : ME := .bin .Add (.sub (.var 1) (.var 0)) (.sub (.var 2) (.var 0))
theorem comp3 {sl : Slots} {σ : Sto} {i_1 i_2 : Nat} {x_1 y_1 z_1 x_2 y_2 z_2 : UInt64} {q_1 q_2 : List V} (n : Nat) (g20 : getSl sl 20 = some (.lst i_1)) (g21 : getSl sl 21 = some (.lst i_2)) (h1 : σ[i_1]? = some (.flt x_1 :: .flt y_1 :: .flt z_1 :: q_1)) (h2 : σ[i_2]? = some (.flt x_2 :: .flt y_2 :: .flt z_2 :: q_2)) (l1 : q_1.length <= 1000) (l2 : q_2.length <= 1000) :
  (recN (n + 20)).eval (.comp addElt [20, 21] (.call (.glob .range) [(.int 3)]) none) sl σ = some (.lst σ.length, σ ++ [[.flt (add x_1 x_2), .flt (add y_1 y_2), .flt (add z_1 z_2)]]) := by
 have r3 : ∀ σ, yD .range [.int 3] σ = some (.rng 0 (3 : Int) 1, σ) := fun σ => rfl
 have it : ∀ j, j < 3 -> zV σ (.rng 0 (3 : Int) 1) j = some (some (.int (j : Nat))) := fun j hj => yC (n := 3) (by decide) hj
 have a0 : subV (.lst i_1) (.int (0 : Nat)) σ = some (.flt x_1) := zH (j := 0) h1 rfl (by simp; exact qT l1 qL) rfl
 have a1 : subV (.lst i_1) (.int (1 : Nat)) σ = some (.flt y_1) := zH (j := 1) h1 rfl (by simp; exact qT l1 qL) rfl
 have a2 : subV (.lst i_1) (.int (2 : Nat)) σ = some (.flt z_1) := zH (j := 2) h1 rfl (by simp; exact qT l1 qL) rfl
 have b0 : subV (.lst i_2) (.int (0 : Nat)) σ = some (.flt x_2) := zH (j := 0) h2 rfl (by simp; exact qT l2 qL) rfl
 have b1 : subV (.lst i_2) (.int (1 : Nat)) σ = some (.flt y_2) := zH (j := 1) h2 rfl (by simp; exact qT l2 qL) rfl
 have b2 : subV (.lst i_2) (.int (2 : Nat)) σ = some (.flt z_2) := zH (j := 2) h2 rfl (by simp; exact qT l2 qL) rfl
 have e : ∀ (k m : Nat) (x y : UInt64), subV (.lst i_1) (.int (k : Nat)) σ = some (.flt x) -> subV (.lst i_2) (.int (k : Nat)) σ = some (.flt y) -> (recN (m + 3)).eval addElt (some (.int (k : Nat)) :: [some (.lst i_1), some (.lst i_2)]) σ = some (.flt (add x y), σ) := fun k m x y h h' =>
  zL (n := m + 2) (zM (zA (zG zE)) (zA zE) h) (zM (zA (zG (zG zE))) (zA zE) h') bi_addF
 refine xN (n := n + 19) (z9 (n := n + 17) (zB zF zD) (r3 _)) (it 0 (by decide)) (cap2 g20 g21) ?_
 exact cp_step (n := n + 18) (it 0 (by decide)) (e 0 _ _ _ a0 b0) (by simp) (cp_step (n := n + 17) (it 1 (by decide)) (e 1 _ _ _ a1 b1) qL (cp_step (n := n + 16) (it 2 (by decide)) (e 2 _ _ _ a2 b2) qL (cp_end (n := n + 15) (xS (n := 3) (by decide) (by decide)))))
theorem comp4 {sl : Slots} {σ : Sto} {i_1 i_2 k_1 k_2 : Nat} {x_1 y_1 z_1 x_2 y_2 z_2 : UInt64} {q_1 q_2 : List V} {ks_1 ks_2 : List V} (n : Nat) (g20 : getSl sl 20 = some (.lst i_1)) (g21 : getSl sl 21 = some (.lst i_2)) (h1 : σ[i_1]? = some (.flt x_1 :: .flt y_1 :: .flt z_1 :: .lst k_1 :: q_1)) (h2 : σ[i_2]? = some (.flt x_2 :: .flt y_2 :: .flt z_2 :: .lst k_2 :: q_2)) (l1 : q_1.length <= 900) (l2 : q_2.length <= 900)
  (hk1 : σ[k_1]? = some ks_1) (hk2 : σ[k_2]? = some ks_2) (n1 : k_1 ≠ 0) (n2 : k_2 ≠ 0) (hl : ks_1.length + ks_2.length <= 1000) :
  (recN (n + 20)).eval (.comp addElt [20, 21] (.call (.glob .range) [(.int 4)]) none) sl σ = some (.lst (σ.length + 1), σ ++ [ks_1 ++ ks_2] ++ [[.flt (add x_1 x_2), .flt (add y_1 y_2), .flt (add z_1 z_2), .lst σ.length]]) := by
 have r3 : ∀ σ, yD .range [.int 4] σ = some (.rng 0 (4 : Int) 1, σ) := fun σ => rfl
 have it : ∀ σ j, j < 4 -> zV σ (.rng 0 (4 : Int) 1) j = some (some (.int (j : Nat))) := fun σ j hj => yC (n := 4) (by decide) hj
 have a0 : subV (.lst i_1) (.int (0 : Nat)) σ = some (.flt x_1) := zH (j := 0) h1 rfl (by simp; exact qT l1 qL) rfl
 have a1 : subV (.lst i_1) (.int (1 : Nat)) σ = some (.flt y_1) := zH (j := 1) h1 rfl (by simp; exact qT l1 qL) rfl
 have a2 : subV (.lst i_1) (.int (2 : Nat)) σ = some (.flt z_1) := zH (j := 2) h1 rfl (by simp; exact qT l1 qL) rfl
 have a3 : subV (.lst i_1) (.int (3 : Nat)) σ = some (.lst k_1) := zH (j := 3) h1 rfl (by simp; exact qT l1 qL) rfl
 have b0 : subV (.lst i_2) (.int (0 : Nat)) σ = some (.flt x_2) := zH (j := 0) h2 rfl (by simp; exact qT l2 qL) rfl
 have b1 : subV (.lst i_2) (.int (1 : Nat)) σ = some (.flt y_2) := zH (j := 1) h2 rfl (by simp; exact qT l2 qL) rfl
 have b2 : subV (.lst i_2) (.int (2 : Nat)) σ = some (.flt z_2) := zH (j := 2) h2 rfl (by simp; exact qT l2 qL) rfl
 have b3 : subV (.lst i_2) (.int (3 : Nat)) σ = some (.lst k_2) := zH (j := 3) h2 rfl (by simp; exact qT l2 qL) rfl
 have e : ∀ (k m : Nat) (x y : UInt64), subV (.lst i_1) (.int (k : Nat)) σ = some (.flt x) -> subV (.lst i_2) (.int (k : Nat)) σ = some (.flt y) -> (recN (m + 3)).eval addElt (some (.int (k : Nat)) :: [some (.lst i_1), some (.lst i_2)]) σ = some (.flt (add x y), σ) := fun k m x y h h' =>
  zL (n := m + 2) (zM (zA (zG zE)) (zA zE) h) (zM (zA (zG (zG zE))) (zA zE) h') bi_addF
 have e3 : ∀ m, (recN (m + 3)).eval addElt (some (.int (3 : Nat)) :: [some (.lst i_1), some (.lst i_2)]) σ = some (.lst σ.length, σ ++ [ks_1 ++ ks_2]) := fun m =>
  zL (n := m + 2) (zM (zA (zG zE)) (zA zE) a3) (zM (zA (zG (zG zE))) (zA zE) b3) (bi_addL hk1 hk2 n1 n2 hl)
 have hlen : σ.length + 1 = (σ ++ [ks_1 ++ ks_2]).length := by exact Eq.symm List.length_append
 rw [hlen]
 refine xN (n := n + 19) (z9 (n := n + 17) (zB zF zD) (r3 _)) (it _ 0 (by decide)) (cap2 g20 g21) ?_
 exact cp_step (n := n + 18) (it _ 0 (by decide)) (e 0 _ _ _ a0 b0) (by simp) (cp_step (n := n + 17) (it _ 1 (by decide)) (e 1 _ _ _ a1 b1) qL (cp_step (n := n + 16) (it _ 2 (by decide)) (e 2 _ _ _ a2 b2) qL (cp_step (n := n + 15) (it _ 3 (by decide)) (e3 _) qL (cp_end (n := n + 14) (xS (n := 4) (by decide) (by decide))))))
theorem word_loop {slot kid wid st base : Nat} {letters : List Nat} {ks : List Nat} (hlet : letters[st]? = some (base + st)) (hl5 : letters.length <= 10) (hw : wid ≠ 0) (hkw : kid ≠ wid) (hks : ∀ k ∈ ks, k < 6) (hkl : ks.length <= 6) (n : Nat) :
  ∀ (rest done : List Nat) (sl : Slots) (σ : Sto) (W : Nat -> List Nat), ks = done ++ rest -> rest.Nodup -> HL sl -> slot ≠ 2 -> getSl sl 17 = some (.lst wid) -> getSl sl 19 = some (.int (st : Nat)) -> σ[kid]? = some (ks.map fun k => V.int (k : Nat)) -> σ[wid]? = some ((lR 6).map fun k => V.str (W k)) -> (∀ k, k < 6 -> (W k).length + rest.length <= 1000) ->
   ∃ sl', (recN (n + 30 + rest.length)).forr 2 (.lst kid) done.length [.put (.var 17) (.var 2) (.bin .Add (.sub (.str letters) (.var 19)) (.sub (.var 17) (.var 2)))] sl σ = some (.next, sl', σ.set wid ((lR 6).map fun k => V.str (if k ∈ rest then (base + st) :: W k else W k))) /\ Same [2] sl sl' := by
 intro rest; induction rest with
 | nil =>
  intro done sl σ W hk hn H hslot g17 g19 mk mw hW
  refine ⟨sl, ?_, .refl⟩
  rw [List.append_nil] at hk
  subst hk
  have e : (lR 6).map (fun k => V.str (if k ∈ ([] : List Nat) then (base + st) :: W k else W k)) = (lR 6).map fun k => V.str (W k) := by rfl
  rw [e]
  have : σ.set wid ((lR 6).map fun k => V.str (W k)) = σ := by
   have hlt := zT mw
   rw [gEG hlt] at mw
   rw [← sI mw]
   exact List.set_getElem_self hlt
  rw [this]
  refine fr_end (n := n + 29) ?_
  rw [z7 mk]
  congr 1
  exact List.getElem?_eq_none (by simp)
 | cons a rest ih =>
  intro done sl σ W hk hn H hslot g17 g19 mk mw hW
  have ha : a < 6 := hks a (by rw [hk]; exact List.mem_append_right _ mcS)
  obtain ⟨hna, hn'⟩ := List.nodup_cons.mp hn
  have sA : Same [2] sl (setSl sl 2 (.int (a : Nat))) := .set mcS
  have k2 : getSl (setSl sl 2 (.int (a : Nat))) 2 = some (.int (a : Nat)) := gs_eq H (by decide)
  have k17 := sA.get g17 (by decide)
  have k19 := sA.get g19 (by decide)
  let W1 : Nat -> List Nat := fun k => if k = a then (base + st) :: W a else W k
  have e1 : ((lR 6).map fun k => V.str (W k)).set ((a : Nat) : Int).toNat (.str ([base + st] ++ W a)) = (lR 6).map fun k => V.str (W1 k) := by
   rw [Int.toNat_natCast, wD ha]
   apply List.map_congr_left
   intro k _
   show (if k = a then _ else _) = V.str (if k = a then _ else _)
   split <;> rfl
  have mw' := yR (ys := (lR 6).map fun k => V.str (W1 k)) mw
  obtain ⟨sl', run, s1⟩ := ih (done ++ [a]) (setSl sl 2 (.int (a : Nat))) (σ.set wid ((lR 6).map fun k => V.str (W1 k))) W1 (by rw [hk]; simp) hn' (zN H) hslot k17 k19 (by rw [gSN hkw.symm]; exact mk) mw' (fun k hk6 => by
   have := hW k hk6
   have := hW a ha
   simp only [List.length_cons] at *
   show (if k = a then (base + st) :: W a else W k).length + rest.length <= 1000
   split
   ·simp only [List.length_cons]; exact eC qC this
   ·lia)
  rw [List.set_set] at run
  refine ⟨sl', ?_, sA.trans s1⟩
  have e2 : ((lR 6).map fun k => V.str (if k ∈ rest then (base + st) :: W1 k else W1 k)) = (lR 6).map fun k => V.str (if k ∈ a :: rest then (base + st) :: W k else W k) := by
   apply List.map_congr_left
   intro k _
   congr 1
   by_cases hka : k = a
   ·subst hka
    rw [if_neg hna, if_pos mcS]
    show (if k = k then _ else _) = _
    rw [if_pos rfl]
   ·have : W1 k = W k := if_neg hka
    rw [this]
    by_cases hkr : k ∈ rest
    ·rw [if_pos hkr, if_pos (mT _ hkr)]
    ·rw [if_neg hkr, if_neg (by simp [hka, hkr])]
  rw [e2] at run
  have b1 : n + 30 + (a :: rest).length = n + rest.length + 30 + 1 := by simp; exact qC
  have b2 : n + 30 + rest.length = n + rest.length + 30 := by exact qC
  have b3 : (done ++ [a]).length = done.length + 1 := by exact List.length_append
  rw [b2, b3] at run
  rw [b1]
  have it : zV σ (.lst kid) done.length = some (some (.int (a : Nat))) := by
   rw [z7 mk, hk]; simp
  refine xT it rfl ?_ run
  have c1 : subV (.str letters) (.int (st : Nat)) σ = some (.str [base + st]) := sub_str rfl (qT hl5 qL) hlet
  have c2 : subV (.lst wid) (.int (a : Nat)) σ = some (.str (W a)) := zH mw rfl qL (zS ha)
  have c3 : binF .Add (.str [base + st]) (.str (W a)) σ = some (.str ([base + st] ++ W a), σ) := bi_addS (by have := hW a ha; simp; lia)
  have := st_put (n := n + rest.length + 29) (o := .var 17) (i := .var 2) (e := .bin .Add (.sub (.str letters) (.var 19)) (.sub (.var 17) (.var 2))) (zL (n := n + rest.length + 28) (zM x9 (zA k19) c1) (zM (zA k17) (zA k2) c2) c3) (zA k17) (zA k2) mw hw qN (by simp; exact cC ha) qL
  rw [e1] at this
  exact zC this zQ
end Mine.Pl
namespace Mine.Pl
open PySem PySem.Float64
theorem rows_len {B : Nat} : ∀ {l : List (Nat × Nat × List Nat)}, (∀ x ∈ l, x.1 <= B /\ x.2.2.length <= 2) -> (zZ l).length <= (B + 3) * l.length := by
 intro l; induction l with
 | nil =>
  intro _
  exact qR
 | cons x r ih =>
  intro h
  have ih := ih fun y hy => h y (mT _ hy)
  have h0 := h x mcS
  have e : zZ (x :: r) = rowOf x.1 x.2.1 x.2.2 ++ zZ r := by rfl
  rw [e, List.length_append, List.length_cons]
  have : (rowOf x.1 x.2.1 x.2.2).length = x.1 + (x.2.2.length + 1) := by simp [rowOf]
  rw [this, Nat.mul_add, Nat.mul_one]
  lia
theorem mail_ok {ends : Nat -> List Nat} (he : ∀ k, EndOk (ends k)) {its : List (Nat × List Nat)} (h6 : ∀ x ∈ its, x.1 < 6) : RowsOk (mailD ends its) := by
 intro y hy
 obtain ⟨x, hx, rfl⟩ := mP.mp hy
 have := h6 x hx
 refine ⟨by exact Nat.le_add_right _ _, ⟨by exact Nat.le_add_right _ _, by simp; lia⟩, ?_⟩
 show EndOk (if x.2 = [] then ends x.1 else [13, 10])
 split
 ·exact he _
 ·exact .inr (.inr rfl)
theorem mail_merge {ends : Nat -> List Nat} (he : ∀ k, EndOk (ends k)) {st : Nat} {a b : D} (h6 : ∀ x ∈ a.2 ++ b.2, x.1 < 6) : dotF [46, 46] true (crF [13, 10] (zZ (mailD ends a.2) ++ zZ (mailD ends b.2))) = zZ (mailD ends (y9 st a b).2) := by
 have e1 : zZ (mailD ends a.2) ++ zZ (mailD ends b.2) = zZ (mailD ends (a.2 ++ b.2)) := by simp [zZ, mailD]
 rw [e1, quote_rows (mail_ok he h6)]
 congr 1
 unfold mailD y9
 simp only [List.map_append, mM]
 congr 1
theorem mail_len {ends : Nat -> List Nat} (he : ∀ k, EndOk (ends k)) {its : List (Nat × List Nat)} (hw : ∀ x ∈ its, x.2.length <= 10) (hl : its.length <= 6) : (zZ (mailD ends its)).length <= 84 := by
 have := rows_len (B := 11) (l := mailD ends its) (by
  intro y hy
  obtain ⟨x, hx, rfl⟩ := mP.mp hy
  refine ⟨by have := hw x hx; show 1 + x.2.length <= 11; lia, ?_⟩
  show (if x.2 = [] then ends x.1 else [13, 10]).length <= 2
  split
  ·rcases he x.1 with h | h | h <;> rw [h] <;> decide
  ·decide)
 have e : (mailD ends its).length = its.length := by exact lM _
 rw [e] at this
 lia
theorem sum_comp {sl : Slots} {σ : Sto} {i kid lid : Nat} {x y z : UInt64} {q : List V} {ks : List Nat} {l : Nat -> Nat} (n : Nat) (g5 : getSl sl 5 = some (.lst lid)) (g9 : getSl sl 9 = some (.lst i)) (hi : σ[i]? = some (.flt x :: .flt y :: .flt z :: .lst kid :: q)) (hq : q.length <= 100) (mk : σ[kid]? = some (ks.map fun k => V.int (k : Nat))) (ml : σ[lid]? = some ((lR 6).map fun k => .int (l k)))
  (h6 : ∀ k ∈ ks, k < 6) (hl : ks.length <= 6) :
  ∃ σ', (recN (n + 60)).eval (.call (.glob .sum) [(.comp (.sub (.var 1) (.var 0)) [5] (.sub (.var 9) (.int 3)) none)]) sl σ = some (.int ((ks.map l).sum : Nat), σ') /\ Mods [] σ σ' := by
 obtain ⟨σ', e, m⟩ := cp_gen (σ := σ) (src := .lst kid) (N := ks.length) (K := 40) (cap := [some (.lst lid)]) (e := .sub (.var 1) (.var 0)) (fun j => .int (ks.getD j 0 : Nat)) (fun j => .int (l (ks.getD j 0) : Nat)) (qT hl qL)
  (fun σ' m j => by
   rw [z7 (m.2 _ _ nmN mk)]
   congr 1
   by_cases hj : j < ks.length
   ·rw [if_pos hj]; simp [hj]
   ·rw [if_neg hj]; exact List.getElem?_eq_none (by simp; exact qG hj))
  (fun j hj σ' m k => by
   refine ⟨σ', ?_, .refl⟩
   have h : ks.getD j 0 < 6 := by
    have : ks.getD j 0 = ks[j] := by simp [hj]
    rw [this]; exact h6 _ (List.getElem_mem hj)
   exact zM (n := k + 39) (zA (zG zE)) (zA zE) (zH (m.2 _ _ nmN ml) rfl qL (zS h)))
  (n + 17 - ks.length) ks.length 0 σ .refl (Nat.add_comm _ _)
 have e2 : n + 17 - ks.length + 40 + 1 + ks.length = n + 58 := fz2 (fk (by assumption))
 rw [e2] at e
 have e0 : (lR 0).map (fun j => V.int (l (ks.getD j 0) : Nat)) = [] := rfl
 rw [e0] at e
 refine ⟨σ' ++ [(lR ks.length).map fun j => V.int (l (ks.getD j 0) : Nat)], ?_, m.trans .app⟩
 have a1 : subV (.lst i) (.int 3) σ = some (.lst kid) := zH (j := 3) hi rfl (by simp; exact qT hq qL) rfl
 have hs : yW ((lR ks.length).map fun j => V.int (l (ks.getD j 0) : Nat)) 0 = some (((ks.map l).sum : Nat) : Int) := by
  have : ((lR ks.length).map fun j => V.int (l (ks.getD j 0) : Nat)) = (ks.map l).map fun a => V.int (a : Nat) := by
   apply List.ext_getElem?
   intro j
   by_cases hj : j < ks.length
   ·simp [hj]
   ·simp [hj]
  rw [this, sum_nats]
 refine ev_gsumL (n := n + 58) (zB (xN (n := n + 58) (zM (n := n + 57) (zA g9) zF a1) (z7 mk 0) (cap1 g5) e) zD) zI hs
noncomputable def GlowOk (p : Nat) (gv : V) (g : Nat) : Prop := (gv = .int 0 /\ g = 0) \/ ∃ x, gv = .flt x /\ FV x ((g : Int) * (8 - p) * 2 ^ 20)
theorem glow_add {p g L : Nat} {gv : V} {w : UInt64} (hp : 1 <= p /\ p < 5) (h : GlowOk p gv g) (fw : FV w ((L : Int) * (8 - p) * 2 ^ 20)) (hb : g + L <= 2000) : ∃ gv', (∀ σ, binF .Add gv (.flt w) σ = some (gv', σ)) /\ GlowOk p gv' (g + L) := by
 have hn : 0 <= ((g + L : Nat) : Int) * (8 - p) := Int.mul_nonneg qN (by lia)
 have hm : ((g + L : Nat) : Int) * (8 - p) <= 2000 * 8 := Int.mul_le_mul (by lia) (by lia) (by lia) (by decide)
 rcases h with ⟨rfl, rfl⟩ | ⟨x, rfl, fx⟩
 ·have f0 : FV (ofInt 0) (0 * 2 ^ 30) := FV_ofInt (by decide)
  refine ⟨_, fun σ => bi_addIF f0.infF, .inr ⟨_, rfl, ?_⟩⟩
  have e : (0 : Int) * 2 ^ 30 + (L : Int) * (8 - p) * 2 ^ 20 = ((0 + L : Nat) : Int) * (8 - p) * 2 ^ 20 := by simp
  exact e ▸ f0.add fw (e ▸ nbm hn hm)
 ·refine ⟨_, fun σ => bi_addF, .inr ⟨_, rfl, ?_⟩⟩
  have e : (g : Int) * (8 - p) * 2 ^ 20 + (L : Int) * (8 - p) * 2 ^ 20 = ((g + L : Nat) : Int) * (8 - p) * 2 ^ 20 := by
   rw [Int.natCast_add]; grind
  exact e ▸ fx.add fw (e ▸ nbm hn hm)
noncomputable def OLamp (M : List Nat) (T p : Nat) (σ : Sto) (v : V) (L : Nat) : Prop := (1 <= L /\ L <= 128) /\ ∃ i x y z rest, Hue T p (L : Nat) σ v i x y z rest /\ i ∉ M
theorem OLamp.hue {M : List Nat} {T p : Nat} {σ : Sto} {v : V} {L : Nat} (h : OLamp M T p σ v L) : (1 <= id L /\ id L <= 128) /\ ∃ i x y z rest, Hue T p (id L : Nat) σ v i x y z rest := by
 obtain ⟨a, i, x, y, z, q, H, _⟩ := h
 exact ⟨a, i, x, y, z, q, H⟩
theorem OLamp.mods {M : List Nat} {T p : Nat} {σ σ' : Sto} {v : V} {L : Nat} (h : OLamp M T p σ v L) (m : Mods M σ σ') : OLamp M T p σ' v L := by
 obtain ⟨a, i, x, y, z, q, H, hi⟩ := h
 exact ⟨a, i, x, y, z, q, H.mods m hi, hi⟩
theorem Lamp.other {M : List Nat} {T p : Nat} {ends : Nat -> List Nat} {σ : Sto} {v : V} {d : D} (h : Lamp M T p ends σ v d) : OLamp M T p σ v d.1 := by
 obtain ⟨a, i, x, y, z, kid, H, _, hi, _⟩ := h
 exact ⟨a, i, x, y, z, _, H, hi⟩
theorem nin {a b : Nat} {M : List Nat} (h : a ∈ M) (k : b ∉ M) : b ≠ a := fun e => k (e.symm ▸ h)
theorem Lamp.e {M : List Nat} {T p : Nat} {ends : Nat -> List Nat} {σ : Sto} {v : V} {d : D} {C : Prop} (h : Lamp M T p ends σ v d)
  (k : (1 <= d.1 /\ d.1 <= 128) -> ∀ i x y z kid, Hue T p (d.1 : Nat) σ v i x y z [.lst kid, .str (zZ (mailD ends d.2))] -> σ[kid]? = some (d.2.map fun x => .int (x.1 : Nat)) -> i ∉ M -> kid ∉ M -> i ≠ 0 -> kid ≠ 0 -> C) : C := by
 obtain ⟨a, i, x, y, z, kid, q⟩ := h
 exact k a i x y z kid q.1 q.2.1 q.2.2.1 q.2.2.2.1 q.2.2.2.2.1 q.2.2.2.2.2
theorem OLamp.e {M : List Nat} {T p : Nat} {σ : Sto} {v : V} {L : Nat} {C : Prop} (h : OLamp M T p σ v L) (k : (1 <= L /\ L <= 128) -> ∀ i x y z rest, Hue T p (L : Nat) σ v i x y z rest -> i ∉ M -> C) : C := by
 obtain ⟨a, i, x, y, z, q, H⟩ := h
 exact k a i x y z q H.1 H.2
noncomputable def mergeBody : List MS := [
  .set 20 (.meth (.var 6) .pop [(.int 0)]),
  .set 21 (.meth (.var 6) .pop [(.int 0)]),
  .for_ 2 (.sub (.var 20) (.int 3)) [
   .put (.var 17) (.var 2) (.bin .Add (.sub (.str [97, 98, 99, 100, 101]) (.var 19)) (.sub (.var 17) (.var 2)))],
  .for_ 2 (.sub (.var 21) (.int 3)) [
   .put (.var 17) (.var 2) (.bin .Add (.sub (.str [65, 66, 67, 68, 69]) (.var 19)) (.sub (.var 17) (.var 2)))],
  .set 9 (.bin .Add (.comp addElt [20, 21] (.call (.glob .range) [(.int 4)]) none) (.list [(.call (.glob (.fn .quote)) [(.bin .Add (.sub (.var 20) (.int 4)) (.sub (.var 21) (.int 4)))])])),
  .ite (.cmp .NotEq (.call (.glob (.fn .read)) [(.var 9)]) (.call (.glob (.fn .due)) [(.var 3), (.var 4), (.call (.glob .sum) [(.comp (.sub (.var 1) (.var 0)) [5] (.sub (.var 9) (.int 3)) none)])])) [
   .ret (.bool false)] [],
  .expr (.callk (.glob (.fn .insortR)) [(.var 6), (.var 9)] (.glob (.fn .value))),
  .set 20 (.meth (.var 7) .pop [(.int 0)]),
  .set 21 (.meth (.var 7) .pop [(.int 0)]),
  .set 9 (.comp addElt [20, 21] (.call (.glob .range) [(.int 3)]) none),
  .set 18 (.bin .Add (.var 18) (.call (.glob (.fn .light)) [(.var 9)])),
  .expr (.callk (.glob (.fn .insortL)) [(.var 7), (.var 9)] (.glob (.fn .light)))]
theorem law17_eq : b_law17 = .for_ 19 (.call (.glob .range) [(.int 5)]) mergeBody := rfl
theorem merge_step {M : List Nat} {T p st lid s o wid n g : Nat} {ends : Nat -> List Nat} {l : Nat -> Nat} {W : Nat -> List Nat} {sl : Slots} {σ : Sto} {vs vo : List V} {a b : D} {r : List D} {wa wb : Nat} {wr : List Nat} {gv : V}
  (hT : T < 64) (hp : 1 <= p /\ p < 5) (he : ∀ k, EndOk (ends k)) (hst : st < 5) (hl6 : ∀ k, 1 <= l k /\ l k <= 19) (n1 : s ≠ 0) (n2 : o ≠ 0) (n3 : wid ≠ 0) (nso : s ≠ o) (nws : wid ≠ s) (nwo : wid ≠ o) (hs : s ∈ M) (ho : o ∈ M) (hwM : wid ∈ M) (hlM : lid ∉ M) (hlt : ∀ x ∈ M, x < σ.length)
  (H : HL sl) (g3 : getSl sl 3 = some (.int T)) (g4 : getSl sl 4 = some (.int p)) (g5 : getSl sl 5 = some (.lst lid)) (g6 : getSl sl 6 = some (.lst s)) (g7 : getSl sl 7 = some (.lst o)) (g17 : getSl sl 17 = some (.lst wid)) (g18 : getSl sl 18 = some gv) (g19 : getSl sl 19 = some (.int (st : Nat)))
  (ml : σ[lid]? = some ((lR 6).map fun k => .int (l k))) (ms : σ[s]? = some vs) (as : All2 (Lamp M T p ends σ) vs (a :: b :: r)) (mo : σ[o]? = some vo) (ao : All2 (OLamp M T p σ) vo (wa :: wb :: wr))
  (mw : σ[wid]? = some ((lR 6).map fun k => V.str (W k))) (hW : ∀ k, k < 6 -> (W k).length <= 10)
  (h6 : ∀ x ∈ a.2 ++ b.2, x.1 < 6 /\ x.2.length <= 10) (hnd : (a.2.map Prod.fst ++ b.2.map Prod.fst).Nodup) (hla : a.2.length + b.2.length <= 6) (hsum : a.1 + b.1 = ((a.2 ++ b.2).map fun x => l x.1).sum) (hab : a.1 + b.1 <= 128) (hwab : wa + wb <= 128)
  (up : Up Prod.fst (a :: b :: r)) (hlr : r.length <= 8) (upw : Up id (wa :: wb :: wr)) (hlw : wr.length <= 8) (hg : GlowOk p gv g) (hgb : g + (wa + wb) <= 2000) :
  ∀ {C : Prop}, (∀ sl' σ' vs' vo' gv', (recN (n + 121)).exec mergeBody sl σ = some (.next, sl', σ') -> Same [2, 9, 18, 20, 21] sl sl' -> Mods M σ σ' -> σ'[s]? = some vs' -> All2 (Lamp M T p ends σ') vs' (insR Prod.fst (y9 st a b) r) -> σ'[o]? = some vo' -> All2 (OLamp M T p σ') vo' (insL id (wa + wb) wr) -> σ'[wid]? = some ((lR 6).map fun k => V.str (if k ∈ b.2.map Prod.fst then (65 + st) :: W k else if k ∈ a.2.map Prod.fst then (97 + st) :: W k else W k)) -> getSl sl' 18 = some gv' -> GlowOk p gv' (g + (wa + wb)) -> C) -> C := by
 intro C kk
 cases as with | cons ha as => cases as with | cons hb as =>
 rename_i va vb vr
 refine ha.e fun hba i_1 x_1 y_1 z_1 k_1 H_1 mk_1 ni_1 nk_1 z1 z2 => hb.e fun hbb i_2 x_2 y_2 z_2 k_2 H_2 mk_2 ni_2 nk_2 z3 z4 => ?_
 have va_eq := H_1.v
 have vb_eq := H_2.v
 subst va_eq; subst vb_eq
 have hlen : vr.length = r.length := as.length
 have p1 : methF .pop (.lst s) [.int 0] σ = some (.lst i_1, σ.set s (.lst i_2 :: vr)) := me_pop ms n1 (by simp; lia -zetaDelta)
 let σ1 : Sto := σ.set s (.lst i_2 :: vr)
 have ms1 : σ1[s]? = some (.lst i_2 :: vr) := yR ms
 have p2 : methF .pop (.lst s) [.int 0] σ1 = some (.lst i_2, σ1.set s vr) := me_pop ms1 n1 (by lia -zetaDelta)
 let σ2 : Sto := σ1.set s vr
 have M2 : Mods M σ σ2 := .trans (.set hs) (.set hs)
 have ms2 : σ2[s]? = some vr := yR ms1
 have mw2 : σ2[wid]? = some ((lR 6).map fun k => V.str (W k)) := by
  show ((σ.set s _).set s vr)[wid]? = _
  rw [gSN nws.symm, gSN nws.symm]; exact mw
 have mo2 : σ2[o]? = some vo := by
  show ((σ.set s _).set s vr)[o]? = _
  rw [gSN nso, gSN nso]; exact mo
 let sl2 := setSl (setSl sl 20 (.lst i_1)) 21 (.lst i_2)
 have S2 : Same [2, 9, 18, 20, 21] sl sl2 := .trans (.set (by decide)) (.set (by decide))
 have H2 : HL sl2 := zN (zN H)
 have q20 : getSl sl2 20 = some (.lst i_1) := gs_ne (by decide) (gs_eq H (by decide))
 have q21 : getSl sl2 21 = some (.lst i_2) := gs_eq (zN H) (by decide)
 obtain ⟨hn1, hn2, hdis⟩ := List.nodup_append.mp hnd
 have hka : ∀ k ∈ a.2.map Prod.fst, k < 6 := fun k hk => by obtain ⟨x, hx, rfl⟩ := mP.mp hk; exact (h6 x (List.mem_append_left _ hx)).1
 have hkb : ∀ k ∈ b.2.map Prod.fst, k < 6 := fun k hk => by obtain ⟨x, hx, rfl⟩ := mP.mp hk; exact (h6 x (List.mem_append_right _ hx)).1
 have i1 : subV (.lst i_1) (.int 3) σ2 = some (.lst k_1) := zH (j := 3) (M2.2 _ _ ni_1 H_1.at_) rfl qL rfl
 have mk_12 : σ2[k_1]? = some ((a.2.map Prod.fst).map fun k => V.int (k : Nat)) := by rw [mM]; exact M2.2 _ _ nk_1 mk_1
 have let1 : ([97, 98, 99, 100, 101] : List Nat)[st]? = some (97 + st) := by
  rcases l5 hst with rfl | rfl | rfl | rfl | rfl <;> rfl
 have let2 : ([65, 66, 67, 68, 69] : List Nat)[st]? = some (65 + st) := by
  rcases l5 hst with rfl | rfl | rfl | rfl | rfl <;> rfl
 have la6 : (a.2.map Prod.fst).length <= 6 := by simp; lia -zetaDelta
 have lb6 : (b.2.map Prod.fst).length <= 6 := by simp; lia -zetaDelta
 obtain ⟨sl3, e3, s3⟩ := word_loop (slot := 20) (base := 97) let1 (by decide) n3 (nin hwM nk_1) hka la6 (n + 90 - (a.2.map Prod.fst).length) (a.2.map Prod.fst) [] sl2 σ2 W rfl hn1 H2 (by decide) (S2.get g17 (by decide)) (S2.get g19 (by decide)) mk_12 mw2 (fun k hk => by have := hW k hk; lia -zetaDelta)
 have f3 : n + 90 - (a.2.map Prod.fst).length + 30 + (a.2.map Prod.fst).length = n + 120 := fz (fk la6)
 rw [f3] at e3
 let W1 : Nat -> List Nat := fun k => if k ∈ a.2.map Prod.fst then (97 + st) :: W k else W k
 let σ3 : Sto := σ2.set wid ((lR 6).map fun k => V.str (W1 k))
 have M3 : Mods M σ σ3 := M2.trans (.set hwM)
 have mw3 : σ3[wid]? = some ((lR 6).map fun k => V.str (W1 k)) := yR mw2
 have S3 : Same [2, 9, 18, 20, 21] sl sl3 := S2.trans (s3.mono (by decide))
 have H3 := s3.1 H2
 have i2 : subV (.lst i_2) (.int 3) σ3 = some (.lst k_2) := zH (j := 3) (M3.2 _ _ ni_2 H_2.at_) rfl qL rfl
 have mk_23 : σ3[k_2]? = some ((b.2.map Prod.fst).map fun k => V.int (k : Nat)) := by rw [mM]; exact M3.2 _ _ nk_2 mk_2
 obtain ⟨sl4, e4, s4⟩ := word_loop (slot := 21) (base := 65) let2 (by decide) n3 (nin hwM nk_2) hkb lb6 (n + 90 - (b.2.map Prod.fst).length) (b.2.map Prod.fst) [] sl3 σ3 W1 rfl hn2 H3 (by decide) (S3.get g17 (by decide)) (S3.get g19 (by decide)) mk_23 mw3 (fun k hk => by
  have := hW k hk
  show (if k ∈ a.2.map Prod.fst then (97 + st) :: W k else W k).length + _ <= 1000
  split
  ·simp only [List.length_cons]; lia -zetaDelta
  ·lia -zetaDelta)
 have f4 : n + 90 - (b.2.map Prod.fst).length + 30 + (b.2.map Prod.fst).length = n + 120 := fz (fk lb6)
 rw [f4] at e4
 let W2 : Nat -> List Nat := fun k => if k ∈ b.2.map Prod.fst then (65 + st) :: W1 k else W1 k
 let σ4 : Sto := σ3.set wid ((lR 6).map fun k => V.str (W2 k))
 have M4 : Mods M σ σ4 := M3.trans (.set hwM)
 have mw4 : σ4[wid]? = some ((lR 6).map fun k => V.str (W2 k)) := yR mw3
 have S4 : Same [2, 9, 18, 20, 21] sl sl4 := S3.trans (s4.mono (by decide))
 have H4 := s4.1 H3
 have hWW : (lR 6).map (fun k => V.str (W2 k)) = (lR 6).map fun k => V.str (if k ∈ b.2.map Prod.fst then (65 + st) :: W k else if k ∈ a.2.map Prod.fst then (97 + st) :: W k else W k) := by
  apply List.map_congr_left
  intro k _
  congr 1
  show (if k ∈ b.2.map Prod.fst then (65 + st) :: W1 k else W1 k) = _
  by_cases hk : k ∈ b.2.map Prod.fst
  ·rw [if_pos hk, if_pos hk]
   have : k ∉ a.2.map Prod.fst := fun q => hdis k q k hk rfl
   show (65 + st) :: (if k ∈ a.2.map Prod.fst then (97 + st) :: W k else W k) = _
   rw [if_neg this]
  ·rw [if_neg hk, if_neg hk]
 have ms4 : σ4[s]? = some vr := by
  show ((σ2.set wid _).set wid _)[s]? = _
  rw [gSN nws, gSN nws]; exact ms2
 have mo4 : σ4[o]? = some vo := by
  show ((σ2.set wid _).set wid _)[o]? = _
  rw [gSN nwo, gSN nwo]; exact mo2
 have r20 : getSl sl4 20 = some (.lst i_1) := s4.get (s3.get q20 (by decide)) (by decide)
 have r21 : getSl sl4 21 = some (.lst i_2) := s4.get (s3.get q21 (by decide)) (by decide)
 have at1 := M4.2 _ _ ni_1 H_1.at_
 have at2 := M4.2 _ _ ni_2 H_2.at_
 have mk1 := M4.2 _ _ nk_1 mk_1
 have mk2 := M4.2 _ _ nk_2 mk_2
 have cc := comp4 (n + 99) r20 r21 at1 at2 qQ qQ mk1 mk2 z2 z4 (by simp; lia -zetaDelta)
 let X := add x_1 x_2
 let Y := add y_1 y_2
 let Z := add z_1 z_2
 let K : List V := (a.2.map fun x => V.int (x.1 : Nat)) ++ (b.2.map fun x => V.int (x.1 : Nat))
 let σ5 : Sto := σ4 ++ [K] ++ [[.flt X, .flt Y, .flt Z, .lst σ4.length]]
 have hwa : ∀ x ∈ a.2, x.2.length <= 10 := fun x hx => (h6 x (List.mem_append_left _ hx)).2
 have hwb : ∀ x ∈ b.2, x.2.length <= 10 := fun x hx => (h6 x (List.mem_append_right _ hx)).2
 have lma := mail_len he hwa (by lia -zetaDelta)
 have lmb := mail_len he hwb (by lia -zetaDelta)
 have hmm := mail_merge he (st := st) (a := a) (b := b) fun x hx => (h6 x hx).1
 let m : List Nat := zZ (mailD ends (y9 st a b).2)
 have j1 : subV (.lst i_1) (.int 4) σ5 = some (.str (zZ (mailD ends a.2))) := zH (j := 4) (zK (zK at1)) rfl qL rfl
 have j2 : subV (.lst i_2) (.int 4) σ5 = some (.str (zZ (mailD ends b.2))) := zH (j := 4) (zK (zK at2)) rfl qL rfl
 have j3 : ∀ σ, binF .Add (.str (zZ (mailD ends a.2))) (.str (zZ (mailD ends b.2))) σ = some (.str (zZ (mailD ends a.2) ++ zZ (mailD ends b.2)), σ) := fun σ => bi_addS (by lia -zetaDelta)
 have j4 : ∀ n σ, (recN (n + 12)).call .quote [.str (zZ (mailD ends a.2) ++ zZ (mailD ends b.2))] σ = some (.str m, σ) := fun n σ => by rw [quote_run n (by simp; lia -zetaDelta), hmm]
 let σ6 : Sto := σ5 ++ [[.str m]]
 have l5 : σ5.length = σ4.length + 2 := by simp [σ5]
 have hσ4 : 0 < σ4.length := by have := zT ms4; lia -zetaDelta
 have j5 : σ6[σ4.length + 1]? = some [.flt X, .flt Y, .flt Z, .lst σ4.length] := by
  have : σ4.length + 1 = (σ4 ++ [K]).length := by simp
  rw [this]; exact zK zI
 have j6 : σ6[σ5.length]? = some [.str m] := zI
 let σ7 : Sto := σ6 ++ [[V.flt X, .flt Y, .flt Z, .lst σ4.length] ++ [.str m]]
 have j7 : binF .Add (.lst (σ4.length + 1)) (.lst σ5.length) σ6 = some (.lst σ6.length, σ7) := bi_addL j5 j6 (by lia -zetaDelta) (by lia -zetaDelta) qL
 let sl5 := setSl sl4 9 (.lst σ6.length)
 have S5 : Same [2, 9, 18, 20, 21] sl sl5 := S4.trans (.set (mT _ mcS))
 have H5 : HL sl5 := zN H4
 have q9 : getSl sl5 9 = some (.lst σ6.length) := gs_eq H4 (by decide)
 have A7 : Mods [] σ4 σ7 := .trans .app (.trans .app (.trans .app .app))
 have hcol : Col T p ((a.1 + b.1 : Nat) : Int) X Y Z := by
  have := Col.add hT hp H_1.col H_2.col (by lia -zetaDelta) (by lia -zetaDelta) (by lia -zetaDelta)
  rw [Int.natCast_add]; exact this
 have hue : Hue T p ((a.1 + b.1 : Nat) : Int) σ7 (.lst σ6.length) σ6.length X Y Z [.lst σ4.length, .str m] := ⟨rfl, zI, hcol, by exact qL⟩
 obtain ⟨ra, rb, rd, du, hq⟩ := hue.check hT hp (by lia -zetaDelta)
 let σ8 : Sto := σ7 ++ [ra]
 have A8 : Mods [] σ4 σ8 := A7.trans .app
 have hK : K = ((a.2 ++ b.2).map Prod.fst).map fun k => V.int (k : Nat) := by simp only [K, List.map_append, mM]; rfl
 have mkK : σ8[σ4.length]? = some (((a.2 ++ b.2).map Prod.fst).map fun k => V.int (k : Nat)) := by
  rw [← hK]; exact zK (zK (zK (zK zI)))
 obtain ⟨σ9, e9, A9⟩ := sum_comp (σ := σ8) (n + 58) (S5.get g5 (by decide)) q9 (zK zI) qQ mkK (A8.2 _ _ nmN (M4.2 _ _ hlM ml)) (fun k hk => by obtain ⟨x, hx, rfl⟩ := mP.mp hk; exact (h6 x hx).1) (by simp; lia -zetaDelta)
 have hss : (((a.2 ++ b.2).map Prod.fst).map l).sum = a.1 + b.1 := by rw [mM, hsum]; rfl
 rw [hss] at e9
 let σ10 : Sto := σ9 ++ [rb]
 have A10 : Mods [] σ4 σ10 := A8.trans (A9.trans .app)
 have f1 : σ10[σ7.length]? = some ra := zK (A9.2 _ _ nmN zI)
 have f2 : σ10[σ9.length]? = some rb := zI
 have f3' := neL f1 f2 hq
 have M10 : Mods M σ σ10 := M4.trans A10.nil
 have hz0 := zT ms
 have l6 : σ6.length = σ4.length + 3 := by simp [σ6, l5]
 have newL : Lamp M T p ends σ10 (.lst σ6.length) (y9 st a b) := by
  refine ⟨⟨by show 1 <= a.1 + b.1; lia -zetaDelta, hab⟩, σ6.length, X, Y, Z, σ4.length, ?_, ?_, fun m => absurd (hlt _ m) (by have := M4.1; lia -zetaDelta), fun m => absurd (hlt _ m) (qK M4.1), by lia -zetaDelta, Nat.ne_of_gt hσ4⟩
  ·exact hue.mods (M := []) (Mods.trans .app (A9.trans .app)) nmN
  ·have : (y9 st a b).2.map (fun x => V.int (x.1 : Nat)) = K := by simp [y9, K, mM, Function.comp_def]
   rw [this, hK]
   exact zK (A9.2 _ _ nmN mkK)
 obtain ⟨vs1, ins1, as1⟩ := row_insR (key := Prod.fst) hT hp n1 (A10.2 _ _ nmN ms4) (as.mono fun J J h => Lamp.mods h M10) (fun J J h => Lamp.hue h) (up.tail.tail) (by lia -zetaDelta) newL
 let σ11 : Sto := σ10.set s vs1
 have M11 : Mods M σ10 σ11 := .set hs
 have mo11 : σ11[o]? = some vo := by
  show (σ10.set s vs1)[o]? = _
  rw [gSN nso]; exact A10.2 _ _ nmN mo4
 cases ao with | cons hc ao => cases ao with | cons hd ao =>
 rename_i ua ub ur
 refine hc.e fun hca j_1 p_1 p_2 p_3 q_1 G_1 nj_1 => hd.e fun hcb j_2 t_1 t_2 t_3 q_2 G_2 nj_2 => ?_
 have ua_eq := G_1.v
 have ub_eq := G_2.v
 subst ua_eq; subst ub_eq
 have hlen2 : ur.length = wr.length := ao.length
 have p3 : methF .pop (.lst o) [.int 0] σ11 = some (.lst j_1, σ11.set o (.lst j_2 :: ur)) := me_pop mo11 n2 (by simp; lia -zetaDelta)
 let σ12 : Sto := σ11.set o (.lst j_2 :: ur)
 have mo12 : σ12[o]? = some (.lst j_2 :: ur) := yR mo11
 have p4 : methF .pop (.lst o) [.int 0] σ12 = some (.lst j_2, σ12.set o ur) := me_pop mo12 n2 (by lia -zetaDelta)
 let σ13 : Sto := σ12.set o ur
 have mo13 : σ13[o]? = some ur := yR mo12
 have M13 : Mods M σ10 σ13 := M11.trans (.trans (.set ho) (.set ho))
 let sl7 := setSl (setSl sl5 20 (.lst j_1)) 21 (.lst j_2)
 have S7 : Same [2, 9, 18, 20, 21] sl sl7 := S5.trans (.trans (.set (by decide)) (.set (by decide)))
 have H7 : HL sl7 := zN (zN H5)
 have w20 : getSl sl7 20 = some (.lst j_1) := gs_ne (by decide) (gs_eq H5 (by decide))
 have w21 : getSl sl7 21 = some (.lst j_2) := gs_eq (zN H5) (by decide)
 have M013 : Mods M σ σ13 := M10.trans M13
 have c3 := comp3 (n + 100) w20 w21 (M013.2 _ _ nj_1 G_1.at_) (M013.2 _ _ nj_2 G_2.at_) G_1.len G_2.len
 let σ14 : Sto := σ13 ++ [[.flt (add p_1 t_1), .flt (add p_2 t_2), .flt (add p_3 t_3)]]
 have hcol2 : Col T p ((wa + wb : Nat) : Int) (add p_1 t_1) (add p_2 t_2) (add p_3 t_3) := by
  have := Col.add hT hp G_1.col G_2.col (by lia -zetaDelta) (by lia -zetaDelta) (by lia -zetaDelta)
  rw [Int.natCast_add]; exact this
 have hue2 : Hue T p ((wa + wb : Nat) : Int) σ14 (.lst σ13.length) σ13.length (add p_1 t_1) (add p_2 t_2) (add p_3 t_3) [] := ⟨rfl, zI, hcol2, by simp⟩
 obtain ⟨lw, flw, elw⟩ := hue2.light hT hp (by lia -zetaDelta)
 obtain ⟨gv', eg, hg'⟩ := glow_add hp hg flw hgb
 let sl8 := setSl sl7 9 (.lst σ13.length)
 let sl9 := setSl sl8 18 gv'
 have S8 : Same [2, 9, 18, 20, 21] sl sl8 := S7.trans (.set (mT _ mcS))
 have H8 : HL sl8 := zN H7
 have S9 : Same [2, 9, 18, 20, 21] sl sl9 := S8.trans (.set (by decide))
 have v9 : getSl sl8 9 = some (.lst σ13.length) := gs_eq H7 (by decide)
 have v9' : getSl sl9 9 = some (.lst σ13.length) := gs_ne (by decide) v9
 have v18 : getSl sl8 18 = some gv := by
  have u4 : getSl sl4 18 = some gv := s4.get (s3.get (gs_ne (by decide) (gs_ne (by decide) g18)) (by decide)) (by decide)
  exact gs_ne (by decide) (gs_ne (by decide) (gs_ne (by decide) (gs_ne (by decide) u4)))
 have M14 : Mods M σ σ14 := M013.trans .app
 have h13 : σ13.length = σ10.length := by simp [σ13, σ12, σ11]
 have newO : OLamp M T p σ14 (.lst σ13.length) (wa + wb) := ⟨⟨by lia -zetaDelta, hwab⟩, σ13.length, _, _, _, _, hue2, fun m => absurd (hlt _ m) (qK M013.1)⟩
 have mo14 : σ14[o]? = some ur := zK mo13
 obtain ⟨vo1, ins2, ao1⟩ := row_insL (key := id) hT hp n2 mo14 (ao.mono fun J J h => OLamp.mods h M14) (fun J J h => OLamp.hue h) (upw.tail.tail) (by lia -zetaDelta) newO
 let σ15 : Sto := σ14.set o vo1
 have M15 : Mods M σ14 σ15 := .set ho
 have ms11 : σ11[s]? = some vs1 := yR (A10.2 _ _ nmN ms4)
 refine kk sl9 σ15 vs1 vo1 gv' ?_ S9 (M14.trans M15) ?_ ?_ (yR mo14) ?_ ?_ (gs_eq H8 (by decide)) hg'
 ·unfold mergeBody
  have g6a : getSl (setSl sl 20 (.lst i_1)) 6 = some (.lst s) := gs_ne (by decide) g6
  have q21' : getSl sl3 21 = some (.lst i_2) := s3.get q21 (by decide)
  have g7a : getSl (setSl sl5 20 (.lst j_1)) 7 = some (.lst o) := gs_ne (by decide) (S5.get g7 (by decide))
  refine zC (sl_1 := setSl sl 20 (.lst i_1)) (σ_1 := σ1) ?_ (zC (sl_1 := sl2) (σ_1 := σ2) ?_ (zC (sl_1 := sl3) (σ_1 := σ3) ?_ (zC (sl_1 := sl4) (σ_1 := σ4) ?_ (zC (sl_1 := sl5) (σ_1 := σ7) ?_ (zC (sl_1 := sl5) (σ_1 := σ10) ?_ (zC (sl_1 := sl5) (σ_1 := σ11) ?_
   (zC (sl_1 := setSl sl5 20 (.lst j_1)) (σ_1 := σ12) ?_ (zC (sl_1 := sl7) (σ_1 := σ13) ?_ (zC (sl_1 := sl8) (σ_1 := σ14) ?_ (zC (sl_1 := sl9) (σ_1 := σ14) ?_ (zC (sl_1 := sl9) (σ_1 := σ15) ?_ zQ)))))))))))
  ·exact zO (xM (n := n + 119) (zA g6) (zB zF zD) p1) rfl
  ·exact zO (xM (n := n + 119) (zA g6a) (zB zF zD) p2) rfl
  ·exact st_for (zM (n := n + 119) (zA q20) zF i1) (z7 mk_12 0) e3
  ·exact st_for (zM (n := n + 119) (zA q21') zF i2) (z7 mk_23 0) e4
  ·exact zO (zL (n := n + 119) cc (yT (n := n + 118) (zB (xC (n := n + 116) kw_quote (zB (zL (zM (zA r20) zF j1) (zM (zA r21) zF j2) (j3 _)) zD) (j4 _ _)) zD) qQ) j7) rfl
  ·exact zY (zW (n := n + 119) (xC (n := n + 117) kw_read (zB (zA q9) zD) (rd (n + 98))) (xC (n := n + 117) kw_due (zB (zA (S5.get g3 (by decide))) (zB (zA (S5.get g4 (by decide))) (zB e9 zD))) (du (n + 106) _)) f3') (if_f zQ)
  ·exact st_expr (ev_callk2 (n := n + 119) (.inl rfl) gl_fn (zB (zA (S5.get g6 (by decide))) (zB (zA q9) zD)) gl_fn (ins1 (n + 39)))
  ·exact zO (xM (n := n + 119) (zA (S5.get g7 (by decide))) (zB zF zD) p3) rfl
  ·exact zO (xM (n := n + 119) (zA g7a) (zB zF zD) p4) rfl
  ·exact zO c3 rfl
  ·exact zO (zL (n := n + 119) (zA v18) (xC (n := n + 117) kw_light (zB (zA v9) zD) (elw (n + 98))) (eg _)) rfl
  ·exact st_expr (ev_callk2 (n := n + 119) (.inr rfl) gl_fn (zB (zA (S9.get g7 (by decide))) (zB (zA v9') zD)) gl_fn (ins2 (n + 39)))
 ·show (σ14.set o vo1)[s]? = _
  rw [gSN nso.symm]
  refine zK ?_
  show ((σ11.set o _).set o ur)[s]? = _
  rw [gSN nso.symm, gSN nso.symm]; exact ms11
 ·exact as1.mono fun J J h => Lamp.mods h (M13.trans (Mods.trans .app M15))
 ·exact ao1.mono fun J J h => OLamp.mods h M15
 ·rw [← hWW]
  show (σ14.set o vo1)[wid]? = _
  rw [gSN nwo.symm]
  refine zK ?_
  show (((σ10.set s vs1).set o _).set o ur)[wid]? = _
  rw [gSN nwo.symm, gSN nwo.symm, gSN nws.symm]
  exact A10.2 _ _ nmN mw4
end Mine.Pl
namespace Mine.Pl
open PySem PySem.Float64
noncomputable def yG (ds : List D) : List Nat := ds.flatMap fun d => d.2.map Prod.fst
theorem sum_insR {α : Type} {key : α -> Nat} (f : α -> Nat) {x : α} {l : List α} : ((insR key x l).map f).sum = f x + (l.map f).sum := (((yN l).map f).sum_nat).trans suC
theorem sum_insL {α : Type} {key : α -> Nat} (f : α -> Nat) {x : α} {l : List α} : ((insL key x l).map f).sum = f x + (l.map f).sum := (((yN l).map f).sum_nat).trans suC
structure Inv (l : Nat -> Nat) (W : Nat -> List Nat) (st : Nat) (ds : List D) (ws : List Nat) (g : Nat) : Prop where
 i1 : ∀ d ∈ ds, ∀ x ∈ d.2, W x.1 = x.2
 iw : ∀ k, k < 6 -> (W k).length <= st
 i2 : ∀ d ∈ ds, d.1 = (d.2.map fun x => l x.1).sum
 i3 : (yG ds).Perm (lR 6)
 i4 : Up Prod.fst ds
 i5 : ds.length + st = 6
 i6 : (ds.map Prod.fst).sum <= 114
 j1 : Up id ws
 j2 : ws.length + st = 6
 j3 : (ws.map id).sum <= 114
 j4 : g <= 114 * st
noncomputable def wordsAt (st : Nat) (a b : D) (W : Nat -> List Nat) (k : Nat) : List Nat := if k ∈ b.2.map Prod.fst then (65 + st) :: W k else if k ∈ a.2.map Prod.fst then (97 + st) :: W k else W k
theorem Inv.step {l : Nat -> Nat} {W : Nat -> List Nat} {st : Nat} {a b : D} {r : List D} {wa wb : Nat} {wr : List Nat} {g : Nat} (I : Inv l W st (a :: b :: r) (wa :: wb :: wr) g) :
  Inv l (wordsAt st a b W) (st + 1) (insR Prod.fst (y9 st a b) r) (insL id (wa + wb) wr) (g + (wa + wb)) /\ (∀ x ∈ a.2 ++ b.2, x.1 < 6 /\ x.2.length <= st) /\ (a.2.map Prod.fst ++ b.2.map Prod.fst).Nodup /\ a.2.length + b.2.length <= 6 /\ a.1 + b.1 <= 114 /\ wa + wb <= 114 /\ a.1 + b.1 = ((a.2 ++ b.2).map fun x => l x.1).sum := by
 have e3 : yG (a :: b :: r) = a.2.map Prod.fst ++ (b.2.map Prod.fst ++ yG r) := by rfl
 have nd : (a.2.map Prod.fst ++ (b.2.map Prod.fst ++ yG r)).Nodup := by
  rw [← e3]; exact I.i3.nodup_iff.mpr List.nodup_range
 refine byC fun hG => ?_
 obtain ⟨na, nbr, dabr⟩ := List.nodup_append.mp nd
 obtain ⟨nb, nr, dbr⟩ := List.nodup_append.mp nbr
 refine hG ?_
 have hlt : ∀ k ∈ yG (a :: b :: r), k < 6 := fun k hk => mR.mp (I.i3.mem_iff.mp hk)
 have hlen := I.i3.length_eq
 rw [e3] at hlen hlt
 simp only [List.length_append, lM, List.length_range] at hlen
 have hs := I.i6
 have hw := I.j3
 simp only [mcC, suC, id] at hs hw
 have hx : ∀ x ∈ a.2 ++ b.2, x.1 < 6 /\ x.2.length <= st := by
  intro x hx
  have h6 : x.1 < 6 := by
   rcases mA.mp hx with h | h
   ·exact hlt _ (by simp only [mA]; exact .inl (mP.mpr ⟨x, h, rfl⟩))
   ·exact hlt _ (by simp only [mA]; exact .inr (.inl (mP.mpr ⟨x, h, rfl⟩)))
  have hW : W x.1 = x.2 := by
   rcases mA.mp hx with h | h
   ·exact I.i1 a mcS x h
   ·exact I.i1 b (mT _ mcS) x h
  exact ⟨h6, by rw [← hW]; exact I.iw _ h6⟩
 have hsum : a.1 + b.1 = ((a.2 ++ b.2).map fun x => l x.1).sum := by
  rw [List.map_append, List.sum_append_nat, ← I.i2 a mcS, ← I.i2 b (mT _ mcS)]
 refine ⟨⟨?_, ?_, ?_, ?_, insR_up _ (I.i4.tail.tail), ?_, ?_, insL_up _ (I.j1.tail.tail), ?_, ?_, ?_⟩, hx, ?_, by lia, by lia, by lia, hsum⟩
 ·intro d hd x hx
  rcases (mem_insR Prod.fst).mp hd with rfl | hd
  ·simp only [y9, mA, mP] at hx
   unfold wordsAt
   rcases hx with ⟨y, hy, rfl⟩ | ⟨y, hy, rfl⟩
   ·have h1 : y.1 ∈ a.2.map Prod.fst := mP.mpr ⟨y, hy, rfl⟩
    have h2 : y.1 ∉ b.2.map Prod.fst := fun q => dabr _ h1 _ (mA.mpr (.inl q)) rfl
    show (if y.1 ∈ _ then _ else if y.1 ∈ _ then _ else _) = _
    rw [if_neg h2, if_pos h1, I.i1 a mcS y hy]
   ·have h1 : y.1 ∈ b.2.map Prod.fst := mP.mpr ⟨y, hy, rfl⟩
    show (if y.1 ∈ _ then _ else if y.1 ∈ _ then _ else _) = _
    rw [if_pos h1, I.i1 b (mT _ mcS) y hy]
  ·have h0 : x.1 ∈ yG r := by
    unfold yG
    exact List.mem_flatMap.mpr ⟨d, hd, mP.mpr ⟨x, hx, rfl⟩⟩
   have h1 : x.1 ∉ a.2.map Prod.fst := fun q => dabr _ q _ (mA.mpr (.inr h0)) rfl
   have h2 : x.1 ∉ b.2.map Prod.fst := fun q => dbr _ q _ h0 rfl
   unfold wordsAt
   rw [if_neg h2, if_neg h1]
   exact I.i1 d (mT _ (mT _ hd)) x hx
 ·intro k hk
  have := I.iw k hk
  unfold wordsAt
  split
  ·simp only [List.length_cons]; exact qB this
  ·split
   ·simp only [List.length_cons]; exact qB this
   ·exact qS this
 ·intro d hd
  rcases (mem_insR Prod.fst).mp hd with rfl | hd
  ·show a.1 + b.1 = _
   rw [hsum]
   simp only [y9, List.map_append, mM, Function.comp_def]
  ·exact I.i2 d (mT _ (mT _ hd))
 ·have h1 : (yG (insR Prod.fst (y9 st a b) r)).Perm (yG (y9 st a b :: r)) := List.Perm.flatMap_right _ (yN _)
  have h2 : yG (y9 st a b :: r) = yG (a :: b :: r) := by
   rw [e3]
   simp [yG, y9, Function.comp_def]
  rw [h2] at h1
  exact h1.trans I.i3
 ·have := I.i5
  simp only [List.length_cons] at this
  rw [length_insR]; lia
 ·rw [sum_insR]
  show a.1 + b.1 + _ <= 114
  exact eC (Nat.add_assoc _ _ _) hs
 ·have := I.j2
  simp only [List.length_cons] at this
  rw [length_insL]; lia
 ·rw [sum_insL]
  show wa + wb + _ <= 114
  exact eC (Nat.add_assoc _ _ _) hw
 ·have := I.j4; lia
 ·exact List.nodup_append.mpr ⟨na, nb, fun x hx y hy => dabr x hx y (mA.mpr (.inl hy))⟩
theorem merge_loop {M : List Nat} {T p lid s o wid : Nat} {ends : Nat -> List Nat} {l : Nat -> Nat} (hT : T < 64) (hp : 1 <= p /\ p < 5) (he : ∀ k, EndOk (ends k)) (hl6 : ∀ k, 1 <= l k /\ l k <= 19) (n1 : s ≠ 0) (n2 : o ≠ 0) (n3 : wid ≠ 0) (nso : s ≠ o) (nws : wid ≠ s) (nwo : wid ≠ o) (hs : s ∈ M) (ho : o ∈ M) (hwM : wid ∈ M) (hlM : lid ∉ M) (n : Nat) :
  ∀ (r st : Nat) (sl : Slots) (σ : Sto) (vs vo : List V) (ds : List D) (ws : List Nat) (W : Nat -> List Nat) (g : Nat) (gv : V), st + r = 5 -> HL sl -> getSl sl 3 = some (.int T) -> getSl sl 4 = some (.int p) -> getSl sl 5 = some (.lst lid) -> getSl sl 6 = some (.lst s) -> getSl sl 7 = some (.lst o) -> getSl sl 17 = some (.lst wid) -> getSl sl 18 = some gv ->
   σ[lid]? = some ((lR 6).map fun k => .int (l k)) -> σ[s]? = some vs -> All2 (Lamp M T p ends σ) vs ds -> σ[o]? = some vo -> All2 (OLamp M T p σ) vo ws -> σ[wid]? = some ((lR 6).map fun k => V.str (W k)) -> GlowOk p gv g -> Inv l W st ds ws g -> (∀ x ∈ M, x < σ.length) ->
   ∀ {C : Prop}, (∀ sl' σ' vs' W' gv', (recN (n + 130 + r)).forr 19 (.rng 0 (5 : Nat) 1) st mergeBody sl σ = some (.next, sl', σ') -> Same [2, 9, 18, 19, 20, 21] sl sl' -> Mods M σ σ' -> σ'[s]? = some vs' -> All2 (Lamp M T p ends σ') vs' (iterD r st ds) -> σ'[wid]? = some ((lR 6).map fun k => V.str (W' k)) -> getSl sl' 18 = some gv' -> GlowOk p gv' (iterW r (ws, g)).2 -> Inv l W' 5 (iterD r st ds) (iterW r (ws, g)).1 (iterW r (ws, g)).2 -> C) -> C := by
 intro r; induction r with
 | zero =>
  intro st sl σ vs vo ds ws W g gv hst H g3 g4 g5 g6 g7 g17 g18 ml ms as mo ao mw hg I hlt C kk
  have : st = 5 := by exact hst
  subst this
  exact kk sl σ vs W gv (fr_end (n := n + 129) (xS (by decide) (nIR _))) .refl .refl ms as mw g18 hg I
 | succ r ih =>
  intro st sl σ vs vo ds ws W g gv hst H g3 g4 g5 g6 g7 g17 g18 ml ms as mo ao mw hg I hlt C kk
  have hst5 : st < 5 := by exact pA hst
  obtain ⟨a, b, dr, rfl⟩ : ∃ a b dr, ds = a :: b :: dr := by
   have := I.i5
   exact two_e (by lia)
  obtain ⟨wa, wb, wr, rfl⟩ : ∃ a b dr, ws = a :: b :: dr := by
   have := I.j2
   exact two_e (by lia)
  obtain ⟨I', hx, hnd, hla, hab, hwab, hsum⟩ := I.step
  have hl1 := I.i5
  have hl2 := I.j2
  simp only [List.length_cons] at hl1 hl2
  have hj4 := I.j4
  have sA : Same [2, 9, 18, 19, 20, 21] sl (setSl sl 19 (.int (st : Nat))) := .set (by decide)
  have sB : Same [19] sl (setSl sl 19 (.int (st : Nat))) := .set mcS
  refine merge_step (n := n + r + 9) (T := T) (p := p) (st := st) (lid := lid) (s := s) (o := o) (wid := wid) (g := g) (ends := ends) (l := l) (W := W) (sl := setSl sl 19 (.int (st : Nat))) (σ := σ) (vs := vs) (vo := vo) (a := a) (b := b) (r := dr) (wa := wa) (wb := wb) (wr := wr) (gv := gv) hT hp he hst5 hl6 n1 n2 n3 nso nws nwo hs ho hwM hlM hlt (zN H) (sB.get g3 (by decide)) (sB.get g4 (by decide)) (sB.get g5 (by decide)) (sB.get g6 (by decide)) (sB.get g7 (by decide)) (sB.get g17 (by decide)) (sB.get g18 (by decide)) (gs_eq H (by decide)) ml ms as mo ao mw (fun k hk => by have := I.iw k hk; exact qT this (wB hst5)) (fun x hx' => ⟨(hx x hx').1, by have := (hx x hx').2; exact qT this (wB hst5)⟩) hnd hla hsum (wA hab) (wA hwab) I.i4 (by lia) I.j1 (by lia) hg (by lia) fun sl1 σ1 vs1 vo1 gv1 e1 s1 m1 ms1 as1 mo1 ao1 mw1 k18 hg1 => ?_
  have s1' : Same [2, 9, 18, 19, 20, 21] sl sl1 := sA.trans (s1.mono (by decide))
  refine ih (st + 1) sl1 σ1 vs1 vo1 _ _ (wordsAt st a b W) (g + (wa + wb)) gv1 (pB hst) (s1'.1 H) (s1'.get g3 (by decide)) (s1'.get g4 (by decide)) (s1'.get g5 (by decide)) (s1'.get g6 (by decide)) (s1'.get g7 (by decide)) (s1'.get g17 (by decide)) k18 (m1.2 _ _ hlM ml) ms1 as1 mo1 ao1 mw1 hg1 I' (fun x h => qA (hlt x h) m1.1) fun sl' σ' vs' W' gv' run s2 m2 ms2 as2 mw2 k2 hg2 I2 => ?_
  refine kk sl' σ' vs' W' gv' ?_ (s1'.trans s2) (m1.trans m2) ms2 as2 mw2 k2 hg2 I2
  have b1 : n + 130 + (r + 1) = n + r + 130 + 1 := by exact qC
  have b2 : n + 130 + r = n + r + 130 := by exact qC
  rw [b2] at run
  rw [b1]
  exact xT (yC (n := 5) (by decide) hst5) rfl e1 run
end Mine.Pl
namespace Mine.Pl
open PySem PySem.Float64
theorem law18_ok {sl : Slots} {σ : Sto} {p c : Nat} {gv : V} (n : Nat) (hp : 1 <= p /\ p < 5) (g4 : getSl sl 4 = some (.int p)) (g12 : getSl sl 12 = some (.int (c : Nat))) (g18 : getSl sl 18 = some gv) (hg : GlowOk p gv c) (hc : 1 <= c /\ c <= 2000) : stepF (recN (n + 50)) b_law18 sl σ = some (.next, sl, σ) := by
 rcases hg with ⟨_, h⟩ | ⟨x, rfl, fx⟩
 ·exact absurd h (qH hc.1)
 ·have h0 : 0 <= (c : Int) * (8 - p) := Int.mul_nonneg qN (by lia)
  have h1 : (c : Int) * (8 - p) <= 2000 * 8 := Int.mul_le_mul (by lia) (by lia) (by lia) (by decide)
  have f : FV (ofFrac false ((c : Int) * (8 - p)).natAbs (1024 : Int).natAbs) ((c : Int) * (8 - p) * 2 ^ 20) := by
   have := FV_frac (a := (c : Int) * (8 - p)) (b := 1024) (c := (c : Int) * (8 - p) * 2 ^ 20) (by decide) h0 (by lia) (by lia)
   have e : (decide ((c : Int) * (8 - p) < 0) != decide ((1024 : Int) < 0)) = false := by simp; exact h0
   rwa [e] at this
  have b1 : binF .Mult (.int (c : Nat)) (.int (8 - (p : Int))) σ = some (.int ((c : Int) * (8 - p)), σ) := bi_mulI ⟨wH hc.2, s8 hp.2⟩
  have b2 := yZ (σ := σ) (a := (c : Int) * (8 - p)) (b := 1024) (by decide) h0 f.infF
  have q : cmpV σ .NotEq (.flt x) (.flt (ofFrac false ((c : Int) * (8 - p)).natAbs (1024 : Int).natAbs)) = some false := by
   show some (!(fltEq x _)) = _
   rw [fx.eq f]; simp
  unfold b_law18
  exact zY (zW (n := n + 49) (zA g18) (zL (n := n + 48) (zL (zA g12) (zL zF (zA g4) xV) b1) zF b2) q) (if_f zQ)
section
variable {n : Nat} {sl : Slots} {σ σ_1 σ_2 σ_3 : Sto}
theorem c2_end {e it : ME} {v : V} {i : Nat} {acc : List V} (h : zV σ v i = some none) : (recN (n + 1)).comp2 e it v i acc σ = some (acc, σ) := ob h rfl
theorem c2_step {e it : ME} {v y w : V} {z : Option V} {i : Nat} {acc acc' : List V} {r : List V × Sto} (h : zV σ v i = some (some y)) (h1 : (recN n).eval it [some y, none] σ = some (w, σ_1)) (h2 : zV σ_1 w 0 = some z) (h3 : (recN n).comp e [some y] w 0 none acc σ_1 = some (acc', σ_2)) (h4 : (recN n).comp2 e it v (i + 1) acc' σ_2 = some r) : (recN (n + 1)).comp2 e it v i acc σ = some r := ob h (ob h1 (ob h2 (ob h3 h4)))
theorem ev_comp2 {e it1 it2 : ME} {v : V} {z : Option V} {vs : List V} (h1 : (recN n).eval it1 sl σ = some (v, σ_1)) (h2 : zV σ_1 v 0 = some z) (h3 : (recN n).comp2 e it2 v 0 [] σ_1 = some (vs, σ_2)) : (recN (n + 1)).eval (.comp2 e it1 it2) sl σ = some (.lst σ_2.length, σ_2 ++ [vs]) := ob h1 (ob h2 (ob h3 rfl))
end
theorem law19_ok {T p s rid vid j : Nat} {M : List Nat} {ends : Nat -> List Nat} {sl : Slots} {σ : Sto} {v : V} {t : Nat} {its : List (Nat × List Nat)} {ρ pos : Nat -> Nat} (n : Nat) (hj : j < 5) (g6 : getSl sl 6 = some (.lst s)) (g10 : getSl sl 10 = some (.lst rid)) (g15 : getSl sl 15 = some (.lst vid))
  (ms : σ[s]? = some [v]) (hv : Lamp M T p ends σ v (t, its.map fun x => (ρ x.1, x.2))) (mr : σ[rid]? = some ((lR 6).map fun i => V.int (ρ i : Nat))) (mv : σ[vid]? = some ((lR 6).map fun k => V.int (((formP j).getD (pos k) 0 : Nat) : Int)))
  (h1 : ∀ i, i < 6 -> ρ i < 6 /\ pos (ρ i) = i) (hlen : its.length = 6) (hlt : ∀ x ∈ its, x.1 < 6) (hnd : ((its.map Prod.fst).map ρ).Nodup) (hsort : sortP (formP j) its = [0, 1, 2, 3, 4, 5]) :
  ∃ σ', stepF (recN (n + 80)) b_law19 sl σ = some (.next, sl, σ') /\ Mods [] σ σ' := by
 obtain ⟨J, i, x, y, z, kid, H, hk, J⟩ := hv
 have hv := H.v
 subst hv
 let ks : List Nat := (its.map Prod.fst).map ρ
 have hkl : ks.length = 6 := by simp [ks, hlen]
 have hk' : σ[kid]? = some (ks.map fun k => V.int (k : Nat)) := by rw [hk]; simp [ks, mM, Function.comp_def]
 have a1 : subV (.lst i) (.int 3) σ = some (.lst kid) := zH (j := 3) H.at_ rfl qL rfl
 obtain ⟨σ', e, m⟩ := cp_gen (σ := σ) (src := .lst kid) (N := 6) (K := 40) (cap := [some (.lst i)]) (e := .var 0) (fun j => .int (ks.getD j 0 : Nat)) (fun j => .int (ks.getD j 0 : Nat)) (by decide)
  (fun σ' m j => by
   rw [z7 (m.2 _ _ nmN hk')]
   congr 1
   by_cases hj : j < 6
   ·rw [if_pos hj]
    have : j < ks.length := by exact eA hkl hj
    rw [gMP, gEG this]
    simp [this]
   ·rw [if_neg hj]; exact List.getElem?_eq_none (by simp [hkl]; exact qG hj))
  (fun j hj σ' m k => ⟨σ', zA (n := k + 39) zE, .refl⟩)
  (n + 29) 6 0 σ .refl rfl
 have e0 : (lR 6).map (fun j => V.int (ks.getD j 0 : Nat)) = ks.map fun k => V.int (k : Nat) := by
  apply List.ext_getElem?
  intro q
  by_cases hq : q < 6
  ·have : q < ks.length := by exact eA hkl hq
   simp [hq, this]
  ·have : ¬ q < ks.length := by exact qK (eD hkl hq)
   simp [hq, this]
 rw [e0] at e
 have hs0 : zV σ (.lst s) 0 = some (some (.lst i)) := by rw [z7 ms]; rfl
 have c2 : (recN (n + 77)).comp2 (.var 0) (.sub (.var 0) (.int 3)) (.lst s) 0 [] σ = some (ks.map fun k => V.int (k : Nat), σ') := by
  refine c2_step (n := n + 76) hs0 (zM (n := n + 75) (zA zE) zF a1) (z7 hk' 0) e (c2_end (n := n + 75) ?_)
  rw [z7 (m.2 _ _ nmN ms)]
  rfl
 let σ2 : Sto := σ' ++ [ks.map fun k => V.int (k : Nat)]
 have m2 : Mods [] σ σ2 := m.trans .app
 have hk6 : ∀ a ∈ ks, a < 6 := by
  intro a ha
  obtain ⟨b, hb, rfl⟩ := mP.mp ha
  obtain ⟨x, hx, rfl⟩ := mP.mp hb
  exact (h1 _ (hlt x hx)).1
 have hkeys := keys_of (σ := σ2) (body := .neg (.sub (.var 1) (.var 0))) (cap := [some (.lst vid)]) (m := n + 78) (fun a => -(((formP j).getD (pos a) 0 : Nat) : Int)) ks (fun a ha => ev_neg (n := n + 77) (zM (n := n + 76) (zA (zG zE)) (zA zE) (zH (m2.2 _ _ nmN mv) rfl qL (zS (hk6 a ha)))))
 have hsrc := ev_comp2 (n := n + 77) (sl := sl) (zA g6) hs0 c2
 have hso := ev_sortk (n := n + 78) (sl := sl) (fr := [15]) hsrc (h2 := zI) (isInts_nats ks) ⟨by simp [hkl], nodup_nats hnd⟩ (cap1 g15) hkeys
 have hres : (sortK (ks.map fun a => (-(((formP j).getD (pos a) 0 : Nat) : Int), V.int (a : Nat)))).map (·.2) = (([0, 1, 2, 3, 4, 5] : List Nat).map ρ).map fun a => V.int (a : Nat) := by
  have e1 := ins_foldl (P := fun a => pos (ρ a) = a) (f := fun a => (-(((formP j).getD (pos (ρ a)) 0 : Nat) : Int), V.int (ρ a : Nat))) (c := fun a b => 5 - (formP j).getD a 0 < 5 - (formP j).getD b 0) (d := fun a b : Int × V => a.1 < b.1) (fun a b ha hb => by
   have h1 := form_le j a hj
   have h2 := form_le j b hj
   simp only [ha, hb]
   lia) (its.map Prod.fst) [] (fun q hq => by
   obtain ⟨x, hx, rfl⟩ := mP.mp hq
   exact (h1 _ (hlt x hx)).2) (fun J h => nomatch h)
  have e3 : (its.map Prod.fst).foldl (fun acc x => insR (fun i => 5 - (formP j).getD i 0) x acc) [] = [0, 1, 2, 3, 4, 5] := by
   rw [List.foldl_map]; exact hsort
  rw [mM]
  exact (congrArg (List.map Prod.snd) (e1.trans (congrArg (List.map _) e3)))
 rw [hres] at hso
 have hrow : ((lR 6).map fun i => V.int (ρ i : Nat)) = (([0, 1, 2, 3, 4, 5] : List Nat).map ρ).map fun a => V.int (a : Nat) := rfl
 rw [hrow] at mr
 refine ⟨σ2 ++ [(([0, 1, 2, 3, 4, 5] : List Nat).map ρ).map fun a => V.int (a : Nat)], ?_, m2.trans .app⟩
 unfold b_law19
 exact zY (zW (n := n + 79) hso (zA g10) (neL zI (zK (m2.2 _ _ nmN mr)) (eqL_ints _))) (if_f zQ)
theorem bi_mulS {σ : Sto} {a : List Nat} {n : Int} (hn : 0 <= n /\ n <= 1000) (hl : a.length <= 1000) : binF .Mult (.str a) (.int n) σ = some (.str (lQ n.toNat a).flatten, σ) := ob (show (if Op.Mult = Op.Mult /\ 0 <= n /\ n <= 1000 /\ a.length <= 1000 then some (V.str (lQ n.toNat a).flatten) else none) = _ from if_pos ⟨rfl, hn.1, hn.2, hl⟩) rfl
theorem neS {σ : Sto} {a b : List Nat} (h : a = b) : cmpV σ .NotEq (.str a) (.str b) = some false := ob (f := fun r => some (!r)) (eqS_t (σ := σ) h) rfl
theorem join_strs (xs : List (List Nat)) : joinStrs (xs.map V.str) = some xs.flatten := by
 induction xs with
 | nil => rfl
 | cons a r ih => exact ob ih rfl
theorem dots_flat (n : Nat) : (lQ n [46]).flatten = lQ n 46 := by
 induction n with
 | zero => rfl
 | succ n ih => rw [lRS, List.flatten_cons, ih, lRS]; rfl
theorem law20_ok {T p s wid : Nat} {M : List Nat} {ends : Nat -> List Nat} {sl : Slots} {σ : Sto} {v : V} {t : Nat} {its : List (Nat × List Nat)} {W : Nat -> List Nat} (n : Nat) (g6 : getSl sl 6 = some (.lst s)) (g17 : getSl sl 17 = some (.lst wid))
  (ms : σ[s]? = some [v]) (hv : Lamp M T p ends σ v (t, its)) (mw : σ[wid]? = some ((lR 6).map fun k => V.str (W k))) (hlen : its.length = 6) (hlt : ∀ x ∈ its, x.1 < 6 /\ W x.1 = x.2 /\ x.2 ≠ [] /\ x.2.length <= 10) :
  ∃ σ', stepF (recN (n + 80)) b_law20 sl σ = some (.next, sl, σ') /\ Mods [] σ σ' := by
 obtain ⟨J, i, x, y, z, kid, H, hk, J⟩ := hv
 have hv := H.v
 subst hv
 have s0 : subV (.lst s) (.int 0) σ = some (.lst i) := zH (j := 0) ms rfl qQ rfl
 have s3 : subV (.lst i) (.int 3) σ = some (.lst kid) := zH (j := 3) H.at_ rfl qL rfl
 have s4 : subV (.lst i) (.int 4) σ = some (.str (zZ (mailD ends its))) := zH (j := 4) H.at_ rfl qL rfl
 let rows : List (List Nat) := its.map fun x => rowOf (1 + x.2.length) (117 + x.1) [13, 10]
 have hmail : zZ (mailD ends its) = rows.flatten := by
  unfold zZ mailD
  rw [mM]
  congr 1
  apply List.map_congr_left
  intro q hq
  simp only [Function.comp]
  rw [if_neg (hlt q hq).2.2.1]
 let K : Nat -> Nat × List Nat := fun j => its.getD j (0, [])
 have hK : ∀ j, j < 6 -> its[j]? = some (K j) := fun j hj => by
  have : j < its.length := by exact eA hlen hj
  simp [K, this]
 obtain ⟨σ', e, m⟩ := cp_gen (σ := σ) (src := .lst kid) (N := 6) (K := 40) (cap := [some (.lst wid)]) (e := .bin .Add (.bin .Add (.bin .Mult (.str [46]) (.bin .Add (.int 1) (.call (.glob .len) [(.sub (.var 1) (.var 0))]))) (.sub (.str [117, 118, 119, 120, 121, 122]) (.var 0))) (.str [13, 10])) (fun j => .int ((K j).1 : Nat)) (fun j => .str (rowOf (1 + (K j).2.length) (117 + (K j).1) [13, 10])) (by decide)
  (fun σ' m j => by
   rw [z7 (m.2 _ _ nmN hk)]
   congr 1
   by_cases hj : j < 6
   ·rw [if_pos hj, gMP, hK j hj]; rfl
   ·rw [if_neg hj]; exact List.getElem?_eq_none (by simp [hlen]; exact qG hj))
  (fun j hj σ' m k => by
   refine ⟨σ', ?_, .refl⟩
   obtain ⟨h6, hW, J, hl⟩ := hlt (K j) (mOG (hK j hj))
   have a1 : subV (.lst wid) (.int ((K j).1 : Nat)) σ' = some (.str (K j).2) := by
    rw [← hW]; exact zH (m.2 _ _ nmN mw) rfl qL (zS h6)
   have a2 : subV (.str [117, 118, 119, 120, 121, 122]) (.int ((K j).1 : Nat)) σ' = some (.str [117 + (K j).1]) := sub_str rfl (by decide) (by rcases col_six h6 with q | q | q | q | q | q <;> rw [q] <;> rfl)
   have b1 : binF .Mult (.str [46]) (.int (1 + ((K j).2.length : Int))) σ' = some (.str (lQ (1 + (K j).2.length) 46), σ') := by
    rw [bi_mulS (by lia) (by decide)]
    have : (1 + ((K j).2.length : Int)).toNat = 1 + (K j).2.length := by exact Int.toNat_natCast _
    rw [this, dots_flat]
   have b2 : binF .Add (.str (lQ (1 + (K j).2.length) 46)) (.str [117 + (K j).1]) σ' = some (.str (lQ (1 + (K j).2.length) 46 ++ [117 + (K j).1]), σ') := bi_addS (by simp; lia)
   have b3 : binF .Add (.str (lQ (1 + (K j).2.length) 46 ++ [117 + (K j).1])) (.str [13, 10]) σ' = some (.str (rowOf (1 + (K j).2.length) (117 + (K j).1) [13, 10]), σ') := by
    rw [bi_addS (by simp; lia)]
    simp [rowOf]
   exact zL (n := k + 39) (zL (zL x9 (zL zF (ev_glenS (n := k + 34) (zB (zM (zA (zG zE)) (zA zE) a1) zD) (qT hl qL)) y6) b1) (zM x9 (zA zE) a2) b2) x9 b3)
  (n + 30) 6 0 σ .refl rfl
 have e0 : (lR 6).map (fun j => V.str (rowOf (1 + (K j).2.length) (117 + (K j).1) [13, 10])) = rows.map V.str := by
  apply List.ext_getElem?
  intro q
  by_cases hq : q < 6
  ·have := hK q hq
   simp [hq, rows, this]
  ·have : ¬ q < its.length := by exact qK (eD hlen hq)
   simp [hq, rows, this]
 rw [e0] at e
 have hjl : rows.flatten.length <= 10000 := by
  rw [← hmail]
  have := rows_len (B := 11) (l := mailD ends its) (by
   intro y hy
   obtain ⟨x, hx, rfl⟩ := mP.mp hy
   refine ⟨by have := (hlt x hx).2.2.2; show 1 + x.2.length <= 11; lia, ?_⟩
   show (if x.2 = [] then ends x.1 else [13, 10]).length <= 2
   rw [if_neg (hlt x hx).2.2.1]; decide)
  have e : (mailD ends its).length = its.length := by exact lM _
  lia
 have hjoin : methF .join (.str []) [.lst σ'.length] (σ' ++ [rows.map V.str]) = some (.str rows.flatten, σ' ++ [rows.map V.str]) := by
  exact ob zI (ob (join_strs _) (if_pos ⟨rfl, hjl⟩))
 refine ⟨σ' ++ [rows.map V.str], ?_, m.trans .app⟩
 unfold b_law20
 refine zY (zW (n := n + 79) (zM (n := n + 78) (zM (zA g6) zF s0) zF s4) (xM (n := n + 78) x9 (zB (xN (n := n + 77) (zM (zM (zA g6) zF s0) zF s3) (z7 hk 0) (cap1 g17) e) zD) hjoin) (neS hmail)) (if_f zQ)
end Mine.Pl
namespace Mine.Pl
open PySem PySem.Float64
noncomputable def placeL (lev : Nat -> Nat) : List Nat -> Nat -> (Nat -> Nat) -> Nat -> Nat
 | [], _, P => P
 | k :: r, a, P => placeL lev r (a + 2 ^ (5 - lev k)) (fun q => if q = k then a else P q)
theorem place_loop {lid0 pid vid : Nat} {lev : Nat -> Nat} {ks : List Nat} (hl5 : ∀ k, lev k <= 5) (hp : pid ≠ 0) (hpv : pid ≠ vid) (hpl : pid ≠ lid0) (hks : ∀ k ∈ ks, k < 6) (hkl : ks.length <= 6) (n : Nat) :
  ∀ (rest done : List Nat) (sl : Slots) (σ : Sto) (P : Nat -> Nat) (a : Nat), ks = done ++ rest -> HL sl -> getSl sl 15 = some (.lst vid) -> getSl sl 22 = some (.lst pid) -> getSl sl 23 = some (.int (a : Nat)) -> σ[lid0]? = some (ks.map fun k => V.int (k : Nat)) -> σ[vid]? = some ((lR 6).map fun k => V.int (lev k : Nat)) -> σ[pid]? = some ((lR 6).map fun k => V.int (P k : Nat)) ->
   ∃ sl', (recN (n + 30 + rest.length)).forr 2 (.lst lid0) done.length [.put (.var 22) (.var 2) (.var 23), .set 23 (.bin .Add (.var 23) (.bin .Pow (.int 2) (.bin .Sub (.int 5) (.sub (.var 15) (.var 2)))))] sl σ = some (.next, sl', σ.set pid ((lR 6).map fun k => V.int (placeL lev rest a P k : Nat))) /\ Same [2, 23] sl sl' := by
 intro rest; induction rest with
 | nil =>
  intro done sl σ P a hk H g15 g22 g23 mk mv mp
  refine ⟨sl, ?_, .refl⟩
  have : σ.set pid ((lR 6).map fun k => V.int (placeL lev [] a P k : Nat)) = σ := by
   have hlt := zT mp
   rw [gEG hlt] at mp
   show σ.set pid ((lR 6).map fun k => V.int (P k : Nat)) = σ
   rw [← sI mp]
   exact List.set_getElem_self hlt
  rw [this]
  refine fr_end (n := n + 29) ?_
  rw [z7 mk, hk]
  congr 1
  exact List.getElem?_eq_none (by simp)
 | cons k rest ih =>
  intro done sl σ P a hk H g15 g22 g23 mk mv mp
  have hk6 : k < 6 := hks k (by rw [hk]; exact List.mem_append_right _ mcS)
  let P1 : Nat -> Nat := fun q => if q = k then a else P q
  let a1 : Nat := a + 2 ^ (5 - lev k)
  have hle := hl5 k
  let sl1 := setSl sl 2 (.int (k : Nat))
  let sl2 := setSl sl1 23 (.int (a1 : Nat))
  have sA : Same [2, 23] sl sl2 := .trans (.set mcS) (.set (mT _ mcS))
  have H1 : HL sl1 := zN H
  have k2 : getSl sl1 2 = some (.int (k : Nat)) := gs_eq H (by decide)
  have k15 : getSl sl1 15 = some (.lst vid) := gs_ne (by decide) g15
  have k22 : getSl sl1 22 = some (.lst pid) := gs_ne (by decide) g22
  have k23 : getSl sl1 23 = some (.int (a : Nat)) := gs_ne (by decide) g23
  have e1 : ((lR 6).map fun k => V.int (P k : Nat)).set ((k : Nat) : Int).toNat (.int (a : Nat)) = (lR 6).map fun k => V.int (P1 k : Nat) := by
   rw [Int.toNat_natCast, wD hk6]
   apply List.map_congr_left
   intro q _
   show (if q = k then _ else _) = V.int ((if q = k then _ else _ : Nat) : Int)
   split <;> rfl
  have mp' := yR (ys := (lR 6).map fun k => V.int (P1 k : Nat)) mp
  have mv' : (σ.set pid ((lR 6).map fun k => V.int (P1 k : Nat)))[vid]? = some ((lR 6).map fun k => V.int (lev k : Nat)) := by rw [gSN hpv]; exact mv
  obtain ⟨sl', run, s1⟩ := ih (done ++ [k]) sl2 (σ.set pid ((lR 6).map fun k => V.int (P1 k : Nat))) P1 a1 (by rw [hk]; simp) (zN H1) (sA.get g15 (by decide)) (sA.get g22 (by decide)) (gs_eq H1 (by decide)) (by rw [gSN hpl]; exact mk) mv' mp'
  rw [List.set_set] at run
  refine ⟨sl', ?_, sA.trans s1⟩
  have b1 : n + 30 + (k :: rest).length = n + rest.length + 30 + 1 := by simp; exact qC
  have b2 : n + 30 + rest.length = n + rest.length + 30 := by exact qC
  have b3 : (done ++ [k]).length = done.length + 1 := by exact List.length_append
  rw [b2, b3] at run
  rw [b1]
  have it : zV σ (.lst lid0) done.length = some (some (.int (k : Nat))) := by
   rw [z7 mk, hk]; simp
  refine xT it rfl ?_ run
  have := st_put (n := n + rest.length + 29) (o := .var 22) (i := .var 2) (e := .var 23) (sl := sl1) (zA k23) (zA k22) (zA k2) mp hp qN (by simp; exact cC hk6) qL
  rw [e1] at this
  refine zC this (zC (sl_1 := sl2) ?_ zQ)
  have c1 : subV (.lst vid) (.int (k : Nat)) (σ.set pid ((lR 6).map fun k => V.int (P1 k : Nat))) = some (.int (lev k : Nat)) := zH mv' rfl qL (zS hk6)
  have c2 : ∀ σ, binF .Pow (.int 2) (.int (5 - (lev k : Int))) σ = some (.int ((2 ^ (5 - lev k) : Nat) : Int), σ) := fun σ => by
   rw [bi_powI (by lia)]
   have : (5 - (lev k : Int)).toNat = 5 - lev k := by simp
   rw [this]
   simp
  have c3 : ∀ σ, binF .Add (.int (a : Nat)) (.int ((2 ^ (5 - lev k) : Nat) : Int)) σ = some (.int (a1 : Nat), σ) := fun σ => by rw [y6]; rfl
  exact zO (zL (n := n + rest.length + 28) (zA k23) (zL zF (zL zF (zM (zA k15) (zA k2) c1) xV) (c2 _)) (c3 _)) rfl
theorem cp_filter {σ : Sto} {src : V} {N K : Nat} {e t : ME} {cap : Slots} (items ws : Nat -> V) (cond : Nat -> Bool) (hN : N <= 100) (hit : ∀ j, zV σ src j = some (if j < N then some (items j) else none))
  (ht : ∀ j, j < N -> ∀ m, (recN (m + K)).test t (some (items j) :: cap) σ = some (cond j, σ)) (h : ∀ j, j < N -> ∀ m, (recN (m + K)).eval e (some (items j) :: cap) σ = some (ws j, σ)) (n : Nat) :
  ∀ (d i : Nat), i + d = N -> (recN (n + K + 1 + d)).comp e cap src i (some t) (((lR i).filter cond).map ws) σ = some (((lR N).filter cond).map ws, σ) := by
 intro d; induction d with
 | zero =>
  intro i hd
  have : i = N := by exact hd
  subst this
  exact cp_end (by rw [hit, if_neg (nIR _)])
 | succ d ih =>
  intro i hd
  have ih := ih (i + 1) (pB hd)
  have a1 : n + K + 1 + (d + 1) = n + 1 + d + K + 1 := by lia
  have a2 : n + K + 1 + d = n + 1 + d + K := by lia
  rw [a2, List.range_succ, List.filter_append, List.map_append] at ih
  rw [a1]
  have hi : zV σ src i = some (some (items i)) := by rw [hit, if_pos (pA hd)]
  have hlen : (((lR i).filter cond).map ws).length <= i := by
   rw [lM]
   exact qT (List.length_filter_le _ _) (by simp)
  cases hc : cond i with
  | true =>
   have := ht i (pA hd) (n + 1 + d)
   rw [hc] at this
   refine cp_yes hi this (h i (pA hd) _) (by lia) ?_
   simpa [hc] using ih
  | false =>
   have := ht i (pA hd) (n + 1 + d)
   rw [hc] at this
   refine cp_no hi this ?_
   simpa [hc] using ih
theorem neI {σ : Sto} {a b : Int} (h : a = b) : cmpV σ .NotEq (.int a) (.int b) = some false := ob (f := fun r => some (!r)) (eqI_t (σ := σ) h) rfl
theorem splitP_spec : ∀ (a b : List Nat), a = (splitP a b).1 ++ (splitP a b).2.1 /\ b = (splitP a b).1 ++ (splitP a b).2.2 := by
 intro a; induction a with
 | nil => exact fun J => ⟨rfl, rfl⟩
 | cons x a ih => intro b; cases b with
  | nil => exact ⟨rfl, rfl⟩
  | cons y b =>
   by_cases h : x = y
   ·rw [show splitP (x :: a) (y :: b) = _ from if_pos h, ← h]
    exact ⟨congrArg (x :: ·) (ih b).1, congrArg (x :: ·) (ih b).2⟩
   ·rw [show splitP (x :: a) (y :: b) = _ from if_neg h]; exact ⟨rfl, rfl⟩
theorem pair_run {σ : Sto} {w w' : List Nat} {way : Int} (hσ : 0 < σ.length) (h : pairP w w' way = true) (n : Nat) : ∃ row, (recN (n + 150)).call .lev [.str w, .str w', .int way] σ = some (.int way, σ ++ [row]) := by
 obtain ⟨h1, h2⟩ := splitP_spec w w'
 delta pairP at h
 rcases e : splitP w w' with ⟨c, _ | ⟨x, a⟩, _ | ⟨y, b⟩⟩
 iterate 3 · rw [e] at h; exact nomatch h
 ·rw [e] at h h1 h2
  simp only [Bool.and_eq_true, decide_eq_true_eq] at h
  refine byC fun hG => ?_
  obtain ⟨⟨⟨⟨⟨⟨⟨hxy, hc⟩, ha⟩, hb⟩, hl⟩, hm⟩, hm'⟩, hd⟩ := h
  refine hG ?_
  obtain ⟨la, hla⟩ : ∃ la, (x :: a).getLast? = some la := ⟨_, List.getLast?_eq_some_getLast (List.cons_ne_nil _ _)⟩
  obtain ⟨lb, hlb⟩ : ∃ lb, (y :: b).getLast? = some lb := ⟨_, List.getLast?_eq_some_getLast (List.cons_ne_nil _ _)⟩
  rw [h1, h2]
  exact lev_run hσ hxy hc ha hb hla hlb (by rw [hla, hlb] at hl; exact fun q => hl (by rw [q])) hm hm' hd n
end Mine.Pl
namespace Mine.Pl
open PySem PySem.Float64
noncomputable def pairBody : List MS := [
   .set 26 (.call (.glob .len) [(.comp (.var 0) [22, 25, 2] (.call (.glob .range) [(.int 5)]) (some (.cmp .Eq (.bin .FloorDiv (.sub (.var 1) (.var 2)) (.bin .Pow (.int 2) (.var 0))) (.bin .FloorDiv (.sub (.var 1) (.var 3)) (.bin .Pow (.int 2) (.var 0))))))]),
   .set 27 (.bin .Sub (.bin .Mult (.int 2) (.bin .Sub (.call (.glob .max) [(.sub (.var 15) (.var 25)), (.sub (.var 15) (.var 2))]) (.var 26))) (.int 1)),
   .ite (.cmp .NotEq (.call (.glob (.fn .lev)) [(.sub (.var 17) (.var 25)), (.sub (.var 17) (.var 2)), (.var 27)]) (.var 27)) [
    .ret (.bool false)] []]
theorem cap3 {sl : Slots} {a b c : Nat} {v w u : V} (h : getSl sl a = some v) (h2 : getSl sl b = some w) (h3 : getSl sl c = some u) : zU sl [a, b, c] = [some v, some w, some u] := by
 unfold getSl at h h2 h3
 simp [zU, h, h2, h3]
theorem fdiv_pow {σ : Sto} {a i : Nat} (hi : i < 6) : binF .FloorDiv (.int (a : Nat)) (.int ((2 ^ i : Nat) : Int)) σ = some (.int ((a / 2 ^ i : Nat) : Int), σ) := by
 have : 0 < 2 ^ i := Nat.two_pow_pos i
 have : 2 ^ i <= 2 ^ 6 := Nat.pow_le_pow_right (by decide) (qW hi)
 rw [bi_fdivI (by lia)]
 rfl
theorem pow_two {σ : Sto} {i : Nat} (hi : i < 6) : binF .Pow (.int 2) (.int (i : Nat)) σ = some (.int ((2 ^ i : Nat) : Int), σ) := by
 rw [bi_powI (by lia), Int.toNat_natCast]
 simp
theorem pairs_loop {pid vid wid k : Nat} {P lev : Nat -> Nat} {W : Nat -> List Nat} (hk : k < 6) (hl5 : ∀ k, lev k <= 5) (hpair : ∀ j, j < k -> pairP (W j) (W k) (wayP (lev j) (lev k) (P j) (P k)) = true) (n : Nat) :
  ∀ (r j : Nat) (sl : Slots) (σ : Sto), j + r = k -> HL sl -> getSl sl 2 = some (.int (k : Nat)) -> getSl sl 15 = some (.lst vid) -> getSl sl 17 = some (.lst wid) -> getSl sl 22 = some (.lst pid) -> σ[vid]? = some ((lR 6).map fun k => V.int (lev k : Nat)) -> σ[wid]? = some ((lR 6).map fun k => V.str (W k)) -> σ[pid]? = some ((lR 6).map fun k => V.int (P k : Nat)) ->
   ∃ sl' σ', (recN (n + 200 + r)).forr 25 (.rng 0 (k : Nat) 1) j pairBody sl σ = some (.next, sl', σ') /\ Same [25, 26, 27] sl sl' /\ Mods [] σ σ' := by
 intro r; induction r with
 | zero =>
  intro j sl σ hj H g2 g15 g17 g22 mv mw mp
  exact ⟨sl, σ, fr_end (n := n + 199) (xS (wB hk) (pC hj)), .refl, .refl⟩
 | succ r ih =>
  intro j sl σ hj H g2 g15 g17 g22 mv mw mp
  have hjk : j < k := by exact pA hj
  have hj6 : j < 6 := by exact qM hjk hk
  let sl1 := setSl sl 25 (.int (j : Nat))
  have S1 : Same [25, 26, 27] sl sl1 := .set mcS
  have H1 : HL sl1 := zN H
  have k25 : getSl sl1 25 = some (.int (j : Nat)) := gs_eq H (by decide)
  have k2 := S1.get g2 (by decide)
  have k15 := S1.get g15 (by decide)
  have k17 := S1.get g17 (by decide)
  have k22 := S1.get g22 (by decide)
  let cond : Nat -> Bool := fun i => decide (P j / 2 ^ i = P k / 2 ^ i)
  have e1 := cp_filter (σ := σ) (src := .rng 0 (5 : Nat) 1) (N := 5) (K := 40) (cap := [some (.lst pid), some (.int (j : Nat)), some (.int (k : Nat))]) (e := .var 0) (t := .cmp .Eq (.bin .FloorDiv (.sub (.var 1) (.var 2)) (.bin .Pow (.int 2) (.var 0))) (.bin .FloorDiv (.sub (.var 1) (.var 3)) (.bin .Pow (.int 2) (.var 0)))) (fun i => .int (i : Nat)) (fun i => .int (i : Nat)) cond (by decide)
   (fun i => xE (by decide))
   (fun i hi m => by
    have a1 : subV (.lst pid) (.int (j : Nat)) σ = some (.int (P j : Nat)) := zH mp rfl qL (zS hj6)
    have a2 : subV (.lst pid) (.int (k : Nat)) σ = some (.int (P k : Nat)) := zH mp rfl qL (zS hk)
    have q : cmpV σ .Eq (.int ((P j / 2 ^ i : Nat) : Int)) (.int ((P k / 2 ^ i : Nat) : Int)) = some (cond i) := by
     show some ((((P j / 2 ^ i : Nat) : Int)) == ((P k / 2 ^ i : Nat) : Int)) = some (decide (P j / 2 ^ i = P k / 2 ^ i))
     congr 1
     rw [Bool.eq_iff_iff]
     simp only [beq_iff_eq, decide_eq_true_eq]
     exact Int.natCast_inj
    exact zW (n := m + 39) (zL (n := m + 38) (zM (zA (zG zE)) (zA (zG (zG zE))) a1) (zL zF (zA zE) (pow_two (qS hi))) (fdiv_pow (qS hi))) (zL (n := m + 38) (zM (zA (zG zE)) (zA (zG (zG (zG zE)))) a2) (zL zF (zA zE) (pow_two (qS hi))) (fdiv_pow (qS hi))) q)
   (fun i hi m => zA (n := m + 39) zE)
   (n + r + 151) 5 0 rfl
  have e0 : ((lR 0).filter cond).map (fun i => V.int (i : Nat)) = [] := rfl
  rw [e0] at e1
  let L : List V := ((lR 5).filter cond).map fun i => V.int (i : Nat)
  have hL : L.length = sharedP (P j) (P k) := by exact lM _
  have hL5 : sharedP (P j) (P k) <= 5 := by
   unfold sharedP
   exact qT (List.length_filter_le _ _) qR
  let σ1 : Sto := σ ++ [L]
  have m1 : Mods [] σ σ1 := .app
  have r5 : ∀ σ, yD .range [.int 5] σ = some (.rng 0 (5 : Int) 1, σ) := fun σ => rfl
  let sl2 := setSl sl1 26 (.int (L.length : Nat))
  have S2 : Same [25, 26, 27] sl sl2 := S1.trans (.set (mT _ mcS))
  have H2 : HL sl2 := zN H1
  have w26 : getSl sl2 26 = some (.int (L.length : Nat)) := gs_eq H1 (by decide)
  have w25 : getSl sl2 25 = some (.int (j : Nat)) := gs_ne (by decide) k25
  have a3 : subV (.lst vid) (.int (j : Nat)) σ1 = some (.int (lev j : Nat)) := zH (zK mv) rfl qL (zS hj6)
  have a4 : subV (.lst vid) (.int (k : Nat)) σ1 = some (.int (lev k : Nat)) := zH (zK mv) rfl qL (zS hk)
  have hl1 := hl5 j
  have hl2 := hl5 k
  have hmax : (if (lev k : Int) > lev j then (lev k : Int) else lev j) = ((max (lev j) (lev k) : Nat) : Int) := by split <;> lia
  have b1 : ∀ σ, binF .Mult (.int 2) (.int ((if (lev k : Int) > lev j then (lev k : Int) else lev j) - (L.length : Nat))) σ = some (.int (2 * (((max (lev j) (lev k) : Nat) : Int) - (sharedP (P j) (P k) : Nat))), σ) := fun σ => by
   rw [hmax, hL]
   exact bi_mulI (by lia)
  let way : Int := wayP (lev j) (lev k) (P j) (P k)
  have b2 : ∀ σ, binF .Sub (.int (2 * (((max (lev j) (lev k) : Nat) : Int) - (sharedP (P j) (P k) : Nat)))) (.int 1) σ = some (.int way, σ) := fun σ => by rw [xV]; rfl
  let sl3 := setSl sl2 27 (.int way)
  have S3 : Same [25, 26, 27] sl sl3 := S2.trans (.set (by decide))
  have H3 : HL sl3 := zN H2
  have v27 : getSl sl3 27 = some (.int way) := gs_eq H2 (by decide)
  have v25 : getSl sl3 25 = some (.int (j : Nat)) := gs_ne (by decide) w25
  have a5 : subV (.lst wid) (.int (j : Nat)) σ1 = some (.str (W j)) := zH (zK mw) rfl qL (zS hj6)
  have a6 : subV (.lst wid) (.int (k : Nat)) σ1 = some (.str (W k)) := zH (zK mw) rfl qL (zS hk)
  obtain ⟨row, lv⟩ := pair_run (σ := σ1) (by simp [σ1]) (hpair j hjk) (n + r + 47)
  let σ2 : Sto := σ1 ++ [row]
  have m2 : Mods [] σ σ2 := m1.trans .app
  obtain ⟨sl', σ', run, s', m'⟩ := ih (j + 1) sl3 σ2 (pB hj) H3 (S3.get g2 (by decide)) (S3.get g15 (by decide)) (S3.get g17 (by decide)) (S3.get g22 (by decide)) (m2.2 _ _ nmN mv) (m2.2 _ _ nmN mw) (m2.2 _ _ nmN mp)
  refine ⟨sl', σ', ?_, S3.trans s', m2.trans m'⟩
  have c1 : n + 200 + (r + 1) = n + r + 200 + 1 := by exact qC
  have c2 : n + 200 + r = n + r + 200 := by exact qC
  rw [c2] at run
  rw [c1]
  refine xT (yC (wB hk) hjk) rfl ?_ run
  unfold pairBody
  refine zC (n := n + r + 199) (sl_1 := sl2) (σ_1 := σ1) ?_ (zC (sl_1 := sl3) (σ_1 := σ1) ?_ (zC (sl_1 := sl3) (σ_1 := σ2) ?_ zQ))
  ·exact zO (ev_glenL (n := n + r + 197) (zB (xN (n := n + r + 197) (z9 (n := n + r + 195) (zB zF zD) (r5 _)) (yC (n := 5) (i := 0) (by decide) (by decide)) (cap3 k22 k25 k2) e1) zD) zI (by rw [hL]; exact qT hL5 qL)) rfl
  ·exact zO (zL (n := n + r + 198) (zL (n := n + r + 197) zF (zL (n := n + r + 196) (ev_gmaxI (n := n + r + 194) (zB (zM (zA (S2.get g15 (by decide))) (zA w25) a3) (zB (zM (zA (S2.get g15 (by decide))) (zA (S2.get g2 (by decide))) a4) zD))) (zA w26) xV) (b1 _)) zF (b2 _)) rfl
  ·exact zY (zW (n := n + r + 198) (xC (n := n + r + 196) kw_lev (zB (zM (zA (S3.get g17 (by decide))) (zA v25) a5) (zB (zM (zA (S3.get g17 (by decide))) (zA (S3.get g2 (by decide))) a6) (zB (zA v27) zD))) lv) (zA v27) (neI rfl)) (if_f zQ)
noncomputable def checkBody : List MS := [
  .set 24 (.comp (.bin .Mod (.bin .FloorDiv (.sub (.var 1) (.var 2)) (.bin .Pow (.int 2) (.bin .Sub (.int 4) (.var 0)))) (.int 2)) [22, 2] (.call (.glob .range) [(.sub (.var 15) (.var 2))]) none),
  .ite (.cmp .NotEq (.comp (.ite (.cmp .Lt (.var 0) (.str [97])) (.int 1) (.int 0)) [] (.sub (.var 17) (.var 2)) none) (.var 24)) [
   .ret (.bool false)] [],
  .for_ 25 (.call (.glob .range) [(.var 2)]) pairBody]
theorem law24_eq : b_law24 = .for_ 2 (.call (.glob .range) [(.int 6)]) checkBody := rfl
theorem ltS {σ : Sto} {c : Nat} : cmpV σ .Lt (.str [c]) (.str [97]) = some (decide (c < 97)) := by
 show some (decide ([c] < [97])) = _
 congr 1
 apply decide_eq_decide.mpr
 simp [List.cons_lt_cons_iff]
theorem check_loop {pid vid wid : Nat} {P lev : Nat -> Nat} {W : Nat -> List Nat} (hl5 : ∀ k, lev k <= 5) (hfig : ∀ k, k < 6 -> bitsP (W k) = wM (P k) (lev k)) (hasc : ∀ k, k < 6 -> (W k).all (fun c => decide (c < 128)) = true /\ (W k).length <= 10) (hpair : ∀ j k, j < 6 -> k < 6 -> j ≠ k -> pairP (W j) (W k) (wayP (lev j) (lev k) (P j) (P k)) = true) (n : Nat) :
  ∀ (r k : Nat) (sl : Slots) (σ : Sto), k + r = 6 -> HL sl -> getSl sl 15 = some (.lst vid) -> getSl sl 17 = some (.lst wid) -> getSl sl 22 = some (.lst pid) -> σ[vid]? = some ((lR 6).map fun k => V.int (lev k : Nat)) -> σ[wid]? = some ((lR 6).map fun k => V.str (W k)) -> σ[pid]? = some ((lR 6).map fun k => V.int (P k : Nat)) ->
   ∃ sl' σ', (recN (n + 220 + r)).forr 2 (.rng 0 (6 : Nat) 1) k checkBody sl σ = some (.next, sl', σ') /\ Same [2, 24, 25, 26, 27] sl sl' /\ Mods [] σ σ' := by
 intro r; induction r with
 | zero =>
  intro k sl σ hk H g15 g17 g22 mv mw mp
  exact ⟨sl, σ, fr_end (n := n + 219) (xS (by decide) (pC hk)), .refl, .refl⟩
 | succ r ih =>
  intro k sl σ hk H g15 g17 g22 mv mw mp
  have hk6 : k < 6 := by exact pA hk
  let sl1 := setSl sl 2 (.int (k : Nat))
  have S1 : Same [2, 24, 25, 26, 27] sl sl1 := .set mcS
  have H1 : HL sl1 := zN H
  have k2 : getSl sl1 2 = some (.int (k : Nat)) := gs_eq H (by decide)
  have k15 := S1.get g15 (by decide)
  have k17 := S1.get g17 (by decide)
  have k22 := S1.get g22 (by decide)
  have hl := hl5 k
  refine byC fun hG => ?_
  obtain ⟨hch, hwl⟩ := hasc k hk6
  have a1 : subV (.lst vid) (.int (k : Nat)) σ = some (.int (lev k : Nat)) := zH mv rfl qL (zS hk6)
  obtain ⟨σ1, e1, m1⟩ := cp_gen (σ := σ) (src := .rng 0 (lev k : Nat) 1) (N := lev k) (K := 40) (cap := [some (.lst pid), some (.int (k : Nat))]) (e := .bin .Mod (.bin .FloorDiv (.sub (.var 1) (.var 2)) (.bin .Pow (.int 2) (.bin .Sub (.int 4) (.var 0)))) (.int 2)) (fun i => .int (i : Nat)) (fun i => .int ((P k / 2 ^ (4 - i) % 2 : Nat) : Int)) (qT hl qL)
   (fun σ' m i => xE (qT hl qL))
   (fun i hi σ' m q => by
    refine ⟨σ', ?_, .refl⟩
    have b0 : binF .Sub (.int 4) (.int (i : Nat)) σ' = some (.int ((4 - i : Nat) : Int), σ') := by
     rw [xV]
     have : (4 - (i : Int)) = ((4 - i : Nat) : Int) := by lia
     rw [this]
    have b1 : subV (.lst pid) (.int (k : Nat)) σ' = some (.int (P k : Nat)) := zH (m.2 _ _ nmN mp) rfl qL (zS hk6)
    have b2 : binF .Mod (.int ((P k / 2 ^ (4 - i) : Nat) : Int)) (.int 2) σ' = some (.int ((P k / 2 ^ (4 - i) % 2 : Nat) : Int), σ') := by
     rw [bi_modI (by decide)]
     rfl
    exact zL (n := q + 39) (zL (n := q + 38) (zM (zA (zG zE)) (zA (zG (zG zE))) b1) (zL zF (zL zF (zA zE) b0) (pow_two (Nat.sub_lt_of_lt qU))) (fdiv_pow (Nat.sub_lt_of_lt qU))) zF b2)
   (n + r + 177 - lev k) (lev k) 0 σ .refl (Nat.add_comm _ _)
  have c1 : n + r + 177 - lev k + 40 + 1 + lev k = n + r + 218 := fz2 (fk (by assumption))
  rw [c1] at e1
  have e0 : (lR 0).map (fun i => V.int ((P k / 2 ^ (4 - i) % 2 : Nat) : Int)) = [] := rfl
  rw [e0] at e1
  have hF : (lR (lev k)).map (fun i => V.int ((P k / 2 ^ (4 - i) % 2 : Nat) : Int)) = (wM (P k) (lev k)).map fun a => V.int (a : Nat) := by
   unfold wM
   rw [mM]
   rfl
  rw [hF] at e1
  let σ2 : Sto := σ1 ++ [(wM (P k) (lev k)).map fun a => V.int (a : Nat)]
  have m2 : Mods [] σ σ2 := m1.trans .app
  let sl2 := setSl sl1 24 (.lst σ1.length)
  have S2 : Same [2, 24, 25, 26, 27] sl sl2 := S1.trans (.set (mT _ mcS))
  have H2 : HL sl2 := zN H1
  have w24 : getSl sl2 24 = some (.lst σ1.length) := gs_eq H1 (by decide)
  have w2 : getSl sl2 2 = some (.int (k : Nat)) := gs_ne (by decide) k2
  have a2 : subV (.lst wid) (.int (k : Nat)) σ2 = some (.str (W k)) := zH (m2.2 _ _ nmN mw) rfl qL (zS hk6)
  have hit : ∀ (σ' : Sto) (j : Nat), zV σ' (.str (W k)) j = some ((W k)[j]?.map fun c => .str [c]) := fun σ' j => by
   show (if (W k).all (fun c => decide (c < 128)) = true then _ else _) = _
   rw [if_pos hch]
  obtain ⟨σ3, e3, m3⟩ := cp_gen (σ := σ2) (src := .str (W k)) (N := (W k).length) (K := 40) (cap := []) (e := .ite (.cmp .Lt (.var 0) (.str [97])) (.int 1) (.int 0)) (fun i => .str [(W k).getD i 0]) (fun i => .int ((if (W k).getD i 0 < 97 then 1 else 0 : Nat) : Int)) (qT hwl qL)
   (fun σ' m i => by
    rw [hit]
    congr 1
    by_cases hi : i < (W k).length
    ·rw [if_pos hi]; simp [hi]
    ·rw [if_neg hi]; simp; exact qG hi)
   (fun i hi σ' m q => by
    refine ⟨σ', ev_ite (n := q + 39) (zW (n := q + 38) (zA zE) x9 ltS) ?_, .refl⟩
    by_cases h : (W k).getD i 0 < 97
    ·rw [if_pos (by simpa using h), if_pos h]; exact zF
    ·rw [if_neg (by simpa using h), if_neg h]; exact zF)
   (n + r + 176 - (W k).length) (W k).length 0 σ2 .refl (Nat.add_comm _ _)
  have c3 : n + r + 176 - (W k).length + 40 + 1 + (W k).length = n + r + 217 := fz2 (fk (by assumption))
  rw [c3] at e3
  have e00 : (lR 0).map (fun i => V.int ((if (W k).getD i 0 < 97 then 1 else 0 : Nat) : Int)) = [] := rfl
  rw [e00] at e3
  have hB : (lR (W k).length).map (fun i => V.int ((if (W k).getD i 0 < 97 then 1 else 0 : Nat) : Int)) = (bitsP (W k)).map fun a => V.int (a : Nat) := by
   apply List.ext_getElem?
   intro q
   by_cases hq : q < (W k).length
   ·simp [hq, bitsP]
   ·simp [hq, bitsP]
  rw [hB, hfig k hk6] at e3
  let σ4 : Sto := σ3 ++ [(wM (P k) (lev k)).map fun a => V.int (a : Nat)]
  have m4 : Mods [] σ σ4 := m2.trans (m3.trans .app)
  have q4 : cmpV σ4 .NotEq (.lst σ3.length) (.lst σ1.length) = some false := neL zI (zK (m3.2 _ _ nmN zI)) (eqL_ints _)
  obtain ⟨sl5, σ5, e5, s5, m5⟩ := pairs_loop (pid := pid) (vid := vid) (wid := wid) (k := k) (P := P) (lev := lev) (W := W) hk6 hl5 (fun j hj => hpair j k (qM hj hk6) hk6 (nNL hj)) (n + r + 19 - k) k 0 sl2 σ4 (Nat.add_comm _ _) H2 w2 (S2.get g15 (by decide)) (S2.get g17 (by decide)) (S2.get g22 (by decide)) (m4.2 _ _ nmN mv) (m4.2 _ _ nmN mw) (m4.2 _ _ nmN mp)
  have c5 : n + r + 19 - k + 200 + k = n + r + 219 := fz (fk (qW hk6))
  rw [c5] at e5
  have S5 : Same [2, 24, 25, 26, 27] sl sl5 := S2.trans (s5.mono (by decide))
  have m5' : Mods [] σ σ5 := m4.trans m5
  obtain ⟨sl', σ', run, s', m'⟩ := ih (k + 1) sl5 σ5 (pB hk) (S5.1 H) (S5.get g15 (by decide)) (S5.get g17 (by decide)) (S5.get g22 (by decide)) (m5'.2 _ _ nmN mv) (m5'.2 _ _ nmN mw) (m5'.2 _ _ nmN mp)
  refine hG ?_
  refine ⟨sl', σ', ?_, S5.trans s', m5'.trans m'⟩
  have d1 : n + 220 + (r + 1) = n + r + 220 + 1 := by exact qC
  have d2 : n + 220 + r = n + r + 220 := by exact qC
  rw [d2] at run
  rw [d1]
  have rk : ∀ (m : Nat) σ, m <= 6 -> yD .range [.int (m : Nat)] σ = some (.rng 0 (m : Int) 1, σ) := fun m σ hm => by
   show (if (m : Int).natAbs <= 100000 then _ else _) = _
   rw [if_pos (by exact wA hm)]
  refine xT (yC (n := 6) (by decide) hk6) rfl ?_ run
  unfold checkBody
  refine zC (n := n + r + 219) (sl_1 := sl2) (σ_1 := σ2) ?_ (zC (sl_1 := sl2) (σ_1 := σ4) ?_ (zC (sl_1 := sl5) (σ_1 := σ5) ?_ zQ))
  ·exact zO (xN (n := n + r + 218) (z9 (n := n + r + 216) (zB (zM (zA k15) (zA k2) a1) zD) (rk (lev k) _ (qS hl))) (xE (wA hl)) (cap2 k22 k2) e1) rfl
  ·exact zY (zW (n := n + r + 218) (xN (n := n + r + 217) (zM (n := n + r + 216) (zA (S2.get g17 (by decide))) (zA w2) a2) (hit _ 0) rfl e3) (zA w24) q4) (if_f zQ)
  ·exact st_for (z9 (n := n + r + 217) (zB (zA w2) zD) (rk k _ (qW hk6))) (xE (wB hk6)) e5
end Mine.Pl
namespace Mine.Pl
open PySem PySem.Float64
noncomputable abbrev OkHeachF (its : List (Nat × List Nat)) (j : Nat) : Prop := ∀ x ∈ its, x.2.length = (formP j).getD x.1 0 /\ x.2 ≠ [] /\ x.2.all (fun c => decide (c < 128)) = true
noncomputable abbrev OkHbitsF (its : List (Nat × List Nat)) (j : Nat) : Prop := ∀ i, i < 6 -> bitsP (wordP its i) = wM (placeP (formP j) its i) ((formP j).getD i 0)
noncomputable abbrev OkHpairsF (its : List (Nat × List Nat)) (j : Nat) : Prop := ∀ i i', i < 6 -> i' < 6 -> i ≠ i' -> pairP (wordP its i) (wordP its i') (wayP ((formP j).getD i 0) ((formP j).getD i' 0) (placeP (formP j) its i) (placeP (formP j) its i')) = true
structure OkH (its : List (Nat × List Nat)) (j : Nat) : Prop where
 len : its.length = 6
 has : ∀ i, i < 6 -> i ∈ its.map Prod.fst
 each : OkHeachF its j
 sorted : sortP (formP j) its = [0, 1, 2, 3, 4, 5]
 bits : OkHbitsF its j
 pairs : OkHpairsF its j
theorem okH_spec {its : List (Nat × List Nat)} {j : Nat} (h : okH its j = true) : OkH its j := by
 unfold okH at h
 simp only [Bool.and_eq_true, decide_eq_true_eq, aT, mR, List.contains_iff_mem, Bool.or_eq_true] at h
 obtain ⟨⟨⟨⟨h1, h2⟩, h3⟩, h4⟩, h5⟩ := h
 refine ⟨h1, h2, fun x hx => ⟨(h3 x hx).1.1, (h3 x hx).1.2, ?_⟩, h4, fun i hi => (h5 i hi).1, fun i i' hi hi' hne => ?_⟩
 ·simp only [aT, decide_eq_true_eq]; exact (h3 x hx).2
 ·exact ((h5 i hi).2 i' hi').resolve_left hne
theorem mem_fold {key : Nat -> Nat} {y : Nat} (xs acc : List Nat) : y ∈ xs.foldl (fun acc x => insR key x acc) acc ↔ y ∈ xs \/ y ∈ acc := (ins_fold_perm xs acc).mem_iff.trans mA
theorem OkH.lt {its : List (Nat × List Nat)} {j : Nat} (h : OkH its j) : ∀ x ∈ its, x.1 < 6 := by
 intro x hx
 have h1 : x.1 ∈ (its.map Prod.fst).foldl (fun acc x => insR (fun i => 5 - (formP j).getD i 0) x acc) [] := (mem_fold _ _).mpr (.inl (mP.mpr ⟨x, hx, rfl⟩))
 rw [List.foldl_map] at h1
 have h2 := h.sorted
 unfold sortP at h2
 rw [h2] at h1
 simp at h1
 lia
theorem lk_t {β : Type} {i : Nat} {b : β} {r : List (Nat × β)} : List.lookup i ((i, b) :: r) = some b := by rw [List.lookup_cons, beq_self_eq_true]
theorem lk_f {β : Type} {i q : Nat} {b : β} {r : List (Nat × β)} (h : i ≠ q) : List.lookup i ((q, b) :: r) = List.lookup i r := by rw [List.lookup_cons, beq_false_of_ne h]
theorem lookup_spec {i : Nat} : ∀ {its : List (Nat × List Nat)}, i ∈ its.map Prod.fst -> ∃ w, its.lookup i = some w /\ (i, w) ∈ its := by
 intro its; induction its with
 | nil =>
  intro h
  simp at h
 | cons hd' r ih =>
  intro h
  obtain ⟨q, w⟩ := hd'
  by_cases e : i = q
  ·subst e
   exact ⟨w, lk_t, mcS⟩
  ·have : i ∈ r.map Prod.fst := by
    simp only [mcC, mC] at h
    exact h.resolve_left e
   obtain ⟨w', h1, h2⟩ := ih this
   exact ⟨w', (lk_f e).trans h1, mT _ h2⟩
theorem place_none {form : List Nat} {i : Nat} : ∀ (its : List (Nat × List Nat)) (a : Nat), i ∉ its.map Prod.fst -> (placesP form its a).lookup i = none := by
 intro its; induction its with
 | nil =>
  intro _ _
  exact rfl
 | cons hd' r ih =>
  intro a h
  obtain ⟨q, w⟩ := hd'
  simp only [mcC, mC, not_or] at h
  exact (lk_f h.1).trans (ih _ h.2)
theorem place_label {form : List Nat} {lev ρ : Nat -> Nat} {i : Nat} (hlev : ∀ q, q < 6 -> lev (ρ q) = form.getD q 0) (hinj : ∀ q q', q < 6 -> q' < 6 -> ρ q = ρ q' -> q = q') (hi : i < 6) :
  ∀ (its : List (Nat × List Nat)) (a : Nat) (P : Nat -> Nat), (∀ x ∈ its, x.1 < 6) -> (its.map Prod.fst).Nodup -> placeL lev (its.map fun x => ρ x.1) a P (ρ i) = ((placesP form its a).lookup i).getD (P (ρ i)) := by
 intro its; induction its with
 | nil =>
  intro _ _ _ _
  exact rfl
 | cons hd' r ih =>
  intro a P h hn
  obtain ⟨q, w⟩ := hd'
  have hq : q < 6 := h (q, w) mcS
  simp only [mcC, List.nodup_cons] at hn
  have ih := ih (a + 2 ^ (5 - form.getD q 0)) (fun z => if z = ρ q then a else P z) (fun x hx => h x (mT _ hx)) hn.2
  show placeL lev (r.map fun x => ρ x.1) (a + 2 ^ (5 - lev (ρ q))) (fun z => if z = ρ q then a else P z) (ρ i) = _
  rw [hlev q hq, ih]
  by_cases e : i = q
  ·subst e
   rw [place_none r _ hn.1]
   exact (if_pos rfl).trans (congrArg (Option.getD · (P (ρ i))) (lk_t (r := placesP form r _)).symm)
  ·have h2 : ¬ ρ i = ρ q := fun w => e (hinj i q hi hq w)
   rw [if_neg h2]
   exact congrArg (Option.getD · (P (ρ i))) (lk_f (r := placesP form r _) e).symm
noncomputable def relD (ρ : Nat -> Nat) (d : D) : D := (d.1, d.2.map fun x => (ρ x.1, x.2))
theorem step_rel {ρ : Nat -> Nat} {st : Nat} (ds : List D) : stepD st (ds.map (relD ρ)) = (stepD st ds).map (relD ρ) := by
 match ds with
 | [] => rfl
 | [_] => rfl
 | a :: b :: r =>
  refine Eq.trans (congrArg (insR Prod.fst · (r.map (relD ρ))) ?_) (insR_map Prod.fst Prod.fst (relD ρ) (fun J => rfl) _ r).symm
  simp [y9, relD, Function.comp_def]
theorem run_rel {ρ : Nat -> Nat} (ds : List D) : runD (ds.map (relD ρ)) = (runD ds).map (relD ρ) := by
 unfold runD
 rw [step_rel, step_rel, step_rel, step_rel, step_rel]
theorem idx_up (l : Nat -> Nat) : ∀ k, Up l (idxAt l k) := by
 intro k; induction k with
 | zero =>
  exact .nil
 | succ k ih =>
  exact insR_up _ ih
end Mine.Pl
namespace Mine.Pl
open PySem PySem.Float64
theorem rest_ok {T p lid s o rid vid wid j n c : Nat} {ends : Nat -> List Nat} {l ρ pos : Nat -> Nat} {sl : Slots} {σ : Sto} {vs vo : List V} {ds : List D} {ws : List Nat} {its : List (Nat × List Nat)} {t : Nat} (hT : T < 64) (hp : 1 <= p /\ p < 5) (he : ∀ k, EndOk (ends k)) (hl6 : ∀ k, 1 <= l k /\ l k <= 19) (hj : j < 5)
  (h1 : ∀ i, i < 6 -> ρ i < 6 /\ pos (ρ i) = i) (h2 : ∀ k, k < 6 -> ρ (pos k) = k) (h3 : ∀ k, k < 6 -> pos k < 6) (Mi : Mid sl σ lid s o rid vid wid T p c j l ρ pos) (hc : 1 <= c /\ c <= 2000) (ms : σ[s]? = some vs) (as : All2 (Lamp [wid, s, o] T p ends σ) vs ds) (mo : σ[o]? = some vo) (ao : All2 (OLamp [wid, s, o] T p σ) vo ws)
  (I : Inv l (fun J => []) 0 ds ws 0) (hrun : runD ds = [(t, its.map fun x => (ρ x.1, x.2))]) (hw : runW ws = c) (O : OkH its j) :
  ∃ sl' σ', (recN (n + 300)).exec [b_law17, b_law18, b_law19, b_law20, b_law21, b_law22, b_law23, b_law24, b_law25] sl σ = some (.ret (.bool true), sl', σ') := by
 refine byC fun hG => ?_
 obtain ⟨H, g3, g4, g5, ml, g6, g7, g10, mr, g12, g15, mv, g17, mw, g18, n1, n2, n3, n4, n5, n6, n7, n8, n9, n10, n11, n12, n13, n14, n15⟩ := Mi
 refine merge_loop (M := [wid, s, o]) hT hp he hl6 n1 n2 n3 n4 n11 n12 (by simp) (by simp) mcS (by simp; exact ⟨n13.symm, n5, n6⟩) (n + 164) 5 0 sl σ vs vo ds ws (fun J => []) 0 (.int 0) rfl H g3 g4 g5 g6 g7 g17 g18 ml ms as mo ao mw (.inl ⟨rfl, rfl⟩) I (by simp; exact ⟨zT mw, zT ms, zT mo⟩) fun sl1 σ1 vs1 W gv e17 s1 m1 ms1 as1 mw1 k18 hg I1 => ?_
 refine hG ?_
 rw [iterD_five, hrun] at as1 I1
 rw [iterW_five, hw] at hg
 have hits : ∀ x ∈ its, x.1 < 6 := O.lt
 obtain ⟨v, rfl, hv⟩ : ∃ v, vs1 = [v] /\ Lamp [wid, s, o] T p ends σ1 v (t, its.map fun x => (ρ x.1, x.2)) := by
  cases as1 with
  | cons hv q =>
   cases q
   exact ⟨_, rfl, hv⟩
 have H1 := s1.1 H
 have mv1 := m1.2 vid _ (by simp; exact ⟨n15.symm, n9, n10⟩) mv
 have mr1 := m1.2 rid _ (by simp; exact ⟨n14.symm, n7, n8⟩) mr
 have d6 := s1.get g6 (by decide)
 have d15 := s1.get g15 (by decide)
 have d17 := s1.get g17 (by decide)
 have e18 := law18_ok (σ := σ1) (n + 249) hp (s1.get g4 (by decide)) (s1.get g12 (by decide)) k18 hg hc
 have hlab : yG [((t, its.map fun x => (ρ x.1, x.2)) : D)] = (its.map Prod.fst).map ρ := by simp [yG, mM, Function.comp_def]
 have hnd : ((its.map Prod.fst).map ρ).Nodup := by
  have := I1.i3
  rw [hlab] at this
  exact this.nodup_iff.mpr List.nodup_range
 obtain ⟨σ2, e19, m2⟩ := law19_ok (n + 219) hj d6 (s1.get g10 (by decide)) d15 ms1 hv mr1 mv1 h1 O.len hits hnd O.sorted
 have hW : ∀ x ∈ its, W (ρ x.1) = x.2 := fun x hx => I1.i1 (t, its.map fun x => (ρ x.1, x.2)) mcS (ρ x.1, x.2) (mP.mpr ⟨x, hx, rfl⟩)
 have hv2 := hv.mods m2.nil
 obtain ⟨σ3, e20, m3⟩ := law20_ok (W := W) (n + 219) d6 d17 (m2.2 _ _ nmN ms1) hv2 (m2.2 _ _ nmN mw1) (by simp [O.len]) (fun x hx => by
  obtain ⟨y, hy, rfl⟩ := mP.mp hx
  have h := O.each y hy
  refine ⟨(h1 _ (hits y hy)).1, hW y hy, h.2.1, ?_⟩
  show y.2.length <= 10
  rw [h.1]
  have := form_le j y.1 hj
  exact qT this qL)
 have m13 : Mods [] σ1 σ3 := m2.trans m3
 obtain ⟨J, i, x, y, z, kid, Hu, hk, J, J, J, J⟩ := hv
 have hveq := Hu.v
 subst hveq
 let Z : List V := [.int 0, .int 0, .int 0, .int 0, .int 0, .int 0]
 let σ4 : Sto := σ3 ++ [[V.int 0]]
 let σ5 : Sto := σ4 ++ [Z]
 have hpos3 : 0 < σ3.length := by have := zT (m13.2 _ _ nmN ms1); exact pE this
 have a21 : binF .Mult (.lst σ3.length) (.int 6) σ4 = some (.lst σ4.length, σ5) := bi_mulL zI (qH hpos3) (by decide) (by decide)
 let sl2 := setSl sl1 22 (.lst σ4.length)
 let sl3 := setSl sl2 23 (.int 0)
 have S3 : Same [22, 23] sl1 sl3 := .trans (.set mcS) (.set (mT _ mcS))
 have H2 : HL sl2 := zN H1
 have H3 : HL sl3 := zN H2
 have m15 : Mods [] σ1 σ5 := m13.trans (.trans .app .app)
 have f22 : getSl sl3 22 = some (.lst σ4.length) := gs_ne (by decide) (gs_eq H1 (by decide))
 have f23 : getSl sl3 23 = some (.int ((0 : Nat) : Int)) := gs_eq H2 (by decide)
 let ks : List Nat := its.map fun x => ρ x.1
 have hks : ∀ k ∈ ks, k < 6 := fun k hk => by obtain ⟨x, hx, rfl⟩ := mP.mp hk; exact (h1 _ (hits x hx)).1
 have hk5 : σ5[kid]? = some (ks.map fun k => V.int (k : Nat)) := by
  have := m15.2 _ _ nmN hk
  rw [this]
  simp [ks, mM, Function.comp_def]
 have l4 : σ4.length = σ3.length + 1 := by exact List.length_append
 have hvlt : vid < σ1.length := zT mv1
 have hklt : kid < σ1.length := zT hk
 have h13 := m13.1
 let lev : Nat -> Nat := fun k => (formP j).getD (pos k) 0
 have hlev5 : ∀ k, lev k <= 5 := fun k => form_le j (pos k) hj
 obtain ⟨sl4, e23, s4⟩ := place_loop (lid0 := kid) (pid := σ4.length) (vid := vid) (lev := lev) (ks := ks) hlev5 (by lia) (by lia) (by lia) hks (by simp [ks, O.len]) (n + 263) ks [] sl3 σ5 (fun J => 0) 0 rfl H3 (S3.get d15 (by decide)) f22 f23 hk5 (m15.2 _ _ nmN mv1) (zI (ys := Z))
 have hkl : ks.length = 6 := by simp [ks, O.len]
 rw [hkl] at e23
 let P : Nat -> Nat := placeL lev ks 0 (fun J => 0)
 let σ6 : Sto := σ5.set σ4.length ((lR 6).map fun k => V.int (P k : Nat))
 have mp6 : σ6[σ4.length]? = some ((lR 6).map fun k => V.int (P k : Nat)) := yR (zI (σ := σ4) (ys := Z))
 have m56 : Mods [σ4.length] σ5 σ6 := .set mcS
 have m16 : Mods [] σ1 σ6 := (m15.nil.trans m56).new (N := []) (fun i hi => by simp only [mS] at hi; subst hi; right; lia)
 have S4 : Same [2, 22, 23] sl1 sl4 := (S3.mono (by decide)).trans (s4.mono (by decide))
 have H4 := s4.1 H3
 have hinj : ∀ q q', q < 6 -> q' < 6 -> ρ q = ρ q' -> q = q' := fun q q' hq hq' e => by rw [← (h1 q hq).2, ← (h1 q' hq').2, e]
 have hpnd : (its.map Prod.fst).Nodup := by
  unfold List.Nodup at hnd ⊢
  rw [List.pairwise_map] at hnd
  exact hnd.imp (fun h e => h (by rw [e]))
 have hP : ∀ i, i < 6 -> P (ρ i) = placeP (formP j) its i := fun i hi => by
  have := place_label (form := formP j) (lev := lev) (ρ := ρ) (fun q hq => by show (formP j).getD (pos (ρ q)) 0 = _; rw [(h1 q hq).2]) hinj hi its 0 (fun J => 0) hits hpnd
  exact this
 have hword : ∀ i, i < 6 -> W (ρ i) = wordP its i := fun i hi => by
  obtain ⟨w, h, hm⟩ := lookup_spec (O.has i hi)
  unfold wordP
  rw [h]
  exact hW (i, w) hm
 have hlevr : ∀ i, i < 6 -> lev (ρ i) = (formP j).getD i 0 := fun i hi => by show (formP j).getD (pos (ρ i)) 0 = _; rw [(h1 i hi).2]
 obtain ⟨sl5, σ7, e24, s5, m7⟩ := check_loop (pid := σ4.length) (vid := vid) (wid := wid) (P := P) (lev := lev) (W := W) hlev5
  (fun k hk => by
   have hb := O.bits (pos k) (h3 k hk)
   have e1 := hword (pos k) (h3 k hk)
   have e2 := hP (pos k) (h3 k hk)
   have e3 := hlevr (pos k) (h3 k hk)
   rw [h2 k hk] at e1 e2 e3
   rw [e1, e2, e3]; exact hb)
  (fun k hk => by
   have e1 := hword (pos k) (h3 k hk)
   rw [h2 k hk] at e1
   obtain ⟨w, h, hm⟩ := lookup_spec (O.has (pos k) (h3 k hk))
   have : wordP its (pos k) = w := by unfold wordP; rw [h]; rfl
   rw [e1, this]
   have he := O.each _ hm
   refine ⟨he.2.2, ?_⟩
   have h5 := form_le j (pos k) hj
   have := he.1
   simp only at this
   exact eE this h5)
  (fun a b ha hb hne => by
   have hb' := O.pairs (pos a) (pos b) (h3 a ha) (h3 b hb) (fun e => hne (by rw [← h2 a ha, ← h2 b hb, e]))
   have a1 := hword (pos a) (h3 a ha)
   have a2 := hP (pos a) (h3 a ha)
   have a3 := hlevr (pos a) (h3 a ha)
   have b1 := hword (pos b) (h3 b hb)
   have b2 := hP (pos b) (h3 b hb)
   have b3 := hlevr (pos b) (h3 b hb)
   rw [h2 a ha] at a1 a2 a3
   rw [h2 b hb] at b1 b2 b3
   rw [a1, a2, a3, b1, b2, b3]; exact hb')
  (n + 73) 6 0 sl4 σ6 rfl H4 (S4.get d15 (by decide)) (S4.get d17 (by decide)) (s4.get f22 (by decide)) (m16.2 _ _ nmN mv1) (m16.2 _ _ nmN mw1) mp6
 have r5 : ∀ σ, yD .range [.int 5] σ = some (.rng 0 (5 : Int) 1, σ) := fun σ => rfl
 have r6 : ∀ σ, yD .range [.int 6] σ = some (.rng 0 (6 : Int) 1, σ) := fun σ => rfl
 have ms5 := m15.2 _ _ nmN ms1
 have s0 : subV (.lst s) (.int 0) σ5 = some (.lst i) := zH (j := 0) ms5 rfl qQ rfl
 have s3' : subV (.lst i) (.int 3) σ5 = some (.lst kid) := zH (j := 3) (m15.2 _ _ nmN Hu.at_) rfl qL rfl
 refine ⟨sl5, σ7, ?_⟩
 refine zC (n := n + 299) (sl_1 := sl1) (σ_1 := σ1) ?_ (zC (sl_1 := sl1) (σ_1 := σ1) e18 (zC (sl_1 := sl1) (σ_1 := σ2) e19 (zC (sl_1 := sl1) (σ_1 := σ3) e20 (zC (sl_1 := sl2) (σ_1 := σ5) ?_ (zC (sl_1 := sl3) (σ_1 := σ5) ?_ (zC (sl_1 := sl4) (σ_1 := σ6) ?_ (zC (sl_1 := sl5) (σ_1 := σ7) ?_ (ex_ret ?_))))))))
 ·rw [law17_eq]
  exact st_for (z9 (n := n + 297) (zB zF zD) (r5 _)) (yC (n := 5) (i := 0) (by decide) (by decide)) e17
 ·unfold b_law21
  exact zO (zL (n := n + 298) (yT (n := n + 297) (zB zF zD) qQ) zF a21) rfl
 ·unfold b_law22
  exact zO zF rfl
 ·unfold b_law23
  exact st_for (zM (n := n + 298) (zM (zA (S3.get d6 (by decide))) zF s0) zF s3') (z7 hk5 0) e23
 ·rw [law24_eq]
  exact st_for (z9 (n := n + 297) (zB zF zD) (r6 _)) (yC (n := 6) (i := 0) (by decide) (by decide)) e24
 ·unfold b_law25
  exact y0 ev_bool
end Mine.Pl
namespace Mine.Pl
open PySem PySem.Float64
theorem plain_law (is : List Int) (hl : is.length <= 63) : ∃ σ', callF (recN 300) .law [.lst 0] [is.map V.int] = some (.bool true, σ') := by
 refine byC fun hG => ?_
 refine prelude hl 199 [b_law7, b_law8, b_law9, b_law10, b_law11, b_law12, b_law13, b_law14, b_law15, b_law16, b_law17, b_law18, b_law19, b_law20, b_law21, b_law22, b_law23, b_law24, b_law25] fun sl σ d lid s o T p x l Pr run1 => ?_
 have he : ∀ k, EndOk (yY x k) := endsOf_ok x
 refine lamps_loop (x := x) (l := l) Pr.hT Pr.hp Pr.hl6 Pr.ns Pr.no Pr.so ⟨Pr.ds, Pr.d_o⟩ ⟨Pr.ls, Pr.lo⟩ 173 6 0 sl σ [] [] rfl Pr.hl Pr.g1 Pr.g3 Pr.g4 Pr.g5 Pr.g6 Pr.g7 Pr.md Pr.ml Pr.ms Pr.mo .nil .nil fun sl7 σ7 vs vo e7 s7 m7 ms7 mo7 as7 ao7 => ?_
 have hperm := idx_perm l 6
 have hlen : (idxAt l 6).length = 6 := by rw [hperm.length_eq]; rfl
 have hnd : (idxAt l 6).Nodup := hperm.nodup_iff.mpr List.nodup_range
 have hmem : ∀ k, k ∈ idxAt l 6 ↔ k < 6 := fun k => hperm.mem_iff.trans mR
 have hup := idx_up l 6
 obtain ⟨r_0, r_1, r_2, r_3, r_4, r_5, hR⟩ := six_of hlen
 rw [hR] at hlen hnd hmem hup
 let R : List Nat := [r_0, r_1, r_2, r_3, r_4, r_5]
 let pos : Nat -> Nat := fun k => R.idxOf k
 have h1 : ∀ i, i < 6 -> R.getD i 0 < 6 /\ pos (R.getD i 0) = i := fun i hi => by
  have hi' : i < R.length := hi
  have e : R.getD i 0 = R[i] := by simp [hi']
  rw [e]
  exact ⟨(hmem _).mp (List.getElem_mem hi'), hnd.idxOf_getElem i hi'⟩
 have h3 : ∀ k, k < 6 -> pos k < 6 := fun k hk => List.idxOf_lt_length_of_mem ((hmem k).mpr hk)
 have h2 : ∀ k, k < 6 -> R.getD (pos k) 0 = k := fun k hk => by
  have hlt : R.idxOf k < R.length := List.idxOf_lt_length_of_mem ((hmem k).mpr hk)
  have e : R.getD (pos k) 0 = R[R.idxOf k] := by simp [pos, hlt]
  rw [e]
  exact List.getElem_idxOf hlt
 have hr : ∀ a ∈ R, a < 6 := fun a ha => (hmem a).mp ha
 have hs : l r_0 <= l r_1 /\ l r_1 <= l r_2 /\ l r_2 <= l r_3 /\ l r_3 <= l r_4 /\ l r_4 <= l r_5 := by
  unfold Up at hup
  simp only [List.pairwise_cons, mC] at hup
  exact ⟨hup.1 r_1 (Or.inl (Int.toNat_natCast _)), hup.2.1 r_2 (Or.inl (Int.toNat_natCast _)), hup.2.2.1 r_3 (Or.inl (Int.toNat_natCast _)), hup.2.2.2.1 r_4 (.inl rfl), hup.2.2.2.2.1 r_5 (.inl rfl)⟩
 obtain ⟨t, its, j, hrun, pick, hok⟩ := huff (Pr.hl6 r_0).1 hs.1 hs.2.1 hs.2.2.1 hs.2.2.2.1 hs.2.2.2.2
 have O := okH_spec hok
 have hj5 := pick.1
 have hW := runW_pick (Pr.hl6 r_0).1 hs.1 hs.2.1 hs.2.2.1 hs.2.2.2.1 hs.2.2.2.2 pick
 refine middle (d := d) (x := x) (n := 199) (pos := pos) (R := R) rfl rfl hR h1 h2 hr Pr.hl6 pick (s7.1 Pr.hl) (s7.get Pr.g3 (by decide)) (s7.get Pr.g4 (by decide)) (s7.get Pr.g5 (by decide)) (s7.get Pr.g6 (by decide)) (s7.get Pr.g7 (by decide)) (m7.2 _ _ (by simp [Pr.ls, Pr.lo]) Pr.ml) ms7 mo7 as7 ao7 ⟨Pr.ns, Pr.no, Pr.so, Pr.ls, Pr.lo⟩ [b_law17, b_law18, b_law19, b_law20, b_law21, b_law22, b_law23, b_law24, b_law25] fun sl16 σ16 rid vid wid Mi m16 hwid run2 => ?_
 let c := costP (l r_0) (l r_1) (l r_2) (l r_3) (l r_4) (l r_5) j
 have hc : 1 <= c /\ c <= 2000 := by
  have h5 : (∀ a ∈ formP j, a <= 5) /\ ∃ a r, formP j = (a + 1) :: r := by
   rcases (l5 hj5 : j = 0 \/ j = 1 \/ j = 2 \/ j = 3 \/ j = 4) with rfl | rfl | rfl | rfl | rfl <;> exact ⟨by decide, _, _, rfl⟩
  refine ⟨?_, qT (sums_le (formP j) _ h5.1 (by
   intro a ha
   simp only [mC, nmN, or_false] at ha
   rcases ha with rfl | rfl | rfl | rfl | rfl | rfl <;> exact (Pr.hl6 _).2)) (by show 95 * 6 <= 2000; decide)⟩
  obtain ⟨a, r, e⟩ := h5.2
  show 1 <= sums (formP j) _
  rw [e]
  exact qT (Nat.mul_pos (Pr.hl6 r_0).1 (Nat.succ_pos a)) (Nat.le_add_right _ _)
 have as16 : All2 (Lamp [wid, s, o] T p (yY x) σ16) vs (xA l 6) := as7.mono fun J J h => (h.fresh hwid).mods m16.nil
 have ao16 : All2 (OLamp [wid, s, o] T p σ16) vo ((xI l 6).map Prod.fst) := ao7.map fun J J h => ((h.fresh hwid).mods m16.nil).other
 have hshelf : xA l 6 = (startD (l r_0) (l r_1) (l r_2) (l r_3) (l r_4) (l r_5)).map (relD fun i => R.getD i 0) := by rw [xY, hR]; rfl
 have hother : (xI l 6).map Prod.fst = [l r_0, l r_1, l r_2, l r_3, l r_4, l r_5] := by
  have e : (xI l 6).map Prod.fst = (jdxAt l 6).map l := by rw [other_idx, mM]; rfl
  rw [e, ← idx_lights, hR]
  rfl
 have hb : ∀ k, l k <= 19 := fun k => (Pr.hl6 k).2
 have I : Inv l (fun J => []) 0 (xA l 6) ((xI l 6).map Prod.fst) 0 := by
  have b0 := hb r_0; have b1 := hb r_1; have b2 := hb r_2; have b3 := hb r_3; have b4 := hb r_4; have b5 := hb r_5
  refine ⟨?_, fun k J => by exact qR, ?_, ?_, shelfAt_up l 6, ?_, ?_, ?_, ?_, ?_, by simp⟩
  ·intro dd hd y hy
   rw [xY] at hd
   obtain ⟨k, J, rfl⟩ := mP.mp hd
   simp [leafD] at hy
   subst hy
   rfl
  ·intro dd hd
   rw [xY] at hd
   obtain ⟨k, J, rfl⟩ := mP.mp hd
   rfl
  ·have e : yG (xA l 6) = idxAt l 6 := by rw [xY, hR]; rfl
   rw [e]; exact hperm
  ·rw [shelfAt_len]
  ·rw [xY, hR]
   exact (Nat.add_le_add (Pr.hl6 r_0).2 (Nat.add_le_add (Pr.hl6 r_1).2 (Nat.add_le_add (Pr.hl6 r_2).2 (Nat.add_le_add (Pr.hl6 r_3).2 (Nat.add_le_add (Pr.hl6 r_4).2 (Nat.add_le_add (Pr.hl6 r_5).2 (Nat.le_refl 0)))))))
  ·unfold Up
   rw [List.pairwise_map]
   exact otherAt_up l 6
  ·rw [lM, otherAt_len]
  ·rw [hother]
   exact (Nat.add_le_add (Pr.hl6 r_0).2 (Nat.add_le_add (Pr.hl6 r_1).2 (Nat.add_le_add (Pr.hl6 r_2).2 (Nat.add_le_add (Pr.hl6 r_3).2 (Nat.add_le_add (Pr.hl6 r_4).2 (Nat.add_le_add (Pr.hl6 r_5).2 (Nat.le_refl 0)))))))
 have hrunD : runD (xA l 6) = [(t, its.map fun x => (R.getD x.1 0, x.2))] := by
  rw [hshelf, run_rel, hrun]
  rfl
 obtain ⟨ns', no', nw', nso, J⟩ := Mi.ne
 obtain ⟨sl', σ', run3⟩ := rest_ok (n := 0) (ends := yY x) Pr.hT Pr.hp he Pr.hl6 hj5 h1 h2 h3 Mi hc (m16.2 _ _ nmN ms7) as16 (m16.2 _ _ nmN mo7) ao16 I hrunD (by rw [hother]; exact hW) O
 refine hG ?_
 refine ⟨σ', ?_⟩
 have r6 : ∀ σ, yD .range [.int 6] σ = some (.rng 0 (6 : Int) 1, σ) := fun σ => rfl
 have e300 := run1 _ (zC (n := 299) (sl_1 := sl7) (σ_1 := σ7) (by
  have : b_law7 = .for_ 2 (.call (.glob .range) [(.int 6)]) lampBody := rfl
  rw [this]
  exact st_for (z9 (n := 297) (zB zF zD) (r6 _)) (yC (n := 6) (i := 0) (by decide) (by decide)) e7) (run2 _ run3))
 have fin := y3 (n := 300) (f := .law) (b := b_law) (as := [.lst 0]) rfl rfl rfl e300
 rw [rec_call] at fin
 exact fin
end Mine.Pl
namespace Mine
open PySem
noncomputable def Gr (n m : Nat) (s : Shared) : Prop := n <= s.heap.objs.size /\ m <= s.toks
theorem runs_gr {M : Model} {Γ : Ctx} {p : Pos} {t : Sem Fin} {fs : List Frame} {s s' : Shared} {e : End} (h : Runs M Γ p t fs s e s') : s.heap.objs.size <= s'.heap.objs.size := by
 induction h <;> (try simp only [Shared.setGen, hSP, Heap.size_after_update] at *) <;> lia
theorem returns_gr {M : Model} {Γ : Ctx} {p : Pos} {s s' : Shared} {r : Result} (h : Returns M Γ p s r s') : s.heap.objs.size <= s'.heap.objs.size := runs_gr h
theorem wakes_gr {M : Model} {Γ : Ctx} {p : Pos} {g : Nat} {r : Resume} {s s' : Shared} {res : GenResult} (h : Wakes M Γ p g r s res s') : s.heap.objs.size <= s'.heap.objs.size := by
 have go : ∀ {Γ' p' t fs e_1 s_1 r}, Runs M Γ' p' t fs (s.setGen g .running) e_1 s_1 /\ e_1.quiet = true /\ res = r /\ s' = s_1.setGen g e_1.genState -> s.heap.objs.size <= s'.heap.objs.size := fun h => h.2.2.2 ▸ (runs_gr h.1 : (s.setGen g .running).heap.objs.size <= _)
 have st : ∀ {c : GenResult}, res = c /\ s' = s -> s.heap.objs.size <= s'.heap.objs.size := fun h => qE (by rw [h.2])
 delta Wakes at h
 rcases e : s.gens[g]? with _ | c
 ·rw [e] at h; exact h.elim
 ·rw [e] at h
  cases c with
  | fresh c => cases r with
   | send v => cases v <;> first | exact st h | exact h.elim fun J h => h.elim fun J h => go h
   | throw x => exact qE (by rw [h.2]; rfl)
  | suspended => exact h.elim fun J h => h.elim fun J h => go h
  | running => exact st h
  | finished => exact st h
theorem wp_gr {α : Type} (M : Model) (Γ : Ctx) (n : Nat) (t : Sem α) : ∀ (Q : α -> Pos -> Shared -> Prop) (E : Value -> Pos -> Shared -> Prop) (p : Pos) (s : Shared), n <= s.heap.objs.size -> Sem.wp M Γ t Q E p s ->
  Sem.wp M Γ t (fun a p' s' => n <= s'.heap.objs.size /\ Q a p' s') (fun e p' s' => n <= s'.heap.objs.size /\ E e p' s') p s := by
 induction t with
 | pure a => intro Q E p s hn h; exact ⟨hn, h⟩
 | raise e => intro Q E p s hn h; exact ⟨hn, h⟩
 | unsupported _ | finish _ | register _ _ | yield _ _ _ _ | fork _ _ | await _ _ _ _ _ => intro Q E p s _ h; exact h
 | rule _ k ih | «at» p' k ih | loadIfAlive a k ih | point _ k ih | fresh k ih | ask k ih | os q _ k ih | handled own k ih | newGen c k ih | stack k ih | thread k ih => intro Q E p s hn h; exact ih _ Q E _ _ hn h
 | alloc o k ih => intro Q E p s hn h; exact ih _ Q E p _ (by show n <= (s.heap.push o).objs.size; rw [hSP]; exact qS hn) h
 | load a _ k ih => intro Q E p s hn h; obtain ⟨o, ho, h⟩ := h; exact ⟨o, ho, ih o Q E p s hn h⟩
 | update a _ f k ih => intro Q E p s hn h; exact ⟨h.1, ih () Q E p _ (by show n <= (s.heap.update a f).objs.size; rw [Heap.size_after_update]; exact hn) h.2⟩
 | choose src m k ih => intro Q E p s hn h; exact ⟨h.1, ih _ Q E p _ hn h.2⟩
 | call c hd _ _ k ih => intro Q E p s hn h; obtain ⟨r, s', hr, h⟩ := h; exact ⟨r, s', hr, ih r Q E p s' (qT hn (returns_gr hr)) h⟩
 | genState g k ih => intro Q E p s hn h; obtain ⟨st, hs, h⟩ := h; exact ⟨st, hs, ih _ Q E p s hn h⟩
 | resume g r _ k ih => intro Q E p s hn h; obtain ⟨res, s', hw, h⟩ := h; exact ⟨res, s', hw, ih res Q E p s' (qT hn (wakes_gr hw)) h⟩
section
variable {α : Type} {M : Model} {A : Around} {s : Shared}
theorem yB {t : Sem α} {Q : α -> Shared -> Prop} {E : Value -> Shared -> Prop}
  (h : wpAny M A t (fun a s' => s.heap.objs.size <= s'.heap.objs.size -> s.toks <= s'.toks -> Q a s') (fun e s' => s.heap.objs.size <= s'.heap.objs.size -> s.toks <= s'.toks -> E e s') s) : wpAny M A t Q E s :=
 fun Γ p hΓ => by
  have h1 := wpAny_toks h Γ p hΓ
  have h2 := wp_gr M Γ _ t _ _ p s qR h1
  exact Sem.wp_mono M Γ t (fun J J J x => x.2.2 x.1 x.2.1) (fun J J J x => x.2.2 x.1 x.2.1) p s h2
theorem codeAny_gr {c : Code} {R : Result -> Shared -> Prop} (h : codeAny M A c (fun r s' => s.heap.objs.size <= s'.heap.objs.size -> s.toks <= s'.toks -> R r s') s) : codeAny M A c R s :=
 fun Γ p hc hΓ => by
  obtain ⟨r, s', hr, hR⟩ := h Γ p hc hΓ
  exact ⟨r, s', hr, hR (returns_gr hr) hr.toks_le⟩
end
end Mine
namespace Mine
set_option genInjectivity false
set_option genSizeOf false
open PySem PySem.W PySem.Calls PyProof.Rows
structure Know where
 base : Heap
 P : Addr
 c : Addr
 fa : F -> Addr
 re1 : Addr
 re2 : Addr
 mg : Str -> Option Value
 mb : Str -> Option Value
noncomputable def Know.gv (K : Know) : G -> Option Value
 | .fn f => some (.ref (K.fa f))
 | .range => some (.type "range") | .sum => some (.builtin "sum") | .list => some (.type "list") | .len => some (.builtin "len")
 | .max => some (.builtin "max") | .min => some (.builtin "min") | .sorted => some (.builtin "sorted") | .int => some (.type "int")
 | .re1 => some (.ref K.re1) | .re2 => some (.ref K.re2)
 | _ => none
structure Gh where
 l : List Addr
 T : Tok -> Option UInt64
noncomputable def Gh.add (ρ : Gh) (a : Addr) : Gh := { ρ with l := ρ.l ++ [a] }
noncomputable def Gh.tok (ρ : Gh) (t : Tok) (x : UInt64) : Gh := { ρ with T := fun u => if u = t then some x else ρ.T u }
noncomputable def PTup (h : Heap) (a : Addr) (items : Array Value) : Prop := ∃ n, h.get? a = some { cls := .type "tuple", data := .seq items n }
theorem PTup.isTuple {h a items} (x : PTup h a items) : h.IsTuple a items := let ⟨n, g⟩ := x; ⟨_, g, rfl, n, rfl⟩
mutual
inductive VR (K : Know) (h : Heap) (ρ : Gh) : Value -> V -> Prop
 | none : VR K h ρ .none .none
 | bool (b : Bool) : VR K h ρ (.bool b) (.bool b)
 | int (i : Int) (t : Tok) : VR K h ρ (.int i t) (.int i)
 | flt (x : UInt64) (t : Tok) : ρ.T t = some x -> t ≠ 0 -> VR K h ρ (.float x t) (.flt x)
 | str (s : Str) (t : Tok) : VR K h ρ (.str s t) (.str s.cps.toList)
 | tup (a : Addr) (items : Array Value) (vs : List V) : PTup h a items -> a ∉ ρ.l -> a ≠ K.P -> VRs K h ρ items.toList vs -> VR K h ρ (.ref a) (.tup vs)
 | lst (i : Nat) (a : Addr) : ρ.l[i]? = some a -> VR K h ρ (.ref a) (.lst i)
 | rng (r : Addr) (a b c : Int) (t u v : Tok) : IsRange h r a b c t u v -> r ∉ ρ.l -> r ≠ K.P -> VR K h ρ (.ref r) (.rng a b c)
 | glob (g : G) (v : Value) : K.gv g = some v -> VR K h ρ v (.glob g)
inductive VRs (K : Know) (h : Heap) (ρ : Gh) : List Value -> List V -> Prop
 | nil : VRs K h ρ [] []
 | cons {w ws v vs} : VR K h ρ w v -> VRs K h ρ ws vs -> VRs K h ρ (w :: ws) (v :: vs)
end
noncomputable abbrev ExtpreF (h : Heap) (ρ : Gh) (ρ' : Gh) : Prop := ∃ t, ρ'.l = ρ.l ++ t /\ ∀ a ∈ t, h.objs.size <= a
noncomputable abbrev ExttokF (ρ : Gh) (ρ' : Gh) : Prop := ∀ t x, ρ.T t = some x -> ρ'.T t = some x
noncomputable abbrev ExtkeepF (K : Know) (X : List Addr) (h : Heap) (ρ : Gh) (h' : Heap) : Prop := ∀ a o, a ∉ ρ.l -> a ≠ K.P -> a ∉ X -> h.get? a = some o -> h'.get? a = some o
structure Ext (K : Know) (X : List Addr) (h : Heap) (ρ : Gh) (h' : Heap) (ρ' : Gh) : Prop where
 pre : ExtpreF h ρ ρ'
 tok : ExttokF ρ ρ'
 keep : ExtkeepF K X h ρ h'
 size : h.objs.size <= h'.objs.size
noncomputable abbrev HRbaseF (K : Know) (h : Heap) : Prop := ∀ b o, b ≠ K.P -> K.base.get? b = some o -> h.get? b = some o
noncomputable abbrev HRtabF (K : Know) (h : Heap) : Prop := ∃ ps, h.get? K.P = some (tabObj ps) /\ TriplesOk ps.toList /\ (∀ pos c, codeAmong pos ps.toList = some c -> h.CodeRec c (oQ "law" ++ oQ ".<locals>." ++ "<lambda>")) /\ (∃ ps_0 more, K.base.get? K.P = some (tabObj ps_0) /\ ps = ps_0 ++ more)
noncomputable abbrev HRnewF (K : Know) (ρ : Gh) : Prop := ∀ i a, ρ.l[i]? = some a -> i ≠ 0 -> K.base.objs.size <= a
noncomputable abbrev HRfirstF (K : Know) (ρ : Gh) : Prop := ∃ a, ρ.l[0]? = some a /\ a ≠ K.P /\ a < K.base.objs.size
noncomputable abbrev HRlistsF (K : Know) (σ : Sto) (ρ : Gh) (h : Heap) : Prop := ∀ i a vs, ρ.l[i]? = some a -> σ[i]? = some vs -> ∃ xs, h.IsList a xs /\ (i ≠ 0 -> h.PlainList a xs) /\ VRs K h ρ xs.toList vs
structure HR (K : Know) (σ : Sto) (ρ : Gh) (h : Heap) (tk : Tok) : Prop where
 tk0 : 0 < tk
 tlt : ∀ t x, ρ.T t = some x -> t < tk
 base : HRbaseF K h
 big : K.base.objs.size <= h.objs.size
 tab : HRtabF K h
 len : ρ.l.length = σ.length
 nodup : ρ.l.Nodup
 new : HRnewF K ρ
 first : HRfirstF K ρ
 lists : HRlistsF K σ ρ h
noncomputable def Hard (o : Obj) : Prop := (o.cls = .type "tuple" /\ ∃ xs n, o.data = .seq xs n) \/ (o.cls = .type "range" /\ ∃ vs, o.data = .fields vs)
theorem VR.map {K : Know} {h h' : Heap} {ρ ρ' : Gh} (hl : ∀ (i : Nat) (a : Addr), ρ.l[i]? = some a -> ρ'.l[i]? = some a) (ht : ∀ t x, ρ.T t = some x -> ρ'.T t = some x)
  (hk : ∀ a o, a ∉ ρ.l -> a ≠ K.P -> h.get? a = some o -> Hard o -> h'.get? a = some o /\ a ∉ ρ'.l) : (∀ {w v}, VR K h ρ w v -> VR K h' ρ' w v) /\ ∀ {ws vs}, VRs K h ρ ws vs -> VRs K h' ρ' ws vs := by
 have c4 : ∀ x t, ρ.T t = some x -> t ≠ 0 -> VR K h' ρ' (.float x t) (.flt x) := fun x t a b => .flt x t (ht t x a) b
 have c6 : ∀ a items vs, PTup h a items -> a ∉ ρ.l -> a ≠ K.P -> VRs K h ρ items.toList vs -> VRs K h' ρ' items.toList vs -> VR K h' ρ' (.ref a) (.tup vs) := fun a items vs p h1 h2 J ih =>
  have ⟨n, g⟩ := p
  have q := hk a _ h1 h2 g (.inl ⟨rfl, _, _, rfl⟩)
  .tup a items vs ⟨n, q.1⟩ q.2 h2 ih
 have c7 : ∀ i a, ρ.l[i]? = some a -> VR K h' ρ' (.ref a) (.lst i) := fun i a g => .lst i a (hl i a g)
 have c8 : ∀ r a b c t u v, IsRange h r a b c t u v -> r ∉ ρ.l -> r ≠ K.P -> VR K h' ρ' (.ref r) (.rng a b c) := fun r a b c t u v g h1 h2 =>
  have q := hk r _ h1 h2 g (.inr ⟨rfl, _, rfl⟩)
  .rng r a b c t u v q.1 q.2 h2
 have c11 : ∀ {w ws v vs}, VR K h ρ w v -> VRs K h ρ ws vs -> VR K h' ρ' w v -> VRs K h' ρ' ws vs -> VRs K h' ρ' (w :: ws) (v :: vs) := fun J J a b => .cons a b
 exact ⟨fun r => VR.rec (motive_1 := fun w v J => VR K h' ρ' w v) (motive_2 := fun ws vs J => VRs K h' ρ' ws vs) .none .bool .int c4 .str c6 c7 c8 .glob .nil c11 r,
  fun r => VRs.rec (motive_1 := fun w v J => VR K h' ρ' w v) (motive_2 := fun ws vs J => VRs K h' ρ' ws vs) .none .bool .int c4 .str c6 c7 c8 .glob .nil c11 r⟩
@[elab_as_elim] theorem VRs.ind {K : Know} {h : Heap} {ρ : Gh} {C : List Value -> List V -> Prop} {ws vs} (r : VRs K h ρ ws vs) (nil : C [] []) (cons : ∀ {w ws v vs}, VR K h ρ w v -> VRs K h ρ ws vs -> C ws vs -> C (w :: ws) (v :: vs)) : C ws vs :=
 VRs.rec (motive_1 := fun J J J => True) (motive_2 := fun ws vs J => C ws vs) trivial (fun J => trivial) (fun J J => trivial) (fun J J J J => trivial) (fun J J => trivial) (fun J J J J J J J J => trivial) (fun J J J => trivial) (fun J J J J J J J J J J => trivial) (fun J J J => trivial)
  nil (fun a b J ih => cons a b ih) r
noncomputable def VI (K : Know) (h : Heap) (ρ : Gh) (w : Value) : V -> Prop
 | .none => w = .none
 | .bool b => w = .bool b
 | .int i => ∃ t, w = .int i t
 | .flt x => ∃ t, w = .float x t /\ ρ.T t = some x /\ t ≠ 0
 | .str s => ∃ x t, w = .str x t /\ x.cps.toList = s
 | .tup vs => ∃ a items, w = .ref a /\ PTup h a items /\ a ∉ ρ.l /\ a ≠ K.P /\ VRs K h ρ items.toList vs
 | .lst i => ∃ a, w = .ref a /\ ρ.l[i]? = some a
 | .rng a b c => ∃ r t u v, w = .ref r /\ IsRange h r a b c t u v /\ r ∉ ρ.l /\ r ≠ K.P
 | .glob g => K.gv g = some w
theorem VR.inv {K h ρ w v} (r : VR K h ρ w v) : VI K h ρ w v :=
 VR.casesOn (motive_1 := fun w v J => VI K h ρ w v) r rfl (fun J => rfl) (fun J t => ⟨t, rfl⟩) (fun J t q1 q2 => ⟨t, rfl, q1, q2⟩) (fun x t => ⟨x, t, rfl, rfl⟩) (fun a items J h1 h2 h3 h4 => ⟨a, items, rfl, h1, h2, h3, h4⟩) (fun J a g => ⟨a, rfl, g⟩) (fun r J J J t u v h1 h2 h3 => ⟨r, t, u, v, rfl, h1, h2, h3⟩) (fun J J q => q)
noncomputable def VIs (K : Know) (h : Heap) (ρ : Gh) (ws : List Value) : List V -> Prop
 | [] => ws = []
 | v :: vs => ∃ w us, ws = w :: us /\ VR K h ρ w v /\ VRs K h ρ us vs
theorem VRs.inv {K h ρ ws vs} (r : VRs K h ρ ws vs) : VIs K h ρ ws vs :=
 VRs.casesOn (motive_2 := fun ws vs J => VIs K h ρ ws vs) r rfl (fun a b => ⟨_, _, rfl, a, b⟩)
theorem VRs.length {K : Know} {h : Heap} {ρ : Gh} {ws : List Value} {vs : List V} (r : VRs K h ρ ws vs) : ws.length = vs.length := r.ind rfl fun J J ih => congrArg (· + 1) ih
theorem VRs.getX {K : Know} {h : Heap} {ρ : Gh} {ws : List Value} {vs : List V} (r : VRs K h ρ ws vs) : ∀ (i : Nat) (v : V), vs[i]? = some v -> ∃ w, ws[i]? = some w /\ VR K h ρ w v :=
 r.ind (fun J J e => nE e) fun a J ih i v e => match i, e with
  | 0, e => ⟨_, rfl, sE e a⟩
  | i + 1, e => ih i v e
theorem VRs.get {K : Know} {h : Heap} {ρ : Gh} {ws : List Value} {vs : List V} (r : VRs K h ρ ws vs) {i : Nat} {v : V} (e : vs[i]? = some v) : ∃ w, ws[i]? = some w /\ VR K h ρ w v := r.getX i v e
theorem VRs.appendX {K : Know} {h : Heap} {ρ : Gh} {ws : List Value} {vs : List V} (r : VRs K h ρ ws vs) : ∀ ws' vs', VRs K h ρ ws' vs' -> VRs K h ρ (ws ++ ws') (vs ++ vs') := r.ind (fun J J r => r) fun a J ih us us' r => .cons a (ih us us' r)
theorem VRs.append {K : Know} {h : Heap} {ρ : Gh} {ws : List Value} {vs : List V} (r : VRs K h ρ ws vs) {ws' vs'} (k : VRs K h ρ ws' vs') : VRs K h ρ (ws ++ ws') (vs ++ vs') := r.appendX _ _ k
theorem VRs.take {K : Know} {h : Heap} {ρ : Gh} {ws : List Value} {vs : List V} (r : VRs K h ρ ws vs) : ∀ n, VRs K h ρ (ws.take n) (vs.take n) :=
 r.ind (fun n => by cases n <;> exact .nil) fun a J ih n => match n with
  | 0 => .nil
  | n + 1 => .cons a (ih n)
theorem VRs.drop {K : Know} {h : Heap} {ρ : Gh} {ws : List Value} {vs : List V} (r : VRs K h ρ ws vs) : ∀ n, VRs K h ρ (ws.drop n) (vs.drop n) :=
 r.ind (fun n => by cases n <;> exact .nil) fun a r ih n => match n with
  | 0 => .cons a r
  | n + 1 => ih n
theorem VRs.set {K : Know} {h : Heap} {ρ : Gh} {w : Value} {v : V} (hv : VR K h ρ w v) {ws : List Value} {vs : List V} (r : VRs K h ρ ws vs) : ∀ n, VRs K h ρ (ws.set n w) (vs.set n v) :=
 r.ind (fun n => by cases n <;> exact .nil) fun a r ih n => match n with
  | 0 => .cons hv r
  | n + 1 => .cons a (ih n)
theorem Ext.refl (K X h ρ) : Ext K X h ρ h ρ := ⟨⟨[], by simp, by exact fun J h => nomatch h⟩, fun J J e => e, fun J J J J J e => e, Nat.le_refl _⟩
theorem Ext.mem {K X h ρ h' ρ'} (e : Ext K X h ρ h' ρ') {a : Addr} (ha : a ∉ ρ.l) (hl : a < h.objs.size) : a ∉ ρ'.l := by
 obtain ⟨t, q, ht⟩ := e.pre
 intro hm
 rw [q] at hm
 rcases mA.mp hm with hm | hm
 ·exact ha hm
 ·exact absurd (ht a hm) (Nat.not_le.mpr hl)
theorem Ext.trans {K X h ρ h_1 ρ_1 h_2 ρ_2} (e : Ext K X h ρ h_1 ρ_1) (f : Ext K X h_1 ρ_1 h_2 ρ_2) : Ext K X h ρ h_2 ρ_2 := by
 refine ⟨?_, fun t x q => f.tok t x (e.tok t x q), fun a o h1 h2 h3 g => f.keep a o (e.mem h1 (hLS g)) h2 h3 (e.keep a o h1 h2 h3 g), qT e.size f.size⟩
 obtain ⟨t, q1, ht⟩ := e.pre
 obtain ⟨t', q2, ht'⟩ := f.pre
 refine ⟨t ++ t', by rw [q2, q1]; exact List.append_assoc _ _ _, fun a ha => ?_⟩
 rcases mA.mp ha with ha | ha
 ·exact ht a ha
 ·exact qT e.size (ht' a ha)
theorem Ext.weaken {K X Y h ρ h' ρ'} (e : Ext K X h ρ h' ρ') (hs : ∀ a ∈ X, a ∈ Y \/ h.objs.size <= a) : Ext K Y h ρ h' ρ' :=
 ⟨e.pre, e.tok, fun a o h1 h2 h3 g => e.keep a o h1 h2 (fun hx => (hs a hx).elim h3 fun q => absurd (hLS g) (qK q)) g, e.size⟩
theorem Ext.mono {K X Y h ρ h' ρ'} (e : Ext K X h ρ h' ρ') (hs : ∀ a ∈ X, a ∈ Y) : Ext K Y h ρ h' ρ' := e.weaken fun a ha => .inl (hs a ha)
theorem Ext.nil {K X h ρ h' ρ'} (e : Ext K [] h ρ h' ρ') : Ext K X h ρ h' ρ' := e.mono (List.nil_subset _)
theorem Ext.get {K X h ρ h' ρ'} (e : Ext K X h ρ h' ρ') {i : Nat} {a : Addr} (g : ρ.l[i]? = some a) : ρ'.l[i]? = some a := by
 obtain ⟨t, q, _⟩ := e.pre
 rw [q, gAL (gSI.mp g).1, g]
theorem Ext.of_keeps {K : Know} {h h' : Heap} {ρ} (k : ∀ b o, h.get? b = some o -> h'.get? b = some o) (hs : h.objs.size <= h'.objs.size) : Ext K [] h ρ h' ρ :=
 ⟨⟨[], by simp, by exact fun J h => nomatch h⟩, fun J J e => e, fun a o J J J g => k a o g, hs⟩
theorem Ext.maps {K h ρ h' ρ'} (e : Ext K [] h ρ h' ρ') : (∀ {w v}, VR K h ρ w v -> VR K h' ρ' w v) /\ ∀ {ws vs}, VRs K h ρ ws vs -> VRs K h' ρ' ws vs :=
 VR.map (fun J J g => e.get g) e.tok fun a o h1 h2 g J => ⟨e.keep a o h1 h2 (fun x => nomatch x) g, e.mem h1 (hLS g)⟩
theorem VR.ext {K h ρ h' ρ'} (e : Ext K [] h ρ h' ρ') {w : Value} {v : V} (r : VR K h ρ w v) : VR K h' ρ' w v := e.maps.1 r
theorem VRs.ext {K h ρ h' ρ'} (e : Ext K [] h ρ h' ρ') {ws : List Value} {vs : List V} (r : VRs K h ρ ws vs) : VRs K h' ρ' ws vs := e.maps.2 r
noncomputable def Soft (o : Obj) : Prop := (o.cls ≠ .type "tuple" \/ ∀ xs n, o.data ≠ .seq xs n) /\ (o.cls ≠ .type "range" \/ ∀ vs, o.data ≠ .fields vs) /\ ∀ vs s t, o.data = .fields vs -> vs[1]? ≠ some (.str s t)
theorem Soft.dict {o : Obj} {es ep} (h : o.data = .dict es ep) : Soft o := ⟨.inr (by simp [h]), .inr (by simp [h]), by lia⟩
theorem Soft.cell {o : Obj} {v} (h : o.data = .cell v) : Soft o := ⟨.inr (by simp [h]), .inr (by simp [h]), by lia⟩
theorem Soft.seq {o : Obj} {xs n} (h : o.data = .seq xs n) (hc : o.cls ≠ .type "tuple") : Soft o := ⟨.inl hc, .inr (by simp [h]), by lia⟩
theorem Soft.not {o : Obj} (s : Soft o) : ¬ Hard o
 | .inl ⟨c, xs, n, d⟩ => s.1.elim (fun q => q c) fun q => q xs n d
 | .inr ⟨c, vs, d⟩ => s.2.1.elim (fun q => q c) fun q => q vs d
theorem Ext.mapsX {K X h ρ h' ρ'} (e : Ext K X h ρ h' ρ') (hX : ∀ a ∈ X, ∀ o, h.get? a = some o -> Soft o) : (∀ {w v}, VR K h ρ w v -> VR K h' ρ' w v) /\ ∀ {ws vs}, VRs K h ρ ws vs -> VRs K h' ρ' ws vs :=
 VR.map (fun J J g => e.get g) e.tok fun a o h1 h2 g d => ⟨e.keep a o h1 h2 (fun x => (hX a x o g).not d) g, e.mem h1 (hLS g)⟩
theorem VR.extX {K X h ρ h' ρ'} (e : Ext K X h ρ h' ρ') (hX : ∀ a ∈ X, ∀ o, h.get? a = some o -> Soft o) {w : Value} {v : V} (r : VR K h ρ w v) : VR K h' ρ' w v := (e.mapsX hX).1 r
theorem VRs.extX {K X h ρ h' ρ'} (e : Ext K X h ρ h' ρ') (hX : ∀ a ∈ X, ∀ o, h.get? a = some o -> Soft o) {ws : List Value} {vs : List V} (r : VRs K h ρ ws vs) : VRs K h' ρ' ws vs := (e.mapsX hX).2 r
theorem HR.P_lt {K σ ρ h tk} (H : HR K σ ρ h tk) : K.P < K.base.objs.size := by
 obtain ⟨_, _, _, _, ps_0, _, g, _⟩ := H.tab
 exact hLS g
theorem HR.lt {K σ ρ h tk} (H : HR K σ ρ h tk) {i : Nat} {a : Addr} (g : ρ.l[i]? = some a) : a < h.objs.size := by
 have : i < σ.length := by rw [← H.len]; exact (gSI.mp g).1
 obtain ⟨xs, hx, _⟩ := H.lists i a σ[i] g (gEG this)
 obtain ⟨o, ho, _⟩ := hx
 exact hLS ho
theorem HR.mem_lt {K σ ρ h tk} (H : HR K σ ρ h tk) {a : Addr} (g : a ∈ ρ.l) : a < h.objs.size := by
 obtain ⟨i, hi⟩ := List.mem_iff_getElem?.mp g
 exact H.lt hi
theorem HR.neP {K σ ρ h tk} (H : HR K σ ρ h tk) {i : Nat} {a : Addr} (g : ρ.l[i]? = some a) : a ≠ K.P := by
 by_cases hi : i = 0
 ·subst hi
  obtain ⟨b, hb, h1, _⟩ := H.first
  rw [g] at hb; cases hb; exact h1
 ·exact fun e => absurd (H.new i a g hi) (Nat.not_le.mpr (e ▸ H.P_lt))
theorem HR.fresh {K σ ρ h tk} (H : HR K σ ρ h tk) : h.objs.size ∉ ρ.l := fun hm => nIR _ (H.mem_lt hm)
theorem HR.freshP {K σ ρ h tk} (H : HR K σ ρ h tk) : h.objs.size ≠ K.P := fun e => absurd H.P_lt (qK (e ▸ H.big))
theorem codeRec_neX {h h' : Heap} {c : Value} {q : Str} (r : h.CodeRec c q) {X : List Addr} (k : ∀ b o, b ∉ X -> h.get? b = some o -> h'.get? b = some o) (hT : ∀ a ∈ X, ∀ o, h.get? a = some o -> Soft o) : h'.CodeRec c q := by
 obtain ⟨c', o, vs, t, e, ho, hd, hv⟩ := r
 exact ⟨c', o, vs, t, e, k _ _ (fun hx => (hT c' hx o ho).2.2 vs q t hd hv) ho, hd, hv⟩
theorem HR.step {K σ ρ h h' tk} {X : List Addr} (H : HR K σ ρ h tk) (k : ∀ b o, b ∉ X -> h.get? b = some o -> h'.get? b = some o) (hs : h.objs.size <= h'.objs.size)
  (hX : ∀ a ∈ X, a ∉ ρ.l /\ K.base.objs.size <= a) (hT : ∀ a ∈ X, ∀ o, h.get? a = some o -> Soft o) : HR K σ ρ h' tk /\ Ext K X h ρ h' ρ := by
 have hPX : K.P ∉ X := fun hx => absurd H.P_lt (qK (hX _ hx).2)
 have e : Ext K X h ρ h' ρ := ⟨⟨[], by simp, by exact fun J h => nomatch h⟩, fun J J e => e, fun a o J J h3 g => k a o h3 g, hs⟩
 refine ⟨⟨H.tk0, H.tlt, fun b o hb g => k _ _ (fun hx => absurd (hLS g) (qK (hX _ hx).2)) (H.base b o hb g), qT H.big hs, ?_, H.len, H.nodup, H.new, H.first, fun i a vs g1 g2 => ?_⟩, e⟩
 ·obtain ⟨ps, g, ht, hc, hm⟩ := H.tab
  exact ⟨ps, k _ _ hPX g, ht, fun pos c q => codeRec_neX (hc pos c q) k hT, hm⟩
 ·obtain ⟨xs, hl, hp, hv⟩ := H.lists i a vs g1 g2
  have ha : a ∉ X := fun hx => (hX a hx).1 (mOG g1)
  obtain ⟨o, ho, r⟩ := id hl
  refine ⟨xs, ⟨o, k _ _ ha ho, r⟩, fun hi => ?_, hv.extX e hT⟩
  obtain ⟨n, hn⟩ := hp hi
  exact ⟨n, k _ _ ha hn⟩
theorem HR.keeps {K σ ρ h h' tk} (H : HR K σ ρ h tk) (k : ∀ b o, h.get? b = some o -> h'.get? b = some o) (hs : h.objs.size <= h'.objs.size) : HR K σ ρ h' tk /\ Ext K [] h ρ h' ρ :=
 H.step (X := []) (fun b o J => k b o) hs (by exact fun J h => nomatch h) (by exact fun J h => nomatch h)
theorem HR.push {K σ ρ h tk} (H : HR K σ ρ h tk) (o : Obj) : HR K σ ρ (h.push o) tk /\ Ext K [] h ρ (h.push o) ρ :=
 H.keeps (fun J J e => hPO _ e) (by rw [hSP]; exact qU)
theorem getElem?_snoc {α : Type} {l : List α} {x y : α} {i : Nat} (h : (l ++ [x])[i]? = some y) : l[i]? = some y \/ (i = l.length /\ y = x) := by
 rcases Nat.lt_trichotomy i l.length with q | q | q
 ·rw [gAL q] at h; exact .inl h
 ·subst q; simp at h; exact .inr ⟨rfl, h.symm⟩
 ·rw [List.getElem?_eq_none (by simp; exact q)] at h; cases h
theorem HR.addL {K σ ρ h tk} (H : HR K σ ρ h tk) {a : Addr} {xs : Array Value} {vs : List V} (hp : h.PlainList a xs) (hv : VRs K h ρ xs.toList vs) (ha : K.base.objs.size <= a) (hn : a ∉ ρ.l) :
  HR K (σ ++ [vs]) (ρ.add a) h tk /\ VR K h (ρ.add a) (.ref a) (.lst σ.length) := by
 obtain ⟨n, hn'⟩ := id hp
 have haP : a ≠ K.P := fun e => absurd H.P_lt (qK (e ▸ ha))
 have tr : ∀ {ws us}, VRs K h ρ ws us -> VRs K h (ρ.add a) ws us :=
  (VR.map (K := K) (h := h) (ρ := ρ) (ρ' := ρ.add a) (fun i b g => (gAL (gSI.mp g).1).trans g) (fun J J e => e) fun b o h1 J g d => ⟨g, fun hm => (mA.mp hm).elim h1 fun q => by
   cases mS.mp q
   rw [hn'] at g; cases g
   exact Soft.not (.seq rfl (by simp)) d⟩).2
 refine ⟨⟨H.tk0, H.tlt, H.base, H.big, H.tab, by simp [Gh.add, H.len], ?_, ?_, ?_, ?_⟩, .lst _ _ (by rw [← H.len]; simp [Gh.add])⟩
 ·show (ρ.l ++ [a]).Nodup
  rw [List.nodup_append]
  exact ⟨H.nodup, by simp, fun x hx y hy => by simp at hy; subst hy; exact fun e => hn (e ▸ hx)⟩
 ·intro i b g hi
  rcases getElem?_snoc g with g | ⟨_, rfl⟩
  ·exact H.new i b g hi
  ·exact ha
 ·obtain ⟨b, hb, r⟩ := H.first
  exact ⟨b, by show (ρ.l ++ [a])[0]? = _; rw [gAL (gSI.mp hb).1, hb], r⟩
 ·intro i b us g1 g2
  rcases getElem?_snoc g2 with g2' | ⟨hi, rfl⟩
  ·have hlt : i < ρ.l.length := by rw [H.len]; exact (gSI.mp g2').1
   change (ρ.l ++ [a])[i]? = _ at g1
   rw [gAL hlt] at g1
   obtain ⟨ys, hl, hpl, hvs⟩ := H.lists i b us g1 g2'
   exact ⟨ys, hl, hpl, tr hvs⟩
  ·have : b = a := by
    change (ρ.l ++ [a])[i]? = _ at g1
    rw [hi, ← H.len] at g1; simpa using g1.symm
   subst this
   exact ⟨xs, hp.isList, fun J => hp, tr hv⟩
theorem HR.newL {K σ ρ h tk} (H : HR K σ ρ h tk) {xs : List Value} {vs : List V} (hv : VRs K h ρ xs vs) {o : Obj} (ho : o = { cls := .type "list", data := .seq xs.toArray }) :
  HR K (σ ++ [vs]) (ρ.add h.objs.size) (h.push o) tk /\ Ext K [] h ρ (h.push o) (ρ.add h.objs.size) /\ VR K (h.push o) (ρ.add h.objs.size) (.ref h.objs.size) (.lst σ.length) := by
 subst ho
 obtain ⟨H', e⟩ := H.push { cls := .type "list", data := .seq xs.toArray }
 obtain ⟨H_2, v⟩ := H'.addL (a := h.objs.size) (xs := xs.toArray) ⟨_, hPS _ rfl⟩ (by simpa using hv.ext e) H.big H.fresh
 exact ⟨H_2, ⟨⟨[h.objs.size], rfl, by simp⟩, fun J J e => e, e.keep, e.size⟩, v⟩
theorem HR.setL {K σ ρ h h' tk} (H : HR K σ ρ h tk) {i : Nat} {a : Addr} (g : ρ.l[i]? = some a) (hi : i ≠ 0) (hs : Heap.SameBut a h h') {xs : Array Value} {vs : List V} (hp : h'.PlainList a xs) (hv : VRs K h ρ xs.toList vs) :
  HR K (σ.set i vs) ρ h' tk /\ Ext K [] h ρ h' ρ := by
 have hk : ∀ b o, b ≠ a -> h.get? b = some o -> h'.get? b = some o := fun b o hb e => (hs.2 b hb).trans e
 have haP := H.neP g
 have hlist : ∃ o, h.get? a = some o /\ o.cls = .type "list" /\ ∃ n xs, o.data = .seq xs n := by
  have : i < σ.length := by rw [← H.len]; exact (gSI.mp g).1
  refine byC fun hG => ?_
  obtain ⟨xs, ⟨o, ho, hc, n, hd⟩, _⟩ := H.lists i a σ[i] g (gEG this)
  refine hG ?_
  exact ⟨o, ho, hc, n, xs, hd⟩
 refine byC fun hG => ?_
 obtain ⟨oa, hoa, hca, na, xa, hda⟩ := hlist
 refine hG ?_
 have e : Ext K [] h ρ h' ρ := ⟨⟨[], by simp, by exact fun J h => nomatch h⟩, fun J J e => e, fun b o h1 J J q => hk b o (fun q' => h1 (q' ▸ mOG g)) q, qE hs.1.symm⟩
 refine ⟨⟨H.tk0, H.tlt, fun b o hb q => ?_, qT H.big (qE hs.1.symm), ?_, by simp [H.len], H.nodup, H.new, H.first, fun j b us g1 g2 => ?_⟩, e⟩
 ·exact hk _ _ (fun q' => absurd (hLS q) (qK (q' ▸ H.new i a g hi))) (H.base b o hb q)
 ·refine byC fun hG => ?_
  obtain ⟨ps, q, ht, hc, hm⟩ := H.tab
  refine hG ?_
  refine ⟨ps, hk _ _ haP.symm q, ht, fun pos c r => ?_, hm⟩
  refine byC fun hG => ?_
  obtain ⟨c', o, us, t, e', ho, hd, hv⟩ := hc pos c r
  refine hG ?_
  exact ⟨c', o, us, t, e', hk _ _ (fun q' => by rw [q', hoa] at ho; cases ho; rw [hda] at hd; cases hd) ho, hd, hv⟩
 ·rw [List.getElem?_set] at g2
  split at g2
  ·rename_i hij
   split at g2
   ·cases g2
    subst hij
    rw [g] at g1; cases g1
    exact ⟨xs, hp.isList, fun J => hp, hv.ext e⟩
   ·cases g2
  ·rename_i hij
   refine byC fun hG => ?_
   obtain ⟨ys, hl, hpl, hvs⟩ := H.lists j b us g1 g2
   have hba : b ≠ a := fun q => hij (by
    subst q
    have h1 := gSI.mp g
    have h2 := gSI.mp g1
    exact (List.getElem?_inj (h1.1) H.nodup).mp (g.trans g1.symm))
   obtain ⟨o, ho, r⟩ := id hl
   refine hG ?_
   exact ⟨ys, ⟨o, hk _ _ hba ho, r⟩, fun q => let ⟨n, hn⟩ := hpl q; ⟨n, hk _ _ hba hn⟩, hvs.ext e⟩
theorem VR.on {K : Know} {ρ : Gh} {α} {F : V -> Option α} {r : α} {h : Heap} {C : Value -> Prop} {w : Value} {v : V} (x : VR K h ρ w v) (e : F v = some r)
  (int : ∀ i t, F (.int i) = some r -> C (.int i t) := by exact fun J J e => nE e) (flt : ∀ x t, ρ.T t = some x -> t ≠ 0 -> F (.flt x) = some r -> C (.float x t) := by exact fun J J J J e => nE e)
  (str : ∀ x t, F (.str x.cps.toList) = some r -> C (.str x t) := by exact fun J J e => nE e) (tup : ∀ a items vs, PTup h a items -> a ∉ ρ.l -> a ≠ K.P -> VRs K h ρ items.toList vs -> F (.tup vs) = some r -> C (.ref a) := by exact fun J J J J J J J e => nE e)
  (lst : ∀ i a, ρ.l[i]? = some a -> F (.lst i) = some r -> C (.ref a) := by exact fun J J J e => nE e) (rng : ∀ a b c d t u v, IsRange h a b c d t u v -> a ∉ ρ.l -> a ≠ K.P -> F (.rng b c d) = some r -> C (.ref a) := by exact fun J J J J J J J J J J e => nE e)
  (glob : ∀ g w, K.gv g = some w -> F (.glob g) = some r -> C w := by exact fun J J J e => nE e) (none : F .none = some r -> C .none := by exact fun e => nE e) (bool : ∀ b, F (.bool b) = some r -> C (.bool b) := by exact fun J e => nE e) : C w :=
 VR.casesOn (motive_1 := fun w v J => F v = some r -> C w) x none bool int flt str tup lst rng glob e
section
variable {K : Know} {ρ : Gh} {α : Type} {r : α} {h : Heap}
@[elab_as_elim] theorem cons_e {F : List V -> Option α} {C : List Value -> Prop} {ws : List Value} {vs : List V} (h0 : F [] = none) (rs : VRs K h ρ ws vs) (e : F vs = some r) (k : ∀ w v ws vs, VR K h ρ w v -> VRs K h ρ ws vs -> F (v :: vs) = some r -> C (w :: ws)) : C ws :=
 VRs.casesOn (motive_2 := fun ws vs J => F vs = some r -> C ws) rs (fun e => nE (h0.symm.trans e)) (k _ _ _ _) e
@[elab_as_elim] theorem nil_e {f : Option α} {C : List Value -> Prop} {ws : List Value} {vs : List V} (rs : VRs K h ρ ws vs) (e : arg0 f vs = some r) (k : f = some r -> C []) : C ws :=
 VRs.casesOn (motive_2 := fun ws vs J => arg0 f vs = some r -> C ws) rs k (fun J J e => nE e) e
@[elab_as_elim] theorem arg1_e {f : V -> Option α} {C : List Value -> Prop} {ws : List Value} {vs : List V} (rs : VRs K h ρ ws vs) (e : arg1 f vs = some r) (k : ∀ w v, VR K h ρ w v -> f v = some r -> C [w]) : C ws :=
 cons_e (F := arg1 f) rfl rs e fun w v J J r rs e => nil_e (f := f v) (C := fun ws => C (w :: ws)) rs e (k w v r)
@[elab_as_elim] theorem argN_e {f : V -> Option α} {g : V -> V -> Option α} {i : V -> V -> V -> Option α} {C : List Value -> Prop} {ws : List Value} {vs : List V} (rs : VRs K h ρ ws vs) (e : argN f g i vs = some r) (k : ∀ w v, VR K h ρ w v -> f v = some r -> C [w])
  (k2 : ∀ w v w' v', VR K h ρ w v -> VR K h ρ w' v' -> g v v' = some r -> C [w, w']) (k3 : ∀ w v w' v' x y, VR K h ρ w v -> VR K h ρ w' v' -> VR K h ρ x y -> i v v' y = some r -> C [w, w', x]) : C ws :=
 cons_e (F := argN f g i) rfl rs e fun w v J J r1 rs e => VRs.casesOn (motive_2 := fun ws vs J => argN f g i (v :: vs) = some r -> C (w :: ws)) rs (k w v r1) (fun {w2 ws v2 vs} r2 rs e =>
  VRs.casesOn (motive_2 := fun ws vs J => argN f g i (v :: v2 :: vs) = some r -> C (w :: w2 :: ws)) rs (k2 _ _ _ _ r1 r2) (fun {w3 ws v3 vs} r3 rs e => nil_e (f := i v v2 v3) (C := fun ws => C (w :: w2 :: w3 :: ws)) rs e (k3 _ _ _ _ _ _ r1 r2 r3)) e) e
variable {w : Value} {v : V} (x : VR K h ρ w v)
include x
@[elab_as_elim] theorem yS {f : Int -> Option α} {C : Value -> Prop} (e : vInt f v = some r) (k : ∀ i t, f i = some r -> C (.int i t)) : C w := VR.on (F := vInt f) x e (int := k)
theorem flt_e {f : UInt64 -> Option α} {C : Prop} (e : vFlt f v = some r) (k : ∀ x, VR K h ρ w (.flt x) -> f x = some r -> C) : C :=
 (VR.on (F := vFlt f) (C := fun w => (∀ x, VR K h ρ w (.flt x) -> f x = some r -> C) -> C) x e (flt := fun y t a b e k => k y (.flt y t a b) e)) k
@[elab_as_elim] theorem vFlt_e {f : UInt64 -> Option α} {C : Value -> Prop} (e : vFlt f v = some r) (k : ∀ y t, f y = some r -> C (.float y t)) : C w := VR.on (F := vFlt f) x e (flt := fun y t J J => k y t)
@[elab_as_elim] theorem tup_e {f : List V -> Option α} {C : Value -> Prop} (e : vTup f v = some r) (k : ∀ a items vs, PTup h a items -> a ∉ ρ.l -> a ≠ K.P -> VRs K h ρ items.toList vs -> f vs = some r -> C (.ref a)) : C w := VR.on (F := vTup f) x e (tup := k)
@[elab_as_elim] theorem none_e {f : Option α} {C : Value -> Prop} (e : vNone f v = some r) (k : f = some r -> C .none) : C w := VR.on (F := vNone f) x e (none := k)
theorem glob_e {f : G -> Option α} {C : Prop} (e : vGlob f v = some r) (k : ∀ g, K.gv g = some w -> f g = some r -> C) : C :=
 (VR.on (F := vGlob f) (C := fun w => (∀ g, K.gv g = some w -> f g = some r -> C) -> C) x e (glob := fun g w q e k => k g q e)) k
theorem glob_v {f : G -> Option α} {C : Prop} (e : vGlob f v = some r) (k : ∀ g, VR K h ρ w (.glob g) -> f g = some r -> C) : C :=
 (VR.on (F := vGlob f) (C := fun w => (∀ g, VR K h ρ w (.glob g) -> f g = some r -> C) -> C) x e (glob := fun g w q e k => k g (.glob g w q) e)) k
theorem str_v {f : List Nat -> Option α} {C : Prop} (e : vStr f v = some r) (k : ∀ l, VR K h ρ w (.str l) -> f l = some r -> C) : C :=
 (VR.on (F := vStr f) (C := fun w => (∀ l, VR K h ρ w (.str l) -> f l = some r -> C) -> C) x e (str := fun y t e k => k _ (.str y t) e)) k
theorem fn_e {f : F -> Option α} {C : Prop} (e : vFn f v = some r) (k : ∀ g, K.gv (.fn g) = some w -> f g = some r -> C) : C :=
 glob_e x e fun g q e => gFn_e e fun x h e => k x (h ▸ q) e
@[elab_as_elim] theorem lst_e {f : Nat -> Option α} {C : Value -> Prop} (e : vLst f v = some r) (k : ∀ i a, ρ.l[i]? = some a -> f i = some r -> C (.ref a)) : C w := VR.on (F := vLst f) x e (lst := k)
@[elab_as_elim] theorem str_e {f : List Nat -> Option α} {C : Value -> Prop} (e : vStr f v = some r) (k : ∀ y t, f y.cps.toList = some r -> C (.str y t)) : C w := VR.on (F := vStr f) x e (str := k)
end
theorem VRs.two {K : Know} {ρ : Gh} {h : Heap} {a b : V} {ws : List Value} (r : VRs K h ρ ws [a, b]) : ∃ x y, ws = [x, y] /\ VR K h ρ x a /\ VR K h ρ y b :=
 have ⟨x, _, e, ra, r⟩ := r.inv
 have ⟨y, _, e', rb, r⟩ := r.inv
 ⟨x, y, by rw [e, e', r.inv], ra, rb⟩
theorem VR.int_inv {K h ρ w i} (r : VR K h ρ w (.int i)) : ∃ t, w = .int i t := r.inv
theorem VR.flt_inv {K h ρ w x} (r : VR K h ρ w (.flt x)) : ∃ t, w = .float x t /\ ρ.T t = some x /\ t ≠ 0 := r.inv
theorem VR.bool_inv {K h ρ w b} (r : VR K h ρ w (.bool b)) : w = .bool b := r.inv
theorem VR.str_inv {K h ρ w s} (r : VR K h ρ w (.str s)) : ∃ x t, w = .str x t /\ x.cps.toList = s := r.inv
theorem VR.tup_inv {K h ρ w vs} (r : VR K h ρ w (.tup vs)) : ∃ a items, w = .ref a /\ PTup h a items /\ a ∉ ρ.l /\ a ≠ K.P /\ VRs K h ρ items.toList vs := r.inv
theorem VR.glob_inv {K h ρ w g} (r : VR K h ρ w (.glob g)) : K.gv g = some w := r.inv
theorem VR.strOf {K h ρ} (l : List Nat) (t : Tok) (x : Str) (e : x.cps.toList = l) : VR K h ρ (.str x t) (.str l) := e ▸ .str x t
theorem HR.mono {K σ ρ h tk tk'} (H : HR K σ ρ h tk) (hle : tk <= tk') : HR K σ ρ h tk' :=
 ⟨qA H.tk0 hle, fun t x q => qA (H.tlt t x q) hle, H.base, H.big, H.tab, H.len, H.nodup, H.new, H.first, H.lists⟩
theorem Ext.tokS {K X h ρ tk x σ} (H : HR K σ ρ h tk) : Ext K X h ρ h (ρ.tok tk x) :=
 ⟨⟨[], by simp [Gh.tok], by exact fun J h => nomatch h⟩, fun t y q => by
  have : t ≠ tk := nNL (H.tlt t y q)
  exact Eq.trans (if_neg this) q, fun J J J J J e => e, Nat.le_refl _⟩
theorem HR.flt {K σ ρ h tk} (H : HR K σ ρ h tk) (x : UInt64) : HR K σ (ρ.tok tk x) h (tk + 1) /\ Ext K [] h ρ h (ρ.tok tk x) /\ VR K h (ρ.tok tk x) (.float x tk) (.flt x) := by
 have e : Ext K [] h ρ h (ρ.tok tk x) := Ext.tokS H
 refine ⟨⟨Nat.lt_succ_of_lt H.tk0, fun t y q => ?_, H.base, H.big, H.tab, H.len, H.nodup, H.new, H.first, fun i a vs g1 g2 => ?_⟩, e, .flt x tk (by simp [Gh.tok]) (Nat.ne_of_gt H.tk0)⟩
 ·simp only [Gh.tok] at q
  split at q
  ·rename_i hc; rw [hc]; exact Nat.lt_succ_self _
  ·exact Nat.lt_succ_of_lt (H.tlt t y q)
 ·obtain ⟨xs, h1, h2, h3⟩ := H.lists i a vs g1 g2
  exact ⟨xs, h1, h2, h3.ext e⟩
end Mine
namespace Mine
open PySem PySem.W PySem.Calls PyProof.Rows
structure Sc where
 names : List (Str × NameKind)
 vars : List Str
 law : Bool := false
noncomputable abbrev EnvOklawF (K : Know) (sc : Sc) (env : Env) : Prop := sc.law = true -> env.code = .ref K.c /\ env.qual = oQ "law" ++ oQ ".<locals>."
structure EnvOk (K : Know) (sc : Sc) (env : Env) : Prop where
 names : env.scope.names = sc.names
 kind : env.scope.kind = .function
 globals : env.globals = mainGlobals
 builtins : env.builtins = builtinsNs
 law : EnvOklawF K sc env
theorem EnvOk.kindOf {K sc env} (e : EnvOk K sc env) (x : Str) : env.kindOf x = sc.names.lookup x := by unfold Env.kindOf; rw [e.names]
noncomputable def ValOk (K : Know) (h : Heap) (ρ : Gh) (ow : Option Value) (ov : Option V) : Prop := ∀ v, ov = some v -> ∃ w, ow = some w /\ VR K h ρ w v
noncomputable def isC (k : Option NameKind) : Prop := k = some .cell \/ k = some .free
noncomputable abbrev CellOkcellF (K : Know) (h : Heap) (ρ : Gh) (c : Addr) (ov : Option V) : Prop := ∃ cv, h.IsCell c cv /\ ValOk K h ρ cv ov
structure CellOk (K : Know) (h : Heap) (ρ : Gh) (c : Addr) (ov : Option V) : Prop where
 cell : CellOkcellF K h ρ c ov
 new : K.base.objs.size <= c
 out : c ∉ ρ.l
noncomputable abbrev FrameOknsF (K : Know) (sc : Sc) (env : Env) (h : Heap) (ρ : Gh) (sl : Slots) : Prop := ∃ m, h.Ns env.locals m /\ ∀ (i : Nat) (x : Str), sc.vars[i]? = some x -> sc.names.lookup x = some .local -> ∃ ov : Option V, sl[i]? = some ov /\ ValOk K h ρ (m x) ov
noncomputable abbrev FrameOkcellsF (K : Know) (sc : Sc) (env : Env) (h : Heap) (ρ : Gh) (sl : Slots) : Prop := ∀ (i : Nat) (x : Str), sc.vars[i]? = some x -> isC (sc.names.lookup x) -> ∃ (ov : Option V) (c : Addr), sl[i]? = some ov /\ env.cells.lookup x = some c /\ CellOk K h ρ c ov
noncomputable abbrev FrameOkapartF (env : Env) : Prop := ∀ x y c, env.cells.lookup x = some c -> env.cells.lookup y = some c -> x = y
structure FrameOk (K : Know) (sc : Sc) (env : Env) (h : Heap) (ρ : Gh) (sl : Slots) : Prop where
 eo : EnvOk K sc env
 ns : FrameOknsF K sc env h ρ sl
 cells : FrameOkcellsF K sc env h ρ sl
 out : env.locals ∉ ρ.l
 new : K.base.objs.size <= env.locals
 apart : FrameOkapartF env
 nodup : sc.vars.Nodup
 length : sl.length = sc.vars.length
 cs : ∀ a ∈ env.cells.map (·.2), (∃ cv, h.IsCell a cv) /\ K.base.objs.size <= a /\ a ∉ ρ.l
noncomputable def own (env : Env) : List Addr := env.locals :: env.cells.map (·.2)
theorem ValOk.ext {K h ρ h' ρ' ow ov X} (v : ValOk K h ρ ow ov) (e : Ext K X h ρ h' ρ') (hX : ∀ a ∈ X, ∀ o, h.get? a = some o -> Soft o) : ValOk K h' ρ' ow ov :=
 fun u hu => let ⟨w, hw, r⟩ := v u hu; ⟨w, hw, r.extX e hX⟩
theorem isCell_lt {h : Heap} {c : Addr} {v} (x : h.IsCell c v) : c < h.objs.size := let ⟨_, ho, _⟩ := x; hLS ho
theorem HR.neP_of_new {K σ ρ h tk} (H : HR K σ ρ h tk) {a : Addr} (ha : K.base.objs.size <= a) : a ≠ K.P := fun e => absurd H.P_lt (qK (e ▸ ha))
theorem xD {env : Env} {x : Str} {c : Addr} (h : env.cells.lookup x = some c) : c ∈ own env := by
 have := mem_of_lookup h
 exact mT _ (mP.mpr ⟨_, this, rfl⟩)
theorem FrameOk.cell_e {K sc env h ρ} {sl : Slots} {i : Nat} {x : Str} {C : Prop} (f : FrameOk K sc env h ρ sl) (g : sc.vars[i]? = some x) (hk : isC (sc.names.lookup x))
  (k : ∀ (ov : Option V) c cv, sl[i]? = some ov -> env.cells.lookup x = some c -> h.IsCell c cv -> ValOk K h ρ cv ov -> K.base.objs.size <= c -> c ∉ ρ.l -> C) : C := by
 obtain ⟨ov, c, g2, g3, q⟩ := f.cells i x g hk
 obtain ⟨cv, hc, v⟩ := q.cell
 exact k ov c cv g2 g3 hc v q.new q.out
theorem FrameOk.ns_e {K sc env h ρ sl} {C : Prop} (f : FrameOk K sc env h ρ sl)
  (k : ∀ m, h.Ns env.locals m -> (∀ (i : Nat) (x : Str), sc.vars[i]? = some x -> sc.names.lookup x = some .local -> ∃ ov : Option V, sl[i]? = some ov /\ ValOk K h ρ (m x) ov) -> C) : C :=
 f.ns.elim fun m q => k m q.1 q.2
theorem ns_cell {h : Heap} {a c m v} (hn : h.Ns a m) (hc : h.IsCell c v) : c ≠ a := by
 obtain ⟨o, es, ep, ho, hd, J⟩ := hn
 obtain ⟨o', ho', hd'⟩ := hc
 rintro rfl
 rw [ho] at ho'; cases ho'; rw [hd] at hd'; cases hd'
theorem FrameOk.extX {K sc env h ρ sl h' ρ' σ tk X} (f : FrameOk K sc env h ρ sl) (H : HR K σ ρ h tk) (e : Ext K X h ρ h' ρ') (hX : ∀ a ∈ X, ∀ o, h.get? a = some o -> Soft o) (hd : ∀ a ∈ X, a ∉ own env) :
  FrameOk K sc env h' ρ' sl := by
 have hL : env.locals ∉ X := fun hx => hd _ hx mcS
 refine ⟨f.eo, ?_, ?_, ?_, f.new, f.apart, f.nodup, f.length, ?_⟩
 ·refine f.ns_e fun m hn hs => ?_
  refine ⟨m, hn.at' fun o g => e.keep _ _ f.out (H.neP_of_new f.new) hL g, fun i x g hk => ?_⟩
  obtain ⟨ov, g2, v⟩ := hs i x g hk
  exact ⟨ov, g2, v.ext e hX⟩
 ·intro i x g hk
  refine f.cell_e g hk fun ov c cv g2 g3 hc v h1 h2 => ?_
  have hcX : c ∉ X := fun hx => hd _ hx (xD g3)
  obtain ⟨o, ho, hdat⟩ := id hc
  exact ⟨ov, c, g2, g3, ⟨⟨cv, ⟨o, e.keep _ _ h2 (H.neP_of_new h1) hcX ho, hdat⟩, v.ext e hX⟩, h1, e.mem h2 (isCell_lt hc)⟩⟩
 ·obtain ⟨m, hn, J⟩ := f.ns
  exact e.mem f.out hn.lt
 ·intro a ha
  refine byC fun hG => ?_
  obtain ⟨⟨cv, hc⟩, h1, h2⟩ := f.cs a ha
  obtain ⟨o, ho, hdat⟩ := id hc
  refine hG ?_
  exact ⟨⟨cv, o, e.keep _ _ h2 (H.neP_of_new h1) (fun hx => hd _ hx (mT _ ha)) ho, hdat⟩, h1, e.mem h2 (isCell_lt hc)⟩
theorem FrameOk.soft {K sc env h ρ sl} (f : FrameOk K sc env h ρ sl) : ∀ a ∈ own env, ∀ o, h.get? a = some o -> Soft o := by
 intro a ha o ho
 rcases mC.mp ha with rfl | ha
 ·obtain ⟨m, ⟨o', es, ep, ho', hd, J⟩, J⟩ := f.ns
  rw [ho] at ho'; cases ho'
  exact .dict hd
 ·obtain ⟨⟨cv, o', ho', hd⟩, J, J⟩ := f.cs a ha
  rw [ho] at ho'; cases ho'
  exact .cell hd
theorem FrameOk.lt {K sc env h ρ sl} (f : FrameOk K sc env h ρ sl) : ∀ a ∈ own env, a < h.objs.size := by
 intro a ha
 rcases mC.mp ha with rfl | ha
 ·obtain ⟨m, hn, J⟩ := f.ns
  exact hn.lt
 ·obtain ⟨⟨cv, hc⟩, J, J⟩ := f.cs a ha
  exact isCell_lt hc
theorem FrameOk.ext {K sc env h ρ sl h' ρ' σ tk} (f : FrameOk K sc env h ρ sl) (H : HR K σ ρ h tk) (e : Ext K [] h ρ h' ρ') : FrameOk K sc env h' ρ' sl := f.extX H e (by exact fun J h => nomatch h) (by exact fun J h => nomatch h)
section
variable {K : Know} {prog : Program} {w : World} {A : Around} {E : Value -> Shared -> Prop} {s : Shared} {sc : Sc} {env : Env} {σ : Sto} {ρ : Gh} {sl : Slots}
theorem load_slot (f : FrameOk K sc env s.heap ρ sl) {i : Nat} {x : Str} {v : V} {Q : Value -> Shared -> Prop} (g : sc.vars[i]? = some x) (hs : (sl[i]?).join = some v)
  (hk : sc.names.lookup x = some .local \/ isC (sc.names.lookup x)) (hcd : sc.names.lookup x = some .free -> (x == ("__classdict__" : Str)) = false)
  (h : ∀ w, VR K s.heap ρ w v -> Q w s) : wpAny (model prog w) A (loadName env x) Q E s := by
 rcases hk with hk | hk
 ·refine f.ns_e fun m hn hsl => byC fun hG => ?_
  obtain ⟨ov, g2, hv⟩ := hsl i x g hk
  rw [g2] at hs
  obtain ⟨u, hu, r⟩ := hv v hs
  refine hG ?_
  exact wpAny_loadName_local f.eo.kind ((f.eo.kindOf x).trans hk) hn hu (h u r)
 ·refine f.cell_e g hk fun ov c cv g2 g3 hc hv J J => byC fun hG => ?_
  rw [g2] at hs
  obtain ⟨u, hu, r⟩ := hv v hs
  refine hG ?_
  rw [hu] at hc
  rcases hk with hk | hk
  ·exact wpAny_loadName_cell f.eo.kind ((f.eo.kindOf x).trans hk) g3 hc (h u r)
  ·exact wpAny_loadName_free f.eo.kind ((f.eo.kindOf x).trans hk) g3 hc (h u r) (hcd hk)
theorem ns_get {h : Heap} {a m} (hn : h.Ns a m) : ∃ o, h.get? a = some o /\ Soft o := by
 obtain ⟨o, es, ep, ho, hd, J⟩ := hn
 exact ⟨o, ho, .dict hd⟩
noncomputable def tgt (sc : Sc) (env : Env) (x : Str) : List Addr := if sc.names.lookup x = some .local then [env.locals] else (env.cells.lookup x).toList
theorem tgt_sub {sc : Sc} {env : Env} {x : Str} : ∀ a ∈ tgt sc env x, a ∈ own env := by
 intro a ha
 unfold tgt at ha
 split at ha
 ·exact mC.mpr (.inl (mS.mp ha))
 ·exact xD (by simpa using ha)
theorem store_slotT (f : FrameOk K sc env s.heap ρ sl) (H : HR K σ ρ s.heap s.toks) {i : Nat} {x : Str} {v : V} {u : Value} {Q : Unit -> Shared -> Prop} (g : sc.vars[i]? = some x)
  (hk : sc.names.lookup x = some .local \/ sc.names.lookup x = some .cell) (r : VR K s.heap ρ u v)
  (h : ∀ h' tk, FrameOk K sc env h' ρ (setSl sl i v) -> HR K σ ρ h' tk -> Ext K (tgt sc env x) s.heap ρ h' ρ -> Q () { s with heap := h', toks := tk }) : wpAny (model prog w) A (storeName env x u) Q E s := by
 have hlen : i < sl.length := by rw [f.length]; exact (gSI.mp g).1
 have hi : (setSl sl i v)[i]? = some (some v) := by exact List.getElem?_set_self hlen
 have hother : ∀ {j y}, sc.vars[j]? = some y -> y ≠ x -> (setSl sl i v)[j]? = sl[j]? := fun {j y} gj hy => by
  unfold setSl
  rw [gSN]
  exact fun e => hy (by subst e; rw [g] at gj; exact (sI gj).symm)
 have hsame : ∀ {j}, sc.vars[j]? = some x -> j = i := fun {j} gj => (List.getElem?_inj ((gSI.mp gj).1) f.nodup).mp (gj.trans g.symm)
 rcases hk with hk | hk
 ·refine f.ns_e fun m hn hsl => ?_
  refine wpAny_storeName_local ((f.eo.kindOf x).trans hk) hn (fun h' hn' hs' => ?_) (by rw [f.eo.kind]; rfl)
  have hX : ∀ a ∈ [env.locals], ∀ o, s.heap.get? a = some o -> Soft o := fun a ha o ho => by
   simp at ha; subst ha
   obtain ⟨o', ho', so⟩ := ns_get hn
   rw [ho] at ho'; cases ho'; exact so
  obtain ⟨H', e⟩ := H.step (X := [env.locals]) (h' := h') (fun b o hb q => (hs'.2 b (by simpa using hb)).trans q) (qE hs'.1.symm) (by simp [f.out, f.new]) hX
  refine h h' _ ⟨f.eo, ⟨_, hn', fun j y gj hky => ?_⟩, fun j y gj hky => ?_, f.out, f.new, f.apart, f.nodup, by simp [setSl, f.length], fun a ha => ?_⟩ (H'.mono qU) (e.mono (by simp [tgt, hk]))
  ·by_cases hy : y = x
   ·subst hy
    rw [hsame gj]
    exact ⟨_, hi, fun v' hv' => ⟨u, by simp, by cases hv'; exact r.extX e hX⟩⟩
   ·obtain ⟨ov, g2, hv⟩ := hsl j y gj hky
    exact ⟨ov, (hother gj hy).trans g2, by simp only [hy, if_false]; exact hv.ext e hX⟩
  ·have hy : y ≠ x := fun q => by subst q; rw [hk] at hky; rcases hky with q | q <;> cases q
   exact f.cell_e gj hky fun ov c cv g2 g3 hc hv h1 h2 => ⟨ov, c, (hother gj hy).trans g2, g3, ⟨⟨cv, hc.sameBut hs' (ns_cell hn hc), hv.ext e hX⟩, h1, h2⟩⟩
  ·obtain ⟨⟨cv, hc⟩, h1, h2⟩ := f.cs a ha
   exact ⟨⟨cv, hc.sameBut hs' (ns_cell hn hc)⟩, h1, h2⟩
 ·refine f.cell_e g (.inl hk) fun ov c cv g2 g3 hc hv h1 h2 => ?_
  refine wpAny_storeName_cell f.eo.kind ((f.eo.kindOf x).trans hk) g3 hc fun h' hc' hs' => ?_
  have hX : ∀ a ∈ [c], ∀ o, s.heap.get? a = some o -> Soft o := fun a ha o ho => by
   simp at ha; subst ha
   obtain ⟨o', ho', hd'⟩ := hc
   rw [ho] at ho'; cases ho'; exact .cell hd'
  obtain ⟨H', e⟩ := H.step (X := [c]) (h' := h') (fun b o hb q => (hs'.2 b (by simpa using hb)).trans q) (qE hs'.1.symm) (by simp [h1, h2]) hX
  have := h h' s.toks ⟨f.eo, ?_, fun j y gj hky => ?_, f.out, f.new, f.apart, f.nodup, by simp [setSl, f.length], fun a ha => ?_⟩ H' (e.mono (by simp [tgt, hk, g3]))
  ·exact this
  ·refine f.ns_e fun m hn hsl => ⟨m, hn.sameBut hs' (ns_cell hn hc).symm, fun j y gj hky => ?_⟩
   have hy : y ≠ x := fun q => by subst q; rw [hk] at hky; cases hky
   obtain ⟨ov, g2', hv'⟩ := hsl j y gj hky
   exact ⟨ov, (hother gj hy).trans g2', hv'.ext e hX⟩
  ·by_cases hy : y = x
   ·subst hy
    rw [hsame gj]
    exact ⟨_, c, hi, g3, ⟨⟨some u, hc', fun v' hv' => ⟨u, rfl, by cases hv'; exact r.extX e hX⟩⟩, h1, h2⟩⟩
   ·exact f.cell_e gj hky fun ov' c' cv' g2' g3' hcc hv' h1' h2' => ⟨ov', c', (hother gj hy).trans g2', g3', ⟨⟨cv', hcc.sameBut hs' fun q => hy (f.apart y x c (q ▸ g3') g3), hv'.ext e hX⟩, h1', h2'⟩⟩
  ·obtain ⟨⟨cv', hc''⟩, h1', h2'⟩ := f.cs a ha
   by_cases hac : a = c
   ·subst hac; exact ⟨⟨_, hc'⟩, h1', h2'⟩
   ·exact ⟨⟨cv', hc''.sameBut hs' hac⟩, h1', h2'⟩
theorem yH (f : FrameOk K sc env s.heap ρ sl) (H : HR K σ ρ s.heap s.toks) {i : Nat} {x : Str} {v : V} {u : Value} {Q : Unit -> Shared -> Prop} (g : sc.vars[i]? = some x)
  (hk : sc.names.lookup x = some .local \/ sc.names.lookup x = some .cell) (r : VR K s.heap ρ u v)
  (h : ∀ h' tk, FrameOk K sc env h' ρ (setSl sl i v) -> HR K σ ρ h' tk -> Ext K (own env) s.heap ρ h' ρ -> Q () { s with heap := h', toks := tk }) : wpAny (model prog w) A (storeName env x u) Q E s :=
 store_slotT f H g hk r fun h' tk f' H' e => h h' tk f' H' (e.mono tgt_sub)
end
end Mine
namespace Mine
set_option genInjectivity false
set_option genSizeOf false
open PySem PySem.W PySem.Calls PyProof.Rows
noncomputable def gnames : List (Str × G) := [
 (oQ "insort_right", .fn .insortR), (oQ "bisect_right", .fn .bisectR), (oQ "insort_left", .fn .insortL), (oQ "bisect_left", .fn .bisectL),
 (oQ "rgb_to_hls", .fn .hls), (oQ "rgb_to_hsv", .fn .hsv), (oQ "hsv_to_rgb", .fn .rgb), (oQ "quotedata", .fn .quote),
 (oQ "_substitution_cost", .fn .subst), (oQ "_levenshtein_distance", .fn .lev), (oQ "_law_value", .fn .value), (oQ "_law_lightness", .fn .light),
 (oQ "_law_read", .fn .read), (oQ "_law_due", .fn .due),
 (oQ "range", .range), (oQ "sum", .sum), (oQ "list", .list), (oQ "len", .len), (oQ "max", .max), (oQ "min", .min),
 (oQ "sorted", .sorted), (oQ "int", .int), (oQ "_twin_re_1", .re1), (oQ "_twin_re_2", .re2), (oQ "CRLF", .crlf),
 (oQ "_MAX_STRING_SIZE", .maxsz), (oQ "_MOVE_COST", .move), (oQ "_CASE_COST", .case)]
noncomputable def opOf : Operator -> Option Op
 | .Add => some .Add | .Sub => some .Sub | .Mult => some .Mult | .Div => some .Div | .FloorDiv => some .FloorDiv | .Mod => some .Mod | .Pow => some .Pow
 | _ => none
noncomputable def cmpOf : CmpOp -> Option Cmp
 | .Lt => some .Lt | .LtE => some .LtE | .Gt => some .Gt | .Eq => some .Eq | .NotEq => some .NotEq | .Is => some .Is
 | _ => none
noncomputable def methOf (x : Str) : Option Meth :=
 [(oQ "append", Meth.append), (oQ "insert", .insert), (oQ "pop", .pop), (oQ "join", .join), (oQ "lower", .lower), (oQ "sub", .sub)].lookup x
noncomputable def isComp (x : Expr) : Bool := x.ctorIdx == 8 || x.ctorIdx == 9 || x.ctorIdx == 10
noncomputable def isSlice (x : Expr) : Bool := x.ctorIdx == 26
noncomputable def isCall (x : Expr) : Bool := x.ctorIdx == 16
noncomputable def isAttr (x : Expr) : Bool := x.ctorIdx == 20
noncomputable def x8 : Expr -> Bool
 | .UnaryOp .Not _ _ | .BoolOp .. | .IfExp .. | .Compare .. => true
 | _ => false
noncomputable def yK (x : Expr) : Bool := x.ctorIdx == 7
noncomputable def relab (sc : Sc) (names : List (Str × NameKind)) : List (Str × NameKind) :=
 names.map fun (n, k) => if (k == .free && sc.names.lookup n == some .cell) then (n, .cell) else (n, k)
noncomputable def goodNames (names : List (Str × NameKind)) : Bool := names.all fun p => p.2 != .local || names.lookup p.1 == some .local
noncomputable def y5 (names : List (Str × NameKind)) : Bool := names.all fun p => p.2 != .cell
noncomputable def oneCell (y : Str) (names : List (Str × NameKind)) : Bool := (names.filter fun p => p.2 == .cell) == [(y, .cell)]
noncomputable def freesIn (names : List (Str × NameKind)) (fs : List Str) : Bool := fs.all fun f => names.contains (f, .free)
noncomputable def closed (sc : Sc) (names : List (Str × NameKind)) : Bool := names.all fun p => p.2 != .free || (sc.vars.contains p.1 && (sc.names.lookup p.1 == some .cell || sc.names.lookup p.1 == some .free))
noncomputable abbrev CompOkhyF (y : Str) (scope : Scope) : Prop := (y5 scope.names = true /\ scope.names.lookup y = some .local) \/ (oneCell y scope.names = true /\ scope.names.lookup y = some .cell)
noncomputable abbrev CompOkhfsF (sc : Sc) (frees : List Nat) (fs : List Str) : Prop := frees.map (fun i => sc.vars[i]?) = fs.map some
noncomputable abbrev CompOkhlookF (fs : List Str) (scope : Scope) : Prop := ∀ f ∈ fs, scope.names.lookup f = some .free
noncomputable abbrev CompOkhdbgF (y : Str) (fs : List Str) : Prop := (y :: fs).all (fun f => !(f == ("__debug__" : Str)) && !(f == ("__classdict__" : Str))) = true
structure CompOk (sc : Sc) (y : Str) (frees : List Nat) (fs : List Str) (scope : Scope) : Prop where
 hk : scope.kind = .function
 hgood : goodNames scope.names = true
 hy : CompOkhyF y scope
 hfs : CompOkhfsF sc frees fs
 hff : freesIn scope.names fs = true
 hlook : CompOkhlookF fs scope
 hcl : closed sc scope.names = true
 hnd : (y :: fs).Nodup
 hdbg : CompOkhdbgF y fs
noncomputable def yM (sc : Sc) (x : Str) : Prop := sc.names.lookup x = some .local \/ sc.names.lookup x = some .cell
noncomputable def ifsOf : Option Expr -> List Expr
 | none => []
 | some t => [t]
end Mine
namespace Mine
open PySem PySem.W PySem.Calls PyProof.Rows
noncomputable def isCB (k : Option NameKind) : Bool := k == some .cell || k == some .free
noncomputable def fsOf (sc : Sc) (frees : List Nat) : List Str := frees.filterMap fun i => sc.vars[i]?
noncomputable def compOkB (sc : Sc) (y : Str) (frees : List Nat) (scope : Scope) : Bool :=
 decide (scope.kind = .function /\ goodNames scope.names = true /\ ((y5 scope.names = true /\ scope.names.lookup y = some .local) \/ (oneCell y scope.names = true /\ scope.names.lookup y = some .cell)) /\
 (frees.map (fun i => sc.vars[i]?) = (fsOf sc frees).map some) /\ freesIn scope.names (fsOf sc frees) = true /\ (∀ f ∈ fsOf sc frees, scope.names.lookup f = some .free) /\
 closed sc scope.names = true /\ (y :: fsOf sc frees).Nodup /\ (y :: fsOf sc frees).all (fun f => !(f == ("__debug__" : Str)) && !(f == ("__classdict__" : Str))) = true)
theorem xR {sc y frees scope} (h : compOkB sc y frees scope = true) : CompOk sc y frees (fsOf sc frees) scope :=
 have h := of_decide_eq_true h
 ⟨h.1, h.2.1, h.2.2.1, h.2.2.2.1, h.2.2.2.2.1, h.2.2.2.2.2.1, h.2.2.2.2.2.2.1, h.2.2.2.2.2.2.2.1, h.2.2.2.2.2.2.2.2⟩
theorem dT {p C : Prop} [Decidable p] {f : p -> Bool} (h : (if q : p then f q else false) = true) (k : ∀ q, f q = true -> C) : C := by
 by_cases q : p
 ·exact k q (by rwa [dif_pos q] at h)
 ·rw [dif_neg q] at h; exact fE h
theorem aL {a b : Bool} (h : (a && b) = true) : a = true := (Bool.and_eq_true_iff.mp h).1
theorem aR {a b : Bool} (h : (a && b) = true) : b = true := (Bool.and_eq_true_iff.mp h).2
theorem aN {a : Bool} (h : (!a) = true) : a = false := by simpa using h
@[elab_as_elim] theorem bE {α} [BEq α] [LawfulBEq α] {C : α -> Prop} {a b : α} (h : (a == b) = true) (k : C b) : C a := by rw [eq_of_beq h]; exact k
@[elab_as_elim] theorem lE {α} {C : List α -> Prop} {l : List α} (h : l.isEmpty = true) (k : C []) : C l := by cases l <;> first | exact k | exact fE h
@[elab_as_elim] theorem oE {α} {C : Option α -> Prop} {l : Option α} (h : l.isNone = true) (k : C none) : C l := by cases l <;> first | exact k | exact fE h
noncomputable def l1 {α} (f : α -> Bool) : List α -> Bool
 | [a] => f a | [] => false | _ :: _ :: _ => false
noncomputable def l2 {α} (f : α -> α -> Bool) : List α -> Bool
 | [a, b] => f a b | [] => false | [_] => false | _ :: _ :: _ :: _ => false
@[elab_as_elim] theorem l1_e {α} {f : α -> Bool} {C : List α -> Prop} {l} (h : l1 f l = true) (k : ∀ a, f a = true -> C [a]) : C l := match l, h with
 | [a], h => k a h | [], h => nomatch h | _ :: _ :: _, h => fE h
@[elab_as_elim] theorem l2_e {α} {f : α -> α -> Bool} {C : List α -> Prop} {l} (h : l2 f l = true) (k : ∀ a b, f a b = true -> C [a, b]) : C l := match l, h with
 | [a, b], h => k a b h | [], h => nomatch h | [_], h => nomatch h | _ :: _ :: _ :: _, h => fE h
noncomputable def oS {α} (f : α -> Bool) : Option α -> Bool
 | some a => f a | none => false
@[elab_as_elim] theorem oS_e {α} {f : α -> Bool} {C : Option α -> Prop} {l} (h : oS f l = true) (k : ∀ a, f a = true -> C (some a)) : C l := match l, h with
 | some a, h => k a h | none, h => fE h
noncomputable def all2 {α β} (f : α -> β -> Bool) : List α -> List β -> Bool
 | [], bs => bs.isEmpty
 | a :: as, bs => match bs with | [] => false | b :: bs => f a b && all2 f as bs
noncomputable def opt2 {α β} (f : α -> β -> Bool) : Option α -> Option β -> Bool
 | none, b => b.isNone
 | some a, b => oS (f a) b
noncomputable def ifs2 (f : Expr -> ME -> Bool) (l : List Expr) : Option ME -> Bool
 | none => l.isEmpty
 | some m => l1 (fun a => f a m) l
noncomputable def xBoolOp (f : BoolOp -> List Expr -> Pos -> Bool) (x : Expr) : Bool := if q : x.ctorIdx = 0 then Expr.BoolOp.elim (motive_1 := fun J => Bool) x q f else false
@[elab_as_elim] theorem xBoolOp_e {f} {C : Expr -> Prop} {x} (h : xBoolOp f x = true) (k : ∀ a b c, f a b c = true -> C (.BoolOp a b c)) : C x :=
 dT h fun q => Expr.BoolOp.elim (motive_1 := fun x => ∀ q : x.ctorIdx = 0, Expr.BoolOp.elim (motive_1 := fun J => Bool) x q f = true -> C x) x q (fun a b c J h => k a b c h) q
noncomputable def xBinOp (f : Expr -> Operator -> Expr -> Pos -> Bool) (x : Expr) : Bool := if q : x.ctorIdx = 2 then Expr.BinOp.elim (motive_1 := fun J => Bool) x q f else false
@[elab_as_elim] theorem xBinOp_e {f} {C : Expr -> Prop} {x} (h : xBinOp f x = true) (k : ∀ a b c d, f a b c d = true -> C (.BinOp a b c d)) : C x :=
 dT h fun q => Expr.BinOp.elim (motive_1 := fun x => ∀ q : x.ctorIdx = 2, Expr.BinOp.elim (motive_1 := fun J => Bool) x q f = true -> C x) x q (fun a b c d J h => k a b c d h) q
noncomputable def xUnaryOp (f : UnaryOp -> Expr -> Pos -> Bool) (x : Expr) : Bool := if q : x.ctorIdx = 3 then Expr.UnaryOp.elim (motive_1 := fun J => Bool) x q f else false
@[elab_as_elim] theorem xUnaryOp_e {f} {C : Expr -> Prop} {x} (h : xUnaryOp f x = true) (k : ∀ a b c, f a b c = true -> C (.UnaryOp a b c)) : C x :=
 dT h fun q => Expr.UnaryOp.elim (motive_1 := fun x => ∀ q : x.ctorIdx = 3, Expr.UnaryOp.elim (motive_1 := fun J => Bool) x q f = true -> C x) x q (fun a b c J h => k a b c h) q
noncomputable def xLambda (f : Arguments -> Expr -> Scope -> Pos -> Bool) (x : Expr) : Bool := if q : x.ctorIdx = 4 then Expr.Lambda.elim (motive_1 := fun J => Bool) x q f else false
@[elab_as_elim] theorem xLambda_e {f} {C : Expr -> Prop} {x} (h : xLambda f x = true) (k : ∀ a b c d, f a b c d = true -> C (.Lambda a b c d)) : C x :=
 dT h fun q => Expr.Lambda.elim (motive_1 := fun x => ∀ q : x.ctorIdx = 4, Expr.Lambda.elim (motive_1 := fun J => Bool) x q f = true -> C x) x q (fun a b c d J h => k a b c d h) q
noncomputable def xIfExp (f : Expr -> Expr -> Expr -> Pos -> Bool) (x : Expr) : Bool := if q : x.ctorIdx = 5 then Expr.IfExp.elim (motive_1 := fun J => Bool) x q f else false
@[elab_as_elim] theorem xIfExp_e {f} {C : Expr -> Prop} {x} (h : xIfExp f x = true) (k : ∀ a b c d, f a b c d = true -> C (.IfExp a b c d)) : C x :=
 dT h fun q => Expr.IfExp.elim (motive_1 := fun x => ∀ q : x.ctorIdx = 5, Expr.IfExp.elim (motive_1 := fun J => Bool) x q f = true -> C x) x q (fun a b c d J h => k a b c d h) q
noncomputable def xListComp (f : Expr -> List Comprehension -> Scope -> Pos -> Bool) (x : Expr) : Bool := if q : x.ctorIdx = 8 then Expr.ListComp.elim (motive_1 := fun J => Bool) x q f else false
@[elab_as_elim] theorem xListComp_e {f} {C : Expr -> Prop} {x} (h : xListComp f x = true) (k : ∀ a b c d, f a b c d = true -> C (.ListComp a b c d)) : C x :=
 dT h fun q => Expr.ListComp.elim (motive_1 := fun x => ∀ q : x.ctorIdx = 8, Expr.ListComp.elim (motive_1 := fun J => Bool) x q f = true -> C x) x q (fun a b c d J h => k a b c d h) q
noncomputable def xCompare (f : Expr -> List CmpOp -> List Expr -> Pos -> Bool) (x : Expr) : Bool := if q : x.ctorIdx = 15 then Expr.Compare.elim (motive_1 := fun J => Bool) x q f else false
@[elab_as_elim] theorem xCompare_e {f} {C : Expr -> Prop} {x} (h : xCompare f x = true) (k : ∀ a b c d, f a b c d = true -> C (.Compare a b c d)) : C x :=
 dT h fun q => Expr.Compare.elim (motive_1 := fun x => ∀ q : x.ctorIdx = 15, Expr.Compare.elim (motive_1 := fun J => Bool) x q f = true -> C x) x q (fun a b c d J h => k a b c d h) q
noncomputable def xCall (f : Expr -> List Expr -> List Keyword -> Pos -> Bool) (x : Expr) : Bool := if q : x.ctorIdx = 16 then Expr.Call.elim (motive_1 := fun J => Bool) x q f else false
@[elab_as_elim] theorem xCall_e {f} {C : Expr -> Prop} {x} (h : xCall f x = true) (k : ∀ a b c d, f a b c d = true -> C (.Call a b c d)) : C x :=
 dT h fun q => Expr.Call.elim (motive_1 := fun x => ∀ q : x.ctorIdx = 16, Expr.Call.elim (motive_1 := fun J => Bool) x q f = true -> C x) x q (fun a b c d J h => k a b c d h) q
noncomputable def xW (f : Const -> Nat -> Pos -> Bool) (x : Expr) : Bool := if q : x.ctorIdx = 19 then Expr.Constant.elim (motive_1 := fun J => Bool) x q f else false
@[elab_as_elim] theorem xH {f} {C : Expr -> Prop} {x} (h : xW f x = true) (k : ∀ a b c, f a b c = true -> C (.Constant a b c)) : C x :=
 dT h fun q => Expr.Constant.elim (motive_1 := fun x => ∀ q : x.ctorIdx = 19, Expr.Constant.elim (motive_1 := fun J => Bool) x q f = true -> C x) x q (fun a b c J h => k a b c h) q
noncomputable def xAttribute (f : Expr -> Str -> Pos -> Bool) (x : Expr) : Bool := if q : x.ctorIdx = 20 then Expr.Attribute.elim (motive_1 := fun J => Bool) x q f else false
@[elab_as_elim] theorem xAttribute_e {f} {C : Expr -> Prop} {x} (h : xAttribute f x = true) (k : ∀ a b c, f a b c = true -> C (.Attribute a b c)) : C x :=
 dT h fun q => Expr.Attribute.elim (motive_1 := fun x => ∀ q : x.ctorIdx = 20, Expr.Attribute.elim (motive_1 := fun J => Bool) x q f = true -> C x) x q (fun a b c J h => k a b c h) q
noncomputable def xSubscript (f : Expr -> Expr -> Pos -> Bool) (x : Expr) : Bool := if q : x.ctorIdx = 21 then Expr.Subscript.elim (motive_1 := fun J => Bool) x q f else false
@[elab_as_elim] theorem xSubscript_e {f} {C : Expr -> Prop} {x} (h : xSubscript f x = true) (k : ∀ a b c, f a b c = true -> C (.Subscript a b c)) : C x :=
 dT h fun q => Expr.Subscript.elim (motive_1 := fun x => ∀ q : x.ctorIdx = 21, Expr.Subscript.elim (motive_1 := fun J => Bool) x q f = true -> C x) x q (fun a b c J h => k a b c h) q
noncomputable def xName (f : Str -> Pos -> Bool) (x : Expr) : Bool := if q : x.ctorIdx = 23 then Expr.Name.elim (motive_1 := fun J => Bool) x q f else false
@[elab_as_elim] theorem yV {f} {C : Expr -> Prop} {x} (h : xName f x = true) (k : ∀ a b, f a b = true -> C (.Name a b)) : C x :=
 dT h fun q => Expr.Name.elim (motive_1 := fun x => ∀ q : x.ctorIdx = 23, Expr.Name.elim (motive_1 := fun J => Bool) x q f = true -> C x) x q (fun a b J h => k a b h) q
noncomputable def xList (f : List Expr -> Pos -> Bool) (x : Expr) : Bool := if q : x.ctorIdx = 24 then Expr.List.elim (motive_1 := fun J => Bool) x q f else false
@[elab_as_elim] theorem xList_e {f} {C : Expr -> Prop} {x} (h : xList f x = true) (k : ∀ a b, f a b = true -> C (.List a b)) : C x :=
 dT h fun q => Expr.List.elim (motive_1 := fun x => ∀ q : x.ctorIdx = 24, Expr.List.elim (motive_1 := fun J => Bool) x q f = true -> C x) x q (fun a b J h => k a b h) q
noncomputable def xTuple (f : List Expr -> Nat -> Pos -> Bool) (x : Expr) : Bool := if q : x.ctorIdx = 25 then Expr.Tuple.elim (motive_1 := fun J => Bool) x q f else false
@[elab_as_elim] theorem xTuple_e {f} {C : Expr -> Prop} {x} (h : xTuple f x = true) (k : ∀ a b c, f a b c = true -> C (.Tuple a b c)) : C x :=
 dT h fun q => Expr.Tuple.elim (motive_1 := fun x => ∀ q : x.ctorIdx = 25, Expr.Tuple.elim (motive_1 := fun J => Bool) x q f = true -> C x) x q (fun a b c J h => k a b c h) q
noncomputable def xSlice (f : Option Expr -> Option Expr -> Option Expr -> Pos -> Bool) (x : Expr) : Bool := if q : x.ctorIdx = 26 then Expr.Slice.elim (motive_1 := fun J => Bool) x q f else false
@[elab_as_elim] theorem xSlice_e {f} {C : Expr -> Prop} {x} (h : xSlice f x = true) (k : ∀ a b c d, f a b c d = true -> C (.Slice a b c d)) : C x :=
 dT h fun q => Expr.Slice.elim (motive_1 := fun x => ∀ q : x.ctorIdx = 26, Expr.Slice.elim (motive_1 := fun J => Bool) x q f = true -> C x) x q (fun a b c d J h => k a b c d h) q
noncomputable def sReturn (f : Option Expr -> Pos -> Bool) (x : Stmt) : Bool := if q : x.ctorIdx = 3 then Stmt.Return.elim (motive_2 := fun J => Bool) x q f else false
@[elab_as_elim] theorem sReturn_e {f} {C : Stmt -> Prop} {x} (h : sReturn f x = true) (k : ∀ a b, f a b = true -> C (.Return a b)) : C x :=
 dT h fun q => Stmt.Return.elim (motive_2 := fun x => ∀ q : x.ctorIdx = 3, Stmt.Return.elim (motive_2 := fun J => Bool) x q f = true -> C x) x q (fun a b J h => k a b h) q
noncomputable def sAssign (f : List Expr -> Expr -> Pos -> Bool) (x : Stmt) : Bool := if q : x.ctorIdx = 5 then Stmt.Assign.elim (motive_2 := fun J => Bool) x q f else false
@[elab_as_elim] theorem sAssign_e {f} {C : Stmt -> Prop} {x} (h : sAssign f x = true) (k : ∀ a b c, f a b c = true -> C (.Assign a b c)) : C x :=
 dT h fun q => Stmt.Assign.elim (motive_2 := fun x => ∀ q : x.ctorIdx = 5, Stmt.Assign.elim (motive_2 := fun J => Bool) x q f = true -> C x) x q (fun a b c J h => k a b c h) q
noncomputable def sAugAssign (f : Expr -> Operator -> Expr -> Pos -> Bool) (x : Stmt) : Bool := if q : x.ctorIdx = 7 then Stmt.AugAssign.elim (motive_2 := fun J => Bool) x q f else false
@[elab_as_elim] theorem sAugAssign_e {f} {C : Stmt -> Prop} {x} (h : sAugAssign f x = true) (k : ∀ a b c d, f a b c d = true -> C (.AugAssign a b c d)) : C x :=
 dT h fun q => Stmt.AugAssign.elim (motive_2 := fun x => ∀ q : x.ctorIdx = 7, Stmt.AugAssign.elim (motive_2 := fun J => Bool) x q f = true -> C x) x q (fun a b c d J h => k a b c d h) q
noncomputable def sFor (f : Expr -> Expr -> List Stmt -> List Stmt -> Pos -> Bool) (x : Stmt) : Bool := if q : x.ctorIdx = 9 then Stmt.For.elim (motive_2 := fun J => Bool) x q f else false
@[elab_as_elim] theorem sFor_e {f} {C : Stmt -> Prop} {x} (h : sFor f x = true) (k : ∀ a b c d e, f a b c d e = true -> C (.For a b c d e)) : C x :=
 dT h fun q => Stmt.For.elim (motive_2 := fun x => ∀ q : x.ctorIdx = 9, Stmt.For.elim (motive_2 := fun J => Bool) x q f = true -> C x) x q (fun a b c d e J h => k a b c d e h) q
noncomputable def sWhile (f : Expr -> List Stmt -> List Stmt -> Pos -> Bool) (x : Stmt) : Bool := if q : x.ctorIdx = 11 then Stmt.While.elim (motive_2 := fun J => Bool) x q f else false
@[elab_as_elim] theorem sWhile_e {f} {C : Stmt -> Prop} {x} (h : sWhile f x = true) (k : ∀ a b c d, f a b c d = true -> C (.While a b c d)) : C x :=
 dT h fun q => Stmt.While.elim (motive_2 := fun x => ∀ q : x.ctorIdx = 11, Stmt.While.elim (motive_2 := fun J => Bool) x q f = true -> C x) x q (fun a b c d J h => k a b c d h) q
noncomputable def sIf (f : Expr -> List Stmt -> List Stmt -> Pos -> Bool) (x : Stmt) : Bool := if q : x.ctorIdx = 12 then Stmt.If.elim (motive_2 := fun J => Bool) x q f else false
@[elab_as_elim] theorem sIf_e {f} {C : Stmt -> Prop} {x} (h : sIf f x = true) (k : ∀ a b c d, f a b c d = true -> C (.If a b c d)) : C x :=
 dT h fun q => Stmt.If.elim (motive_2 := fun x => ∀ q : x.ctorIdx = 12, Stmt.If.elim (motive_2 := fun J => Bool) x q f = true -> C x) x q (fun a b c d J h => k a b c d h) q
noncomputable def sRaise (f : Option Expr -> Option Expr -> Pos -> Bool) (x : Stmt) : Bool := if q : x.ctorIdx = 16 then Stmt.Raise.elim (motive_2 := fun J => Bool) x q f else false
@[elab_as_elim] theorem sRaise_e {f} {C : Stmt -> Prop} {x} (h : sRaise f x = true) (k : ∀ a b c, f a b c = true -> C (.Raise a b c)) : C x :=
 dT h fun q => Stmt.Raise.elim (motive_2 := fun x => ∀ q : x.ctorIdx = 16, Stmt.Raise.elim (motive_2 := fun J => Bool) x q f = true -> C x) x q (fun a b c J h => k a b c h) q
noncomputable def sExpr (f : Expr -> Pos -> Bool) (x : Stmt) : Bool := if q : x.ctorIdx = 24 then Stmt.Expr.elim (motive_2 := fun J => Bool) x q f else false
@[elab_as_elim] theorem sExpr_e {f} {C : Stmt -> Prop} {x} (h : sExpr f x = true) (k : ∀ a b, f a b = true -> C (.Expr a b)) : C x :=
 dT h fun q => Stmt.Expr.elim (motive_2 := fun x => ∀ q : x.ctorIdx = 24, Stmt.Expr.elim (motive_2 := fun J => Bool) x q f = true -> C x) x q (fun a b J h => k a b h) q
noncomputable def cSel (f : Str -> Pos -> Expr -> List Expr -> Bool) (c : Comprehension) : Bool := xName (fun y p => c.is_async == 0 && f y p c.iter c.ifs) c.target
@[elab_as_elim] theorem cSel_e {f} {C : Comprehension -> Prop} {c} (h : cSel f c = true) (k : ∀ y p it ifs, f y p it ifs = true -> C ⟨.Name y p, it, ifs, 0⟩) : C c :=
 match c, h with
 | ⟨t, i, fs, n⟩, h => yV (x := t) h fun y p h => bE (a := n) (aL h) (k y p i fs (aR h))
noncomputable def aSel (f : Str -> Bool) (a : Arguments) : Bool :=
 a.posonlyargs.isEmpty && (a.vararg.isNone && (a.kwonlyargs.isEmpty && (a.kw_defaults.isEmpty && (a.kwarg.isNone && (a.defaults.isEmpty && l1 (fun g => g.annotation.isNone && f g.arg) a.args)))))
@[elab_as_elim] theorem aSel_e {f} {C : Arguments -> Prop} {a} (h : aSel f a = true) (k : ∀ y p, f y = true -> C ⟨[], [⟨y, none, p⟩], none, [], [], none, []⟩) : C a :=
 match a, h with
 | ⟨a1, a2, a3, a4, a5, a6, a7⟩, h => lE (l := a1) (aL h) <| oE (l := a3) (aL (aR h)) <| lE (l := a4) (aL (aR (aR h))) <| lE (l := a5) (aL (aR (aR (aR h)))) <| oE (l := a6) (aL (aR (aR (aR (aR h))))) <|
  lE (l := a7) (aL (aR (aR (aR (aR (aR h)))))) <| l1_e (l := a2) (aR (aR (aR (aR (aR (aR h)))))) fun ⟨g1, g2, g3⟩ h => oE (l := g2) (C := fun g2 => C ⟨[], [⟨g1, g2, g3⟩], none, [], [], none, []⟩) (aL h) (k g1 g3 (aR h))
noncomputable def kSel (f : Str -> Expr -> Bool) (c : Keyword) : Bool := oS (fun n => f n c.value) c.arg
@[elab_as_elim] theorem kSel_e {f} {C : Keyword -> Prop} {c} (h : kSel f c = true) (k : ∀ n x p, f n x = true -> C ⟨some n, x, p⟩) : C c :=
 match c, h with
 | ⟨a, x, p⟩, h => oS_e (l := a) (C := fun a => C ⟨a, x, p⟩) h fun n h => k n x p h
noncomputable def loadB (sc : Sc) (x : Str) : Bool := sc.names.lookup x == some .local || isCB (sc.names.lookup x)
noncomputable def storeB (sc : Sc) (x : Str) : Bool := sc.names.lookup x == some .local || sc.names.lookup x == some .cell
theorem loadB_spec {sc x} (h : loadB sc x = true) : sc.names.lookup x = some .local \/ isC (sc.names.lookup x) := by
 simpa only [loadB, isCB, isC, Bool.or_eq_true, beq_iff_eq] using h
theorem y4 {sc x} (h : storeB sc x = true) : yM sc x := by
 simpa only [storeB, yM, Bool.or_eq_true, beq_iff_eq] using h
structure Ck where
 e : Sc -> Expr -> ME -> Bool
 t : Sc -> Expr -> ME -> Bool
 s : Sc -> Stmt -> MS -> Bool
noncomputable def ckE (r : Ck) (sc : Sc) (x : Expr) : ME -> Bool
 | .none => xW (fun c J J => c == .none) x
 | .bool b => xW (fun c J J => c == .bool b) x
 | .int i => xW (fun c J J => c == .int i) x
 | .flt f => xW (fun c J J => c == .float f) x
 | .str l => xW (fun c J J => c == .str ⟨l.toArray⟩) x
 | .var i => xName (fun x J => sc.vars[i]? == some x && (loadB sc x && (!(x == ("__debug__" : Str)) && !(x == ("__classdict__" : Str))))) x
 | .glob g => xName (fun x J => sc.names.lookup x == some .globalImplicit && (gnames.lookup x == some g && !(x == ("__debug__" : Str)))) x
 | .bin o a b => xBinOp (fun l op q J => opOf op == some o && (r.e sc l a && r.e sc q b)) x
 | .neg a => xUnaryOp (fun u y J => u == .USub && r.e sc y a) x
 | .or2 a b => xBoolOp (fun o ys J => o == .Or && l2 (fun y z => r.e sc y a && r.e sc z b) ys) x
 | .cmp c a b => xCompare (fun l ops rs J => l1 (fun op => l1 (fun q => cmpOf op == some c && (!behindInMarks op q && (r.e sc l a && r.e sc q b))) rs) ops) x
 | .ite t a b => xIfExp (fun u y z J => r.t sc u t && (r.e sc y a && r.e sc z b)) x
 | .meth mo m ms => xCall (fun f args kw p => kw.isEmpty && xAttribute (fun o n q => methOf n == some m && (!isCall o && (q.endLine == p.line && (decide (args.length < 5) && (r.e sc o mo && all2 (r.e sc) args ms))))) f) x
 | .call mf ms => xCall (fun f args kw J => kw.isEmpty && (!isAttr f && (r.e sc f mf && all2 (r.e sc) args ms))) x
 | .callk mf ms mk => xCall (fun f args kw J => l1 (kSel fun n v => n == oQ "key" && (!isAttr f && (!args.isEmpty && (r.e sc f mf && (all2 (r.e sc) args ms && r.e sc v mk))))) kw) x
 | .sortk ms fr mb => xCall (fun f args kw J => xName (fun g J => g == oQ "sorted" && l1 (fun src => l1 (kSel fun n v => n == oQ "key" && xLambda (fun a b s J => aSel (fun y =>
   sc.law && (y == oQ "k" && (sc.names.lookup (oQ "sorted") == some .globalImplicit && (r.e sc src ms && (compOkB sc y fr s && (y5 s.names && (!s.isCoroutine && (!s.isGenerator && r.e ⟨s.names, y :: fsOf sc fr, false⟩ b mb)))))))) a) v) kw) args) f) x
 | .sub mo mi => xSubscript (fun o i J => !isSlice i && (r.e sc o mo && r.e sc i mi)) x
 | .slice mo ml mh ms => xSubscript (fun o i J => xSlice (fun lo hi st J => r.e sc o mo && (opt2 (r.e sc) lo ml && (opt2 (r.e sc) hi mh && opt2 (r.e sc) st ms))) i) x
 | .list ms => xList (fun es J => all2 (r.e sc) es ms) x
 | .tup ms => xTuple (fun es J J => all2 (r.e sc) es ms) x
 | .comp me fr mi mc => xListComp (fun el gs s J => l1 (cSel fun y J it ifs => !yK it && (r.e sc it mi && (compOkB sc y fr s && (r.e ⟨relab sc s.names, y :: fsOf sc fr, false⟩ el me && ifs2 (r.t ⟨relab sc s.names, y :: fsOf sc fr, false⟩) ifs mc)))) gs) x
 | .comp2 me mi mj => xListComp (fun el gs s J => l2 (fun c d => cSel (fun y J it ifs => ifs.isEmpty && cSel (fun z J jt jfs => jfs.isEmpty && (!yK it && (!yK jt && (r.e sc it mi && (compOkB sc y [] s && (y5 s.names &&
   (s.names.lookup z == some .local && (!(y == z) && (closed ⟨[], [], false⟩ s.names && (r.e ⟨s.names, [y, z], false⟩ jt mj && r.e ⟨s.names, [z, y], false⟩ el me)))))))))) d) c) gs) x
 | .not _ => false | .and _ => false | .or _ => false
noncomputable def ckT (r : Ck) (sc : Sc) (x : Expr) (e : ME) : Bool := (!x8 x && r.e sc x e) || match e with
 | .not t => xUnaryOp (fun u y J => u == .Not && r.t sc y t) x
 | .and ts => xBoolOp (fun o xs J => o == .And && all2 (r.t sc) xs ts) x
 | .or ts => xBoolOp (fun o xs J => o == .Or && all2 (r.t sc) xs ts) x
 | .cmp c a b => xCompare (fun l ops rs J => l1 (fun op => l1 (fun q => cmpOf op == some c && (!behindInMarks op q && (r.e sc l a && r.e sc q b))) rs) ops) x
 | _ => false
theorem ne_beq {x y : Str} (h : (!(x == y)) = true) : x ≠ y := fun e => by simp [e] at h
noncomputable def ckN (sc : Sc) : List Expr -> List Nat -> Bool := all2 fun x i => xName (fun x J => sc.vars[i]? == some x && storeB sc x) x
noncomputable def nameB : Expr -> Bool := xName fun n J => !(n == ("__debug__" : Str))
noncomputable def compN (f : ME -> List Nat -> ME -> Bool) : ME -> Bool
 | .comp a b c d => d.isNone && f a b c
 | _ => false
@[elab_as_elim] theorem compN_e {f : ME -> List Nat -> ME -> Bool} {e : ME} {C : ME -> Prop} (h : compN f e = true) (k : ∀ a b c, f a b c = true -> C (.comp a b c none)) : C e := by
 cases e with
 | comp a b c d => exact oE (l := d) (C := fun d => C (.comp a b c d)) (aL h) (k a b c (aR h))
 | _ => exact fE h
theorem orN {a : Bool} {β} [BEq β] [LawfulBEq β] {b c : β} (h : (!a || b == c) = true) : a = false \/ b = c := (Bool.or_eq_true_iff.mp h).imp aN eq_of_beq
noncomputable def ckS (r : Ck) (sc : Sc) (s : Stmt) : MS -> Bool
 | .set i e => sAssign (fun ts v J => l1 (xName fun x p => sc.vars[i]? == some x && ((storeB sc x && ((!isComp v || sc.names.lookup x == some .cell) && r.e sc v e)) || (compN (fun me fr mi => xListComp (fun el gs s cp => l1 (cSel fun y J it ifs => ifs.isEmpty && (sc.names.lookup x == some .local && (p.line == cp.line && (!(s.names.any fun (n, k) => n == x && (k == .local || k == .cell)) && (!yK it && (r.e sc it mi && (compOkB sc y fr s && r.e ⟨relab sc s.names, y :: fsOf sc fr, false⟩ el me))))))) gs) v) e))) ts) s
 | .set2 i j e => sAssign (fun ts v J => l2 (fun a b => xName (fun x J => xName (fun y J => sc.vars[i]? == some x && (storeB sc x && (sc.vars[j]? == some y && (storeB sc y && (!isComp v && r.e sc v e))))) b) a) ts) s
 | .swap i j ma mb => sAssign (fun ts v J => l1 (xTuple fun es J J => l2 (fun a b => xName (fun x px => xName (fun y py => xTuple (fun vs J J => l2 (fun c d => sc.vars[i]? == some x && (sc.vars[j]? == some y && (sc.names.lookup x == some .local && (sc.names.lookup y == some .local && (!(x == y) && (px.line == py.line &&
   (nameB c && (nameB d && (r.e sc c ma && r.e sc d mb))))))))) vs) v) b) a) es) ts) s
 | .unpack is e => sAssign (fun ts v J => l1 (xTuple fun es J J => ckN sc es is && (xCall (fun J J J J => true) v && r.e sc v e)) ts) s
 | .put mo mi e => sAssign (fun ts v J => l1 (xSubscript fun o i J => !isSlice i && (!isComp v && (r.e sc v e && (r.e sc o mo && r.e sc i mi)))) ts) s
 | .aug i o e => sAugAssign (fun t op v J => xName (fun x J => sc.vars[i]? == some x && (storeB sc x && (opOf op == some o && r.e sc v e))) t) s
 | .expr e => sExpr (fun v J => !isComp v && r.e sc v e) s
 | .ite mt mb mo => sIf (fun t b o J => r.t sc t mt && (all2 (r.s sc) b mb && all2 (r.s sc) o mo)) s
 | .whil mt mb => sWhile (fun t b o J => o.isEmpty && (r.t sc t mt && all2 (r.s sc) b mb)) s
 | .for_ i mi mb => sFor (fun t it b o J => o.isEmpty && xName (fun x J => sc.vars[i]? == some x && (storeB sc x && (!yK it && (r.e sc it mi && all2 (r.s sc) b mb)))) t) s
 | .ret e => sReturn (fun v J => oS (fun v => r.e sc v e) v) s
 | .raise => sRaise (fun J J J => true) s
noncomputable def ckR : Nat -> Ck
 | 0 => ⟨fun J J J => false, fun J J J => false, fun J J J => false⟩
 | n + 1 => ⟨ckE (ckR n), ckT (ckR n), ckS (ckR n)⟩
noncomputable def IsE (sc : Sc) (x : Expr) (e : ME) : Prop := ∃ n, (ckR n).e sc x e = true
noncomputable def IsT (sc : Sc) (x : Expr) (e : ME) : Prop := ∃ n, (ckR n).t sc x e = true
noncomputable def IsS (sc : Sc) (x : Stmt) (m : MS) : Prop := ∃ n, (ckR n).s sc x m = true
noncomputable def IsEs (sc : Sc) : List Expr -> List ME -> Prop := All2 (IsE sc)
noncomputable def IsTs (sc : Sc) : List Expr -> List ME -> Prop := All2 (IsT sc)
noncomputable def IsSs (sc : Sc) : List Stmt -> List MS -> Prop := All2 (IsS sc)
noncomputable def IsN (sc : Sc) : List Expr -> List Nat -> Prop := All2 fun x i => ∃ n p, x = .Name n p /\ sc.vars[i]? = some n /\ yM sc n
inductive Op2 {α β : Type} (R : α -> β -> Prop) : Option α -> Option β -> Prop
 | none : Op2 R none none
 | some {a b} : R a b -> Op2 R (some a) (some b)
noncomputable def IsO (sc : Sc) : Option Expr -> Option ME -> Prop := Op2 (IsE sc)
noncomputable def IsC (sc : Sc) : Option Expr -> Option ME -> Prop := Op2 (IsT sc)
section
variable {n : Nat} {sc : Sc}
theorem kE {x e} (h : (ckR n).e sc x e = true) : IsE sc x e := ⟨n, h⟩
theorem kT {x e} (h : (ckR n).t sc x e = true) : IsT sc x e := ⟨n, h⟩
theorem kS {x e} (h : (ckR n).s sc x e = true) : IsS sc x e := ⟨n, h⟩
theorem all2_k {α β : Type} {f : α -> β -> Bool} {R : α -> β -> Prop} (k : ∀ {a b}, f a b = true -> R a b) {xs : List α} : ∀ {es : List β}, all2 f xs es = true -> All2 R xs es := by
 induction xs with
 | nil => exact fun h => lE h .nil
 | cons x xs ih => intro es; cases es with
  | nil => exact fun h => fE h
  | cons e es => exact fun h => .cons (k (aL h)) (ih (aR h))
theorem kEs {xs es} (h : all2 ((ckR n).e sc) xs es = true) : IsEs sc xs es := all2_k kE h
theorem kTs {xs es} (h : all2 ((ckR n).t sc) xs es = true) : IsTs sc xs es := all2_k kT h
theorem kSs {xs es} (h : all2 ((ckR n).s sc) xs es = true) : IsSs sc xs es := all2_k kS h
theorem kN {xs is} (h : ckN sc xs is = true) : IsN sc xs is := all2_k (fun h => yV h fun n p q => ⟨n, p, rfl, eq_of_beq (aL q), y4 (aR q)⟩) h
theorem kO {x e} (h : opt2 ((ckR n).e sc) x e = true) : IsO sc x e := by
 cases x with
 | none => exact oE h .none
 | some x => exact oS_e h fun J h => .some (kE h)
@[elab_as_elim] theorem kC {l e} {C : List Expr -> Prop} (h : ifs2 ((ckR n).t sc) l e = true) (k : ∀ t, IsC sc t e -> C (ifsOf t)) : C l := by
 cases e with
 | none => exact lE h (k none .none)
 | some e => exact l1_e h fun t ht => k (some t) (.some (kT ht))
@[elab_as_elim] theorem IsE.e {C : Expr -> ME -> Prop} {x e} (h : IsE sc x e)
  (qnone : ∀ {k p}, C (.Constant .none k p) .none)
  (qbool : ∀ {b k p}, C (.Constant (.bool b) k p) (.bool b))
  (qint : ∀ {i k p}, C (.Constant (.int i) k p) (.int i))
  (qflt : ∀ {x k p}, C (.Constant (.float x) k p) (.flt x))
  (qstr : ∀ {s k p l}, s.cps.toList = l -> C (.Constant (.str s) k p) (.str l))
  (qvar : ∀ {x p i}, sc.vars[i]? = some x -> (sc.names.lookup x = some .local \/ isC (sc.names.lookup x)) -> (x == ("__debug__" : Str)) = false -> (x == ("__classdict__" : Str)) = false -> C (.Name x p) (.var i))
  (qglob : ∀ {x p g}, sc.names.lookup x = some .globalImplicit -> gnames.lookup x = some g -> (x == ("__debug__" : Str)) = false -> C (.Name x p) (.glob g))
  (qbin : ∀ {l op r p a b o}, opOf op = some o -> IsE sc l a -> IsE sc r b -> C (.BinOp l op r p) (.bin o a b))
  (qneg : ∀ {x p a}, IsE sc x a -> C (.UnaryOp .USub x p) (.neg a))
  (qor2 : ∀ {x y p a b}, IsE sc x a -> IsE sc y b -> C (.BoolOp .Or [x, y] p) (.or2 a b))
  (qcmp : ∀ {l op r p a b c}, cmpOf op = some c -> behindInMarks op r = false -> IsE sc l a -> IsE sc r b -> C (.Compare l [op] [r] p) (.cmp c a b))
  (qite : ∀ {t x y p mt a b}, IsT sc t mt -> IsE sc x a -> IsE sc y b -> C (.IfExp t x y p) (.ite mt a b))
  (qmeth : ∀ {o name apos args p mo m ms}, methOf name = some m -> isCall o = false -> (apos.endLine == p.line) = true -> args.length < 5 -> IsE sc o mo -> IsEs sc args ms -> C (.Call (.Attribute o name apos) args [] p) (.meth mo m ms))
  (qcall : ∀ {f args p mf ms}, isAttr f = false -> IsE sc f mf -> IsEs sc args ms -> C (.Call f args [] p) (.call mf ms))
  (qcallk : ∀ {f args kv kp p mf ms mk}, isAttr f = false -> args ≠ [] -> IsE sc f mf -> IsEs sc args ms -> IsE sc kv mk -> C (.Call f args [⟨some (oQ "key"), kv, kp⟩] p) (.callk mf ms mk))
  (qsortk : ∀ {sp src y yp body scope lp kp p msrc frees fs mb}, sc.law = true -> y = oQ "k" -> sc.names.lookup (oQ "sorted") = some .globalImplicit -> IsE sc src msrc -> CompOk sc y frees fs scope -> y5 scope.names = true -> scope.isCoroutine = false -> scope.isGenerator = false -> IsE ⟨scope.names, y :: fs, false⟩ body mb -> C (.Call (.Name (oQ "sorted") sp) [src] [⟨some (oQ "key"), .Lambda ⟨[], [⟨y, none, yp⟩], none, [], [], none, []⟩ body scope lp, kp⟩] p) (.sortk msrc frees mb))
  (qsub : ∀ {o i p mo mi}, isSlice i = false -> IsE sc o mo -> IsE sc i mi -> C (.Subscript o i p) (.sub mo mi))
  (qslice : ∀ {o lo hi st p q mo ml mh ms}, IsE sc o mo -> IsO sc lo ml -> IsO sc hi mh -> IsO sc st ms -> C (.Subscript o (.Slice lo hi st q) p) (.slice mo ml mh ms))
  (qlist : ∀ {es p ms}, IsEs sc es ms -> C (.List es p) (.list ms))
  (qtup : ∀ {es k p ms}, IsEs sc es ms -> C (.Tuple es k p) (.tup ms))
  (qcomp : ∀ {elt y yp iter cond scope p me frees fs mi mc}, yK iter = false -> IsE sc iter mi -> CompOk sc y frees fs scope -> IsE ⟨relab sc scope.names, y :: fs, false⟩ elt me -> IsC ⟨relab sc scope.names, y :: fs, false⟩ cond mc -> C (.ListComp elt [⟨.Name y yp, iter, ifsOf cond, 0⟩] scope p) (.comp me frees mi mc))
  (qcomp2 : ∀ {elt y yp iter z zp iter2 scope p me mi mj}, yK iter = false -> yK iter2 = false -> IsE sc iter mi -> CompOk sc y [] [] scope -> y5 scope.names = true -> scope.names.lookup z = some .local -> y ≠ z -> closed ⟨[], [], false⟩ scope.names = true -> IsE ⟨scope.names, [y, z], false⟩ iter2 mj -> IsE ⟨scope.names, [z, y], false⟩ elt me -> C (.ListComp elt [⟨.Name y yp, iter, [], 0⟩, ⟨.Name z zp, iter2, [], 0⟩] scope p) (.comp2 me mi mj)) : C x e := by
 obtain ⟨n, h⟩ := h
 cases n with
 | zero => exact fE h
 | succ n =>
 replace h : ckE (ckR n) sc x e = true := h
 cases e
 case none => exact xH h fun c J J h => bE h <| qnone
 case bool => exact xH h fun c J J h => bE h <| qbool
 case int => exact xH h fun c J J h => bE h <| qint
 case flt => exact xH h fun c J J h => bE h <| qflt
 case str => exact xH h fun c J J h => bE h <| qstr rfl
 case var => exact yV h fun J J h => qvar (eq_of_beq (aL h)) (loadB_spec (aL (aR h))) (aN (aL (aR (aR h)))) (aN (aR (aR (aR h))))
 case glob => exact yV h fun J J h => qglob (eq_of_beq (aL h)) (eq_of_beq (aL (aR h))) (aN (aR (aR h)))
 case bin => exact xBinOp_e h fun J J J J h => qbin (eq_of_beq (aL h)) (kE (aL (aR h))) (kE (aR (aR h)))
 case neg => exact xUnaryOp_e h fun J J J h => bE (aL h) <| qneg (kE (aR h))
 case or2 => exact xBoolOp_e h fun J J J h => bE (aL h) <| l2_e (aR h) fun J J h => qor2 (kE (aL h)) (kE (aR h))
 case cmp => exact xCompare_e h fun J J J J h => l1_e h fun J h => l1_e h fun J h => qcmp (eq_of_beq (aL h)) (aN (aL (aR h))) (kE (aL (aR (aR h)))) (kE (aR (aR (aR h))))
 case ite => exact xIfExp_e h fun J J J J h => qite (kT (aL h)) (kE (aL (aR h))) (kE (aR (aR h)))
 case meth => exact xCall_e h fun f args kw p h => lE (l := kw) (aL h) <| xAttribute_e (aR h) fun o n q h => qmeth (eq_of_beq (aL h)) (aN (aL (aR h))) (aL (aR (aR h))) (of_decide_eq_true (aL (aR (aR (aR h))))) (kE (aL (aR (aR (aR (aR h)))))) (kEs (aR (aR (aR (aR (aR h))))))
 case call => exact xCall_e h fun f args kw p h => lE (l := kw) (aL h) <| qcall (aN (aL (aR h))) (kE (aL (aR (aR h)))) (kEs (aR (aR (aR h))))
 case callk => exact xCall_e h fun f args kw p h => l1_e h fun J h => kSel_e h fun n v q h => bE (aL h) <| qcallk (aN (aL (aR h))) (fun e => by subst e; exact nomatch aL (aR (aR h))) (kE (aL (aR (aR (aR h))))) (kEs (aL (aR (aR (aR (aR h)))))) (kE (aR (aR (aR (aR (aR h))))))
 case sortk => exact xCall_e h fun f args kw p h => yV h fun g gp h => bE (aL h) <| l1_e (aR h) fun src h => l1_e h fun J h => kSel_e h fun n v q h => bE (aL h) <| xLambda_e (aR h) fun a b s lp h => aSel_e h fun y yp h_0 => have h := aR h_0; qsortk (aL h_0) (eq_of_beq (aL h)) (eq_of_beq (aL (aR h))) (kE (aL (aR (aR h)))) (xR (aL (aR (aR (aR h))))) (aL (aR (aR (aR (aR h))))) (aN (aL (aR (aR (aR (aR (aR h))))))) (aN (aL (aR (aR (aR (aR (aR (aR h)))))))) (kE (aR (aR (aR (aR (aR (aR (aR h))))))))
 case sub => exact xSubscript_e h fun J J J h => qsub (aN (aL h)) (kE (aL (aR h))) (kE (aR (aR h)))
 case slice => exact xSubscript_e h fun J J J h => xSlice_e h fun J J J J h => qslice (kE (aL h)) (kO (aL (aR h))) (kO (aL (aR (aR h)))) (kO (aR (aR (aR h))))
 case list => exact xList_e h fun J J h => qlist (kEs h)
 case tup => exact xTuple_e h fun J J J h => qtup (kEs h)
 case comp mc => exact xListComp_e h fun el gs s p h => l1_e h fun J h => cSel_e h fun y yp it ifs h => kC (l := ifs) (aR (aR (aR (aR h)))) fun J => qcomp (aN (aL h)) (kE (aL (aR h))) (xR (aL (aR (aR h)))) (kE (aL (aR (aR (aR h)))))
 case comp2 => exact xListComp_e h fun el gs s p h => l2_e h fun J J h => cSel_e h fun y yp it ifs h => lE (l := ifs) (aL h) <| cSel_e (aR h) fun z zp jt jfs h => lE (l := jfs) (aL h) <| have h := aR h; qcomp2 (aN (aL h)) (aN (aL (aR h))) (kE (aL (aR (aR h)))) (xR (aL (aR (aR (aR h))))) (aL (aR (aR (aR (aR h))))) (eq_of_beq (aL (aR (aR (aR (aR (aR h))))))) (ne_beq (aL (aR (aR (aR (aR (aR (aR h)))))))) (aL (aR (aR (aR (aR (aR (aR (aR h)))))))) (kE (aL (aR (aR (aR (aR (aR (aR (aR (aR h)))))))))) (kE (aR (aR (aR (aR (aR (aR (aR (aR (aR h))))))))))
 all_goals exact fE h
@[elab_as_elim] theorem IsT.e {C : Expr -> ME -> Prop} {x e} (h : IsT sc x e)
  (qnot : ∀ {x p t}, IsT sc x t -> C (.UnaryOp .Not x p) (.not t))
  (qand : ∀ {xs p ts}, IsTs sc xs ts -> C (.BoolOp .And xs p) (.and ts))
  (qor : ∀ {xs p ts}, IsTs sc xs ts -> C (.BoolOp .Or xs p) (.or ts))
  (qcmp : ∀ {l op r p a b c}, cmpOf op = some c -> behindInMarks op r = false -> IsE sc l a -> IsE sc r b -> C (.Compare l [op] [r] p) (.cmp c a b))
  (qval : ∀ {x e}, x8 x = false -> IsE sc x e -> C x e) : C x e := by
 obtain ⟨n, h⟩ := h
 cases n with
 | zero => exact fE h
 | succ n =>
 rcases Bool.or_eq_true_iff.mp h with h | h
 ·exact qval (aN (aL h)) (kE (aR h))
 cases e
 case not => exact xUnaryOp_e h fun J J J h => bE (aL h) <| qnot (kT (aR h))
 case and => exact xBoolOp_e h fun J J J h => bE (aL h) <| qand (kTs (aR h))
 case or => exact xBoolOp_e h fun J J J h => bE (aL h) <| qor (kTs (aR h))
 case cmp => exact xCompare_e h fun J J J J h => l1_e h fun J h => l1_e h fun J h => qcmp (eq_of_beq (aL h)) (aN (aL (aR h))) (kE (aL (aR (aR h)))) (kE (aR (aR (aR h))))
 all_goals exact fE h
@[elab_as_elim] theorem IsS.e {C : Stmt -> MS -> Prop} {x e} (h : IsS sc x e)
  (qset : ∀ {x p' value p i e}, sc.vars[i]? = some x -> yM sc x -> (isComp value = false \/ sc.names.lookup x = some .cell) -> IsE sc value e -> C (.Assign [.Name x p'] value p) (.set i e))
  (qsetc : ∀ {x p' elt y yp iter scope cp p i me frees fs mi}, sc.vars[i]? = some x -> sc.names.lookup x = some .local -> (p'.line == cp.line) = true -> (scope.names.any fun (n, k) => n == x && (k == .local || k == .cell)) = false -> yK iter = false -> IsE sc iter mi -> CompOk sc y frees fs scope -> IsE ⟨relab sc scope.names, y :: fs, false⟩ elt me -> C (.Assign [.Name x p'] (.ListComp elt [⟨.Name y yp, iter, [], 0⟩] scope cp) p) (.set i (.comp me frees mi none)))
  (qset2 : ∀ {x p' y p'' value p i j e}, sc.vars[i]? = some x -> yM sc x -> sc.vars[j]? = some y -> yM sc y -> isComp value = false -> IsE sc value e -> C (.Assign [.Name x p', .Name y p''] value p) (.set2 i j e))
  (qswap : ∀ {x px y py k tp na qa nb qb k' vp p i j ma mb}, sc.vars[i]? = some x -> sc.vars[j]? = some y -> sc.names.lookup x = some .local -> sc.names.lookup y = some .local -> x ≠ y -> (px.line == py.line) = true -> (na == ("__debug__" : Str)) = false -> (nb == ("__debug__" : Str)) = false -> IsE sc (.Name na qa) ma -> IsE sc (.Name nb qb) mb -> C (.Assign [.Tuple [.Name x px, .Name y py] k tp] (.Tuple [.Name na qa, .Name nb qb] k' vp) p) (.swap i j ma mb))
  (qunpack : ∀ {es k tp f as kw vp p is e}, IsN sc es is -> IsE sc (.Call f as kw vp) e -> C (.Assign [.Tuple es k tp] (.Call f as kw vp) p) (.unpack is e))
  (qput : ∀ {o i q value p mo mi e}, isSlice i = false -> isComp value = false -> IsE sc value e -> IsE sc o mo -> IsE sc i mi -> C (.Assign [.Subscript o i q] value p) (.put mo mi e))
  (qaug : ∀ {x p' op value p i o e}, sc.vars[i]? = some x -> yM sc x -> opOf op = some o -> IsE sc value e -> C (.AugAssign (.Name x p') op value p) (.aug i o e))
  (qexpr : ∀ {value p e}, isComp value = false -> IsE sc value e -> C (.Expr value p) (.expr e))
  (qite : ∀ {t b o p mt mb mo}, IsT sc t mt -> IsSs sc b mb -> IsSs sc o mo -> C (.If t b o p) (.ite mt mb mo))
  (qwhil : ∀ {t b p mt mb}, IsT sc t mt -> IsSs sc b mb -> C (.While t b [] p) (.whil mt mb))
  (qfor_ : ∀ {x xp iter b p i mi mb}, sc.vars[i]? = some x -> yM sc x -> yK iter = false -> IsE sc iter mi -> IsSs sc b mb -> C (.For (.Name x xp) iter b [] p) (.for_ i mi mb))
  (qret : ∀ {value p e}, IsE sc value e -> C (.Return (some value) p) (.ret e))
  (qraise : ∀ {a b p}, C (.Raise a b p) .raise) : C x e := by
 obtain ⟨n, h⟩ := h
 cases n with
 | zero => exact fE h
 | succ n =>
 replace h : ckS (ckR n) sc x e = true := h
 cases e
 case set i e =>
  exact sAssign_e h fun ts v p h => l1_e h fun t h => yV h fun x xp h => by
   have hx := eq_of_beq (aL h)
   rcases Bool.or_eq_true_iff.mp (aR h) with h | g
   ·exact qset hx (y4 (aL h)) (orN (aL (aR h))) (kE (aR (aR h)))
   ·exact compN_e g fun me fr mi g => xListComp_e g fun el gs s cp h => l1_e h fun J h => cSel_e h fun y yp it ifs h => lE (l := ifs) (aL h) <| have h := aR h; qsetc hx (eq_of_beq (aL h)) (aL (aR h)) (aN (aL (aR (aR h)))) (aN (aL (aR (aR (aR h))))) (kE (aL (aR (aR (aR (aR h)))))) (xR (aL (aR (aR (aR (aR (aR h))))))) (kE (aR (aR (aR (aR (aR (aR h)))))))
 case set2 => exact sAssign_e h fun ts v p h => l2_e h fun J J h => yV h fun J J h => yV h fun J J h => qset2 (eq_of_beq (aL h)) (y4 (aL (aR h))) (eq_of_beq (aL (aR (aR h)))) (y4 (aL (aR (aR (aR h))))) (aN (aL (aR (aR (aR (aR h)))))) (kE (aR (aR (aR (aR (aR h))))))
 case swap =>
  refine sAssign_e h fun ts v p h => l1_e h fun J h => xTuple_e h fun J J J h => l2_e h fun J J h => yV h fun J J h => yV h fun J J h => xTuple_e h fun J J J h => l2_e h fun J J h => ?_
  have g := aR (aR (aR (aR (aR (aR h)))))
  have hc := aL (aR (aR g))
  have hd := aR (aR (aR g))
  revert hc hd
  refine yV (aL g) fun J J hna => yV (aL (aR g)) fun J J hnb hc hd => ?_
  exact qswap (eq_of_beq (aL h)) (eq_of_beq (aL (aR h))) (eq_of_beq (aL (aR (aR h)))) (eq_of_beq (aL (aR (aR (aR h))))) (ne_beq (aL (aR (aR (aR (aR h)))))) (aL (aR (aR (aR (aR (aR h)))))) (aN hna) (aN hnb) (kE hc) (kE hd)
 case unpack =>
  refine sAssign_e h fun ts v p h => l1_e h fun J h => xTuple_e h fun J J J h => ?_
  have hv := aR (aR h)
  revert hv
  exact xCall_e (aL (aR h)) fun J J J J J hv => qunpack (kN (aL h)) (kE hv)
 case put => exact sAssign_e h fun ts v p h => l1_e h fun J h => xSubscript_e h fun J J J h => qput (aN (aL h)) (aN (aL (aR h))) (kE (aL (aR (aR h)))) (kE (aL (aR (aR (aR h))))) (kE (aR (aR (aR (aR h)))))
 case aug => exact sAugAssign_e h fun J J J J h => yV h fun J J h => qaug (eq_of_beq (aL h)) (y4 (aL (aR h))) (eq_of_beq (aL (aR (aR h)))) (kE (aR (aR (aR h))))
 case expr => exact sExpr_e h fun J J h => qexpr (aN (aL h)) (kE (aR h))
 case ite => exact sIf_e h fun J J J J h => qite (kT (aL h)) (kSs (aL (aR h))) (kSs (aR (aR h)))
 case whil => exact sWhile_e h fun J J o J h => lE (l := o) (aL h) <| qwhil (kT (aL (aR h))) (kSs (aR (aR h)))
 case for_ => exact sFor_e h fun t J J o J h => lE (l := o) (aL h) <| yV (aR h) fun J J h => qfor_ (eq_of_beq (aL h)) (y4 (aL (aR h))) (aN (aL (aR (aR h)))) (kE (aL (aR (aR (aR h))))) (kSs (aR (aR (aR (aR h)))))
 case ret => exact sReturn_e h fun J J h => oS_e h fun J h => qret (kE h)
 case raise => exact sRaise_e h fun J J J J => qraise
end
noncomputable def ckSs (n : Nat) (sc : Sc) : List Stmt -> List MS -> Bool := all2 ((ckR n).s sc)
theorem ckSs_spec {n sc xs es} (h : ckSs n sc xs es = true) : IsSs sc xs es := kSs h
end Mine
namespace Mine
set_option genInjectivity false
set_option genSizeOf false
open PySem PySem.W PySem.Calls PyProof.Rows
noncomputable abbrev KOknameF (K : Know) : Prop := ∀ x g, gnames.lookup x = some g -> ∃ v, (K.mg x = some v \/ (K.mg x = none /\ K.mb x = some v)) /\ ∀ h ρ, VR K h ρ v (globV g)
structure KOk (K : Know) : Prop where
 glob : K.base.Ns mainGlobals K.mg
 bui : K.base.Ns builtinsNs K.mb
 nolimit : K.base.NoLimit
 staticsNe : cStatics ≠ K.P
 name : KOknameF K
structure OkA (A : Around) (n : Nat) : Prop where
 handled : A.handled = none
 depth : A.depth + n < recursionLimit
 units : A.units + 16 * n + 200 < cLine
theorem OkA.mono {A n m} (h : OkA A n) (hm : m <= n) : OkA A m := ⟨h.handled, by have := h.depth; exact qD (Nat.add_le_add_left hm _) this, by have := h.units; lia⟩
theorem OkA.deeper {A n} (env : Env) (h : OkA A (n + 1)) : OkA (A.deeper env) n := ⟨h.handled, by have := h.depth; show A.depth + 1 + n < _; lia, by have := h.units; show A.units + 3 + 16 * n + 200 < _; lia⟩
section
variable (K : Know) (prog : Program) (w : World)
noncomputable def Out (σ' : Sto) (s : Shared) (ρ : Gh) (P : Heap -> Gh -> Value -> Prop) (Q : Value -> Shared -> Prop) : Prop :=
 ∀ u h' tk ρ', HR K σ' ρ' h' tk -> Ext K [] s.heap ρ h' ρ' -> P h' ρ' u -> Q u { s with heap := h', toks := tk }
noncomputable def SEval (n : Nat) (ev : ME -> Slots -> Sto -> Option (V × Sto)) : Prop :=
 ∀ {sc : Sc} {x : Expr} {e : ME} {sl : Slots} {σ : Sto} {v : V} {σ' : Sto}, IsE sc x e -> ev e sl σ = some (v, σ') ->
  ∀ {A : Around} {env : Env} {s : Shared} {ρ : Gh} {E : Value -> Shared -> Prop} {Q : Value -> Shared -> Prop}, OkA A n -> FrameOk K sc env s.heap ρ sl -> HR K σ ρ s.heap s.toks ->
   Out K σ' s ρ (fun h' ρ' u => VR K h' ρ' u v) Q -> wpAny (model prog w) A (eval x env) Q E s
noncomputable def STest (n : Nat) (ts : ME -> Slots -> Sto -> Option (Bool × Sto)) : Prop :=
 ∀ {sc : Sc} {x : Expr} {e : ME} {sl : Slots} {σ : Sto} {b : Bool} {σ' : Sto}, IsT sc x e -> ts e sl σ = some (b, σ') ->
  ∀ {A : Around} {env : Env} {s : Shared} {ρ : Gh} {E : Value -> Shared -> Prop} {Q : Bool -> Shared -> Prop}, OkA A n -> FrameOk K sc env s.heap ρ sl -> HR K σ ρ s.heap s.toks ->
   (∀ h' tk ρ', HR K σ' ρ' h' tk -> Ext K [] s.heap ρ h' ρ' -> Q b { s with heap := h', toks := tk }) -> wpAny (model prog w) A (isTrue x env (eval x env)) Q E s
noncomputable def FlowR (h : Heap) (ρ : Gh) : Flow -> Fl -> Prop
 | .next, .next => True
 | .ret u, .ret v => VR K h ρ u v
 | _, _ => False
noncomputable def SExec (n : Nat) (ex : List MS -> Slots -> Sto -> Option (Fl × Slots × Sto)) : Prop :=
 ∀ {sc : Sc} {xs : List Stmt} {ms : List MS} {sl : Slots} {σ : Sto} {fl : Fl} {sl' : Slots} {σ' : Sto}, IsSs sc xs ms -> ex ms sl σ = some (fl, sl', σ') ->
  ∀ {A : Around} {env : Env} {s : Shared} {ρ : Gh} {E : Value -> Shared -> Prop} {Q : Flow -> Shared -> Prop}, OkA A n -> FrameOk K sc env s.heap ρ sl -> HR K σ ρ s.heap s.toks ->
   (∀ f h' tk ρ', FrameOk K sc env h' ρ' sl' -> HR K σ' ρ' h' tk -> Ext K (own env) s.heap ρ h' ρ' -> FlowR K h' ρ' f fl -> Q f { s with heap := h', toks := tk }) -> wpAny (model prog w) A (execs xs env) Q E s
noncomputable def SWhil (n : Nat) (wh : ME -> List MS -> Slots -> Sto -> Option (Fl × Slots × Sto)) : Prop :=
 ∀ {sc : Sc} {t : Expr} {xs : List Stmt} {mt : ME} {ms : List MS} {sl : Slots} {σ : Sto} {fl : Fl} {sl' : Slots} {σ' : Sto}, IsT sc t mt -> IsSs sc xs ms -> wh mt ms sl σ = some (fl, sl', σ') ->
  ∀ {A : Around} {env : Env} {s : Shared} {ρ : Gh} {R : Result -> Shared -> Prop}, OkA A n -> FrameOk K sc env s.heap ρ sl -> HR K σ ρ s.heap s.toks ->
   (∀ f h' tk ρ', FrameOk K sc env h' ρ' sl' -> HR K σ' ρ' h' tk -> Ext K (own env) s.heap ρ h' ρ' -> FlowR K h' ρ' f fl -> R (.ok f) { s with heap := h', toks := tk }) -> codeAny (model prog w) A (.whileLoop t xs [] env) R s
inductive IterAt (h : Heap) (ρ : Gh) (it : Addr) : V -> Nat -> Prop
 | lst (k : Nat) (a : Addr) (i : Nat) : ρ.l[k]? = some a -> h.IsListIter it a i -> IterAt h ρ it (.lst k) i
 | tup (a : Addr) (items : Array Value) (vs : List V) (i : Nat) : PTup h a items -> a ∉ ρ.l -> a ≠ K.P -> a ≠ it -> VRs K h ρ items.toList vs -> h.IsTupleIter it a i -> IterAt h ρ it (.tup vs) i
 | rng (a b st : Int) (i : Nat) : 0 < st -> i <= yO a b st -> IsRangeIter h it (a + (i : Int) * st) ((yO a b st : Int) - (i : Int)) st -> IterAt h ρ it (.rng a b st) i
 | str (x : Str) (t : Tok) (i : Nat) : x.cps.all (· < 128) = true -> h.IsStrIter it "str_ascii_iterator" x t i -> IterAt h ρ it (.str x.cps.toList) i
noncomputable def SForr (n : Nat) (fo : Nat -> V -> Nat -> List MS -> Slots -> Sto -> Option (Fl × Slots × Sto)) : Prop :=
 ∀ {sc : Sc} {x : Str} {xp : Pos} {k : Nat} {v : V} {i : Nat} {xs : List Stmt} {ms : List MS} {sl : Slots} {σ : Sto} {fl : Fl} {sl' : Slots} {σ' : Sto}, sc.vars[k]? = some x -> yM sc x -> IsSs sc xs ms -> fo k v i ms sl σ = some (fl, sl', σ') ->
  ∀ {A : Around} {env : Env} {s : Shared} {ρ : Gh} {R : Result -> Shared -> Prop} {it : Addr}, OkA A n -> FrameOk K sc env s.heap ρ sl -> HR K σ ρ s.heap s.toks -> IterAt K s.heap ρ it v i -> it ∉ ρ.l -> K.base.objs.size <= it -> it ∉ own env ->
   (∀ f h' tk ρ', FrameOk K sc env h' ρ' sl' -> HR K σ' ρ' h' tk -> Ext K (it :: own env) s.heap ρ h' ρ' -> FlowR K h' ρ' f fl -> R (.ok f) { s with heap := h', toks := tk }) -> codeAny (model prog w) A (.forLoop (.Name x xp) (.ref it) xs [] env) R s
noncomputable def SComp (n : Nat) (co : ME -> Slots -> V -> Nat -> Option ME -> List V -> Sto -> Option (List V × Sto)) : Prop :=
 ∀ {sc : Sc} {elt iter : Expr} {y : Str} {yp : Pos} {vars : List Str} {cond : Option Expr} {scope : Scope} {p : Pos} {me : ME} {cap : Slots} {v : V} {i : Nat} {mc : Option ME} {acc : List V} {σ : Sto} {vs : List V} {σ' : Sto} {pre : List Comprehension},
  sc.vars = y :: vars -> yM sc y -> IsE sc elt me -> IsC sc cond mc -> pre.length <= 1 -> co me cap v i mc acc σ = some (vs, σ') ->
  ∀ {A : Around} {env : Env} {s : Shared} {ρ : Gh} {R : Result -> Shared -> Prop} {it D : Addr} {ys : Array Value} {ov : Option V}, OkA A n -> FrameOk K sc env s.heap ρ (ov :: cap) -> HR K σ ρ s.heap s.toks -> IterAt K s.heap ρ it v i -> it ∉ ρ.l -> K.base.objs.size <= it -> it ∉ own env ->
   D ∉ ρ.l -> K.base.objs.size <= D -> D ∉ own env -> D ≠ it -> s.heap.PlainList D ys -> VRs K s.heap ρ ys.toList acc ->
   (∀ h' tk ρ' ys' ov', FrameOk K sc env h' ρ' (ov' :: cap) -> HR K σ' ρ' h' tk -> Ext K (it :: D :: tgt sc env y) s.heap ρ h' ρ' -> h'.PlainList D ys' -> VRs K h' ρ' ys'.toList vs -> R (.ok .next) { s with heap := h', toks := tk }) ->
   codeAny (model prog w) A (.compLoop (.ListComp elt (pre ++ [⟨.Name y yp, iter, ifsOf cond, 0⟩]) scope p) pre.length (.ref it) (.ref D) env) R s
end
theorem wpT {M : Model} {A : Around} {α : Type} {Q : α -> Shared -> Prop} {E : Value -> Shared -> Prop} {s : Shared} {c : Prop} [Decidable c] {a b : Sem α} (h : c) (k : wpAny M A a Q E s) : wpAny M A (if c then a else b) Q E s := by rwa [if_pos h]
theorem wpN {M : Model} {A : Around} {α : Type} {Q : α -> Shared -> Prop} {E : Value -> Shared -> Prop} {s : Shared} {c : Prop} [Decidable c] {a b : Sem α} (h : ¬ c) (k : wpAny M A b Q E s) : wpAny M A (if c then a else b) Q E s := by rwa [if_neg h]
@[elab_as_elim] theorem flow_e {K : Know} {h : Heap} {ρ : Gh} {C : Flow -> Fl -> Prop} {f : Flow} {fl : Fl} (q : FlowR K h ρ f fl) (n : C .next .next) (r : ∀ u v, VR K h ρ u v -> C (.ret u) (.ret v)) : C f fl := by
 cases fl <;> cases f <;> first | exact n | exact r _ _ q | exact q.elim
theorem stOf {K : Know} {sc : Sc} {env : Env} {X : List Addr} {s : Shared} {ρ : Gh} {R : Flow -> Shared -> Prop} {fl_0 fl : Fl} {sl_0 sl' : Slots} {σ_0 σ' : Sto} (he : some (fl_0, sl_0, σ_0) = some (fl, sl', σ'))
  (O : ∀ f h' tk ρ', FrameOk K sc env h' ρ' sl' -> HR K σ' ρ' h' tk -> Ext K X s.heap ρ h' ρ' -> FlowR K h' ρ' f fl -> R f { s with heap := h', toks := tk }) :
  ∀ f h' tk ρ', FrameOk K sc env h' ρ' sl_0 -> HR K σ_0 ρ' h' tk -> Ext K X s.heap ρ h' ρ' -> FlowR K h' ρ' f fl_0 -> R f { s with heap := h', toks := tk } := by cases he; exact O
end Mine
set_option maxRecDepth 100000
namespace Mine
open PySem
noncomputable def theDef (f : Str) : List Stmt -> Option (Arguments × List Stmt × Scope)
 | [] => none
 | .FunctionDef name params body _ _ _ scope _ _ _ :: r => if name == f then some (params, body, scope) else theDef f r
 | _ :: r => theDef f r
noncomputable def pyName : F -> Str
 | .insortR => "insort_right" | .bisectR => "bisect_right" | .insortL => "insort_left" | .bisectL => "bisect_left" | .hls => "rgb_to_hls" | .hsv => "rgb_to_hsv" | .rgb => "hsv_to_rgb"
 | .quote => "quotedata" | .subst => "_substitution_cost" | .lev => "_levenshtein_distance" | .value => "_law_value" | .light => "_law_lightness" | .read => "_law_read" | .due => "_law_due" | .law => "law"
noncomputable def dsc (f : F) : Arguments × List Stmt × Scope := (theDef (pyName f) PySem.Challenge.pw_sc0085_01.main.body).getD default
noncomputable def scOf (f : F) : Sc := ⟨(dsc f).2.2.names, z8 f, f == .law⟩
set_option maxHeartbeats 0
theorem body_ok : ([F.insortR, .bisectR, .insortL, .bisectL, .hls, .hsv, .rgb, .quote, .subst, .lev, .value, .light, .read, .due, .law].all fun f => ckSs 60 (scOf f) (dsc f).2.1 (bodyOf f)) = true := by
 decide +kernel
end Mine
set_option maxRecDepth 10000
namespace Mine
open PySem PySem.W PySem.Calls PyProof.Rows
noncomputable def pyOp : Op -> Operator
 | .Add => .Add | .Sub => .Sub | .Mult => .Mult | .Div => .Div | .FloorDiv => .FloorDiv | .Mod => .Mod | .Pow => .Pow
noncomputable def pyCmp : Cmp -> CmpOp
 | .Lt => .Lt | .LtE => .LtE | .Gt => .Gt | .Eq => .Eq | .NotEq => .NotEq | .Is => .Is
theorem opOf_inv {p : Operator} {o : Op} (h : opOf p = some o) : p = pyOp o := by
 cases p <;> first | exact nE h | exact sE (C := fun o => _ = pyOp o) h rfl
theorem cmpOf_inv {p : CmpOp} {o : Cmp} (h : cmpOf p = some o) : p = pyCmp o := by
 cases p <;> first | exact nE h | exact sE (C := fun o => _ = pyCmp o) h rfl
theorem intBits_small {a : Int} (h : a.natAbs < 4294967296) : Builtin.Int.intBits a <= 64 := intBits_le_64 (by lia) (by lia)
theorem strOf_append (x y : Str) : (x ++ y).cps.toList = x.cps.toList ++ y.cps.toList := by
 show (x.cps ++ y.cps).toList = _
 simp
theorem yQ (x : Str) : x.length = x.cps.toList.length := by show x.cps.size = _; simp
theorem foldl_rep (xs : Array Nat) : ∀ (n : Nat) (acc : Array Nat), ((lQ n xs).foldl (fun x1 x2 => x1 ++ x2) acc).toList = acc.toList ++ (lQ n xs.toList).flatten := by
 intro n; induction n with
 | zero =>
  intro acc
  simp
 | succ n ih =>
  intro acc
  rw [lRS, List.foldl_cons, ih, lRS]; simp
theorem foldl_repV (xs : Array Value) : ∀ (n : Nat) (acc : Array Value), ((lQ n xs).foldl (fun x1 x2 => x1 ++ x2) acc).toList = acc.toList ++ (lQ n xs.toList).flatten := by
 intro n; induction n with
 | zero =>
  intro acc
  simp
 | succ n ih =>
  intro acc
  rw [lRS, List.foldl_cons, ih, lRS]; simp
section
variable {K : Know} {prog : Program} {w : World} {A : Around} {E : Value -> Shared -> Prop} {s : Shared} {σ σ' : Sto} {ρ : Gh}
theorem VRs.rep {h : Heap} {ws : List Value} {vs : List V} (r : VRs K h ρ ws vs) : ∀ n, VRs K h ρ (lQ n ws).flatten (lQ n vs).flatten := fun n => Nat.rec .nil (fun J => r.append) n
theorem z5 {P : Heap -> Gh -> Value -> Prop} {Q : Value -> Shared -> Prop} (H : HR K σ ρ s.heap s.toks) (O : Out K σ s ρ P Q) {u : Value} (p : P s.heap ρ u) {tk : Nat} (ht : s.toks <= tk) : Q u { s with toks := tk } :=
 O u s.heap tk ρ (H.mono ht) (Ext.refl ..) p
theorem Out.of {Q : Value -> Shared -> Prop} {v v_0 : V} {σ_0 : Sto} (O : Out K σ' s ρ (fun h' ρ' u => VR K h' ρ' u v) Q) (he : some (v_0, σ_0) = some (v, σ')) : Out K σ_0 s ρ (fun h' ρ' u => VR K h' ρ' u v_0) Q := by cases he; exact O
theorem out_flt {Q : Value -> Shared -> Prop} (H : HR K σ ρ s.heap s.toks) {x : UInt64} (O : Out K σ s ρ (fun h' ρ' u => VR K h' ρ' u (.flt x)) Q) : Q (.float x s.toks) { s with toks := s.toks + 1 } :=
 have ⟨H', e, r⟩ := H.flt x
 O _ s.heap _ _ H' e r
theorem outF {Q : Value -> Shared -> Prop} {x : UInt64} {v : V} (e : some (V.flt x) = some v) (H : HR K σ ρ s.heap s.toks) (O : Out K σ s ρ (fun h' ρ' u => VR K h' ρ' u v) Q) : Q (.float x s.toks) { s with toks := s.toks + 1 } := by
 cases e; exact out_flt H O
theorem outI {Q : Value -> Shared -> Prop} {x : Int} {v : V} (e : some (V.int x) = some v) (H : HR K σ ρ s.heap s.toks) (O : Out K σ s ρ (fun h' ρ' u => VR K h' ρ' u v) Q) {t : Tok} : Q (.int x t) { s with toks := s.toks + 1 } :=
 z5 H O (sE e (.int x t)) qU
theorem outS {Q : Value -> Shared -> Prop} {x : Str} {y : List Nat} {v : V} (e : some (V.str y) = some v) (hx : x.cps.toList = y) (H : HR K σ ρ s.heap s.toks) (O : Out K σ s ρ (fun h' ρ' u => VR K h' ρ' u v) Q) {t tk : Tok} (h : s.toks <= tk) : Q (.str x t) { s with toks := tk } :=
 z5 H O (sE e (.strOf y t x hx)) h
theorem numII_sound {op : Op} {i j : Int} {t u : Tok} {v : V} {Q : Value -> Shared -> Prop} (hb : numII op i j = some v) (H : HR K σ ρ s.heap s.toks) (O : Out K σ s ρ (fun h' ρ' u => VR K h' ρ' u v) Q) :
  wpAny (model prog w) A (binaryOp (pyOp op) (.int i t) (.int j u)) Q E s := by
 cases op with
 | Add => exact add_int (outI hb H O)
 | Sub => exact sub_int (outI hb H O)
 | Mult => exact ifE hb fun hc hb => mul_int (outI hb H O) (.of_left (intBits_small hc.1))
 | FloorDiv => exact ifN hb fun hc hb => PyProof.Rows.floordiv_int (fun q => hc (.inl q)) (outI hb H O) (Or.inl (PyProof.noPylong_small (Nat.lt_of_not_le (oB hc))))
 | Mod => exact ifN hb fun hc hb => PyProof.Rows.mod_int' (oA hc) (outI hb H O)
 | Pow =>
  refine ifE hb fun hc hb => pow_int hc.2.2.1 ?_ (outI hb H O)
  have h1 : Builtin.Int.intBits i <= 64 := intBits_small (by lia)
  have h2 : (Builtin.Int.intBits i : Int) * j <= 64 * 64 := Int.mul_le_mul (cD h1) hc.2.2.2 hc.2.2.1 (iLT hc.2.2.1 hc.2.2.2)
  exact iLT h2 qN
 | Div => exact ifN hb fun hc hb => ifN hb fun hi hb => AutoIntOps.truediv_2 (by simpa using hc) hi (outF hb H O)
theorem numFF_sound {op : Op} {i j : UInt64} {t u : Tok} {v : V} {Q : Value -> Shared -> Prop} (hb : numFF op i j = some v) (H : HR K σ ρ s.heap s.toks) (O : Out K σ s ρ (fun h' ρ' u => VR K h' ρ' u v) Q) :
  wpAny (model prog w) A (binaryOp (pyOp op) (.float i t) (.float j u)) Q E s := by
 cases op with
 | Add => exact add_float (outF hb H O)
 | Sub => exact sub_float (outF hb H O)
 | Mult => exact mul_float (outF hb H O)
 | Div => exact ifN hb fun hz hb => AutoFloatOps.truediv_1 hz (outF hb H O)
 | Mod => exact ifN hb fun hz hb => AutoFloatOps.mod_1 hz (outF hb H O)
 | _ => exact nE hb
theorem mulS_sound {x : Str} {t u : Tok} {n : Int} {v : V} {Q : Value -> Shared -> Prop} (hc : 0 <= n /\ n <= 1000 /\ x.cps.toList.length <= 1000) (hb : some (V.str (lQ n.toNat x.cps.toList).flatten) = some v) (H : HR K σ ρ s.heap s.toks) (O : Out K σ s ρ (fun h' ρ' u => VR K h' ρ' u v) Q) :
  wpAny (model prog w) A (binaryOp .Mult (.str x t) (.int n u)) Q E s := by
 obtain ⟨h1, h2, h3⟩ := hc
 have hlen : x.length <= 1000 := by rw [yQ]; exact h3
 have hmul : x.length * n.toNat <= 1000 * 1000 := Nat.mul_le_mul hlen (by lia)
 refine P.mul_str ?_ ?_ ?_ ?_
 ·rw [decide_eq_false (by lia : ¬ n < -(2 ^ 63 : Int)), decide_eq_false (by lia : ¬ n ≥ 2 ^ 63)]; rfl
 ·intro e1 e2 e3
  have e4 : (1000 : Int) <= (2 ^ 63 - 1) / n := by rw [Int.le_ediv_iff_mul_le (by lia)]; lia
  lia
 ·intro _ _; unfold Builtin.Str.tooLong; rw [decide_eq_false]; unfold sizeLine; exact wE hmul
 ·refine dite (n < 1) (fun e1 => ?_) fun e1 => ?_
  ·rw [if_pos e1]
   have : n = 0 := by lia
   subst this
   exact ⟨by decide, outS hb rfl H O qU⟩
  ·rw [if_neg e1]
   split
   ·rename_i e2
    simp only [Bool.or_eq_true, beq_iff_eq] at e2
    refine outS hb ?_ H O qR
    rcases e2 with e2 | e2
    ·subst e2; exact (List.append_nil _).symm
    ·have : x.cps.toList = [] := List.eq_nil_of_length_eq_zero ((yQ x).symm.trans e2)
     rw [this]; exact (List.flatten_replicate_nil).symm
   ·have e3 : ((lQ n.toNat x.cps).foldl (fun x1 x2 => x1 ++ x2) #[]).toList = (lQ n.toNat x.cps.toList).flatten := by
     rw [foldl_rep]; rfl
    refine ⟨?_, outS hb e3 H O qU⟩
    rw [yQ]
    show (((lQ n.toNat x.cps).foldl (fun x1 x2 => x1 ++ x2) #[]).toList).length <= _
    rw [e3, List.length_flatten, List.map_replicate, List.sum_replicate_nat]
    rw [← yQ]; unfold sizeLine; rw [Nat.mul_comm]; exact qT hmul qL
set_option maxHeartbeats 1000000 in
theorem numBin_sound {op : Op} {a b v : V} {wa wb : Value} {pop : Operator} {Q : Value -> Shared -> Prop} (ho : opOf pop = some op) (hb : numBin op a b = some v) (ra : VR K s.heap ρ wa a) (rb : VR K s.heap ρ wb b)
  (H : HR K σ ρ s.heap s.toks) (O : Out K σ s ρ (fun h' ρ' u => VR K h' ρ' u v) Q) : wpAny (model prog w) A (binaryOp pop wa wb) Q E s := by
 rw [opOf_inv ho]
 clear ho
 refine VR.on (F := fun a => numBin op a b) (C := fun wa => wpAny (model prog w) A (binaryOp (pyOp op) wa wb) Q E s) ra hb
  (int := fun i t hb => VR.on (F := fun b => numBin op (.int i) b) (C := fun wb => wpAny (model prog w) A (binaryOp (pyOp op) (.int i t) wb) Q E s) rb hb (int := fun j u hb => numII_sound hb H O) (flt := fun y u J J hb => ifE hb fun hc e => ?_))
  (flt := fun x t J J hb => VR.on (F := fun b => numBin op (.flt x) b) (C := fun wb => wpAny (model prog w) A (binaryOp (pyOp op) (.float x t) wb) Q E s) rb hb (int := fun j u hb => ifE hb fun hc e => ?_) (flt := fun y u J J hb => numFF_sound hb H O))
  (str := fun x t hb => VR.on (F := fun b => numBin op (.str x.cps.toList) b) (C := fun wb => wpAny (model prog w) A (binaryOp (pyOp op) (.str x t) wb) Q E s) rb hb (int := fun n u hb => ifE hb fun hc e => ?_) (str := fun y u hb => ifE hb fun hc e => ?_)) <;> obtain ⟨rfl, hc⟩ := hc
 ·exact AutoFloatOps.add_if_1 (ne_true_of_eq_false hc) (outF e H O)
 ·exact AutoFloatOps.sub_fi_1 (ne_true_of_eq_false hc) (outF e H O)
 ·exact mulS_sound hc e H O
 ·refine wpAny_with_toks (Nat.le_refl s.toks) (PyProof.Rows.add_str (fun t' tk ht => outS e (strOf_append _ _) H O ht) ?_)
  rw [yQ, yQ]; unfold sizeLine; exact wA hc
theorem HR.plain (H : HR K σ ρ s.heap s.toks) {i : Nat} {a : Addr} {vs : List V} (g : ρ.l[i]? = some a) (q : σ[i]? = some vs) (hi : i ≠ 0) : ∃ xs n, s.heap.get? a = some { cls := .type "list", data := .seq xs n } /\ VRs K s.heap ρ xs.toList vs := by
 obtain ⟨xs, _, hp, hv⟩ := H.lists i a vs g q
 obtain ⟨n, hn⟩ := hp hi
 exact ⟨xs, n, hn, hv⟩
theorem mul_listRaw {l : Addr} {items : Array Value} {k : Nat} {x : Int} {u : Tok} {Q : Value -> Shared -> Prop} (hl : s.heap.get? l = some { cls := .type "list", dict := none, data := .seq items k, slots := #[] })
  (hlo : -(2 ^ 63 : Int) <= x) (hhi : x < 2 ^ 63) (hsz : items.size * x.toNat <= 2 ^ 24)
  (h : Q (.ref s.heap.objs.size) { s with heap := s.heap.push { cls := .type "list", data := .seq (List.foldl (fun x1 x2 => x1 ++ x2) #[] (lQ (if items.isEmpty = true then 0 else x.toNat) items)) } }) :
  wpAny (model prog w) A (binaryOp .Mult (.ref l) (.int x u)) Q E s :=
 wpAny_binaryOp_repeat_ref (T := "list") (U := "int") (by decide) ⟨_, hl, rfl⟩ (fun s' => typeIs_int s' x u) noFill_list_mul F.fills_int_mul F.slot_int_rmul repeat_list F.slot_int_index.lookup
  (call_meets F.slot_int_rmul (typeIs_int s x u) F.entry_int_rmul (F.args_int_rmul_2 _ _) (int___rmul___int_list x u l items k)
   ⟨hl, rfl, ⟨_, hl, rfl⟩, call_meets F.slot_list_mul ⟨_, hl, rfl⟩ F.entry_list_mul (F.args_list_mul_2 _ _)
    (AutoListH.list___mul___list_int_3 l items k x u (by simp [Builtin.List.listFitsIndex]; exact And.intro hlo hhi) (wE hsz) (by simp [Builtin.List.listTooLong, sizeLine]; exact hsz)) ⟨hl, h⟩⟩)
theorem VRs.size {h : Heap} {xs : Array Value} {vs : List V} (r : VRs K h ρ xs.toList vs) : xs.size = vs.length := by have := r.length; simpa using this
theorem outL {Q : Value -> Shared -> Prop} {xs : Array Value} {vs : List V} {v : V} (H : HR K σ ρ s.heap s.toks) (hv : VRs K s.heap ρ xs.toList vs) (e : some (newL vs σ) = some (v, σ')) (O : Out K σ' s ρ (fun h' ρ' u => VR K h' ρ' u v) Q) :
  Q (.ref s.heap.objs.size) { s with heap := s.heap.push { cls := .type "list", data := .seq xs } } :=
 have ⟨H', x, r⟩ := H.newL hv rfl
 (sE (C := fun p => Out K p.2 s ρ (fun h' ρ' u => VR K h' ρ' u p.1) Q -> Q (.ref s.heap.objs.size) { s with heap := s.heap.push { cls := .type "list", data := .seq xs } }) e fun O => O _ _ s.toks _ H' x r) O
set_option maxHeartbeats 1000000 in
theorem binF_sound {op : Op} {a b v : V} {wa wb : Value} {pop : Operator} {Q : Value -> Shared -> Prop} (ho : opOf pop = some op) (hb : binF op a b σ = some (v, σ')) (H : HR K σ ρ s.heap s.toks) (ra : VR K s.heap ρ wa a) (rb : VR K s.heap ρ wb b)
  (O : Out K σ' s ρ (fun h' ρ' u => VR K h' ρ' u v) Q) : wpAny (model prog w) A (binaryOp pop wa wb) Q E s := by
 have num : ∀ {a wa}, VR K s.heap ρ wa a -> Option.bind (numBin op a b) (fun v => some (v, σ)) = some (v, σ') -> wpAny (model prog w) A (binaryOp pop wa wb) Q E s :=
  fun ra hb => obE hb fun v' hn e => (sP (C := fun v σ' => Out K σ' s ρ (fun h' ρ' u => VR K h' ρ' u v) Q -> _) e fun O => numBin_sound ho hn ra rb H O) O
 refine VR.on (F := fun a => binF op a b σ) (C := fun wa => wpAny (model prog w) A (binaryOp pop wa wb) Q E s) ra hb (int := fun i t hb => num (.int i t) hb) (flt := fun x t a b hb => num (.flt x t a b) hb) (str := fun x t hb => num (.str x t) hb)
  (lst := fun i la ga hb => obE hb fun xs hx hb => VR.on (F := lstBin op i xs σ) (C := fun wb => wpAny (model prog w) A (binaryOp pop (.ref la) wb) Q E s) rb hb (int := fun n u hb => ifE hb fun hc e => ?_) (lst := fun j lb gb hb => obE hb fun ys hy hb => ifE hb fun hc e => ?_)) <;>
  rw [opOf_inv ho] <;> obtain ⟨rfl, hc⟩ := hc
 ·obtain ⟨as, n1, h1, v1⟩ := H.plain ga hx hc.1
  have e1 := v1.size
  have hmul : as.size * n.toNat <= 1000 * 1000 := Nat.mul_le_mul (eC e1 hc.2.2.2) (by lia)
  refine mul_listRaw h1 (iLT qN hc.2.1) (Int.lt_of_le_of_lt hc.2.2.1 qN) (qT hmul qL) (outL H ?_ e O)
  rw [foldl_repV]
  split
  ·rename_i he
   have : as.toList = [] := Array.toList_eq_nil_iff.mpr (Array.isEmpty_iff.mp he)
   rw [this] at v1; cases v1
   rw [List.flatten_replicate_nil]; exact .nil
  ·exact v1.rep n.toNat
 ·obtain ⟨as, n1, h1, v1⟩ := H.plain ga hx hc.1
  obtain ⟨bs, n2, h2, v2⟩ := H.plain gb hy hc.2.1
  refine P.add_list h1 h2 ?_ (by rw [v1.size, v2.size]; unfold sizeLine; exact qT hc.2.2 qL)
  exact outL H (by rw [Array.toList_append]; exact v1.append v2) e O
end
end Mine
namespace Mine
open PySem PySem.W PySem.Calls PyProof.Rows PySem.SeqAt
section
variable {K : Know} {prog : Program} {w : World} {A : Around} {E : Value -> Shared -> Prop} {s : Shared} {σ σ' : Sto} {ρ : Gh}
theorem cmp_self {x : UInt64} (h : Float64.isNaN x = false) : Float64.cmp x x = some .eq := by
 unfold Float64.cmp
 unfold Float64.isNaN at h
 cases hd : Float64.decode x with
 | nan => rw [hd] at h; cases h
 | inf a => simp
 | fin a m e => simp [Float64.align]
@[elab_as_elim] theorem vIntD {f : Int -> Option Bool} {r : Bool} {C : V -> Prop} {v : V} (e : vInt f v = some r) (k : ∀ i, f i = some r -> C (.int i)) : C v := by
 cases v with
 | int i => exact k i e
 | _ => exact nE e
@[elab_as_elim] theorem vStrD {f : List Nat -> Option Bool} {r : Bool} {C : V -> Prop} {v : V} (e : vStr f v = some r) (k : ∀ i, f i = some r -> C (.str i)) : C v := by
 cases v with
 | str i => exact k i e
 | _ => exact nE e
@[elab_as_elim] theorem vFltD {f : UInt64 -> Option Bool} {r : Bool} {C : V -> Prop} {v : V} (e : vFlt f v = some r) (k : ∀ i, f i = some r -> C (.flt i)) : C v := by
 cases v with
 | flt i => exact k i e
 | _ => exact nE e
@[elab_as_elim] theorem vTupD {f : List V -> Option Bool} {r : Bool} {C : V -> Prop} {v : V} (e : vTup f v = some r) (k : ∀ i, f i = some r -> C (.tup i)) : C v := by
 cases v with
 | tup i => exact k i e
 | _ => exact nE e
theorem eqA_same {h : Heap} {u : Value} {a b : V} {r : Bool} (ra : VR K h ρ u a) (rb : VR K h ρ u b) (e : eqA a b = some r) : r = true :=
 (VR.on (F := fun a => eqA a b) (C := fun u => VR K h ρ u b -> r = true) ra e
  (int := fun i t e => vIntD e fun j e rb => have ⟨_, q⟩ := rb.int_inv; sE e (beq_iff_eq.mpr (Value.int.inj q).1))
  (str := fun x t e => vStrD e fun y e rb => have ⟨_, _, q, q'⟩ := rb.str_inv; sE e (beq_iff_eq.mpr (by rw [(Value.str.inj q).1, q'])))
  (flt := fun x t J J e => vFltD e fun y e rb => have ⟨_, q, _⟩ := rb.flt_inv; ifN e fun hn e => sE e (by
   have hn : Float64.isNaN x = false := Bool.eq_false_iff.mpr fun c => hn (by rw [c]; rfl)
   rw [← (Value.float.inj q).1]
   unfold fltEq; rw [cmp_self hn]; rfl))) rb
theorem eqW_same {f : V -> V -> Option Bool} {h : Heap} (hf : ∀ {u a b r}, VR K h ρ u a -> VR K h ρ u b -> f a b = some r -> r = true) : ∀ {as bs : List V} {us : List Value} {r : Bool}, VRs K h ρ us as -> VRs K h ρ us bs -> eqW f as bs = some r -> r = true := by
 intro as; induction as with
 | nil => intro bs; cases bs with
  | nil => exact fun J J e => sE e rfl
  | cons => exact fun J J e => nE e
 | cons a as ih => intro bs; cases bs with
  | nil => exact fun J J e => nE e
  | cons b bs =>
   intro us r va vb e
   obtain ⟨u, us, rfl, a1, a2⟩ := va.inv
   obtain ⟨J, J, q, b1, b2⟩ := vb.inv
   cases q
   exact obE e fun x e1 e => obE e fun y e2 e => sE e (by rw [hf a1 b1 e1, ih a2 b2 e2]; rfl)
theorem rc_float {a b : UInt64} {t u : Tok} {Q : Value -> Shared -> Prop} (h : Q (.bool (fltEq a b)) s) : wpAny (model prog w) A (richCompare .Eq (.float a t) (.float b u)) Q E s :=
 show wpAny (model prog w) A (compareOp .Eq (.float a t) (.float b u)) Q E s from AutoFloatOps.eq_0 h
theorem wpAny_isSame_flt {M : Model} {a b : UInt64} {t u : Tok} {Q : Bool -> Shared -> Prop} (ht : t ≠ 0) (hu : u ≠ 0) (htu : t ≠ u) (hb : NoneBooked s.heap) (h0 : Q false s) (h1 : a = b -> Float64.isNaN a = false -> Q true s) :
  wpAny M A (isSame (.float a t) (.float b u)) Q E s := by
 show wpAny M A (isSame.created (a == b && !Float64.isNaN a) t u) Q E s
 unfold isSame.created
 refine wpAny_ite_split (fun h => ?_) (fun J => ?_)
 ·simp [ht, hu] at h
 refine wpAny_ite_split (fun h => absurd (by simpa using h) htu) (fun J => ?_)
 refine wpAny_ite_split (fun h => wpP h0) (fun h => ?_)
 simp only [Bool.not_eq_true', Bool.not_eq_false, Bool.and_eq_true, beq_iff_eq] at h
 refine wpB (wpAny_sharingNotTold_none hb ?_)
 refine wpAny_ite_split (fun q => absurd q (by decide)) (fun J => ?_)
 refine wpB (wpAny_sharingNotTold_none hb ?_)
 refine wpAny_ite_split (fun q => absurd q (by decide)) (fun J => ?_)
 refine wpB (wpAny_rule (wpB (wpAny_askSetting (wpP ?_))))
 have hq : ∀ c : Bool, Q c s := fun c => by
  cases c
  ·exact h0
  ·exact h1 h.1 h.2
 exact hq _
theorem eqA_at {a b : V} {wa wb : Value} {r : Bool} (hB : NoneBooked s.heap) (ra : VR K s.heap ρ wa a) (rb : VR K s.heap ρ wb b) (e : eqA a b = some r) : EqAt A s wa wb r := by
 by_cases hs : wa = wb
 ·subst hs
  rw [eqA_same ra rb e]; exact EqAt.same _
 ·refine (VR.on (F := fun a => eqA a b) (C := fun wa => ¬ wa = wb -> EqAt A s wa wb r) ra e (int := fun i t e J => yS rb e fun j u e => sE e (EqAt.int_int _ _ _ _))
   (str := fun x t e J => str_e rb e fun y u e => sE e (by rw [str_beq]; exact EqAt.str_str _ _ _ _))
   (flt := fun x t ht ht0 e => VR.on (F := vFlt _) (C := fun wb => ¬ Value.float x t = wb -> EqAt A s _ wb r) rb e (flt := fun y u hu hu0 e hs => ?_))) hs
  refine ifN e fun hn e => sE e fun prog w E Q hq => ?_
  unfold eqBool
  refine wpAny_holding ?_
  refine wpAny_ite_split (fun hab => absurd (eq_of_beq hab) hs) (fun J => ?_)
  have htu : t ≠ u := fun q => hs (by rw [q] at ht ⊢; rw [sI (ht.symm.trans hu)])
  have go : wpAny (model prog w) A (do truthOfDropped (← richCompare .Eq (.float x t) (.float y u))) Q E s := wpB (rc_float (wpAny_truthy_bool hq))
  refine wpB (wpAny_isSame_flt ht0 hu0 htu hB go fun hab hna => ?_)
  rw [← hab] at hq
  unfold fltEq at hq
  rw [cmp_self hna] at hq
  exact wpP hq
theorem eqW_each {f : V -> V -> Option Bool} (hf : ∀ {u w a b r}, VR K s.heap ρ u a -> VR K s.heap ρ w b -> f a b = some r -> EqAt A s u w r) : ∀ {as bs : List V} {us ws : List Value} {r : Bool}, VRs K s.heap ρ us as -> VRs K s.heap ρ ws bs -> eqW f as bs = some r ->
  us.length = ws.length /\ ∃ c : Nat -> Bool, (∀ (j : Nat) x y, us[j]? = some x -> ws[j]? = some y -> EqAt A s x y (c j)) /\ (lR us.length).all c = r := by
 intro as; induction as with
 | nil => intro bs; cases bs with
  | nil =>
   intro us ws r va vb e
   cases va.inv; cases vb.inv
   exact ⟨rfl, fun J => true, fun J J J e => nE e, sI e⟩
  | cons => exact fun J J e => nE e
 | cons a as ih => intro bs; cases bs with
  | nil => exact fun J J e => nE e
  | cons b bs =>
   intro us ws r va vb e
   refine byC fun hG => ?_
   obtain ⟨u, us, rfl, a1, a2⟩ := va.inv
   obtain ⟨w, ws, rfl, b1, b2⟩ := vb.inv
   refine hG ?_
   refine obE e fun x e1 e => obE e fun y e2 e => ?_
   obtain ⟨h0, c, h1, h2⟩ := ih a2 b2 e2
   refine ⟨congrArg (· + 1) h0, fun j => Nat.casesOn j x c, fun j p q hp hq => ?_, ?_⟩
   ·cases j with
    | zero => cases hp; cases hq; exact hf a1 b1 e1
    | succ j => exact h1 j p q hp hq
   ·rw [List.length_cons, List.range_succ_eq_map, List.all_cons, List.all_map]
    exact sE e (congrArg (x && ·) h2)
@[elab_as_elim] theorem eqI_e {a b : V} {r : Bool} {C : V -> V -> Prop} (e : eqI a b = some r) (h1 : ∀ as bs, eqAs as bs = some r -> C (.tup as) (.tup bs)) (h2 : eqA a b = some r -> C a b) : C a b := by
 cases a with
 | tup as => exact vTupD (f := fun bs => eqAs as bs) (C := fun b => C (.tup as) b) (show vTup (fun bs => eqAs as bs) b = some r from e) (h1 as)
 | _ => exact h2 e
theorem eqI_same {h : Heap} {u : Value} {a b : V} {r : Bool} (ra : VR K h ρ u a) (rb : VR K h ρ u b) (e : eqI a b = some r) : r = true := by
 revert ra rb
 refine eqI_e e (fun as bs e ra rb => ?_) fun e ra rb => eqA_same ra rb e
 obtain ⟨x, xs, rfl, ⟨J, g1⟩, J, J, v1⟩ := ra.tup_inv
 obtain ⟨J, ys, q, ⟨J, g2⟩, J, J, v2⟩ := rb.tup_inv
 cases q
 rw [g1] at g2; cases g2
 exact eqW_same eqA_same v1 v2 e
theorem eqI_at {a b : V} {wa wb : Value} {r : Bool} (hB : NoneBooked s.heap) (hu : A.units < cLine) (ra : VR K s.heap ρ wa a) (rb : VR K s.heap ρ wb b) (e : eqI a b = some r) : EqAt A s wa wb r := by
 revert ra rb
 refine eqI_e e (fun as bs e' ra rb => ?_) fun e ra rb => eqA_at hB ra rb e
 by_cases hxy : wa = wb
 ·subst hxy; rw [eqI_same ra rb e']; exact EqAt.same _
 obtain ⟨x, xs, rfl, h1, J, J, v1⟩ := ra.tup_inv
 obtain ⟨y, ys, rfl, h2, J, J, v2⟩ := rb.tup_inv
 obtain ⟨h0, c, hc, hr⟩ := eqW_each (A := A.in1) (eqA_at hB) v1 v2 e'
 rw [← hr]
 have h0 : xs.size = ys.size := h0
 have := RcAt.tuples (A := A) (e := c) h1.isTuple h2.isTuple hu (fun j q1 q2 => hc j _ _ (Array.getElem?_toList.trans (Array.getElem?_eq_getElem q1)) (Array.getElem?_toList.trans (Array.getElem?_eq_getElem q2)))
 rw [h0, Nat.min_self, beq_self_eq_true, Bool.and_true, ← h0] at this
 exact EqAt.of_refs (fun q => hxy (congrArg _ q)) this
theorem eqL_list {xs ys : List V} {l b : Addr} {as bs : Array Value} {r : Bool} (hB : NoneBooked s.heap) (hu : A.units + 4 < cLine) (hl : s.heap.IsList l as) (hb : s.heap.IsList b bs) (v1 : VRs K s.heap ρ as.toList xs) (v2 : VRs K s.heap ρ bs.toList ys) (e : eqL xs ys = some r) :
  RcAt A s (.ref l) (.ref b) r /\ RcNeAt A s (.ref l) (.ref b) (!r) := by
 have s1 := v1.size
 have s2 := v2.size
 by_cases hlen : xs.length = ys.length
 ·have e : eqIs xs ys = some r := (if_pos hlen).symm.trans e
  obtain ⟨h0, c, hc, rfl⟩ := eqW_each (A := A.in1) (eqI_at hB (by simp only [Around.in1_units]; lia)) v1 v2 e
  have he : ∀ j (h1 : j < as.size) (h2 : j < bs.size), EqAt A.in1 s as[j] bs[j] (c j) := fun j q1 q2 => hc j _ _ (Array.getElem?_toList.trans (Array.getElem?_eq_getElem q1)) (Array.getElem?_toList.trans (Array.getElem?_eq_getElem q2))
  exact ⟨RcAt.lists hl hb h0 (pD hu) he, RcNeAt.lists hl hb h0 (pD hu) he⟩
 ·cases (if_neg hlen).symm.trans e
  have hs : (as.size != bs.size) = true := bne_iff_ne.mpr (by lia)
  exact ⟨RcAt.lists_lengths hl hb hs (pD hu), RcNeAt.lists_lengths hl hb hs (pD hu)⟩
theorem eqV_sound {n : Nat} {a b : V} {wa wb : Value} {r : Bool} (hB : NoneBooked s.heap) (hA : OkA A n) (e : eqV σ a b = some r) (H : HR K σ ρ s.heap s.toks) (ra : VR K s.heap ρ wa a) (rb : VR K s.heap ρ wb b) {Q : Value -> Shared -> Prop} :
  (Q (.bool r) s -> wpAny (model prog w) A (compareOp .Eq wa wb) Q E s) /\ (Q (.bool (!r)) s -> wpAny (model prog w) A (compareOp .NotEq wa wb) Q E s) := by
 have hu : A.units + 4 < cLine := by have := hA.units; lia
 refine VR.on (F := fun a => eqV σ a b) (C := fun wa => (Q (.bool r) s -> wpAny (model prog w) A (compareOp .Eq wa wb) Q E s) /\ (Q (.bool (!r)) s -> wpAny (model prog w) A (compareOp .NotEq wa wb) Q E s)) ra e
  (int := fun i t e => yS rb e fun j u e => sE e ⟨RcAt.int_int _ _ _ _ prog w E Q, RcNeAt.int_int _ _ _ _ prog w E Q⟩)
  (str := fun x t e => str_e rb e fun y u e => sE e (by rw [str_beq]; exact ⟨RcAt.str_str _ _ _ _ prog w E Q, RcNeAt.str_str _ _ _ _ prog w E Q⟩))
  (flt := fun x t J J e => vFlt_e rb e fun y u e => sE e ⟨rc_float, fun h => AutoFloatOps.ne_0 h⟩)
  (lst := fun i l g1 e => lst_e rb e fun j m g2 e => obE e fun xs hx e => obE e fun ys hy e => ?_)
 refine byC fun hG => ?_
 obtain ⟨as, q1, J, v1⟩ := H.lists _ _ _ g1 hx
 obtain ⟨bs, q2, J, v2⟩ := H.lists _ _ _ g2 hy
 refine hG ?_
 have q := eqL_list hB hu q1 q2 v1 v2 e
 exact ⟨q.1 prog w E Q, q.2 prog w E Q⟩
theorem qOf {b r : Bool} {Q : Value -> Shared -> Prop} {s : Shared} (e : some b = some r) (h : Q (.bool r) s) : Q (.bool b) s := sI e ▸ h
theorem cmpV_sound {n : Nat} {c : Cmp} {a b : V} {wa wb : Value} {r : Bool} {pc : CmpOp} {Q : Value -> Shared -> Prop} (hB : NoneBooked s.heap) (hA : OkA A n) (hc : cmpOf pc = some c) (e : cmpV σ c a b = some r) (H : HR K σ ρ s.heap s.toks) (ra : VR K s.heap ρ wa a) (rb : VR K s.heap ρ wb b)
  (h : Q (.bool r) s) : wpAny (model prog w) A (compareOp pc wa wb) Q E s := by
 rw [cmpOf_inv hc]
 cases c with
 | Eq => exact (eqV_sound hB hA e H ra rb).1 h
 | NotEq => exact obE (f := fun r => some (!r)) e fun q e1 e => (eqV_sound hB hA e1 H ra rb).2 (qOf e h)
 | Lt => exact VR.on (F := fun a => ltV a b) (C := fun wa => wpAny (model prog w) A (compareOp _ wa wb) Q E s) ra e (int := fun i t e => yS rb e fun j u e => PyProof.Rows.lt_int (qOf e h)) (flt := fun x t J J e => vFlt_e rb e fun y u e => AutoFloatOps.lt_0 (qOf e h)) (str := fun x t e => str_e rb e fun y u e => PyProof.Rows.lt_str (qOf e h))
 | LtE => exact VR.on (F := fun a => leV a b) (C := fun wa => wpAny (model prog w) A (compareOp _ wa wb) Q E s) ra e (int := fun i t e => yS rb e fun j u e => PyProof.Rows.le_int (qOf e h)) (flt := fun x t J J e => vFlt_e rb e fun y u e => AutoFloatOps.le_0 (qOf e h))
 | Gt => exact yS ra e fun i t e => yS rb e fun j u e => PyProof.Rows.gt_int (qOf e h)
 | Is => exact VR.on (F := fun a => isV a b) (C := fun wa => wpAny (model prog w) A (compareOp _ wa wb) Q E s) ra e (none := fun e => none_e rb e fun e => wpAny_is_self rfl (qOf e h)) (int := fun i t e => none_e rb e fun e => wpAny_is_other rfl (by exact fun h => nomatch h) (qOf e h)) (glob := fun g w q e => gFn_e e fun f hg e => none_e rb e fun e3 => by subst hg; exact sE q (wpAny_is_other (by rfl) (by exact fun h => nomatch h) (qOf e3 h)))
end
end Mine
namespace Mine
open PySem PySem.W PySem.Calls PyProof.Rows PySem.SeqAt
section
variable {K : Know} {prog : Program} {w : World} {A : Around} {E : Value -> Shared -> Prop} {s : Shared} {σ σ' : Sto} {ρ : Gh}
theorem booked {tk} {h : Heap} (k : KOk K) (H : HR K σ ρ h tk) (hb : NoneBooked K.base) : NoneBooked h := by
 obtain ⟨mc, hn, hk⟩ := hb
 exact ⟨mc, hn.at' (fun o e => H.base _ o k.staticsNe e), hk⟩
theorem truthV_sound {v : V} {u : Value} {b : Bool} {Q : Bool -> Shared -> Prop} (e : xP v = some b) (r : VR K s.heap ρ u v) (h : ∀ tk, s.toks <= tk -> Q b { s with toks := tk }) : wpAny (model prog w) A (truthy u) Q E s := by
 refine VR.on (F := xP) (C := fun u => wpAny (model prog w) A (truthy u) Q E s) r e (bool := fun b e => ?_) (int := fun i t e => ?_) (str := fun x t e => ?_)
 ·cases e; exact PyProof.Rows.truthy_int (h _ qR)
 ·refine ifE e fun hx e => ?_
  cases e
  rw [← yQ] at hx
  refine PySem.P.truthy_str (by lia) ?_
  have : (((x.length : Nat) : Int) != 0) = !x.cps.toList.isEmpty := by
   rw [yQ]
   cases x.cps.toList <;> simp
   lia
  rw [this]
  exact h _ (qW qU)
 ·cases e; exact wpAny_truthy_bool (h _ qR)
theorem place_inv {n : Nat} {i : Int} {k : Nat} (e : place n i = some k) : n <= 1000000 /\ ((0 <= i /\ i.toNat = k /\ k < n) \/ (i < 0 /\ -(n : Int) <= i /\ (i + (n : Int)).toNat = k /\ k < n)) := by
 refine ifN e fun h0 e => ?_
 by_cases hi : 0 <= i
 ·rw [if_pos hi] at e
  exact ifE e fun hk e => by cases e; exact ⟨by exact qG h0, .inl ⟨hi, rfl, hk⟩⟩
 ·rw [if_neg hi] at e
  exact ifE e fun hk e => by cases e; exact ⟨by exact qG h0, .inr ⟨by exact Int.lt_of_not_ge hi, hk, rfl, by lia⟩⟩
theorem seqIndex_of {n : Nat} {i : Int} {k : Nat} (e : place n i = some k) : seqIndex? i n = some k /\ k < n /\ -(2 ^ 63) <= i /\ i < 2 ^ 63 := by
 obtain ⟨h0, ⟨h1, h2, h3⟩ | ⟨h1, h2, h3, h4⟩⟩ := place_inv e
 ·refine ⟨?_, h3, by exact iLT qN h1, by lia⟩
  unfold seqIndex?
  have q : ¬ i < 0 := by exact qX h1
  simp only [q, if_false]
  rw [if_pos (by simp; lia), h2]
 ·refine ⟨?_, h4, by lia, by exact Int.lt_of_lt_of_le h1 qN⟩
  unfold seqIndex?
  simp only [h1, if_true]
  rw [if_pos (by simp; lia), h3]
theorem subV_sound {o i v : V} {wo wi : Value} {Q : Value -> Shared -> Prop} (e : subV o i σ = some v) (H : HR K σ ρ s.heap s.toks) (ro : VR K s.heap ρ wo o) (ri : VR K s.heap ρ wi i)
  (O : Out K σ s ρ (fun h' ρ' u => VR K h' ρ' u v) Q) : ∃ T id, typeLookup (.type T) "__getitem__" = pure (some (.builtin id)) /\ s.TypeIs wo T /\ wpAny (model prog w) A (getItem wo wi) Q E s := by
 refine yS ri e fun i t' e => VR.on (F := fun o => subV o (.int i) σ) (C := fun wo => ∃ T id, typeLookup (.type T) "__getitem__" = pure (some (.builtin id)) /\ s.TypeIs wo T /\ wpAny (model prog w) A (getItem wo (.int i t')) Q E s) ro e (lst := fun k l g e => obE e fun xs hx e => obE e fun j hp e => ?_) (tup := fun l as vs hl g1 g2 hv e => obE e fun j hp e => ?_) (str := fun x t e => obE e fun j hp e => obE e fun c hc e => ?_)
 ·obtain ⟨h1, h2, h3, h4⟩ := seqIndex_of hp
  refine ⟨"str", _, F.slot_str_getitem.lookup, typeIs_str s x t, PyProof.Rows.getItem_str (c := c) ?_ ?_ (outS e rfl H O qU)⟩
  ·rw [decide_eq_false (qX h3 : ¬ i < -(2 ^ 63 : Int)), decide_eq_false (Int.not_le_of_gt h4 : ¬ i ≥ 2 ^ 63)]; rfl
  ·rw [yQ, h1]
   exact Array.getElem?_toList.symm.trans hc
 ·refine byC fun hG => ?_
  obtain ⟨h1, h2, h3, h4⟩ := seqIndex_of hp
  obtain ⟨u, hu, r⟩ := hv.get e
  obtain ⟨n, hn⟩ := hl
  refine hG ?_
  exact ⟨"tuple", _, F.slot_tuple_getitem.lookup, ⟨_, hn, rfl⟩, P.getItem_tuple hn h3 h4 (by rw [hv.size]; exact h1) (Array.getElem?_toList.symm.trans hu) (z5 H O r qR)⟩
 ·refine byC fun hG => ?_
  obtain ⟨h1, h2, h3, h4⟩ := seqIndex_of hp
  obtain ⟨as, hl, _, hv⟩ := H.lists _ _ _ g hx
  have hs := hv.size
  obtain ⟨u, hu, r⟩ := hv.get e
  refine hG ?_
  have hu' : as[j]? = some u := Array.getElem?_toList.symm.trans hu
  refine ⟨"list", _, F.slot_list_getitem.lookup, hl.typeIs, ?_⟩
  obtain ⟨_, ⟨hi, hj, _⟩ | ⟨hi, hm, hj, _⟩⟩ := place_inv hp
  ·exact wpAny_getItem_list hl hi h4 (x := u) (by rw [hj]; exact hu') (z5 H O r qR)
  ·exact wpAny_getItem_list_neg hl hi (by rw [hs]; exact hm) h3 (x := u) (by rw [hs, hj]; exact hu') (z5 H O r qR)
theorem partO_inv {v : V} {p : Option Int} {u : Value} {h : Heap} (e : partO v = some p) (r : VR K h ρ u v) : ∃ q : Option (Int × Tok), u = partValue q /\ q.map (·.1) = p /\ IsPart u p := by
 exact VR.on (F := partO) (C := fun u => ∃ q : Option (Int × Tok), u = partValue q /\ q.map (·.1) = p /\ IsPart u p) r e (none := fun e => sE e ⟨none, rfl, rfl, .none⟩) (int := fun i t e => sE e ⟨some (_, t), rfl, rfl, .int _ _⟩)
theorem VRs.pick {h : Heap} {ws : List Value} {vs : List V} (r : VRs K h ρ ws vs) : ∀ (ix : List Nat), VRs K h ρ (ix.filterMap (ws[·]?)) (ix.filterMap (vs[·]?)) := by
 intro ix; induction ix with
 | nil => exact .nil
 | cons i ix ih =>
  have hl := r.length
  by_cases hi : i < vs.length
  ·have e1 : vs[i]? = some vs[i] := by exact gEG hi
   obtain ⟨u, hu, ru⟩ := r.get e1
   rw [List.filterMap_cons, List.filterMap_cons, e1, hu]
   exact .cons ru ih
  ·have e1 : vs[i]? = none := by simp; exact qG hi
   have e2 : ws[i]? = none := by simp; exact eD hl hi
   rw [List.filterMap_cons, List.filterMap_cons, e1, e2]
   exact ih
theorem sliceV_sound {o lo hi st v : V} {wo wl wh ws : Value} {a : Addr} {Q : Value -> Shared -> Prop} (e : xX o lo hi st σ = some (v, σ')) (H : HR K σ ρ s.heap s.toks) (ro : VR K s.heap ρ wo o) (rl : VR K s.heap ρ wl lo) (rh : VR K s.heap ρ wh hi) (rs : VR K s.heap ρ ws st)
  (hs : s.heap.get? a = some { cls := .type "slice", data := .fields #[wl, wh, ws] })
  (O : Out K σ' s ρ (fun h' ρ' u => VR K h' ρ' u v) Q) : ∃ T id, typeLookup (.type T) "__getitem__" = pure (some (.builtin id)) /\ s.TypeIs wo T /\ wpAny (model prog w) A (getItem wo (.ref a)) Q E s := by
 refine obE e fun p1 h1 e => obE e fun p2 h2 e => obE e fun p3 h3 e => ?_
 obtain ⟨q1, rfl, e1, i1⟩ := partO_inv h1 rl
 obtain ⟨q2, rfl, e2, i2⟩ := partO_inv h2 rh
 obtain ⟨q3, rfl, e3, i3⟩ := partO_inv h3 rs
 refine VR.on (F := sliceO p1 p2 p3 σ) (C := fun wo => ∃ T id, typeLookup (.type T) "__getitem__" = pure (some (.builtin id)) /\ s.TypeIs wo T /\ wpAny (model prog w) A (getItem wo (.ref a)) Q E s) ro e (str := fun x t e => ifE e fun hc0 e => ?_) (lst := fun k l g e => obE e fun xs hx e => ifN e fun hc e => ?_)
 ·have O := O.of e
  obtain ⟨hp3, hlen⟩ := hc0
  subst hp3
  refine ⟨"str", _, F.slot_str_getitem.lookup, typeIs_str s x t, wpAny_getItem_str_slice (l := q1) (u := q2) (st := q3) ⟨_, hs, rfl, rfl⟩ (by rw [e3]; rfl) ?_⟩
  have hx : slicePicked x q1 q2 q3 = Builtin.Str.strSliceIndices p1 p2 1 x.cps.toList.length := by
   unfold slicePicked; rw [e1, e2, e3, yQ]; rfl
  unfold sliceMade
  rw [hx, e3]
  have hle : (Builtin.Str.strSliceIndices p1 p2 1 x.cps.toList.length).length <= x.cps.toList.length := indices_len_le _ _ _
  split
  ·rename_i hc
   refine z5 H O (.strOf _ _ _ ?_) qR
   exact (if_pos (by rw [← yQ] at hc ⊢; simpa using hc)).symm
  ·rename_i hc
   have hp : pickS x.cps.toList p1 p2 = (Builtin.Str.strSliceIndices p1 p2 1 x.cps.toList.length).filterMap (x.cps[·]?) := by
    refine (if_neg (by rw [← yQ] at hc ⊢; simpa using hc)).trans ?_
    congr 1
    funext i; exact Array.getElem?_toList
   refine ⟨?_, z5 H O (.strOf _ _ _ (by rw [hp])) qU⟩
   rw [yQ]
   show ((Builtin.Str.strSliceIndices p1 p2 1 x.cps.toList.length).filterMap (x.cps[·]?)).length <= _
   refine qT (List.length_filterMap_le _ _) (qT hle ?_)
   unfold sizeLine; exact qT hlen qL
 ·obtain ⟨as, hl, _, hv⟩ := H.lists _ _ _ g hx
  have hsz := hv.size
  refine ⟨"list", _, F.slot_list_getitem.lookup, hl.typeIs, wpAny_getItem_list_slice hl ⟨_, hs, rfl, rfl⟩ i1 i2 i3 (fun q => hc (.inl q)) ?_ (by unfold sizeLine; exact eF hsz (oB hc))⟩
  refine outL H ?_ e O
  have hp : (slicePick as p1 p2 p3).toList = (sliceRange (sliceBounds p1 p2 p3 xs.length).1 (sliceBounds p1 p2 p3 xs.length).2.1 (sliceBounds p1 p2 p3 xs.length).2.2).filterMap (as.toList[·]?) := by
   unfold slicePick
   rw [hsz]
   simp
  rw [hp]; exact hv.pick _
theorem sub_eval {env : Env} {value slice : Expr} {pos : Pos} {Q : Value -> Shared -> Prop} (hsl : ∀ o i, subscripted slice false o i = operate [o, i] (getItem o i) \/ subscripted slice false o i = operate [i, o] (getItem o i))
  (h : wpAny (model prog w) A (eval value env) (fun o s_1 => wpAny (model prog w) A (eval slice env) (fun i s_2 => ∃ T id, typeLookup (.type T) "__getitem__" = pure (some (.builtin id)) /\ s_2.TypeIs o T /\ wpAny (model prog w) A (getItem o i) Q E s_2) E s_1) E s) :
  wpAny (model prog w) A (eval (.Subscript value slice pos) env) Q E s := by
 rw [eval_Subscript]
 refine wpB (wpAny_mono h (fun o s_1 h_1 => wpB (wpAny_holding (wpAny_mono h_1 (fun i s_2 h_2 => wpB (wpAny_standAt ?_)) fun J J x => x))) fun J J x => x)
 obtain ⟨T, id, hl, hT, hg⟩ := h_2
 refine wpB ?_
 rw [getitemInPython_of_ne hT.not_modules]
 refine wpB (wpAny_specialOf hT hl ?_)
 have fin : wpAny (model prog w) A (getItem o i) (fun r s_3 => wpAny (model prog w) A (letTemporaryGo value o r >>= fun J => pure r) Q E s_3) E s_2 :=
  wpAny_mono hg (fun r s_3 h_3 => wpB (wpAny_letTemporaryGo (wpP h_3))) fun J J x => x
 refine wpP (wpB ?_)
 rcases hsl o i with q | q <;> (rw [q]; exact wpAny_operating fin)
theorem subscripted_not {slice : Expr} (h : isSlice slice = false) (o i : Value) : subscripted slice false o i = operate [o, i] (getItem o i) := by
 cases slice <;> first | rfl | exact fE h.symm
theorem subscripted_slice {lo hi st : Option Expr} {p : Pos} (o i : Value) : subscripted (.Slice lo hi st p) false o i = operate [o, i] (getItem o i) \/ subscripted (.Slice lo hi st p) false o i = operate [i, o] (getItem o i) := by
 cases st with
 | none => exact .inr rfl
 | some e => exact .inl rfl
end
end Mine
namespace Mine
open PySem PySem.W PySem.Calls PyProof.Rows PySem.SeqAt
section
variable {K : Know} {prog : Program} {w : World} {A : Around} {E : Value -> Shared -> Prop} {s : Shared} {σ σ' : Sto} {ρ : Gh}
theorem out_kept {P : Heap -> Gh -> Value -> Prop} {Q : Value -> Shared -> Prop} (H : HR K σ ρ s.heap s.toks) (O : Out K σ s ρ P Q) {h' : Heap} {tk : Tok} (hk : ∀ b o, s.heap.get? b = some o -> h'.get? b = some o) (hs : s.heap.objs.size <= h'.objs.size) (ht : s.toks <= tk)
  {u : Value} (p : Ext K [] s.heap ρ h' ρ -> P h' ρ u) : Q u { s with heap := h', toks := tk } := by
 obtain ⟨H', e⟩ := H.keeps hk hs
 exact O u h' tk ρ (H'.mono ht) e (p e)
theorem sumInts_spec : ∀ {vs : List V} {ws : List Value} {a n : Int}, VRs K s.heap ρ ws vs -> yW vs a = some n -> ∃ xs : List (Int × Tok), ws = xs.map (fun p => .int p.1 p.2) /\ n = a + (xs.map Prod.fst).sum := by
 intro vs; induction vs with
 | nil =>
  intro ws a n r e
  exact ⟨[], r.inv, sE e (Int.add_zero a).symm⟩
 | cons v vs ih =>
  intro ws a n r e
  obtain ⟨w, us, rfl, r1, r2⟩ := r.inv
  refine VR.on (F := fun v => yW (v :: vs) a) (C := fun w => ∃ xs : List (Int × Tok), w :: us = xs.map (fun p => .int p.1 p.2) /\ n = a + (xs.map Prod.fst).sum) r1 e (int := fun i t e => ?_)
  obtain ⟨xs, rfl, rfl⟩ := ih r2 e
  exact ⟨(i, t) :: xs, rfl, Int.add_assoc _ _ _⟩
theorem preSum_list (xs : List Int) : ∀ n, n <= xs.length -> preSum (fun i => xs.getD i 0) n = (xs.take n).sum := by
 intro n; induction n with
 | zero =>
  intro _
  simp [preSum]
 | succ n ih =>
  intro h
  rw [preSum, ih (qW h)]
  have e : xs.take (n + 1) = xs.take n ++ [xs.getD n 0] := by
   rw [List.take_succ, List.getD_eq_getElem?_getD, gEG h]; rfl
  rw [e, List.sum_append]
  simp
theorem lt_two {b l n : Nat} (h : b ∈ [n, l]) (hl : l < n) : b < n + 1 := by
 rcases mC.mp h with rfl | h
 ·exact Nat.lt_succ_self _
 ·rcases mC.mp h with rfl | h
  ·exact Nat.lt_succ_of_lt hl
  ·cases h
theorem sum_sound {wx : Value} {vs : List V} {n : Int} {Q : Value -> Shared -> Prop} (hh : A.handled = none) (H : HR K σ ρ s.heap s.toks) (O : Out K σ s ρ (fun h' ρ' u => VR K h' ρ' u (.int n)) Q) (e : yW vs 0 = some n)
  (hw : (∃ l xs, wx = .ref l /\ s.heap.IsList l xs /\ VRs K s.heap ρ xs.toList vs) \/ (∃ l xs, wx = .ref l /\ s.heap.IsTuple l xs /\ VRs K s.heap ρ xs.toList vs)) :
  wpAny (model prog w) A (call (.builtin "sum") [wx]) Q E s := by
 have fin : ∀ (l I : Addr) (xs : Array Value) (h_1 h' : Heap) (tk : Tok) (t' : Tok) (ps : List (Int × Tok)) (n' : Int), xs.toList = ps.map (fun p => .int p.1 p.2) -> n = 0 + (ps.map Prod.fst).sum -> n' = (ps.map Prod.fst).sum ->
   (∀ b o, s.heap.get? b = some o -> h_1.get? b = some o) -> I = s.heap.objs.size -> (∀ b o, b ∉ [I] -> h_1.get? b = some o -> h'.get? b = some o) -> s.heap.objs.size <= h'.objs.size -> s.toks <= tk -> Q (.int n' t') { s with heap := h', toks := tk } := by
  intro l I xs h_1 h' tk t' ps n' _ e2 e3 hk1 hI hk2 hsz htk
  have : n' = n := by lia
  subst this
  exact out_kept H O (fun b o g => hk2 b o (fun q => by simp at q; subst q; rw [hI] at g; exact absurd (hLS g) (nIR _)) (hk1 b o g)) hsz htk (fun J => .int _ _)
 refine yB ?_
 rcases hw with ⟨l, xs, rfl, hl, hv⟩ | ⟨l, xs, rfl, hl, hv⟩
 ·obtain ⟨ps, e1, e2⟩ := sumInts_spec hv e
  refine call_sum_walkG (wpAny_pyIter_list hl ?_)
  have hne : l ≠ s.heap.objs.size := fun q => by obtain ⟨o, ho, J⟩ := hl; exact absurd (hLS ho) (by rw [q]; exact nIR _)
  refine ⟨_, _, _, _, _, _, fun i => (ps.map Prod.fst).getD i 0, rfl, Walks.list (A := A.in1) hh _ l hne xs, ⟨⟨_, hPS _ rfl, rfl, rfl⟩, ?_⟩, ?_, ?_, ?_⟩
  ·obtain ⟨o, ho, r⟩ := id hl; exact ⟨o, hPO _ ho, r⟩
  ·intro b hb
   show b < (s.heap.push _).objs.size
   rw [hSP]
   obtain ⟨o, ho, J⟩ := hl
   exact lt_two hb (hLS ho)
  ·intro i v hi
   have hi' : xs.toList[i]? = some v := by simpa using hi
   rw [e1, gMP] at hi'
   cases hp : ps[i]? with
   | none => simp [hp] at hi'
   | some p => simp [hp] at hi'; exact ⟨p.2, by simp [List.getD_eq_getElem?_getD, hp, hi']⟩
  ·intro h' tk t' hk hsz htk
   refine fin l _ xs _ h' tk t' ps _ e1 e2 ?_ (fun b o g => hPO _ g) rfl hk hsz htk
   have hlen : xs.size = (ps.map Prod.fst).length := by
    have : xs.toList.length = ps.length := by rw [e1]; exact lM _
    simpa using this
   rw [preSum_list _ _ (qE hlen), hlen, List.take_length]
 ·obtain ⟨ps, e1, e2⟩ := sumInts_spec hv e
  refine call_sum_walkG (wpAny_pyIter_tuple hl ?_)
  have hne : l ≠ s.heap.objs.size := fun q => by obtain ⟨o, ho, J⟩ := hl; exact absurd (hLS ho) (by rw [q]; exact nIR _)
  refine ⟨_, _, _, _, _, _, fun i => (ps.map Prod.fst).getD i 0, rfl, Walks.tuple (A := A.in1) hh _ l hne xs, ⟨⟨_, hPS _ rfl, rfl, rfl⟩, ?_⟩, ?_, ?_, ?_⟩
  ·obtain ⟨o, ho, r⟩ := id hl; exact ⟨o, hPO _ ho, r⟩
  ·intro b hb
   show b < (s.heap.push _).objs.size
   rw [hSP]
   obtain ⟨o, ho, J⟩ := hl
   exact lt_two hb (hLS ho)
  ·intro i v hi
   have hi' : xs.toList[i]? = some v := by simpa using hi
   rw [e1, gMP] at hi'
   cases hp : ps[i]? with
   | none => simp [hp] at hi'
   | some p => simp [hp] at hi'; exact ⟨p.2, by simp [List.getD_eq_getElem?_getD, hp, hi']⟩
  ·intro h' tk t' hk hsz htk
   refine fin l _ xs _ h' tk t' ps _ e1 e2 ?_ (fun b o g => hPO _ g) rfl hk hsz htk
   have hlen : xs.size = (ps.map Prod.fst).length := by
    have : xs.toList.length = ps.length := by rw [e1]; exact lM _
    simpa using this
   rw [preSum_list _ _ (qE hlen), hlen, List.take_length]
noncomputable def at3 (a b c : UInt64) : Nat -> UInt64
 | 0 => a | 1 => b | _ => c
theorem pick3 (lt : UInt64 -> UInt64 -> Bool) (a b c : UInt64) {C : Nat -> UInt64 -> Prop} (h0 : C 0 a) (h1 : C 1 b) (h2 : C 2 c) : C (argBest (fun i j => lt (at3 a b c i) (at3 a b c j)) 2) (if lt c (if lt b a then b else a) then c else if lt b a then b else a) := by
 show C (if lt c (at3 a b c (if lt b a then 1 else 0)) then 2 else (if lt b a then 1 else 0)) _
 cases lt b a
 ·show C (if lt c a then 2 else 0) (if lt c a then c else a)
  cases lt c a
  ·exact h0
  ·exact h2
 ·show C (if lt c b then 2 else 1) (if lt c b then c else b)
  cases lt c b
  ·exact h1
  ·exact h2
theorem three_get {x y z v : Value} {i : Nat} (h : (#[x, y, z] : Array Value)[i]? = some v) : (i = 0 /\ v = x) \/ (i = 1 /\ v = y) \/ (i = 2 /\ v = z) := by
 match i with
 | 0 => left; simp at h; exact ⟨rfl, h.symm⟩
 | 1 => right; left; simp at h; exact ⟨rfl, h.symm⟩
 | 2 => right; right; simp at h; exact ⟨rfl, h.symm⟩
 | n + 3 => simp at h
theorem minmax3_sound {a b c m : UInt64} {x y z : Value} {Q : Value -> Shared -> Prop} (mx : Bool) (hm : m = if mx then max3 a b c else min3 a b c) (hh : A.handled = none) (H : HR K σ ρ s.heap s.toks) (ra : VR K s.heap ρ x (.flt a)) (rb : VR K s.heap ρ y (.flt b)) (rc : VR K s.heap ρ z (.flt c))
  (O : Out K σ s ρ (fun h' ρ' u => VR K h' ρ' u (.flt m)) Q) : wpAny (model prog w) A (call (.builtin (if mx then "max" else "min")) [x, y, z]) Q E s := by
 obtain ⟨ta, rfl, qa, qa0⟩ := ra.flt_inv
 obtain ⟨tb, rfl, qb, qb0⟩ := rb.flt_inv
 obtain ⟨tc, rfl, qc, qc0⟩ := rc.flt_inv
 have hT : (s.heap.push { cls := .type "tuple", data := .seq #[.float a ta, .float b tb, .float c tc] }).IsTuple s.heap.objs.size #[.float a ta, .float b tb, .float c tc] := ⟨_, hPS _ rfl, rfl, 0, rfl⟩
 have hsz : (s.heap.push { cls := .type "tuple", data := .seq #[.float a ta, .float b tb, .float c tc] }).objs.size = s.heap.objs.size + 1 := hSP ..
 have hne : s.heap.objs.size ≠ (s.heap.push { cls := .type "tuple", data := .seq #[.float a ta, .float b tb, .float c tc] }).objs.size := by rw [hsz]; exact nNL qR
 have old : ∀ (h' : Heap) (h_2 : Heap), (∀ d o, d ∉ [(s.heap.push { cls := .type "tuple", data := .seq #[.float a ta, .float b tb, .float c tc] }).objs.size] -> h_2.get? d = some o -> h'.get? d = some o) ->
   (∀ d o, (s.heap.push { cls := .type "tuple", data := .seq #[.float a ta, .float b tb, .float c tc] }).get? d = some o -> h_2.get? d = some o) -> ∀ d o, s.heap.get? d = some o -> h'.get? d = some o := by
  intro h' h_2 hk hk2 d o g
  refine hk d o (fun q => ?_) (hk2 d o (hPO _ g))
  have q := mS.mp q
  have := hLS g
  rw [q, hsz] at this; exact absurd this (qK qU)
 have val : ∀ (v : Value), (#[.float a ta, .float b tb, .float c tc] : Array Value)[argBest (fun i j => Float64.cmp (at3 a b c i) (at3 a b c j) == some (if mx then .gt else .lt)) 2]? = some v -> ∃ t, v = .float m t /\ ρ.T t = some m /\ t ≠ 0 := by
  intro v
  subst hm
  cases mx
  ·exact pick3 (fun x y => Float64.cmp x y == some .lt) a b c (C := fun i m => (#[Value.float a ta, .float b tb, .float c tc] : Array Value)[i]? = some v -> ∃ t, v = .float m t /\ ρ.T t = some m /\ t ≠ 0) (fun hv => ⟨ta, (sI hv).symm, qa, qa0⟩) (fun hv => ⟨tb, (sI hv).symm, qb, qb0⟩) (fun hv => ⟨tc, (sI hv).symm, qc, qc0⟩)
  ·exact pick3 (fun x y => Float64.cmp x y == some .gt) a b c (C := fun i m => (#[Value.float a ta, .float b tb, .float c tc] : Array Value)[i]? = some v -> ∃ t, v = .float m t /\ ρ.T t = some m /\ t ≠ 0) (fun hv => ⟨ta, (sI hv).symm, qa, qa0⟩) (fun hv => ⟨tb, (sI hv).symm, qb, qb0⟩) (fun hv => ⟨tc, (sI hv).symm, qc, qc0⟩)
 refine yB ?_
 cases mx
 ·refine call_min_three (wpAny_pyIter_tuple hT ?_)
  refine ⟨_, [_, s.heap.objs.size], [_], _, _, _, (fun i j => Float64.cmp (at3 a b c i) (at3 a b c j) == some .lt), rfl, Walks.tuple (A := A.in1) hh _ s.heap.objs.size hne #[.float a ta, .float b tb, .float c tc], ⟨⟨_, hPS _ rfl, rfl, rfl⟩, hT.push _⟩, fun d hd => ?_, by exact qQ, ?_, fun v h' tk hP hk hs1 ht1 => ?_⟩
  ·show d < ((s.heap.push _).push _).objs.size
   rw [hSP]
   exact lt_two hd (by rw [hsz]; exact Nat.lt_succ_self _)
  ·intro i j vi vj s Q E hi hj hq
   rcases three_get hi with ⟨rfl, rfl⟩ | ⟨rfl, rfl⟩ | ⟨rfl, rfl⟩ <;> rcases three_get hj with ⟨rfl, rfl⟩ | ⟨rfl, rfl⟩ | ⟨rfl, rfl⟩ <;>
    exact (show wpAny (model prog w) A.in1 (compareOp .Lt _ _) Q E s from AutoFloatOps.lt_0 hq)
  ·obtain ⟨t, rfl, q1, q2⟩ := val v hP
   exact out_kept H O (old h' _ hk fun d o g => hPO _ g) hs1 ht1 fun J => .flt _ _ q1 q2
 ·refine call_max_three (wpAny_pyIter_tuple hT ?_)
  refine ⟨_, [_, s.heap.objs.size], [_], _, _, _, (fun i j => Float64.cmp (at3 a b c i) (at3 a b c j) == some .gt), rfl, Walks.tuple (A := A.in1) hh _ s.heap.objs.size hne #[.float a ta, .float b tb, .float c tc], ⟨⟨_, hPS _ rfl, rfl, rfl⟩, hT.push _⟩, fun d hd => ?_, by exact qQ, ?_, fun v h' tk hP hk hs1 ht1 => ?_⟩
  ·show d < ((s.heap.push _).push _).objs.size
   rw [hSP]
   exact lt_two hd (by rw [hsz]; exact Nat.lt_succ_self _)
  ·intro i j vi vj s Q E hi hj hq
   rcases three_get hi with ⟨rfl, rfl⟩ | ⟨rfl, rfl⟩ | ⟨rfl, rfl⟩ <;> rcases three_get hj with ⟨rfl, rfl⟩ | ⟨rfl, rfl⟩ | ⟨rfl, rfl⟩ <;>
    exact (show wpAny (model prog w) A.in1 (compareOp .Gt _ _) Q E s from AutoFloatOps.gt_0 hq)
  ·obtain ⟨t, rfl, q1, q2⟩ := val v hP
   exact out_kept H O (old h' _ hk fun d o g => hPO _ g) hs1 ht1 fun J => .flt _ _ q1 q2
end
end Mine
namespace Mine
open PySem PySem.W PySem.Calls PyProof.Rows PySem.SeqAt
open AutoSeq1 (wpAny_loadPart')
open MeetsSeq MeetsSeq2 MeetsSeq3 SeqRoads2
noncomputable def LtAt (A : Around) (s : Shared) (y x : Value) (b : Bool) : Prop :=
 ∀ (prog : Program) (w : World) (E : Value -> Shared -> Prop) (Q : Value -> Shared -> Prop), Q (.bool b) s -> wpAny (model prog w) A (richCompare .Lt y x) Q E s
noncomputable def LtRun (A : Around) (s : Shared) : List Value -> List Value -> Bool -> Prop
 | [], [], r => r = false
 | x :: xs, y :: ys, r => xs.length = ys.length /\ ((EqAt A.in1 s x y true /\ LtRun A s xs ys r) \/ (EqAt A.in1 s x y false /\ LtAt A.in1 s x y r))
 | _, _, _ => False
theorem LtRun.length {A : Around} {s : Shared} : ∀ {xs ys : List Value} {r : Bool}, LtRun A s xs ys r -> xs.length = ys.length
 | [], [], _, _ => rfl
 | _ :: _, _ :: _, _, h => by simp [h.1]
 | [], _ :: _, _, h => h.elim
 | _ :: _, [], _, h => h.elim
theorem tuple_ltAt (l b : Addr) (items items2 : Array Value) (n n2 : Nat) (dd dd2 : Option Addr) (sl sl2 : Array (Option Value)) (r : Bool) :
  Meets (Builtin.«tuple.__lt__» ⟨[.ref l, .ref b], []⟩)
   (fun A R s => s.heap.get? l = some { cls := .type "tuple", dict := dd, data := .seq items n, slots := sl } /\ s.heap.get? b = some { cls := .type "tuple", dict := dd2, data := .seq items2 n2, slots := sl2 } /\
    LtRun A s items.toList items2.toList r /\ R (.ok (.ret (.bool r))) s) :=
 .of_wp fun prog w A R s h => by
  obtain ⟨hp, g, d, tk, os⟩ := s; obtain ⟨hl, hb, hrun, h⟩ := h
  have f2 := AutoSeq1.sub_tuple_tuple
  have hsz : items.size = items2.size := by have := hrun.length; simpa using this
  wp_walk using wpAny_loadPart' hl, wpAny_loadPart' hb, wpAny_forIn_list _ (fun rest b s' => b.1 = none /\ s' = ⟨hp, g, d, tk, os⟩ /\ ∃ us vs, rest = us.zip vs /\ LtRun A ⟨hp, g, d, tk, os⟩ us vs r) _
  case turn =>
   rintro ⟨y, x⟩ rest b s' ⟨hb', rfl, us, vs, hz, hR⟩
   match us, vs, hz, hR with
   | u :: us, v :: vs, hz, hR =>
    simp only [List.zip_cons_cons, List.cons.injEq, Prod.mk.injEq] at hz
    obtain ⟨⟨rfl, rfl⟩, hrest⟩ := hz
    rcases hR.2 with ⟨he, hR'⟩ | ⟨he, hlt⟩
    ·refine wpB (he prog w _ _ ?_)
     wp_walk
     exact ⟨rfl, rfl, us, vs, hrest, hR'⟩
    ·refine wpB (he prog w _ _ ?_)
     refine wpB (wpAny_rule (wpB (hlt prog w _ _ ?_)))
     wp_walk
     exact ⟨_, rfl, h⟩
   | [], _, hz, _ => simp at hz
   | _ :: _, [], hz, _ => simp at hz
  case fin =>
   rintro ⟨b1, b2⟩ s' ⟨hb', rfl, us, vs, hz, hR⟩
   simp only at hb'
   subst hb'
   match us, vs, hz, hR with
   | [], [], _, hR =>
    have hr : r = false := hR
    wp_walk
    exact ⟨_, rfl, by rw [hsz]; simpa [Builtin.Tuple.tupleCompareSizes, hr] using h⟩
   | _ :: _, _ :: _, hz, _ => simp at hz
   | [], _ :: _, _, hR => exact hR.elim
   | _ :: _, [], _, hR => exact hR.elim
  case h => exact ⟨rfl, rfl, _, _, rfl, hrun⟩
section
variable {K : Know} {prog : Program} {w : World} {A : Around} {E : Value -> Shared -> Prop} {s : Shared} {σ σ' : Sto} {ρ : Gh}
theorem LtAt.tuples {l b : Addr} {items items2 : Array Value} {r : Bool} (hl : s.heap.IsTuple l items) (hb : s.heap.IsTuple b items2) (hu : A.units < cLine) (hr : LtRun A s items.toList items2.toList r) : LtAt A s (.ref l) (.ref b) r := fun prog w E Q h => by
 refine byC fun hG => ?_
 obtain ⟨⟨cls, dd, data, sl⟩, ho, hc, n, hd⟩ := id hl
 obtain ⟨⟨cls2, dd2, data2, sl2⟩, ho2, hc2, n2, hd2⟩ := id hb
 refine hG ?_
 simp only at hc hd hc2 hd2
 subst hc hd hc2 hd2
 exact richCompare_meets_room (op := .Lt) ⟨_, ho, rfl⟩ ⟨_, ho2, rfl⟩ F.slot_tuple_lt F.entry_tuple_lt (F.args_tuple_lt_2 _ _) (tuple_ltAt l b items items2 n n2 dd dd2 sl sl2 r)
  ⟨ho, ho2, hr, show Value.bool r ≠ Value.notImplemented /\ Q (.bool r) s from ⟨(fun x => nomatch x), h⟩⟩ hu
theorem ltA_at {a b : V} {wa wb : Value} {r : Bool} (ra : VR K s.heap ρ wa a) (rb : VR K s.heap ρ wb b) (e : ltA a b = some r) : LtAt A s wa wb r := by
 exact VR.on (F := fun a => ltA a b) (C := fun wa => LtAt A s wa wb r) ra e (int := fun i t e => VR.on (F := fun b => ltA (.int i) b) (C := fun wb => LtAt A s (.int i t) wb r) rb e (int := fun j u e => sE e fun prog w E Q h => (show wpAny (model prog w) A (compareOp .Lt _ _) Q E s from PyProof.Rows.lt_int h)))
theorem VRs.len2 {h : Heap} {us ws : List Value} {as bs : List V} (ra : VRs K h ρ us as) (rb : VRs K h ρ ws bs) (e : as.length = bs.length) : us.length = ws.length := by rw [ra.length, rb.length, e]
theorem ltW_run {f g : V -> V -> Option Bool} (hf : ∀ {u w a b r}, VR K s.heap ρ u a -> VR K s.heap ρ w b -> f a b = some r -> EqAt A.in1 s u w r)
  (hg : ∀ {u w a b r}, VR K s.heap ρ u a -> VR K s.heap ρ w b -> f a b = some false -> g a b = some r -> LtAt A.in1 s u w r) : ∀ {as bs : List V} {us ws : List Value} {r : Bool}, as.length = bs.length -> VRs K s.heap ρ us as -> VRs K s.heap ρ ws bs -> ltW f g as bs = some r -> LtRun A s us ws r := by
 intro as; induction as with
 | nil => intro bs; cases bs with
  | nil => intro _ _ _ _ va vb e; cases va.inv; cases vb.inv; exact (sI e).symm
  | cons => exact fun hl => nomatch hl
 | cons a as ih => intro bs; cases bs with
  | nil => exact fun hl => nomatch hl
  | cons b bs =>
   intro us ws r hl va vb e
   obtain ⟨u, us, rfl, a1, a2⟩ := va.inv
   obtain ⟨w, ws, rfl, b1, b2⟩ := vb.inv
   have hl := Nat.succ.inj hl
   refine ⟨a2.len2 b2 hl, obE e fun q e1 e => ?_⟩
   cases q with
   | true => exact .inl ⟨hf a1 b1 e1, ih hl a2 b2 e⟩
   | false => exact .inr ⟨hf a1 b1 e1, hg a1 b1 e1 e⟩
theorem eqW_len {f : V -> V -> Option Bool} : ∀ {as bs : List V} {r : Bool}, eqW f as bs = some r -> as.length = bs.length := by
 intro as; induction as with
 | nil => intro bs; cases bs with
  | nil => exact fun J => rfl
  | cons => exact nE
 | cons _ _ ih => intro bs; cases bs with
  | nil => exact nE
  | cons => exact fun e => obE e fun J J e => obE e fun J e1 J => congrArg (· + 1) (ih e1)
theorem ltBs_run (hB : NoneBooked s.heap) (hu : A.units + 4 < cLine) {us ws : List Value} {as bs : List V} {r : Bool} (hl : as.length = bs.length) (va : VRs K s.heap ρ us as) (vb : VRs K s.heap ρ ws bs) (e : ltBs as bs = some r) : LtRun A s us ws r := by
 have hu1 : A.in1.units < cLine := by simp only [Around.in1_units]; lia
 refine ltW_run (eqI_at hB hu1) (fun {u w a b r} ra rb q e => ?_) hl va vb e
 cases a with
 | tup as => cases b with
  | tup bs =>
   obtain ⟨x, xs, rfl, h1, J, J, v1⟩ := ra.inv
   obtain ⟨y, ys, rfl, h2, J, J, v2⟩ := rb.inv
   exact LtAt.tuples h1.isTuple h2.isTuple hu1 (ltW_run (eqA_at hB) (fun ra rb J e => ltA_at ra rb e) (eqW_len q) v1 v2 e)
  | _ => exact nE e
 | _ => exact ltA_at ra rb e
theorem ltT_at {a b : V} {wa wb : Value} {r : Bool} (hB : NoneBooked s.heap) (hu : A.units + 4 < cLine) (ra : VR K s.heap ρ wa a) (rb : VR K s.heap ρ wb b) (e : ltT a b = some r) : LtAt A s wa wb r := by
 cases a with
 | tup as => cases b with
  | tup bs =>
   obtain ⟨x, xs, rfl, h1, J, J, v1⟩ := ra.inv
   obtain ⟨y, ys, rfl, h2, J, J, v2⟩ := rb.inv
   exact ifE e fun hlen e => LtAt.tuples h1.isTuple h2.isTuple (pD hu) (ltBs_run hB hu hlen v1 v2 e)
  | _ => exact nE e
 | _ => exact nE e
end
end Mine
namespace Mine
open PySem PySem.W PySem.Calls PyProof.Rows PySem.SeqAt
section
variable {K : Know} {prog : Program} {w : World} {A : Around} {E : Value -> Shared -> Prop} {s : Shared} {σ σ' : Sto} {ρ : Gh}
theorem soft_listiter {h : Heap} {I l : Addr} {i : Nat} (x : h.IsListIter I l i) : ∀ o, h.get? I = some o -> Soft o := by
 obtain ⟨o, ho, hc, hd⟩ := x
 intro o' ho'
 rw [ho] at ho'; cases ho'
 refine ⟨.inl (by rw [hc]; decide), .inl (by rw [hc]; decide), fun vs st t e => ?_⟩
 rw [hd] at e; cases e; exact fun h => nomatch h
theorem ext_soft {h h' : Heap} {ρ : Gh} {X : List Addr} (k : ∀ b o, b ∉ X -> h.get? b = some o -> h'.get? b = some o) (hs : h.objs.size <= h'.objs.size) : Ext K X h ρ h' ρ :=
 ⟨⟨[], by simp, by exact fun J h => nomatch h⟩, fun J J e => e, fun a o J J h3 g => k a o h3 g, hs⟩
theorem min_loop {R : Result -> Shared -> Prop} {l I S : Addr} {xs : Array Value} {vs : List V} {r : V} (hh : A.handled = none) (hu : A.units + 20 < cLine) (hIS : I ≠ S) (hlI : l ≠ I) (hlS : l ≠ S) :
  ∀ (k j : Nat) (s : Shared) (wb : Value) (m : V) (c : Nat), xs.size - j = k -> j <= xs.size -> s.heap.IsListIter I l j -> s.heap.IsList l xs -> s.heap.get? S = some { cls := .type "list", dict := none, data := .seq #[wb, wb] c, slots := #[] } ->
  NoneBooked s.heap -> cStatics ≠ I -> cStatics ≠ S -> VRs K s.heap ρ xs.toList vs -> VR K s.heap ρ wb m -> minTup m (vs.drop j) = some r ->
  (∀ v h' tk, VR K h' ρ v r -> (∀ b o, b ≠ I -> b ≠ S -> s.heap.get? b = some o -> h'.get? b = some o) -> s.heap.objs.size <= h'.objs.size -> s.toks <= tk -> R (.ok (.ret v)) { s with heap := h', toks := tk }) ->
  codeAny (model prog w) A (.builtin "min.loop" ⟨[.ref I, .none, .ref S], []⟩) R s := by
 have hname : (toString "min" ++ toString ".loop" : String) = "min.loop" := by decide
 have softS : ∀ {h : Heap} {items : Array Value} {c : Nat}, h.get? S = some { cls := .type "list", dict := none, data := .seq items c, slots := #[] } -> ∀ o, h.get? S = some o -> Soft o := fun g o ho => by
  rw [g] at ho; cases ho; exact .seq rfl (by simp)
 intro k
 induction k with
 | zero =>
  intro j s wb m c hk hj hit hl hS hB hcI hcS hv hb e hR
  have hlen := hv.size
  have hjn : j = xs.size := by lia
  refine codeAny_gr (codeAny_builtin F.entry_min_loop ?_)
  rw [Around.under_plainId F.plain_min_loop _]
  show wpAny _ A.in1 (seqItems? (.ref S) >>= _) _ _ s
  refine wpB (wpAny_seqItems hS rfl ?_)
  show wpAny _ A.in1 (tryCatch (pyNext (.ref I)) _ >>= _) _ _ s
  refine wpB (wpAny_tryCatch (wpAny_pyNext_list_end (A := A.in1) hh hit hl (by simp [hjn]) fun h' he' => ?_))
  have hS' := he' S _ (Ne.symm hIS) hS
  show wpAny _ A.in1 (updateSeq S (fun J => #[]) >>= _) _ _ _
  refine wpB ?_
  refine wpAny_updateSeq hS' rfl (wpB (wpAny_letGo (wpP ?_)))
  intro hsz htk
  have hm : m = r := by
   have hd : vs.drop j = [] := by rw [hjn, hlen]; exact List.drop_length
   rw [hd] at e; exact sI e
  subst hm
  have keep : ∀ b o, b ≠ I -> b ≠ S -> s.heap.get? b = some o -> (h'.update S (Obj.mapSeq fun J => #[])).get? b = some o := fun b o h1 h2 g => (Heap.get?_update_other _ _ (Ne.symm h2)).trans (he' b o h1 g)
  refine hR wb _ s.toks (hb.extX (X := [I, S]) (ext_soft (fun b o hx g => ?_) hsz) fun a ha o ho => ?_) keep hsz qR
  ·simp at hx; exact keep b o hx.1 hx.2 g
  ·simp at ha
   rcases ha with rfl | rfl
   ·exact soft_listiter hit o ho
   ·exact softS hS o ho
 | succ k ih =>
  intro j s wb m c hk hj hit hl hS hB hcI hcS hv hb e hR
  have hlen := hv.size
  have hjn : j < vs.length := by lia
  obtain ⟨u, hu', ru⟩ := hv.get (i := j) (v := vs[j]) (gEG hjn)
  have hu'' : xs[j]? = some u := by simpa using hu'
  rw [List.drop_eq_getElem_cons hjn] at e
  refine codeAny_builtin F.entry_min_loop ?_
  rw [Around.under_plainId F.plain_min_loop _]
  show wpAny _ A.in1 (seqItems? (.ref S) >>= _) _ _ s
  refine wpB (wpAny_seqItems hS rfl ?_)
  show wpAny _ A.in1 (tryCatch (pyNext (.ref I)) _ >>= _) _ _ s
  refine wpB (wpAny_tryCatch (wpAny_pyNext_list_item hit hl hu'' fun h' hit' hs' => ?_))
  have hsz' : h'.objs.size = s.heap.objs.size := hs'.1
  have hk' : ∀ b o, b ∉ [I] -> s.heap.get? b = some o -> h'.get? b = some o := fun b o hx g => (hs'.2 b (by simpa using hx)).trans g
  have hX : ∀ a ∈ [I], ∀ o, s.heap.get? a = some o -> Soft o := fun a ha o ho => by simp at ha; subst ha; exact soft_listiter hit o ho
  have ee : Ext K [I] s.heap ρ h' ρ := ext_soft hk' (qE hsz'.symm)
  have hS' : h'.get? S = some { cls := .type "list", dict := none, data := .seq #[wb, wb] c, slots := #[] } := (hs'.2 S (Ne.symm hIS)).trans hS
  have hv' := hv.extX ee hX
  have hb' := hb.extX ee hX
  have ru' := ru.extX ee hX
  have hB' : NoneBooked h' := let ⟨mc, hn, hk⟩ := hB; ⟨mc, hn.sameBut hs' hcI, hk⟩
  have hl' : h'.IsList l xs := hl.extBut hs'.extBut hlI
  show wpAny _ A.in1 (tryCatch (holding [u, u] (richCompare .Lt u wb >>= _)) _ >>= _) _ _ _
  have hu1 : A.in1.units + 4 < cLine := by simp only [Around.in1_units]; lia
  refine obE e fun z q e => ?_
  cases z with
  | true =>
   refine wpB (wpAny_tryCatch (wpAny_holding (wpB (ltT_at (s := { s with heap := h' }) hB' hu1 ru' hb' q prog w _ _ ?_))))
   refine wpB (wpAny_holding (wpAny_truthy_bool ?_))
   refine wpB (wpAny_letGo (wpP ?_))
   refine wpT rfl ?_
   refine wpB ?_
   refine wpAny_updateSeq hS' rfl (wpB (wpAny_letGo ?_))
   have hkS : ∀ b o, b ∉ [S] -> h'.get? b = some o -> (h'.update S (Obj.mapSeq fun J => #[u, u])).get? b = some o := fun b o hx g => (Heap.get?_update_other _ _ (Ne.symm (by simpa using hx))).trans g
   have eS : Ext K [S] h' ρ (h'.update S (Obj.mapSeq fun J => #[u, u])) ρ := ext_soft hkS (by rw [Heap.size_after_update]; exact Nat.le_refl _)
   have hXS : ∀ a ∈ [S], ∀ o, h'.get? a = some o -> Soft o := fun a ha o ho => by simp at ha; subst ha; exact softS hS' o ho
   rw [hname]
   obtain ⟨oI, hoI, hcI', hdI⟩ := id hit'
   refine wpP ⟨plainId_quiet F.plain_min_loop _, ih (j + 1) { s with heap := h'.update S (Obj.mapSeq fun J => #[u, u]) } u _ _ (by lia) (eA hlen hjn) ⟨oI, hkS I _ (by simpa using hIS) hoI, hcI', hdI⟩ ?_ (Heap.get?_update_self _ hS' rfl) ?_ hcI hcS (hv'.extX eS hXS) (ru'.extX eS hXS) e fun v h'' tk'' hr hk'' hsz'' htk'' => ?_⟩
   ·obtain ⟨o, ho, rest⟩ := hl'
    exact ⟨o, hkS l _ (by simpa using hlS) ho, rest⟩
   ·let ⟨mc, hn, hk⟩ := hB'; exact ⟨mc, hn.sameBut (.update ..) hcS, hk⟩
   ·exact hR v h'' tk'' hr (fun b o h1 h2 g => hk'' b o h1 h2 (hkS b o (by simpa using h2) ((hs'.2 b h1).trans g))) (by rw [Heap.size_after_update, hsz'] at hsz''; exact hsz'') htk''
  | false =>
   refine wpB (wpAny_tryCatch (wpAny_holding (wpB (ltT_at (s := { s with heap := h' }) hB' hu1 ru' hb' q prog w _ _ ?_))))
   refine wpB (wpAny_holding (wpAny_truthy_bool ?_))
   refine wpB (wpAny_letGo (wpP ?_))
   refine wpN Bool.false_ne_true ?_
   refine wpB (wpAny_letGo ?_)
   rw [hname]
   refine wpP ⟨plainId_quiet F.plain_min_loop _, ih (j + 1) { s with heap := h' } wb _ _ (by lia) (eA hlen hjn) hit' hl' hS' hB' hcI hcS hv' hb' e fun v h'' tk'' hr hk'' hsz'' htk'' => ?_⟩
   exact hR v h'' tk'' hr (fun b o h1 h2 g => hk'' b o h1 h2 ((hs'.2 b h1).trans g)) (by rw [← hsz']; exact hsz'') htk''
theorem min_tuples {l : Addr} {xs : Array Value} {v_0 r : V} {vs : List V} {Q : Value -> Shared -> Prop} (hh : A.handled = none) (hu : A.units + 40 < cLine) (k : KOk K) (hB : NoneBooked K.base) (H : HR K σ ρ s.heap s.toks) (hl : s.heap.IsList l xs) (hv : VRs K s.heap ρ xs.toList (v_0 :: vs))
  (e : minTup v_0 vs = some r) (O : Out K σ s ρ (fun h' ρ' u => VR K h' ρ' u r) Q) : wpAny (model prog w) A (call (.builtin "min") [.ref l]) Q E s := by
 have hname : (toString "min" ++ toString ".loop" : String) = "min.loop" := by decide
 have hlen := hv.size
 have hll : l < s.heap.objs.size := let ⟨_, ho, _⟩ := hl; hLS ho
 have hst : cStatics < s.heap.objs.size := by
  obtain ⟨mc, hn, J⟩ := hB
  exact qA hn.lt H.big
 refine yB ?_
 refine call_function_tree F.kind_min F.plain_min F.entry_min (F.args_min1 _) ?_
 show wpAny _ A.in1 (Builtin.Builtins.bindParams "min" ["key", "default"] 0 ⟨[], []⟩ >>= _) _ _ s
 refine wpB (wpAny_of_eq (show Builtin.Builtins.bindParams "min" ["key", "default"] 0 ⟨[], []⟩ = pure [none, none] from rfl) ?_)
 refine wpB (wpP ?_)
 refine wpB (wpAny_pyIter_list hl ?_)
 refine wpB (wpAny_newObj_type ?_)
 rw [hname]
 generalize hH1 : s.heap.push { cls := .type "list_iterator", data := .fields #[.ref l, .int 0 0] } = H1
 have hz1 : H1.objs.size = s.heap.objs.size + 1 := by rw [← hH1, hSP]
 have hk1 : ∀ b o, s.heap.get? b = some o -> H1.get? b = some o := fun b o g => hH1 ▸ hPO _ g
 have hI1 : H1.IsListIter s.heap.objs.size l 0 := hH1 ▸ ⟨_, hPS _ rfl, rfl, rfl⟩
 generalize hH2 : H1.push { cls := .type "list", data := .seq ([] : List Value).toArray } = H2
 have hz2 : H2.objs.size = s.heap.objs.size + 2 := by rw [← hH2, hSP, hz1]
 have hk2 : ∀ b o, H1.get? b = some o -> H2.get? b = some o := fun b o g => hH2 ▸ hPO _ g
 have hS2 : H2.get? H1.objs.size = some { cls := .type "list", data := .seq ([] : List Value).toArray } := hH2 ▸ hPS _ rfl
 have hI2 : H2.IsListIter s.heap.objs.size l 0 := let ⟨o, ho, r⟩ := hI1; ⟨o, hk2 _ _ ho, r⟩
 have hl2 : H2.IsList l xs := let ⟨o, ho, r⟩ := hl; ⟨o, hk2 _ _ (hk1 _ _ ho), r⟩
 have hIS : s.heap.objs.size ≠ H1.objs.size := by rw [hz1]; exact nNL qR
 have hlI : l ≠ s.heap.objs.size := nNL hll
 have hlS : l ≠ H1.objs.size := by rw [hz1]; exact nNL (Nat.lt_succ_of_lt hll)
 refine wpP ⟨plainId_quiet F.plain_min_loop _, ?_⟩
 refine codeAny_builtin F.entry_min_loop ?_
 rw [Around.under_plainId F.plain_min_loop _]
 show wpAny _ A.in1 (seqItems? (.ref H1.objs.size) >>= _) _ _ { s with heap := H2 }
 refine wpB (wpAny_seqItems hS2 rfl ?_)
 show wpAny _ A.in1 (tryCatch (pyNext (.ref s.heap.objs.size)) _ >>= _) _ _ { s with heap := H2 }
 obtain ⟨u, hu', ru⟩ := hv.get (i := 0) (v := v_0) rfl
 have hu'' : xs[0]? = some u := by simpa using hu'
 refine wpB (wpAny_tryCatch (wpAny_pyNext_list_item hI2 hl2 hu'' fun h' hit' hs' => ?_))
 have hS' : h'.get? H1.objs.size = some { cls := .type "list", data := .seq ([] : List Value).toArray } := (hs'.2 _ (Ne.symm hIS)).trans hS2
 show wpAny _ A.in1 (updateSeq H1.objs.size (fun J => #[u, u]) >>= _) _ _ _
 refine wpB ?_
 refine wpAny_updateSeq hS' rfl ?_
 rw [hname]
 have hkS : ∀ b o, s.heap.get? b = some o -> (h'.update H1.objs.size (Obj.mapSeq fun J => #[u, u])).get? b = some o := fun b o g => by
  have hb := hLS g
  have h1 : H1.objs.size ≠ b := by rw [hz1]; exact Ne.symm (nNL (Nat.lt_succ_of_lt hb))
  exact (Heap.get?_update_other _ _ h1).trans ((hs'.2 b (nNL hb)).trans (hk2 _ _ (hk1 _ _ g)))
 have hzz : s.heap.objs.size <= (h'.update H1.objs.size (Obj.mapSeq fun J => #[u, u])).objs.size := by rw [Heap.size_after_update, hs'.1, hz2]; exact Nat.le_add_right _ _
 have e0 : Ext K [] s.heap ρ (h'.update H1.objs.size (Obj.mapSeq fun J => #[u, u])) ρ := .of_keeps hkS hzz
 have hB' : NoneBooked (h'.update H1.objs.size (Obj.mapSeq fun J => #[u, u])) := by
  obtain ⟨mc, hn, hk⟩ := booked k H hB
  exact ⟨mc, hn.keeps hkS, hk⟩
 obtain ⟨oI, hoI, hcI', hdI⟩ := id hit'
 refine wpP ⟨plainId_quiet F.plain_min_loop _, min_loop (K := K) (ρ := ρ) (vs := v_0 :: vs) (l := l) (xs := xs) (r := r) hh (by lia) hIS hlI hlS (xs.size - 1) 1 _ u v_0 _ rfl (by rw [hlen]; exact qQ) ⟨oI, (Heap.get?_update_other _ _ (Ne.symm hIS)).trans hoI, hcI', hdI⟩ ?_ (Heap.get?_update_self _ hS' rfl) hB'
  (nNL hst) (by rw [hz1]; exact nNL (Nat.lt_succ_of_lt hst)) (hv.ext e0) (ru.ext e0) (by simpa using e) fun v h'' tk'' hr hk'' hsz'' htk'' hsz0 htk0 => ?_⟩
 ·obtain ⟨o, ho, r⟩ := hl; exact ⟨o, hkS _ _ ho, r⟩
 ·exact out_kept H O (fun b o g => hk'' b o (nNL (hLS g)) (by rw [hz1]; exact nNL (Nat.lt_succ_of_lt (hLS g))) (hkS b o g)) hsz0 htk0 fun J => hr
theorem wI {a b st : Int} (h : 0 < st) : Builtin.Range.rangeSize a b st = (yO a b st : Int) := by
 unfold Builtin.Range.rangeSize yO
 rw [if_pos h]
 split
 ·have : 0 <= (b - a - 1) / st := Int.ediv_nonneg (by lia) (qI h)
  omega
 ·rfl
theorem rngLen_le {a b st : Int} (h1 : 0 < st) (ha : a.natAbs <= 100000) (hb : b.natAbs <= 100000) : yO a b st <= 200001 := by
 unfold yO
 split
 ·have : (b - a - 1) / st <= b - a - 1 := Int.ediv_le_self _ (by lia)
  omega
 ·exact qZ
theorem range_small {a b st : Int} (h1 : 0 < st) (h2 : st <= 2) (ha : a.natAbs <= 100000) (hb : b.natAbs <= 100000) : Builtin.Range.small a b st = true := by
 have hl := rngLen_le h1 ha hb
 have fits : ∀ i : Int, i.natAbs <= 300000 -> Builtin.Range.rangeFitsLong i = true := fun i hi => by
  unfold Builtin.Range.rangeFitsLong
  simp only [Bool.and_eq_true, decide_eq_true_eq]
  omega
 unfold Builtin.Range.small
 rw [wI h1]
 simp only [if_pos h1, fits a (qT ha qL), fits b (qT hb qL), fits st (by omega), fits (yO a b st : Int) (qT hl qL), fits (b + (st - 1)) (by omega), Bool.or_true, Bool.and_true]
theorem VRs.rng {h : Heap} {a st : Int} : ∀ (ws : List Value) (m : Nat), (∀ j v, ws[j]? = some v -> ∃ t, v = Value.int (a + ((m + j : Nat) : Int) * st) t) -> VRs K h ρ ws ((List.range' m ws.length).map fun (i : Nat) => V.int (a + (i : Int) * st)) := by
 intro ws; induction ws with
 | nil => exact fun J J => .nil
 | cons x ws ih =>
  intro m hm
  obtain ⟨t, ht⟩ := hm 0 x rfl
  rw [ht]
  refine .cons (.int _ _) (ih (m + 1) fun j v hj => ?_)
  obtain ⟨t, ht⟩ := hm (j + 1) v hj
  exact ⟨t, by rw [ht, Nat.add_right_comm, Nat.add_assoc]⟩
theorem floorI_e {x : UInt64} {m : Int} (h : floorI x = some m) : ∃ s k e, Float64.decode x = .fin s k e /\ Float64.truncOf s k e = m := by
 delta floorI at h
 cases hd : Float64.decode x with
 | fin s k e => rw [hd] at h; exact ⟨s, k, e, rfl, sI h⟩
 | _ => rw [hd] at h; exact nE h
theorem rngVRs {a b st : Int} {acc : Array Value} {h : Heap} {ρ : Gh} (hs : acc.size = yO a b st) (hI : ∀ (j : Nat) (v : Value), acc[j]? = some v -> ∃ t, v = .int (a + (j : Int) * st) t) : VRs K h ρ acc.toList ((rngInts a b st).map .int) := by
 have := VRs.rng (K := K) (h := h) (ρ := ρ) acc.toList 0 (fun j v hj => by
  obtain ⟨t, ht⟩ := hI j v (Array.getElem?_toList.symm.trans hj)
  exact ⟨t, by rw [ht, Nat.zero_add]⟩)
 rw [show acc.toList.length = yO a b st from hs] at this
 unfold rngInts
 rw [mM, List.range_eq_range']
 exact this
theorem two_VR {c : Prop} [Decidable c] {a b : Int} {t u : Tok} {h : Heap} {ρ : Gh} : VR K h ρ (if c then Value.int b u else .int a t) (V.int (if c then b else a)) := by split <;> constructor
@[elab_as_elim] theorem applyB_e {C : G -> Prop} {g : G} {vs : List V} {r : V × Sto} (e : yD g vs σ = some r) (range : yD .range vs σ = some r -> C .range) (sum : yD .sum vs σ = some r -> C .sum) (list : yD .list vs σ = some r -> C .list)
  (len : yD .len vs σ = some r -> C .len) (max : yD .max vs σ = some r -> C .max) (min : yD .min vs σ = some r -> C .min) (int : yD .int vs σ = some r -> C .int) : C g := by
 cases g with
 | range => exact range e
 | sum => exact sum e
 | list => exact list e
 | len => exact len e
 | max => exact max e
 | min => exact min e
 | int => exact int e
 | _ => exact nE e
theorem applyB_sound {n : Nat} {g : G} {vs : List V} {v : V} {wf : Value} {ws : List Value} {Q : Value -> Shared -> Prop} (hA : OkA A n) (k : KOk K) (hB : NoneBooked K.base) (e : yD g vs σ = some (v, σ')) (hg : K.gv g = some wf) (H : HR K σ ρ s.heap s.toks) (rs : VRs K s.heap ρ ws vs)
  (O : Out K σ' s ρ (fun h' ρ' u => VR K h' ρ' u v) Q) : wpAny (model prog w) A (call wf ws) Q E s := by
 have hh := hA.handled
 have hu : A.units + 40 < cLine := by have := hA.units; lia
 revert hg
 refine applyB_e e ?range ?sum ?list ?len ?max ?min ?int <;> intro e hg
 case range =>
  refine sE hg (argN_e rs e (fun w v r e => yS r e fun a t e => ifE e fun ha e => ?_) (fun J J J J J J e => nE e) fun w v w' v' x y r1 r2 r3 e => yS r1 e fun a t1 e => yS r2 e fun b t2 e => yS r3 e fun st t3 e => ifE e fun hc e => ?_)
  ·obtain ⟨H', e'⟩ := H.push { cls := .type "range", data := .fields #[.int 0 s.toks, .int _ t, .int 1 (s.toks + 1)] }
   exact call_range_1 (O.of e _ _ _ ρ (H'.mono (Nat.le_succ_of_le qU)) e' (.rng _ _ _ _ _ _ _ (hPS _ rfl) H.fresh H.freshP))
  ·obtain ⟨H', e'⟩ := H.push { cls := .type "range", data := .fields #[.int a t1, .int b t2, .int st t3] }
   exact call_range_3 (by lia) (O.of e _ _ _ ρ H' e' (.rng _ _ _ _ _ _ _ (hPS _ rfl) H.fresh H.freshP)) (Or.inl (PyProof.noPylong_small (by lia)))
 case sum =>
  refine sE hg (arg1_e rs e fun w v r e => VR.on (F := sumB σ) (C := fun w => wpAny _ _ (call _ [w]) _ _ _) r e (lst := fun i l q e => obE e fun xs hx e => obE e fun m hs e => ?_) (tup := fun l as xs hl J J hv e => obE e fun m hs e => ?_))
  ·exact sum_sound hh H (O.of e) hs (.inr ⟨l, as, rfl, hl.isTuple, hv⟩)
  ·obtain ⟨as, hl, J, hv⟩ := H.lists _ _ _ q hx
   exact sum_sound hh H (O.of e) hs (.inl ⟨l, as, rfl, hl, hv⟩)
 case list =>
  refine sE hg (arg1_e rs e fun w v r e => VR.on (F := listB σ) (C := fun w => wpAny _ _ (call _ [w]) _ _ _) r e (tup := fun l as xs hl J J hv e => ifE e fun hlen e => ?_) (rng := fun r a b st t u x hr J J e => ifE e fun hc e => ?_))
  ·have O := O.of e
   obtain ⟨m, hm⟩ := hl
   have hsz := hv.size
   refine yB (call_list_seq l (.inr rfl) hm rfl rfl (fun h' c' hk hS hs1 ht1 => ?_) (by unfold sizeLine; exact eE hsz hlen))
   obtain ⟨H', e'⟩ := H.keeps hk hs1
   obtain ⟨H_2, r⟩ := H'.addL (a := s.heap.objs.size) (xs := as) ⟨_, hS⟩ (hv.ext e') H.big H.fresh
   exact O _ h' _ _ H_2 ⟨⟨[s.heap.objs.size], rfl, by simp⟩, fun J J e => e, e'.keep, e'.size⟩ r
  ·have O := O.of e
   refine yB (call_list_range hh hr (range_small hc.1 hc.2.1 hc.2.2.1 hc.2.2.2.1) (wI hc.1) (qT hc.2.2.2.2 qL) fun h' tk acc' c' hk hS hI hs1 ht1 => ?_)
   obtain ⟨H', e'⟩ := H.keeps hk hs1
   obtain ⟨H_2, r⟩ := (H'.mono ht1).addL (a := s.heap.objs.size) (xs := acc') ⟨_, hS⟩ (rngVRs hI.1 hI.2) H.big H.fresh
   exact O _ h' _ _ H_2 ⟨⟨[s.heap.objs.size], rfl, by simp⟩, fun J J e => e, e'.keep, e'.size⟩ r
 case len =>
  refine sE hg (arg1_e rs e fun w v r e => VR.on (F := lenB σ) (C := fun w => wpAny _ _ (call _ [w]) _ _ _) r e (lst := fun i l q e => obE e fun xs hx e => ifE e fun hc e => ?_) (str := fun x t e => ifE e fun hc e => ?_))
  ·have O := O.of e
   rw [← yQ] at hc
   refine P.len_str (by lia) ?_
   rw [yQ]
   exact z5 H O (.int _ _) (qW qU)
  ·have O := O.of e
   obtain ⟨as, hl, J, hv⟩ := H.lists _ _ _ q hx
   have hsz := hv.size
   refine call_len_list hl (by lia) ?_
   rw [hsz]
   exact z5 H O (.int _ _) (qW qU)
 case max =>
  refine sE hg (argN_e rs e (fun J J J e => nE e) (fun w v w' v' r1 r2 e => yS r1 e fun a t1 e => yS r2 e fun b t2 e => ?_) fun w v w' v' x y r1 r2 r3 e => flt_e r1 e fun a r1 e => flt_e r2 e fun b r2 e => flt_e r3 e fun c r3 e => minmax3_sound true rfl hh H r1 r2 r3 (O.of e))
  ·exact yB (max_two_ints hh fun h' tk hk hs1 ht1 => out_kept H (O.of e) hk hs1 ht1 fun J => two_VR)
 case min =>
  refine sE hg (argN_e rs e (fun w v r e => lst_e r e fun i l q e => obE e fun xs hx e => ?_) (fun w v w' v' r1 r2 e => yS r1 e fun a t1 e => yS r2 e fun b t2 e => ?_) fun w v w' v' x y r1 r2 r3 e => flt_e r1 e fun a r1 e => flt_e r2 e fun b r2 e => flt_e r3 e fun c r3 e => minmax3_sound false rfl hh H r1 r2 r3 (O.of e))
  ·obtain ⟨as, hl, J, hv⟩ := H.lists _ _ _ q hx
   cases xs with
   | nil => exact False.elim (nE e)
   | cons v_0 vs => exact obE e fun r hm e => min_tuples hh hu k hB H hl hv hm (O.of e)
  ·exact yB (min_two_ints hh fun h' tk hk hs1 ht1 => out_kept H (O.of e) hk hs1 ht1 fun J => two_VR)
 case int =>
  refine sE hg (arg1_e rs e fun w v r e => vFlt_e r e fun x t e => obE e fun m hf e => ?_)
  ·obtain ⟨sg, m', e', hd, hf⟩ := floorI_e hf
   exact call_int_float hd (z5 H (O.of e) (hf ▸ .int _ _) qU)
end
end Mine
namespace Mine
open PySem PySem.W PySem.Calls PyProof.Rows PySem.SeqAt
theorem call_str_join {prog : Program} {w : World} {A : Around} {E : Value -> Shared -> Prop} {s : Shared} {x : Str} {t : Tok} {D : Addr} {l : List (Str × Tok)} {Q : Value -> Shared -> Prop} (hl : s.heap.IsList D (strValues l).toArray) (hok : JoinOk x (l.map (·.1)) = true)
  (h : (Txt.join x (l.map (·.1))).length <= sizeLine -> ∀ t' k, s.toks <= k -> Q (.str (Txt.join x (l.map (·.1))) t') { s with toks := k }) : wpAny (model prog w) A (call (.builtin "str.join") [.str x t, .ref D]) Q E s := by
 have hfit : Builtin.Str.tooLong ((l.map (·.1)).toArray.foldl (· + ·.length + x.length) 0) = false := by delta JoinOk at hok; simpa using hok
 refine yB (call_meets F.slot_str_join (typeIs_str s x t) F.entry_str_join (F.args_str_join_2 _ _) (meets_str_join_list x t D l hfit) ⟨hl, ?_⟩)
 have hlen := joinFit_length hfit
 exact post_join l ⟨hlen, fun t' k J hk => h hlen t' k hk⟩
noncomputable def methT : Meth -> String
 | .append | .insert | .pop => "list"
 | .join | .lower => "str"
 | .sub => "re.Pattern"
noncomputable def methId : Meth -> String
 | .append => "list.append" | .insert => "list.insert" | .pop => "list.pop" | .join => "str.join" | .lower => "str.lower" | .sub => "re.Pattern.sub"
theorem plain_update {h : Heap} {a : Addr} {xs : Array Value} {n : Nat} (f : Array Value -> Array Value) (hk : h.get? a = some { cls := .type "list", data := .seq xs n }) : (h.update a (Obj.mapSeq f)).PlainList a (f xs) :=
 ⟨_, Heap.get?_update_self _ hk rfl⟩
section
variable {K : Know} {prog : Program} {w : World} {A : Around} {E : Value -> Shared -> Prop} {s : Shared} {σ σ' : Sto} {ρ : Gh}
theorem joinStrs_spec {h : Heap} : ∀ {vs : List V} {ws : List Value} {r : List Nat}, VRs K h ρ ws vs -> joinStrs vs = some r -> ∃ l : List (Str × Tok), ws = strValues l /\ r = (l.map fun p => p.1.cps.toList).flatten := by
 intro vs; induction vs with
 | nil =>
  intro ws r q e
  exact ⟨[], q.inv, sE e rfl⟩
 | cons v vs ih =>
  intro ws r q e
  obtain ⟨w, us, rfl, r1, r2⟩ := q.inv
  refine str_e r1 e fun x t e => obE e fun r' hj e => ?_
  obtain ⟨l, rfl, rfl⟩ := ih r2 hj
  exact ⟨(x, t) :: l, rfl, sE e rfl⟩
theorem join_empty : ∀ (l : List Str), (Txt.join Str.empty l).cps.toList = (l.map fun x => x.cps.toList).flatten := by
 intro l; induction l with
 | nil => rfl
 | cons x l ih => cases l with
 | nil => exact Eq.symm (List.append_nil _)
 | cons y r =>
  have e : Txt.join Str.empty (x :: y :: r) = x ++ Str.empty ++ Txt.join Str.empty (y :: r) := by
   unfold Txt.join
   rw [StrLaws.glued_eq_join, StrLaws.glued_eq_join]
   rfl
  rw [e, strOf_append, strOf_append, ih]
  exact List.append_assoc _ _ _
theorem joinOk_empty {l : List Str} (h : (Txt.join Str.empty l).length <= 100000) : JoinOk Str.empty l = true := by
 have e : (l.map (·.length)).sum = (Txt.join Str.empty l).length := by
  have : ∀ l : List Str, (l.map (·.length)).sum = (l.map fun x => x.cps.toList).flatten.length := by
   intro l
   induction l with
   | nil => rfl
   | cons x r ih => simp only [mcC, suC, List.flatten_cons, List.length_append, ← ih]; rfl
  rw [this l, ← join_empty]
  simp [Str.length]
 delta JoinOk
 rw [StrLaws.joinTotal, e]
 have h24 : (2 : Nat) ^ 24 = 16777216 := by decide
 have z : Str.empty.length = 0 := rfl
 simp only [Builtin.Str.tooLong, sizeLine, z]
 simp
 exact qT h qL
theorem seqIndex0 {n : Nat} (h : 0 < n) : seqIndex? 0 n = some 0 := by
 unfold seqIndex?
 simp
 exact qH h
theorem lower_one {c d : Nat} (h : lowC c = some d) : Txt.lower ⟨#[c]⟩ = ⟨#[d]⟩ := by
 have hc : c < 128 := by
  unfold lowC at h
  split at h
  ·lia
  ·split at h
   ·lia
   ·cases h
 have e := lower_ascii (x := ⟨#[c]⟩) (fun k hk => by simp at hk; exact qD (qE hk) hc)
 rw [e]
 have : lo1 c = d := by
  unfold lowC at h
  unfold lo1
  split at h
  ·cases h; split <;> first | rfl | lia
  ·split at h
   ·cases h; split <;> first | rfl | lia
   ·cases h
 simp [this]
noncomputable def SubOk (K : Know) (prog : Program) (w : World) : Prop :=
 ∀ {A : Around} {E : Value -> Shared -> Prop} {s : Shared} {σ : Sto} {ρ : Gh} {n : Nat} {g : G} {r x : List Nat} {v : V} {wo wr wx : Value} {Q : Value -> Shared -> Prop}, OkA A n -> HR K σ ρ s.heap s.toks -> VR K s.heap ρ wo (.glob g) -> VR K s.heap ρ wr (.str r) -> VR K s.heap ρ wx (.str x) ->
  methF .sub (.glob g) [.str r, .str x] σ = some (v, σ) -> Out K σ s ρ (fun h' ρ' u => VR K h' ρ' u v) Q -> wpAny (model prog w) A (call (.builtin "re.Pattern.sub") [wo, wr, wx]) Q E s
noncomputable abbrev SubGettypeF : Prop := typeOf (.builtin "re.Pattern.sub") = pure (.type "method_descriptor")
noncomputable abbrev SubGetre1F (K : Know) : Prop := ∃ o, K.base.get? K.re1 = some o /\ o.cls = .type "re.Pattern" /\ o.dict = none /\ K.re1 ≠ K.P
noncomputable abbrev SubGetre2F (K : Know) : Prop := ∃ o, K.base.get? K.re2 = some o /\ o.cls = .type "re.Pattern" /\ o.dict = none /\ K.re2 ≠ K.P
structure SubGet (K : Know) : Prop where
 plain : PlainAttrs "re.Pattern"
 slot : Slot "re.Pattern" "sub" "re.Pattern.sub"
 type : SubGettypeF
 re1 : SubGetre1F K
 re2 : SubGetre2F K
noncomputable def methName : Meth -> Str
 | .append => oQ "append" | .insert => oQ "insert" | .pop => oQ "pop" | .join => oQ "join" | .lower => oQ "lower" | .sub => oQ "sub"
theorem methOf_inv {m : Meth} {name : Str} (h : methOf name = some m) : name = methName m := by
 have : ∀ p ∈ [(oQ "append", Meth.append), (oQ "insert", .insert), (oQ "pop", .pop), (oQ "join", .join), (oQ "lower", .lower), (oQ "sub", .sub)], p.1 = methName p.2 := by
  simp only [mC, nmN, or_false, forall_eq_or_imp, forall_eq]
  exact ⟨rfl, rfl, rfl, rfl, rfl, rfl⟩
 exact this (name, m) (mem_of_lookup h)
theorem arg1V {α} {f : V -> Option α} {r : α} {C : Prop} {vs : List V} (e : arg1 f vs = some r) (k : ∀ v, f v = some r -> C) : C := by
 cases vs with
 | nil => exact nE e
 | cons v vs => cases vs with
  | nil => exact k v e
  | cons => exact nE e
theorem arg2V {α} {f : V -> V -> Option α} {r : α} {C : Prop} {vs : List V} (e : arg2 f vs = some r) (k : ∀ v u, f v u = some r -> C) : C := by
 cases vs with
 | nil => exact nE e
 | cons v vs => exact arg1V e (k v)
theorem vIntV {α} {f : Int -> Option α} {r : α} {C : Prop} {v : V} (e : vInt f v = some r) (k : ∀ l, f l = some r -> C) : C := by
 cases v with
 | int l => exact k l e
 | _ => exact nE e
theorem vStrV {α} {f : List Nat -> Option α} {r : α} {C : Prop} {v : V} (e : vStr f v = some r) (k : ∀ l, f l = some r -> C) : C := by
 cases v with
 | str l => exact k l e
 | _ => exact nE e
theorem meth_get {m : Meth} {name : Str} {o : V} {vs : List V} {r : V × Sto} {wo : Value} (G : SubGet K) (hm : methOf name = some m) (e : methF m o vs σ' = some r) (H : HR K σ ρ s.heap s.toks) (ro : VR K s.heap ρ wo o) :
  PlainAttrs (methT m) /\ Slot (methT m) name (methId m) /\ typeOf (.builtin (methId m)) = pure (.type "method_descriptor") /\ s.TypeIs wo (methT m) /\ (∀ a, wo = .ref a -> ∃ ob, s.heap.get? a = some ob /\ ob.dict = none) := by
 cases methOf_inv hm
 clear hm
 have lst : ∀ {i : Nat} {a : Addr}, ρ.l[i]? = some a -> i ≠ 0 -> s.TypeIs (.ref a) "list" /\ (∀ b, Value.ref a = .ref b -> ∃ ob, s.heap.get? b = some ob /\ ob.dict = none) := fun {i a} g hi => by
  have hl : i < σ.length := by rw [← H.len]; exact (gSI.mp g).1
  obtain ⟨xs, n, hn, J⟩ := H.plain g (gEG hl) hi
  exact ⟨⟨_, hn, rfl⟩, fun b q => by cases q; exact ⟨_, hn, rfl⟩⟩
 have noref : ∀ {u : Value} {C : Addr -> Prop}, (∀ b, u ≠ .ref b) -> ∀ b, u = .ref b -> C b := fun h b q => absurd q (h b)
 cases m with
 | append => exact lst_e ro e fun i a g e => ⟨F.plainAttrs_list, F.slot_list_append, F.type_list_append, lst g (arg1V e fun x e => obE e fun xs J e => ifN e fun hc J q => hc (.inl q))⟩
 | insert => exact lst_e ro e fun i a g e => ⟨F.plainAttrs_list, F.slot_list_insert, F.type_list_insert, lst g (arg2V e fun p x e => vIntV e fun p e => obE e fun xs J e => ifN e fun hc J q => hc (.inl q))⟩
 | pop => exact lst_e ro e fun i a g e => ⟨F.plainAttrs_list, F.slot_list_pop, F.type_list_pop, lst g (arg1V e fun x e => vIntV e fun p e => obE e fun xs J e => by
   cases xs with
   | nil => exact nE e
   | cons => exact ifN e fun hc J q => hc (.inr (.inl q)))⟩
 | join => exact str_e ro e fun x t e => ⟨F.plainAttrs_str, F.slot_str_join, F.type_str_join, typeIs_str s x t, noref fun b q => Value.noConfusion q⟩
 | lower => exact str_e ro e fun x t e => ⟨F.plainAttrs_str, F.slot_str_lower, F.type_str_lower, typeIs_str s x t, noref fun b q => Value.noConfusion q⟩
 | sub =>
  refine glob_e ro e fun g q e => ?_
  have hg : g = .re1 \/ g = .re2 := arg2V e fun a b e => vStrV e fun r e => vStrV e fun x e => ifE e fun J e => by
   by_cases h : g = .re1 /\ r = [46, 46]
   ·exact .inl h.1
   ·rw [if_neg h] at e; exact ifE e fun h J => .inr h.1
  have gen : ∀ p, (∃ o, K.base.get? p = some o /\ o.cls = .type "re.Pattern" /\ o.dict = none /\ p ≠ K.P) -> wo = .ref p -> s.TypeIs wo "re.Pattern" /\ (∀ a, wo = .ref a -> ∃ ob, s.heap.get? a = some ob /\ ob.dict = none) := by
   rintro p ⟨ob, h1, h2, h3, h4⟩ rfl
   exact ⟨⟨ob, H.base _ _ h4 h1, h2⟩, fun b q => (Value.ref.inj q) ▸ ⟨ob, H.base _ _ h4 h1, h3⟩⟩
  refine ⟨G.plain, G.slot, G.type, ?_⟩
  rcases hg with rfl | rfl
  ·exact gen _ G.re1 (sI q).symm
  ·exact gen _ G.re2 (sI q).symm
theorem meth_call {n : Nat} {m : Meth} {o : V} {vs : List V} {v : V} {wo : Value} {ws : List Value} {Q : Value -> Shared -> Prop} (hA : OkA A n) (hsub : SubOk K prog w) (e : methF m o vs σ = some (v, σ')) (H : HR K σ ρ s.heap s.toks) (ro : VR K s.heap ρ wo o) (rs : VRs K s.heap ρ ws vs)
  (O : Out K σ' s ρ (fun h' ρ' u => VR K h' ρ' u v) Q) : wpAny (model prog w) A (call (.builtin (methId m)) (wo :: ws)) Q E s := by
 cases m with
 | append =>
   refine lst_e ro e fun i a g e => arg1_e rs e fun w1 x r1 e => obE e fun xs hx e => ifN e fun hc e => ?_
   have O := O.of e
   obtain ⟨as, k, hk, hv⟩ := H.plain g hx (oA hc)
   have hsz := hv.size
   refine wpAny_list_append_plain ⟨k, hk⟩ (fun h' hp hs => ?_) (by unfold sizeLine; unfold big at hc; lia)
   obtain ⟨H', e'⟩ := H.setL g (oA hc) hs hp (vs := xs ++ [x]) (by rw [Array.toList_push]; exact hv.append (.cons r1 .nil))
   exact O _ h' s.toks ρ H' e' .none
 | insert =>
   refine lst_e ro e fun i a g e => cons_e (F := arg2 _) rfl rs e fun w1 y J J r1 rs e => arg1_e rs e fun w2 x r2 e => yS r1 e fun p t e => obE e fun xs hx e => ifN e fun hc e => ?_
   have O := O.of e
   obtain ⟨as, k, hk, hv⟩ := H.plain g hx (oA hc)
   have hsz := hv.size
   have h63 : i63 = 9223372036854775808 := rfl
   refine call_meets F.slot_list_insert ⟨_, hk, rfl⟩ F.entry_list_insert (F.args_list_insert_3 _ _ _) (AutoListH.list_insert_list_int_val_1 a as k p t w2 (by simp [Builtin.List.listFitsIndex]; omega) (by unfold sizeLine; unfold big at hc; lia)) ⟨hk, ?_⟩
   have hp0 : ¬ p < 0 := by exact oA (oB hc)
   have hq := plain_update (fun xs => have k := if p < 0 then (p + (xs.size : Int)).toNat else min p.toNat xs.size; (xs.extract 0 k).push w2 ++ xs.extract k) hk
   have hs : Heap.SameBut a s.heap (s.heap.update a (Obj.mapSeq fun xs => have k := if p < 0 then (p + (xs.size : Int)).toNat else min p.toNat xs.size; (xs.extract 0 k).push w2 ++ xs.extract k)) := .update ..
   obtain ⟨H', e'⟩ := H.setL g (oA hc) hs hq (vs := xs.take p.toNat ++ x :: xs.drop p.toNat) (by
    have e1 : ((as.extract 0 (min p.toNat as.size)).push w2 ++ as.extract (min p.toNat as.size)).toList = as.toList.take p.toNat ++ w2 :: as.toList.drop p.toNat := by
     simp
     rcases Nat.le_total p.toNat as.size with q | q
     ·rw [Nat.min_eq_left q, List.take_of_length_le (l := as.toList.drop p.toNat) (by simp)]
     ·rw [Nat.min_eq_right q, List.take_of_length_le (by simp), List.take_of_length_le (by simpa using q), List.drop_of_length_le (by simp), List.drop_of_length_le (by simpa using q)]
      simp
      exact (List.take_of_length_le (by simpa using q)).symm
    simp only [hp0, if_false]
    rw [e1]
    exact (hv.take _).append (.cons r2 (hv.drop _)))
   exact O _ _ s.toks ρ H' e' .none
 | pop =>
   refine lst_e ro e fun i a g e => arg1_e rs e fun w1 x r1 e => yS r1 e fun p t e => obE e fun xs hx e => ?_
   cases xs with
   | nil => exact False.elim (nE e)
   | cons x xs =>
    refine ifN e fun hc e => ?_
    have O := O.of e
    have hp0 : p = 0 := by lia
    subst hp0
    obtain ⟨as, k, hk, hv⟩ := H.plain g hx (oA (oB hc))
    obtain ⟨u, hu, ru⟩ := hv.get (i := 0) (v := x) rfl
    have hu' : as[0]? = some u := Array.getElem?_toList.symm.trans hu
    have hpos : 0 < as.size := (Array.getElem?_eq_some_iff.mp hu').1
    have hsz : as.size = xs.length + 1 := hv.size
    have hbig : as.size <= sizeLine := by unfold sizeLine; lia
    refine call_meets F.slot_list_pop ⟨_, hk, rfl⟩ F.entry_list_pop (F.args_list_pop_2 _ _) (MeetsSeq.list_pop_at a as k 0 t 0 u (by decide) (seqIndex0 hpos) hu' hbig) ⟨hk, ?_⟩
    have hs : Heap.SameBut a s.heap (s.heap.update a (Obj.mapSeq fun xs => xs.eraseIdxIfInBounds 0)) := .update ..
    obtain ⟨H', e'⟩ := H.setL g (oA (oB hc)) hs (xs := as.eraseIdxIfInBounds 0) (vs := xs) (plain_update _ hk) (by
     have e1 : (as.eraseIdxIfInBounds 0).toList = as.toList.drop 1 := by simp [Array.eraseIdxIfInBounds, hpos]
     rw [e1]
     exact hv.drop 1)
    exact O _ _ s.toks ρ H' e' (ru.ext e')
 | join =>
    refine str_e ro e fun x t e => arg1_e rs e fun w1 l r1 e => lst_e r1 e fun i a g e => obE e fun xs hx e => obE e fun r hj e => ifE e fun hc e => ?_
    have O := O.of e
    obtain ⟨as, hl, J, hv⟩ := H.lists _ _ _ g hx
    obtain ⟨l, e1, e2⟩ := joinStrs_spec hv hj
    have hxe : x = Str.empty := by cases x; exact congrArg Str.mk (Array.toList_inj.mp hc.1)
    subst hxe
    have hl' : s.heap.IsList a (strValues l).toArray := e1 ▸ hl
    have hr : (Txt.join Str.empty (l.map (·.1))).cps.toList = r := by rw [join_empty, e2, mM]; rfl
    refine call_str_join hl' (joinOk_empty ?_) fun J t' k hk => z5 H O (.strOf _ _ _ hr) hk
    rw [yQ, hr]; exact qT hc.2 qL
 | lower =>
   refine str_e ro e fun x t e => ?_
   generalize hx : x.cps.toList = l at e
   cases l with
   | nil => exact False.elim (nE e)
   | cons c r =>
    refine nil_e rs e fun e => ?_
    cases r with
    | cons => exact False.elim (nE e)
    | nil =>
     refine obE e fun d hc e => ?_
     have O := O.of e
     have hx' : x = ⟨#[c]⟩ := by cases x; exact congrArg Str.mk (Array.toList_inj.mp hx)
     rw [hx']
     refine PyProof.Rows.SCL.lower (show 1 <= 5592405 by decide) fun J => ?_
     rw [lower_one hc]
     exact z5 H O (.strOf _ _ _ rfl) qU
 | sub =>
  refine glob_v ro e fun g ro e => cons_e (F := arg2 _) rfl rs e fun w1 v1 ws J r1 rs e => arg1_e rs e fun w2 v2 r2 e => str_v r1 e fun l r1 e => str_v r2 e fun x r2 e => ?_
  have hv : σ = σ' := ifE e fun J e => by
   by_cases h : g = .re1 /\ l = [46, 46]
   ·rw [if_pos h] at e; exact sP (C := fun J s => σ = s) e rfl
   ·rw [if_neg h] at e; exact ifE e fun J e => sP (C := fun J s => σ = s) e rfl
  subst hv
  exact hsub hA H ro r1 r2 e O
end
end Mine
namespace Mine
open PySem PySem.W PySem.Calls PyProof.Rows
noncomputable abbrev SCallplainF (K : Know) (prog : Program) (w : World) (n : Nat) (ca : F -> List V -> Sto -> Option (V × Sto)) : Prop := ∀ {f vs σ v σ'}, kwF f = false -> ca f vs σ = some (v, σ') -> ∀ {ws : List Value} {A : Around} {s : Shared} {ρ : Gh} {E : Value -> Shared -> Prop} {Q : Value -> Shared -> Prop}, OkA A n -> HR K σ ρ s.heap s.toks -> VRs K s.heap ρ ws vs -> Out K σ' s ρ (fun h' ρ' u => VR K h' ρ' u v) Q -> wpAny (model prog w) A (call (.ref (K.fa f)) ws) Q E s
noncomputable abbrev SCallinsortF (K : Know) (prog : Program) (w : World) (n : Nat) (ca : F -> List V -> Sto -> Option (V × Sto)) : Prop := ∀ {f a x k σ v σ'}, f = .insortR \/ f = .insortL -> ca f [a, x, .int 0, .none, k] σ = some (v, σ') -> ∀ {wa wx wk : Value} {A : Around} {s : Shared} {ρ : Gh} {E : Value -> Shared -> Prop} {Q : Value -> Shared -> Prop}, OkA A n -> HR K σ ρ s.heap s.toks -> VR K s.heap ρ wa a -> VR K s.heap ρ wx x -> VR K s.heap ρ wk k -> Out K σ' s ρ (fun h' ρ' u => VR K h' ρ' u v) Q -> wpAny (model prog w) A (call (.ref (K.fa f)) [wa, wx] [(oQ "key", wk)]) Q E s
noncomputable abbrev SCallbisectF (K : Know) (prog : Program) (w : World) (n : Nat) (ca : F -> List V -> Sto -> Option (V × Sto)) : Prop := ∀ {f a x lo hi k σ v σ'}, f = .bisectR \/ f = .bisectL -> ca f [a, x, lo, hi, k] σ = some (v, σ') -> ∀ {wa wx wl wh wk : Value} {A : Around} {s : Shared} {ρ : Gh} {E : Value -> Shared -> Prop} {Q : Value -> Shared -> Prop}, OkA A n -> HR K σ ρ s.heap s.toks -> VR K s.heap ρ wa a -> VR K s.heap ρ wx x -> VR K s.heap ρ wl lo -> VR K s.heap ρ wh hi -> VR K s.heap ρ wk k -> Out K σ' s ρ (fun h' ρ' u => VR K h' ρ' u v) Q -> wpAny (model prog w) A (call (.ref (K.fa f)) [wa, wx, wl, wh] [(oQ "key", wk)]) Q E s
structure SCall (K : Know) (prog : Program) (w : World) (n : Nat) (ca : F -> List V -> Sto -> Option (V × Sto)) : Prop where
 plain : SCallplainF K prog w n ca
 insort : SCallinsortF K prog w n ca
 bisect : SCallbisectF K prog w n ca
noncomputable def FnsOk (K : Know) : Prop := ∀ f, K.fa f ≠ K.P /\ ∃ o fd, K.base.get? (K.fa f) = some o /\ o.data = .func fd
theorem evals_cons {ev : ME -> Slots -> Sto -> Option (V × Sto)} {e es sl σ vs σ'} (h : evals ev (e :: es) sl σ = some (vs, σ')) :
  ∃ v σ_1 us, ev e sl σ = some (v, σ_1) /\ evals ev es sl σ_1 = some (us, σ') /\ vs = v :: us :=
 obP h fun v σ_1 h1 h => obP h fun us σ_2 h2 h => by cases h; exact ⟨v, σ_1, us, h1, h2, rfl⟩
theorem IsE.star {sc : Sc} {x : Expr} {e : ME} (h : IsE sc x e) (rest : List Expr) (env : Env) : starEach (x :: rest) env = (false, eval x env) :: starEach rest env := by
 apply IsE.e (C := fun x J => starEach (x :: rest) env = (false, eval x env) :: starEach rest env) h <;> intros <;> rfl
noncomputable def trees (xs : List Expr) (env : Env) : List (Bool × Sem Value) := xs.map fun x => (false, eval x env)
theorem IsEs.trees {sc : Sc} {xs : List Expr} {es : List ME} (h : IsEs sc xs es) (pos : Pos) (env : Env) : backTo pos (starEach xs env) = trees xs env := by
 induction h with
 | nil => rfl
 | cons h _ ih => rw [h.star]; exact congrArg (_ :: ·) ih
theorem trees_plain (xs : List Expr) (env : Env) : (trees xs env).any (·.1) = false := by simp [trees]
theorem trees_all (xs : List Expr) (env : Env) : (trees xs env).all (fun x => !x.1) = true := by simp [trees]
section
variable {K : Know} {prog : Program} {w : World} {n : Nat} {r : Rec}
theorem xL (hE : SEval K prog w n r.eval) {sc : Sc} {env : Env} {sl : Slots} {A : Around} {E : Value -> Shared -> Prop} (hA : OkA A n) {xs : List Expr} {es : List ME} (hi : IsEs sc xs es) : ∀ {vs : List V} {σ σ' : Sto}, evals r.eval es sl σ = some (vs, σ') ->
  ∀ {s : Shared} {ρ : Gh} {Q : List Value -> Shared -> Prop}, FrameOk K sc env s.heap ρ sl -> HR K σ ρ s.heap s.toks ->
  (∀ ws h' tk ρ', HR K σ' ρ' h' tk -> Ext K [] s.heap ρ h' ρ' -> VRs K h' ρ' ws vs -> Q ws { s with heap := h', toks := tk }) -> wpAny (model prog w) A (spliced (trees xs env)) Q E s := by
 induction hi with
 | nil =>
  intro vs σ σ' e s ρ Q f H h
  cases e
  exact spliced_nil (h [] s.heap s.toks ρ H (Ext.refl ..) .nil)
 | cons hx _ ih =>
  intro vs σ σ' e s ρ Q f H h
  obtain ⟨v, σ_1, us, e1, e2, rfl⟩ := evals_cons e
  refine spliced_cons (hE hx e1 hA f H fun u h_1 tk_1 ρ_1 H_1 x_1 r_1 => ?_)
  refine ih e2 (s := { s with heap := h_1, toks := tk_1 }) (f.ext H x_1) H_1 fun ws h_2 tk_2 ρ_2 H_2 x_2 r_2 => ?_
  exact h (u :: ws) h_2 tk_2 ρ_2 H_2 (x_1.trans x_2) (.cons (r_1.ext x_2) r_2)
theorem evalArgs_none {M : Model} {A : Around} {E : Value -> Shared -> Prop} {s : Shared} {f : Value} {Q : Args -> Shared -> Prop} (h : Q ⟨[], []⟩ s) : wpAny M A (evalArgs f true [] []) Q E s := by
 unfold evalArgs
 show wpAny M A (spliced [] >>= _) Q E s
 refine wpB (spliced_nil ?_)
 refine wpB (wpP ?_)
 refine wpAny_holding ?_
 exact wpB (wpP (wpB (wpP (wpP h))))
theorem args_sound (hE : SEval K prog w n r.eval) {sc : Sc} {env : Env} {sl : Slots} {A : Around} {E : Value -> Shared -> Prop} (hA : OkA A n) {xs : List Expr} {es : List ME} (hi : IsEs sc xs es) {vs : List V} {σ σ' : Sto} (e : evals r.eval es sl σ = some (vs, σ'))
  {s : Shared} {ρ : Gh} {f : Value} {Q : Args -> Shared -> Prop} (fr : FrameOk K sc env s.heap ρ sl) (H : HR K σ ρ s.heap s.toks)
  (h : ∀ ws h' tk ρ', HR K σ' ρ' h' tk -> Ext K [] s.heap ρ h' ρ' -> VRs K h' ρ' ws vs -> Q ⟨ws, []⟩ { s with heap := h', toks := tk }) : wpAny (model prog w) A (evalArgs f true (trees xs env) []) Q E s := by
 cases xs with
 | nil =>
  cases hi; cases e
  exact evalArgs_none (h [] s.heap s.toks ρ H (Ext.refl ..) .nil)
 | cons x xs => exact evalArgs_plain (xL hE hA hi e fr H fun ws h' tk ρ' => h ws h' tk ρ')
theorem eval2 (hE : SEval K prog w n r.eval) {sc : Sc} {env : Env} {sl : Slots} {A : Around} {E : Value -> Shared -> Prop} (hA : OkA A n) {x y : Expr} {a b : ME} (hx : IsE sc x a) (hy : IsE sc y b) {va vb : V} {σ σ_1 σ_2 : Sto} (e1 : r.eval a sl σ = some (va, σ_1)) (e2 : r.eval b sl σ_1 = some (vb, σ_2))
  {s : Shared} {ρ : Gh} {G : Value -> Value -> Shared -> Prop} (f : FrameOk K sc env s.heap ρ sl) (H : HR K σ ρ s.heap s.toks)
  (h : ∀ ua ub h' tk ρ', HR K σ_2 ρ' h' tk -> Ext K [] s.heap ρ h' ρ' -> VR K h' ρ' ua va -> VR K h' ρ' ub vb -> G ua ub { s with heap := h', toks := tk }) :
  wpAny (model prog w) A (eval x env) (fun ua s_1 => wpAny (model prog w) A (eval y env) (fun ub s_2 => G ua ub s_2) E s_1) E s := by
 refine hE hx e1 hA f H fun u h_1 tk_1 ρ_1 H_1 x_1 r_1 => ?_
 refine hE hy e2 hA (s := { s with heap := h_1, toks := tk_1 }) (f.ext H x_1) H_1 fun v h_2 tk_2 ρ_2 H_2 x_2 r_2 => ?_
 exact h u v h_2 tk_2 ρ_2 H_2 (x_1.trans x_2) (r_1.ext x_2) r_2
theorem attributeBase_plain {o : Expr} (h : isCall o = false) (name : Str) (env : Env) (t : Sem Value) : attributeBase o name env t = t := by
 cases o <;> first | rfl | exact nomatch h
theorem Out.after {σ' : Sto} {s : Shared} {ρ : Gh} {P : Heap -> Gh -> Value -> Prop} {Q : Value -> Shared -> Prop} (O : Out K σ' s ρ P Q) {h_1 : Heap} {tk_1 : Tok} {ρ_1 : Gh} (x : Ext K [] s.heap ρ h_1 ρ_1) : Out K σ' { s with heap := h_1, toks := tk_1 } ρ_1 P Q :=
 fun u h' tk ρ' H e p => O u h' tk ρ' H (x.trans e) p
theorem evalO_sound (hE : SEval K prog w n r.eval) {sc : Sc} {env : Env} {sl : Slots} {A : Around} {E : Value -> Shared -> Prop} (hA : OkA A n) {x : Option Expr} {a : Option ME} (hx : IsO sc x a) {va : V} {σ σ_1 : Sto} (e1 : evalO r.eval a sl σ = some (va, σ_1))
  {s : Shared} {ρ : Gh} {Q : Value -> Shared -> Prop} (f : FrameOk K sc env s.heap ρ sl) (H : HR K σ ρ s.heap s.toks)
  (O : Out K σ_1 s ρ (fun h' ρ' u => VR K h' ρ' u va) Q) : wpAny (model prog w) A (evalPart x env) Q E s := by
 cases hx with
 | none => cases e1; exact wpP (O _ s.heap s.toks ρ H (Ext.refl ..) .none)
 | some h => exact hE h e1 hA f H O
end
end Mine
namespace Mine
open PySem PySem.W PySem.Calls PyProof.Rows
section
variable {K : Know} {prog : Program} {w : World} {n : Nat} {r : Rec}
theorem neP_of_ns {σ ρ h tk a m} (H : HR K σ ρ h tk) (hn : K.base.Ns a m) : a ≠ K.P := by
 obtain ⟨ps, J, J, J, ps_0, J, g, J⟩ := H.tab
 rintro rfl
 obtain ⟨o, es, ep, ho, hd, J⟩ := hn
 rw [g] at ho
 cases ho
 cases hd
theorem ns_at {σ ρ h tk a m} (H : HR K σ ρ h tk) (hn : K.base.Ns a m) : h.Ns a m := hn.at' fun o e => H.base _ o (neP_of_ns H hn) e
noncomputable def EvAt (K : Know) (prog : Program) (w : World) (n : Nat) (sc : Sc) (x : Expr) (o : Slots -> Sto -> Option (V × Sto)) : Prop :=
 ∀ {sl : Slots} {σ : Sto} {v : V} {σ' : Sto}, o sl σ = some (v, σ') ->
  ∀ {A : Around} {env : Env} {s : Shared} {ρ : Gh} {E : Value -> Shared -> Prop} {Q : Value -> Shared -> Prop}, OkA A n -> FrameOk K sc env s.heap ρ sl -> HR K σ ρ s.heap s.toks ->
   Out K σ' s ρ (fun h' ρ' u => VR K h' ρ' u v) Q -> wpAny (model prog w) A (eval x env) Q E s
theorem callWith_gen {A : Around} {E : Value -> Shared -> Prop} {s : Shared} {pos : Pos} {g : G} {wf : Value} {args : List (Bool × Sem Value)} {Q : Value -> Shared -> Prop} (hg : K.gv g = some wf) (hne : ∀ f, g ≠ .fn f) (hre : g ≠ .re1 /\ g ≠ .re2) (hplain : args.any (·.1) = false)
  (h : wpAny (model prog w) A (evalArgs wf true args []) (fun a s_1 => wpAny (model prog w) A (call wf ([] ++ a.pos) a.kw) Q E s_1) E s) :
  wpAny (model prog w) A (callWith pos wf [] args []) Q E s := by
 cases g with
 | fn f => exact absurd rfl (hne f)
 | re1 => exact absurd rfl hre.1
 | re2 => exact absurd rfl hre.2
 | range => cases hg; exact PySem.callWith_type hplain h
 | list => cases hg; exact PySem.callWith_type hplain h
 | int => cases hg; exact PySem.callWith_type hplain h
 | sum => cases hg; exact callWith_builtin hplain h
 | len => cases hg; exact callWith_builtin hplain h
 | max => cases hg; exact callWith_builtin hplain h
 | min => cases hg; exact callWith_builtin hplain h
 | sorted => cases hg; exact callWith_builtin hplain h
 | crlf => cases hg
 | maxsz => cases hg
 | move => cases hg
 | case => cases hg
theorem applyB_ne {g : G} {vs : List V} {σ : Sto} {p : V × Sto} (e : yD g vs σ = some p) : (∀ f, g ≠ .fn f) /\ g ≠ .re1 /\ g ≠ .re2 :=
 ⟨fun f q => by subst q; exact nE e, fun q => by subst q; exact nE e, fun q => by subst q; exact nE e⟩
theorem arm_call {fx : Expr} {args : List Expr} {kws : List Keyword} {p : Pos} {env : Env} (h : isAttr fx = false) : eval (.Call fx args kws p) env = (do callWith p (← eval fx env) [] (backTo p (starEach args env)) (backToKw p (keywordEach kws env))) := by
 cases fx <;> first | rfl | exact fE h.symm
theorem eval_sound (hE : SEval K prog w n r.eval) (hT : STest K prog w n r.test) (hC : SCall K prog w n r.call) (k : KOk K) (hB : NoneBooked K.base) (hF : FnsOk K) (G : SubGet K) (hS : SubOk K prog w)
  (hK : ∀ {sc sp src y yp body scope lp kp p msrc frees fs mb}, sc.law = true -> y = oQ "k" -> sc.names.lookup (oQ "sorted") = some .globalImplicit -> IsE sc src msrc -> CompOk sc y frees fs scope -> y5 scope.names = true -> scope.isCoroutine = false -> scope.isGenerator = false -> IsE ⟨scope.names, y :: fs, false⟩ body mb -> EvAt K prog w (n + 1) sc (.Call (.Name (oQ "sorted") sp) [src] [⟨some (oQ "key"), .Lambda ⟨[], [⟨y, none, yp⟩], none, [], [], none, []⟩ body scope lp, kp⟩] p) (evalF r (.sortk msrc frees mb)))
  (hC1 : ∀ {sc elt y yp iter cond scope p me frees fs mi mc}, yK iter = false -> IsE sc iter mi -> CompOk sc y frees fs scope -> IsE ⟨relab sc scope.names, y :: fs, false⟩ elt me -> IsC ⟨relab sc scope.names, y :: fs, false⟩ cond mc -> EvAt K prog w (n + 1) sc (.ListComp elt [⟨.Name y yp, iter, ifsOf cond, 0⟩] scope p) (evalF r (.comp me frees mi mc)))
  (hC2 : ∀ {sc elt y yp iter z zp iter2 scope p me mi mj}, yK iter = false -> yK iter2 = false -> IsE sc iter mi -> CompOk sc y [] [] scope -> y5 scope.names = true -> scope.names.lookup z = some .local -> y ≠ z -> closed ⟨[], [], false⟩ scope.names = true -> IsE ⟨scope.names, [y, z], false⟩ iter2 mj -> IsE ⟨scope.names, [z, y], false⟩ elt me -> EvAt K prog w (n + 1) sc (.ListComp elt [⟨.Name y yp, iter, [], 0⟩, ⟨.Name z zp, iter2, [], 0⟩] scope p) (evalF r (.comp2 me mi mj))) : SEval K prog w (n + 1) (evalF r) := by
 intro sc x e sl σ v σ' hi
 suffices h : EvAt K prog w (n + 1) sc x (evalF r e) from @h sl σ v σ'
 clear sl σ v σ'
 refine IsE.e (C := fun x e => EvAt K prog w (n + 1) sc x (evalF r e)) hi ?none ?bool ?int ?flt ?str ?var ?glob ?bin ?neg ?or2 ?cmp ?ite ?meth ?call ?callk hK ?sub ?slice ?list ?tup hC1 hC2
 case none =>
  intro k p sl σ v σ' he A env s ρ E Q hA f H O
  exact wpAny_Constant_none (z5 H (O.of he) .none qR)
 case bool =>
  intro b k p sl σ v σ' he A env s ρ E Q hA f H O
  exact wpAny_Constant_bool (z5 H (O.of he) (.bool _) qR)
 case int =>
  intro i k p sl σ v σ' he A env s ρ E Q hA f H O
  exact wpAny_Constant_int (z5 H (O.of he) (.int _ _) qU)
 case flt =>
  intro i k p sl σ v σ' he A env s ρ E Q hA f H O
  exact PySem.wpAny_Constant_float (out_flt H (O.of he))
 case str =>
  intro i k p l q sl σ v σ' he A env s ρ E Q hA f H O
  exact wpAny_Constant_str (z5 H (O.of he) (.strOf _ _ _ q) qU)
 case var =>
  intro x p i g hk hd hc sl σ v σ' he A env s ρ E Q hA f H O
  exact obE he fun u hs he => wpAny_Name (load_slot f g hs hk (fun J => hc) fun w r => z5 H (O.of he) r qR) hd
 case glob =>
  intro x p g hl hg hd sl σ v σ' he A env s ρ E Q hA f H O
  have O := O.of he
  obtain ⟨u, hu, hr⟩ := k.name _ _ hg
  have hx : env.kindOf x = some .globalImplicit := (f.eo.kindOf x).trans hl
  have hgl : s.heap.Ns env.globals K.mg := by rw [f.eo.globals]; exact ns_at H k.glob
  have hbl : s.heap.Ns env.builtins K.mb := by rw [f.eo.builtins]; exact ns_at H k.bui
  refine Name_function_global f.eo.kind hx ?_ hd
  rcases hu with hu | ⟨h1, h2⟩
  ·exact loadGlobal_global hgl hu (z5 H O (hr _ _) qR)
  ·exact loadGlobal_builtin hgl h1 hbl h2 (z5 H O (hr _ _) qR)
 case bin =>
  intro l op q p a b o ho hl hr sl σ v σ' he A env s ρ E Q hA f H O
  exact obP he fun va σ_1 e1 he => obP he fun vb σ_2 e2 he => wpAny_BinOp (eval2 hE (hA.mono (nLS n)) hl hr e1 e2 f H fun ua ub h' tk ρ' H' x' ra rb => binF_sound ho he H' ra rb (O.after x'))
 case neg =>
  intro x p a hx sl σ v σ' he A env s ρ E Q hA f H O
  refine obP he fun va σ_1 e1 he => wpAny_UnaryOp (hE hx e1 (hA.mono (nLS n)) f H fun u h_1 tk_1 ρ_1 H_1 x_1 r_1 => ?_)
  exact yS r_1 he fun i t he => neg_int (z5 (s := { s with heap := h_1, toks := tk_1 }) H_1 ((O.of he).after x_1) (.int _ _) qU)
 case or2 =>
  intro x y p a b hx hy sl σ v σ' he A env s ρ E Q hA f H O
  have hA' := hA.mono (nLS n)
  refine obP he fun va σ_1 e1 he => obE he fun bb ht he => ?_
  refine wpAny_Or2 (hE hx e1 hA' f H fun u h_1 tk_1 ρ_1 H_1 x_1 r_1 => ?_)
  refine truthV_sound ht r_1 fun tk hle => ?_
  cases bb with
  | true =>
   exact O.of he u h_1 tk ρ_1 (H_1.mono hle) x_1 r_1
  | false => exact hE hy he hA' (s := { s with heap := h_1, toks := tk }) (f.ext H x_1) (H_1.mono hle) (O.after x_1)
 case cmp =>
  intro l op q p a b c hc hm hl hr sl σ v σ' he A env s ρ E Q hA f H O
  have hA' := hA.mono (nLS n)
  refine obP he fun va σ_1 e1 he => obP he fun vb σ_2 e2 he => obE he fun bb e3 he => ?_
  have O := O.of he
  refine wpAny_Compare1 (eval2 hE hA' hl hr e1 e2 f H fun ua ub h' tk ρ' H' x' ra rb => ?_) hm
  exact cmpV_sound (s := { s with heap := h', toks := tk }) (booked k H' hB) hA' hc e3 H' ra rb (z5 (s := { s with heap := h', toks := tk }) H' (O.after x') (.bool _) qR)
 case ite =>
  intro t x y p mt a b ht hx hy sl σ v σ' he A env s ρ E Q hA f H O
  have hA' := hA.mono (nLS n)
  refine obP he fun bb σ_1 e1 he => wpAny_IfExp (hT ht e1 hA' f H fun h_1 tk_1 ρ_1 H_1 x_1 => ?_)
  cases bb with
  | true => exact hE hx he hA' (s := { s with heap := h_1, toks := tk_1 }) (f.ext H x_1) H_1 (O.after x_1)
  | false => exact hE hy he hA' (s := { s with heap := h_1, toks := tk_1 }) (f.ext H x_1) H_1 (O.after x_1)
 case meth =>
  intro o name apos args p mo m ms hm hcall hline hfew ho hargs sl σ v σ' he A env s ρ E Q hA f H O
  have hA' := hA.mono (nLS n)
  refine obP he fun vo σ_1 e1 he => obP he fun vs σ_2 e2 he => ?_
  refine wpAny_Call_method_late (attributeBase_plain hcall _ _ _) ?_ hline (hargs.trees p env) ?_
  ·rw [hargs.trees, trees_all]
   exact decide_eq_true (qA hfew (by decide) : args.length < 30)
  ·refine hE ho e1 hA' f H fun u h_1 tk_1 ρ_1 H_1 x_1 r_1 => ?_
   refine byC fun hG => ?_
   obtain ⟨q1, q2, q3, q4, q5⟩ := meth_get (s := { s with heap := h_1, toks := tk_1 }) G hm he H_1 r_1
   refine hG ?_
   refine ⟨methT m, methId m, q1, q2, q3, q4, q5, ?_⟩
   refine callWith_builtin (trees_plain _ _) (args_sound hE hA' hargs e2 (f.ext H x_1) H_1 fun ws h_2 tk_2 ρ_2 H_2 x_2 r_2 => ?_)
   exact meth_call (s := { s with heap := h_2, toks := tk_2 }) hA' hS he H_2 (r_1.ext x_2) r_2 (O.after (x_1.trans x_2))
 case call =>
  intro fx args p mf ms hattr hf hargs sl σ v σ' he A env s ρ E Q hA f H O
  have hA' := hA.mono (nLS n)
  refine obP he fun vo σ_1 e1 he => obP he fun vs σ_2 e2 he => ?_
  rw [arm_call hattr, hargs.trees]
  refine wpB (hE hf e1 hA' f H fun u h_1 tk_1 ρ_1 H_1 x_1 r_1 => ?_)
  show wpAny (model prog w) A (callWith p u [] (trees args env) []) Q E _
  refine glob_e r_1 he fun g hu he => ?_
  rcases callG_or r g vs σ_2 with ⟨g, rfl⟩ | hc
  ·refine ifN he fun hk he => ?_
   refine byC fun hG => ?_
   obtain ⟨hne, o, fd, q1, q2⟩ := hF g
   refine hG ?_
   rw [show u = .ref (K.fa g) from (sI hu).symm]
   exact callWith_function (o := o) (fd := fd) (args_sound hE hA' hargs e2 (f.ext H x_1) H_1 fun ws h_2 tk_2 ρ_2 H_2 x_2 r_2 => ⟨⟨H_2.base _ _ hne q1, q2⟩, hC.plain (s := { s with heap := h_2, toks := tk_2 }) (Bool.eq_false_iff.mpr hk) he hA' H_2 r_2 (O.after (x_1.trans x_2))⟩)
  ·have he := hc.symm.trans he
   obtain ⟨n1, n2⟩ := applyB_ne he
   exact callWith_gen hu n1 n2 (trees_plain _ _) (args_sound hE hA' hargs e2 (f.ext H x_1) H_1 fun ws h_2 tk_2 ρ_2 H_2 x_2 r_2 => applyB_sound (s := { s with heap := h_2, toks := tk_2 }) hA' k hB he hu H_2 r_2 (O.after (x_1.trans x_2)))
 case callk =>
  intro fx args kv kp p mf ms mk hattr hne hf hargs hkv sl σ v σ' he A env s ρ E Q hA f H O
  have hA' := hA.mono (nLS n)
  refine obP he fun vo σ_1 e1 he => obP he fun vs σ_2 e2 he => obP he fun vk σ_3 e3 he => ?_
  rw [arm_call hattr, hargs.trees]
  refine wpB (hE hf e1 hA' f H fun u h_1 tk_1 ρ_1 H_1 x_1 r_1 => ?_)
  show wpAny (model prog w) A (callWith p u [] (trees args env) (backToKw p (keywordEach [⟨some (oQ "key"), kv, kp⟩] env))) Q E _
  refine fn_e r_1 he fun g hu he => obE he fun as ha he => ?_
  rw [show u = .ref (K.fa g) from (sI hu).symm]
  refine byC fun hG => ?_
  obtain ⟨hneP, o, fd, q1, q2⟩ := hF g
  obtain ⟨a, rest, rfl⟩ := List.exists_cons_of_ne_nil hne
  refine hG ?_
  refine callWith_function_kw (o := o) (fd := fd) (evalArgs_kw rfl (xL hE hA' hargs e2 (f.ext H x_1) H_1 fun ws h_2 tk_2 ρ_2 H_2 x_2 r_2 => ?_))
  refine wpAny_evalAll_cons ?_
  show wpAny (model prog w) A (eval kv env >>= fun v => standAt p >>= fun J => pure v) _ E _
  refine wpB (hE hkv e3 hA' (s := { s with heap := h_2, toks := tk_2 }) (f.ext H (x_1.trans x_2)) H_2 fun u_3 h_3 tk_3 ρ_3 H_3 x_3 r_3 => ?_)
  refine wpB (wpAny_standAt (wpP ?_))
  refine wpAny_evalAll_nil ⟨⟨H_3.base _ _ hneP q1, q2⟩, ?_⟩
  have O := O.after (tk_1 := tk_3) (x_1.trans (x_2.trans x_3))
  rcases keyArgs_e ha with ⟨hg, ha⟩ | ⟨hg, ha⟩
  ·exact cons_e (F := arg2 _) rfl (r_2.ext x_3) ha fun J J ws vs ra rs ha => arg1_e rs ha fun wx x rx ha => hC.insort (s := { s with heap := h_3, toks := tk_3 }) hg ((congrArg (fun as => r.call g as σ_3) (sI ha)).trans he) hA' H_3 ra rx r_3 O
  ·exact cons_e (F := arg4 _) rfl (r_2.ext x_3) ha fun J J ws vs ra rs ha => cons_e (F := arg3 _) rfl rs ha fun J J ws vs rx rs ha => cons_e (F := arg2 _) rfl rs ha fun J J ws vs rl rs ha => arg1_e rs ha fun wx x rh ha =>
    hC.bisect (s := { s with heap := h_3, toks := tk_3 }) hg ((congrArg (fun as => r.call g as σ_3) (sI ha)).trans he) hA' H_3 ra rx rl rh r_3 O
 case sub =>
  intro o i p mo mi hsl ho hi' sl σ v σ' he A env s ρ E Q hA f H O
  have hA' := hA.mono (nLS n)
  refine obP he fun vo σ_1 e1 he => obP he fun vi σ_2 e2 he => obE he fun u e3 he => ?_
  have O := O.of he
  refine sub_eval (fun o i => .inl (subscripted_not hsl o i)) (eval2 hE hA' ho hi' e1 e2 f H fun ua ub h' tk ρ' H' x' ra rb => ?_)
  exact subV_sound (s := { s with heap := h', toks := tk }) e3 H' ra rb (O.after x')
 case slice =>
  intro o lo hi st p q mo ml mh ms ho hlo hhi hst sl σ v σ' he A env s ρ E Q hA f H O
  have hA' := hA.mono (nLS n)
  refine obP he fun vo σ_1 e1 he => obP he fun vl σ_2 e2 he => obP he fun vh σ_3 e3 he => obP he fun vt σ_4 e4 he => ?_
  refine sub_eval (fun o i => subscripted_slice o i) (hE ho e1 hA' f H fun uo h_1 tk_1 ρ_1 H_1 x_1 r_1 => ?_)
  refine wpAny_Slice (evalO_sound hE hA' hlo e2 (s := { s with heap := h_1, toks := tk_1 }) (f.ext H x_1) H_1 fun ul h_2 tk_2 ρ_2 H_2 x_2 r_2 => ?_)
  refine evalO_sound hE hA' hhi e3 (s := { s with heap := h_2, toks := tk_2 }) (f.ext H (x_1.trans x_2)) H_2 fun uh h_3 tk_3 ρ_3 H_3 x_3 r_3 => ?_
  refine evalO_sound hE hA' hst e4 (s := { s with heap := h_3, toks := tk_3 }) (f.ext H ((x_1.trans x_2).trans x_3)) H_3 fun ut h_4 tk_4 ρ_4 H_4 x_4 r_4 => ?_
  obtain ⟨H_5, x_5⟩ := H_4.push { cls := .type "slice", data := .fields #[ul, uh, ut] }
  exact sliceV_sound (s := { s with heap := h_4.push { cls := .type "slice", data := .fields #[ul, uh, ut] }, toks := tk_4 }) he H_5 (r_1.ext (((x_2.trans x_3).trans x_4).trans x_5)) (r_2.ext ((x_3.trans x_4).trans x_5)) (r_3.ext (x_4.trans x_5)) (r_4.ext x_5) (hPS _ rfl)
   (O.after ((((x_1.trans x_2).trans x_3).trans x_4).trans x_5))
 case list =>
  intro es p ms hes sl σ v σ' he A env s ρ E Q hA f H O
  have hA' := hA.mono (nLS n)
  refine obP he fun vs σ_1 e1 he => ifN he fun hlen he => ?_
  have O := O.of he
  refine wpAny_List ?_
  rw [hes.trees]
  refine xL hE hA' hes e1 f H fun ws h_1 tk_1 ρ_1 H_1 x_1 r_1 => ⟨?_, ?_⟩
  ·have := r_1.length; unfold sizeLine; exact eF this hlen
  ·obtain ⟨H_2, x_2, r_2⟩ := H_1.newL r_1 rfl
   exact O _ _ _ _ H_2 (x_1.trans x_2) r_2
 case tup =>
  intro es k' p ms hes sl σ v σ' he A env s ρ E Q hA f H O
  have hA' := hA.mono (nLS n)
  refine obP he fun vs σ_1 e1 he => ifN he fun hlen he => ?_
  have O := O.of he
  refine wpAny_Tuple ?_
  rw [hes.trees]
  refine xL hE hA' hes e1 f H fun ws h_1 tk_1 ρ_1 H_1 x_1 r_1 => ⟨?_, ?_⟩
  ·have := r_1.length; unfold sizeLine; exact eF this hlen
  ·obtain ⟨H_2, x_2⟩ := H_1.push { cls := .type "tuple", data := .seq ws.toArray }
   exact O _ _ _ _ H_2 (x_1.trans x_2) (.tup _ ws.toArray _ ⟨_, hPS _ rfl⟩ H_1.fresh (fun q => absurd H_1.P_lt (qK (q ▸ H_1.big))) (by simpa using r_1.ext x_2))
end
end Mine
namespace Mine
open PySem PySem.W PySem.Calls PyProof.Rows
theorem tE {C : Prop} (h : true = false) : C := nomatch h
theorem and4 {a b c d : Bool} (h : b = false) : (a && b && c && d) = false := by subst h; cases a <;> rfl
theorem swapsWith_false {env : Env} {value : Expr} {x : Str} {p : Pos} {line : Nat} (h : isComp value = false \/ env.kindOf x = some .cell) : swapsWith value (some (.Name x p)) line env = pure false := by
 have hk : isComp value = true -> (env.kindOf x == some .local) = false := fun q => by
  rcases h with h | h
  ·rw [q] at h; exact tE h
  ·rw [h]; rfl
 clear h
 cases value <;> first | rfl | exact congrArg pure (and4 (hk rfl))
theorem swapsWith_not {env : Env} {value : Expr} {t : Option Expr} {line : Nat} (h : isComp value = false) : swapsWith value t line env = pure false := by
 cases value <;> first | rfl | exact tE h
theorem setItem_plain {prog : Program} {w : World} {A : Around} {E : Value -> Shared -> Prop} {s : Shared} {l : Addr} {items : Array Value} {k : Int} {t : Tok} {v : Value} {Q : Unit -> Shared -> Prop} (hl : s.heap.PlainList l items)
  (h0 : 0 <= k) (hfit : k < 2 ^ 63) (hn : k < items.size)
  (hQ : ∀ h', h'.PlainList l (items.setIfInBounds k.toNat v) -> Heap.SameBut l s.heap h' -> Q () { s with heap := h' }) :
  wpAny (model prog w) A (setItem (.ref l) (.int k t) v) Q E s := by
 obtain ⟨ne, ho⟩ := id hl
 have hi := hl.isList
 unfold setItem
 refine wpAny_holding ?_
 refine wpB (wpAny_sequenceKey hi.typeIs (by decide) ?_)
 refine wpB (wpAny_callSpecial?_slot (name := oQ "__setitem__") hi.typeIs slot_list_setitem
  (wpAny_call_entry slot_list_setitem hi.typeIs entry_list_setitem ?_ (args_list_setitem _ _ _)))
 show wpAny _ _ (Builtin.List.listSubscript? (.int k t) >>= _) _ _ s
 refine wpB (wpAny_listSubscript_int (fitsIndex_of h0 hfit) ?_)
 clear hfit
 obtain ⟨j, rfl⟩ := Int.eq_ofNat_of_zero_le h0
 have hj : j < items.size := by exact cA hn
 have hx' : items[j]? = some items[j] := Array.getElem?_eq_getElem hj
 show wpAny _ _ ((seqItemAt l j >>= fun r => pure (r.map (j, ·))) >>= _) _ _ s
 refine wpB (wpB (wpAny_seqItemAt ho rfl (wpP ?_)))
 rw [hx']
 show wpAny _ _ (setSeqItemAt l j v >>= _) _ _ s
 have hfin := plain_update (·.setIfInBounds j v) ho
 refine wpB (wpAny_setSeqItemAt ho rfl ?_)
 first
  | exact wpB (wpP (wpP ⟨.none, rfl, wpP (hQ _ hfin (Heap.SameBut.update ..))⟩))
  | exact wpP ⟨.none, rfl, wpP (hQ _ hfin (Heap.SameBut.update ..))⟩
section
variable {K : Know} {prog : Program} {w : World} {n : Nat} {r : Rec}
theorem testAll_sound (hT : STest K prog w n r.test) {sc : Sc} {A : Around} {E : Value -> Shared -> Prop} (hA : OkA A n) {env : Env} {sl : Slots} {xs : List Expr} {ts : List ME} (hi : IsTs sc xs ts) : ∀ {b : Bool} {σ σ' : Sto}, testAll r.test ts sl σ = some (b, σ') ->
  ∀ {s : Shared} {ρ : Gh} {Q : Bool -> Shared -> Prop}, FrameOk K sc env s.heap ρ sl -> HR K σ ρ s.heap s.toks ->
  (∀ h' tk ρ', HR K σ' ρ' h' tk -> Ext K [] s.heap ρ h' ρ' -> Q b { s with heap := h', toks := tk }) -> wpAny (model prog w) A (allTrue .And xs env) Q E s := by
 induction hi with
 | nil =>
  intro b σ σ' e s ρ Q f H h
  cases e
  exact wpAny_allTrue_And_nil (h s.heap s.toks ρ H (Ext.refl ..))
 | cons hx _ ih =>
  intro b σ σ' e s ρ Q f H h
  refine obP e fun c σ_1 e1 e => wpAny_allTrue_And_cons (hT hx e1 hA f H fun h_1 tk_1 ρ_1 H_1 x_1 => ?_)
  cases c with
  | false => cases e; exact h h_1 tk_1 ρ_1 H_1 x_1
  | true => exact ih e (s := { s with heap := h_1, toks := tk_1 }) (f.ext H x_1) H_1 fun h_2 tk_2 ρ_2 H_2 x_2 => h h_2 tk_2 ρ_2 H_2 (x_1.trans x_2)
theorem testAny_sound (hT : STest K prog w n r.test) {sc : Sc} {A : Around} {E : Value -> Shared -> Prop} (hA : OkA A n) {env : Env} {sl : Slots} {xs : List Expr} {ts : List ME} (hi : IsTs sc xs ts) : ∀ {b : Bool} {σ σ' : Sto}, testAny r.test ts sl σ = some (b, σ') ->
  ∀ {s : Shared} {ρ : Gh} {Q : Bool -> Shared -> Prop}, FrameOk K sc env s.heap ρ sl -> HR K σ ρ s.heap s.toks ->
  (∀ h' tk ρ', HR K σ' ρ' h' tk -> Ext K [] s.heap ρ h' ρ' -> Q b { s with heap := h', toks := tk }) -> wpAny (model prog w) A (allTrue .Or xs env) Q E s := by
 induction hi with
 | nil =>
  intro b σ σ' e s ρ Q f H h
  cases e
  exact wpAny_allTrue_Or_nil (h s.heap s.toks ρ H (Ext.refl ..))
 | cons hx _ ih =>
  intro b σ σ' e s ρ Q f H h
  refine obP e fun c σ_1 e1 e => wpAny_allTrue_Or_cons (hT hx e1 hA f H fun h_1 tk_1 ρ_1 H_1 x_1 => ?_)
  cases c with
  | true => cases e; exact h h_1 tk_1 ρ_1 H_1 x_1
  | false => exact ih e (s := { s with heap := h_1, toks := tk_1 }) (f.ext H x_1) H_1 fun h_2 tk_2 ρ_2 H_2 x_2 => h h_2 tk_2 ρ_2 H_2 (x_1.trans x_2)
theorem testF_val {sc : Sc} {x : Expr} {e : ME} {sl : Slots} {σ : Sto} (hi : IsE sc x e) : x8 x = false ->
  testF r e sl σ = (r.eval e sl σ).bind fun (v, σ) => (xP v).bind fun b => some (b, σ) := by
 apply IsE.e (C := fun x e => x8 x = false -> testF r e sl σ = (r.eval e sl σ).bind fun (v, σ) => (xP v).bind fun b => some (b, σ)) hi <;> intros <;> first | rfl | (rename_i h; exact tE h)
theorem isTrue_val {x : Expr} (hx : x8 x = false) (env : Env) (whole : Sem Value) : isTrue x env whole = (do let v ← whole; standAt x.pos; holding [v] (truthy v)) := by
 cases x <;> first | rfl | exact tE hx | skip
 rename_i op _ _
 cases op <;> first | rfl | exact tE hx
theorem tsOf {K : Know} {b b_0 : Bool} {σ_0 σ' : Sto} {s : Shared} {ρ : Gh} {Q : Bool -> Shared -> Prop} (O : ∀ h' tk ρ', HR K σ' ρ' h' tk -> Ext K [] s.heap ρ h' ρ' -> Q b { s with heap := h', toks := tk }) (he : some (b_0, σ_0) = some (b, σ')) :
  ∀ h' tk ρ', HR K σ_0 ρ' h' tk -> Ext K [] s.heap ρ h' ρ' -> Q b_0 { s with heap := h', toks := tk } := by cases he; exact O
theorem test_sound (hE : SEval K prog w n r.eval) (hT : STest K prog w n r.test) (k : KOk K) (hB : NoneBooked K.base) : STest K prog w (n + 1) (testF r) := by
 intro sc x e sl σ b σ' hi he A env s ρ E Q hA f H O
 have hA' := hA.mono (nLS n)
 revert he f
 refine IsT.e (C := fun x e => testF r e sl σ = some (b, σ') -> FrameOk K sc env s.heap ρ sl -> wpAny (model prog w) A (isTrue x env (eval x env)) Q E s) hi (fun hx he f => obP he fun c σ_1 e1 he => ?_)
  (fun hs he f => wpAny_isTrue_BoolOp (testAll_sound hT hA' hs he f H O)) (fun hs he f => wpAny_isTrue_BoolOp (testAny_sound hT hA' hs he f H O)) (fun hc hm hl hr he f => obP he fun va σ_1 e1 he => obP he fun vb σ_2 e2 he => obE he fun b_3 e3 he => ?_)
  (fun ht hx he f => obP ((testF_val hx ht).symm.trans he) fun v σ_1 e1 he => obE he fun c e2 he => ?_)
 ·have O := tsOf O he
  exact isTrue_not (hT hx e1 hA' f H fun h_1 tk_1 ρ_1 H_1 x_1 => O h_1 tk_1 ρ_1 H_1 x_1)
 ·have O := tsOf O he
  refine wpAny_isTrue_Compare1 (eval2 hE hA' hl hr e1 e2 f H fun ua ub h' tk ρ' H' x' ra rb => ?_) hm
  exact cmpV_sound (s := { s with heap := h', toks := tk }) (booked k H' hB) hA' hc e3 H' ra rb (wpAny_truthy_bool (O h' tk ρ' H' x'))
 ·have O := tsOf O he
  refine wpAny_isTrue_value (hE hx e1 hA' f H fun u h_1 tk_1 ρ_1 H_1 x_1 r_1 => ?_) (isTrue_val ht env _)
  exact truthV_sound (s := { s with heap := h_1, toks := tk_1 }) e2 r_1 fun tk hle => O h_1 tk ρ_1 (H_1.mono hle) x_1
noncomputable def OutS (K : Know) (sc : Sc) (env : Env) (sl' : Slots) (σ' : Sto) (fl : Fl) (s : Shared) (ρ : Gh) (Q : Flow -> Shared -> Prop) : Prop :=
 ∀ f h' tk ρ', FrameOk K sc env h' ρ' sl' -> HR K σ' ρ' h' tk -> Ext K (own env) s.heap ρ h' ρ' -> FlowR K h' ρ' f fl -> Q f { s with heap := h', toks := tk }
theorem OutS.of {sc env sl' σ' fl s ρ Q fl_0 sl_0 σ_0} (O : OutS K sc env sl' σ' fl s ρ Q) (he : some (fl_0, sl_0, σ_0) = some (fl, sl', σ')) : OutS K sc env sl_0 σ_0 fl_0 s ρ Q := by cases he; exact O
theorem OutS.after {sc env sl' σ' fl s ρ Q} (O : OutS K sc env sl' σ' fl s ρ Q) {h_1 : Heap} {tk_1 : Tok} {ρ_1 : Gh} (x : Ext K (own env) s.heap ρ h_1 ρ_1) : OutS K sc env sl' σ' fl { s with heap := h_1, toks := tk_1 } ρ_1 Q :=
 fun f h' tk ρ' F H e p => O f h' tk ρ' F H (x.trans e) p
noncomputable def SStep (K : Know) (prog : Program) (w : World) (n : Nat) (st : MS -> Slots -> Sto -> Option (Fl × Slots × Sto)) (x : Stmt) (m : MS) (sc : Sc) : Prop :=
 ∀ {sl : Slots} {σ : Sto} {fl : Fl} {sl' : Slots} {σ' : Sto}, st m sl σ = some (fl, sl', σ') ->
  ∀ {A : Around} {env : Env} {s : Shared} {ρ : Gh} {E : Value -> Shared -> Prop} {Q : Flow -> Shared -> Prop}, OkA A n -> FrameOk K sc env s.heap ρ sl -> HR K σ ρ s.heap s.toks ->
   OutS K sc env sl' σ' fl s ρ Q -> wpAny (model prog w) A (exec x env) Q E s
theorem stores_sound {sc : Sc} {env : Env} {A : Around} {E : Value -> Shared -> Prop} {xs : List Expr} {is : List Nat} (hN : IsN sc xs is) : ∀ {ws : List Value} {vs : List V} {sl sl' : Slots} {σ : Sto}, setMany is vs sl = some sl' ->
  ∀ {s : Shared} {ρ : Gh} {Q : Unit -> Shared -> Prop}, FrameOk K sc env s.heap ρ sl -> HR K σ ρ s.heap s.toks -> VRs K s.heap ρ ws vs ->
  (∀ h' tk, FrameOk K sc env h' ρ sl' -> HR K σ ρ h' tk -> Ext K (own env) s.heap ρ h' ρ -> Q () { s with heap := h', toks := tk }) -> wpAny (model prog w) A (assignInOrder ((assignEach xs env).map (·.2)) ws) Q E s := by
 induction hN with
 | nil =>
  intro ws vs sl sl' σ e s ρ Q f H rs h
  cases rs with
  | nil => cases e; exact wpP (h s.heap s.toks f H (Ext.refl ..))
  | cons r rs => exfalso; exact nE e
 | @cons _ _ xs _ q _ ih =>
  intro ws vs sl sl' σ e s ρ Q f H rs h
  obtain ⟨x, p, rfl, g, hk⟩ := q
  cases rs with
  | nil => exfalso; exact nE e
  | @cons u us v vs r rs =>
   show wpAny (model prog w) A (holding us _ >>= fun J => assignInOrder ((assignEach xs env).map (·.2)) us) Q E s
   refine wpB (wpAny_holding (wpAny_assign_Name (yH f H g hk r fun h_1 tk_1 f_1 H_1 x_1 => ?_)))
   exact ih e (s := { s with heap := h_1, toks := tk_1 }) f_1 H_1 (rs.extX x_1 f.soft) fun h_2 tk_2 f_2 H_2 x_2 => h h_2 tk_2 f_2 H_2 (x_1.trans x_2)
theorem IsN.each {sc : Sc} (env : Env) {xs : List Expr} {is : List Nat} (h : IsN sc xs is) : (assignEach xs env).length = xs.length /\ (assignEach xs env).findIdx? (·.1) = none /\ xs.length = is.length := by
 induction h with
 | nil => exact ⟨rfl, rfl, rfl⟩
 | @cons _ _ xs _ q _ ih =>
  obtain ⟨x, p, rfl, _⟩ := q
  refine ⟨congrArg (· + 1) ih.1, ?_, congrArg (· + 1) ih.2.2⟩
  show List.findIdx? _ ((false, _) :: assignEach xs env) = none
  rw [List.findIdx?_cons, if_neg Bool.false_ne_true, ih.2.1]; rfl
theorem setMany_len : ∀ {is : List Nat} {vs : List V} {sl sl' : Slots}, setMany is vs sl = some sl' -> is.length = vs.length := by
 intro is; induction is with
 | nil => intro vs; cases vs with
  | nil => exact fun J => rfl
  | cons => exact nE
 | cons _ _ ih => intro vs; cases vs with
  | nil => exact nE
  | cons => exact fun e => congrArg (· + 1) (ih e)
end
end Mine
namespace Mine
open PySem PySem.W PySem.Calls PyProof.Rows
theorem swapped_names {env : Env} {x y nx ny : Str} {px py qx qy tp vp : Pos} {k k' : Nat} (hkf : env.scope.kind = .function) (hx : env.kindOf x = some .local) (hy : env.kindOf y = some .local) (hne : x ≠ y) (hl : (px.line == py.line) = true)
  (h1 : (nx == ("__debug__" : Str)) = false) (h2 : (ny == ("__debug__" : Str)) = false) :
  swappedStores [.Tuple [.Name x px, .Name y py] k tp] (.Tuple [.Name nx qx, .Name ny qy] k' vp) env = pure (some [x, y]) := by
 have hyx' : (y == x) = false := by simpa using Ne.symm hne
 have hl' : (py.line == px.line) = true := by rw [beq_iff_eq] at hl ⊢; exact hl.symm
 have hl2 : (px.line == px.line) = true := beq_self_eq_true _
 have hdup : ([x, y] : List Str).eraseDups = [x, y] := by simp [List.eraseDups_cons, hyx']
 have nm : ∀ f : Expr -> Option Str, (∀ x p, f (.Name x p) = if (env.kindOf x == some NameKind.local && p.line == px.line) = true then some x else none) -> List.filterMap f [.Name x px, .Name y py] = [x, y] := fun f hf => by
  rw [List.filterMap_cons_some (b := x) (by rw [hf, hx, hl2]; rfl), List.filterMap_cons_some (b := y) (by rw [hf, hy, hl']; rfl)]; rfl
 have hb : (env.blockKind != .function) = false := by delta Env.blockKind; rw [hkf]; rfl
 delta swappedStores
 dsimp only
 refine (if_neg ?_).trans ((if_neg ?_).trans ?_)
 ·show ¬ (env.blockKind != .function) = true
  rw [hb]; exact Bool.false_ne_true
 ·exact Bool.false_ne_true
 rw [nm _ fun J J => rfl]
 refine (if_neg ?_).trans ((if_neg Bool.false_ne_true).trans (if_neg ?_))
 ·rw [hdup]; exact Bool.false_ne_true
 ·show ¬ ((nx == ("__debug__" : Str)) && _) = true
  rw [h1]; exact Bool.false_ne_true
section
variable {K : Know} {prog : Program} {w : World} {n : Nat} {r : Rec}
theorem loop_keep {A : Around} {env : Env} {E : Value -> Shared -> Prop} {Q : Flow -> Shared -> Prop} {c : Code} {s : Shared} (h : ∀ R : Result -> Shared -> Prop, (∀ f s', Q f s' -> R (.ok f) s') -> codeAny (model prog w) A c R s) :
  codeAny (model prog w) A c (fun r s' => match r with | .ok f => Q f s' | .error e => cameBackBy (model prog w) A env E e s') s :=
 h _ fun f s' q => q
theorem step_sound (hE : SEval K prog w n r.eval) (hT : STest K prog w n r.test) (hX : SExec K prog w n r.exec) (hW : SWhil K prog w n r.whil)
  (hFor : ∀ {sc x xp iter b p i mi mb}, sc.vars[i]? = some x -> yM sc x -> yK iter = false -> IsE sc iter mi -> IsSs sc b mb -> SStep K prog w (n + 1) (stepF r) (.For (.Name x xp) iter b [] p) (.for_ i mi mb) sc)
  (hSetc : ∀ {sc x p' elt y yp iter scope cp p i me frees fs mi}, sc.vars[i]? = some x -> sc.names.lookup x = some .local -> (p'.line == cp.line) = true -> (scope.names.any fun (n, k) => n == x && (k == .local || k == .cell)) = false ->
   yK iter = false -> IsE sc iter mi -> CompOk sc y frees fs scope -> IsE ⟨relab sc scope.names, y :: fs, false⟩ elt me -> SStep K prog w (n + 1) (stepF r) (.Assign [.Name x p'] (.ListComp elt [⟨.Name y yp, iter, [], 0⟩] scope cp) p) (.set i (.comp me frees mi none)) sc)
  {sc : Sc} {x : Stmt} {m : MS} (hi : IsS sc x m) : SStep K prog w (n + 1) (stepF r) x m sc := by
 refine IsS.e (C := fun x m => SStep K prog w (n + 1) (stepF r) x m sc) hi ?set ?setc ?set2 ?swap ?unpack ?put ?aug ?expr ?ite ?whil ?for_ ?ret ?raise
 case set =>
  intro x p' value p i e g hk hc hv sl σ fl sl' σ' he A env s ρ E Q hA f H O
  have hA' := hA.mono (nLS n)
  refine obP he fun v σ_1 e1 he => ?_
  have O := O.of he
  refine wpAny_Assign_Name (hE hv e1 hA' f H fun u h_1 tk_1 ρ_1 H_1 x_1 r_1 => ?_) (swapsWith_false (hc.imp id fun q => (f.eo.kindOf _).trans q))
  exact yH (s := { s with heap := h_1, toks := tk_1 }) (f.ext H x_1) H_1 g hk r_1 fun h' tk f' H' e' => O .next _ _ _ f' H' (x_1.nil.trans e') trivial
 case setc => exact fun h1 h2 h3 h4 h5 h6 h7 h8 => hSetc h1 h2 h3 h4 h5 h6 h7 h8
 case set2 =>
  intro x p' y p'' value p i j e g hk g2 hk2 hc hv sl σ fl sl' σ' he A env s ρ E Q hA f H O
  have hA' := hA.mono (nLS n)
  refine obP he fun v σ_1 e1 he => ?_
  have O := O.of he
  refine wpAny_Assign_two (hE hv e1 hA' f H fun u h_1 tk_1 ρ_1 H_1 x_1 r_1 => ?_)
  refine wpAny_assign_Name (yH (s := { s with heap := h_1, toks := tk_1 }) (f.ext H x_1) H_1 g hk r_1 fun h_2 tk_2 f_2 H_2 x_2 => ?_)
  refine wpAny_assign_Name (yH (s := { s with heap := h_2, toks := tk_2 }) f_2 H_2 g2 hk2 (r_1.extX x_2 (f.ext H x_1).soft) fun h_3 tk_3 f_3 H_3 x_3 => ?_)
  exact O .next _ _ _ f_3 H_3 ((x_1.nil.trans x_2).trans x_3) trivial
 case swap =>
  intro x px y py k tp na qa nb qb k' vp p i j ma mb g1 g2 hk1 hk2 hne hl hna hnb hma hmb sl σ fl sl' σ' he A env s ρ E Q hA f H O
  have hA' := hA.mono (nLS n)
  refine obP he fun va σ_1 e1 he => obP he fun vb σ_2 e2 he => ?_
  have O := O.of he
  have hij : i ≠ j := fun q => hne (sI (g1.symm.trans ((congrArg (sc.vars[·]?) q).trans g2)))
  rw [exec_Assign_arm]
  refine wpB (wpAny_standAt ?_)
  rw [show swapsWithSole [.Tuple [.Name x px, .Name y py] k tp] (.Tuple [.Name na qa, .Name nb qb] k' vp) p.line env = pure false from rfl]
  refine wpB (wpP ?_)
  rw [if_neg (by decide), swapped_names f.eo.kind ((f.eo.kindOf _).trans hk1) ((f.eo.kindOf _).trans hk2) hne hl hna hnb]
  have hes : IsEs sc [.Name na qa, .Name nb qb] [ma, mb] := .cons hma (.cons hmb .nil)
  have ee : evals r.eval [ma, mb] sl σ = some ([va, vb], σ_2) := ob e1 (ob (ob e2 rfl) rfl)
  refine wpB (wpAny_Tuple ?_)
  rw [hes.trees]
  refine xL hE hA' hes ee f H fun ws h_1 tk_1 ρ_1 H_1 x_1 rs => ⟨?_, ?_⟩
  ·have : ws.length = 2 := rs.length; unfold sizeLine; exact wC this
  ·refine byC fun hG => ?_
   obtain ⟨ua, ub, rfl, ra, rb⟩ := rs.two
   obtain ⟨H_2, x_2⟩ := H_1.push { cls := .type "tuple", data := .seq #[ua, ub] }
   refine hG ?_
   refine wpB (wpP ?_)
   show wpAny (model prog w) A (rule "assign.swapped-stores" >>= fun J => unpackItems (.ref h_1.objs.size) (#[ua, ub] : Array Value).size none >>= fun items => assignInOrder [bindName env y, bindName env x] items.reverse >>= fun J => pure .next) Q E _
   refine wpB (wpAny_rule ?_)
   refine wpB (yB (wpAny_unpackItems_tuple (items := #[ua, ub]) hA.handled ⟨_, hPS _ rfl, rfl, _, rfl⟩ fun h_3 hx_3 hs_3 J => ?_))
   obtain ⟨H_3, x_3⟩ := H_2.keeps (h' := h_3) (fun b o q => hx_3 b o (nNL (hLS q)) q) hs_3
   show wpAny (model prog w) A ((holding [ua] (bindName env y ub) >>= fun J => holding [] (bindName env x ua) >>= fun J => pure ()) >>= fun J => pure .next) Q E _
   have F_3 : FrameOk K sc env h_3 ρ_1 sl := ((f.ext H x_1).ext H_1 x_2).ext H_2 x_3
   refine wpB (wpB (wpAny_holding (wpAny_bindName (yH (s := { s with heap := h_3, toks := tk_1 }) F_3 H_3 g2 (.inl hk2) (rb.ext (x_2.trans x_3)) fun h_4 tk_4 F_4 H_4 x_4 => ?_))))
   refine wpB (wpAny_holding (wpAny_bindName (yH (s := { s with heap := h_4, toks := tk_4 }) F_4 H_4 g1 (.inl hk1) ((ra.ext (x_2.trans x_3)).extX x_4 F_3.soft) fun h_5 tk_5 F_5 H_5 x_5 => ?_)))
   refine wpP (wpP ?_)
   have hsw : setSl (setSl sl j vb) i va = setSl (setSl sl i va) j vb := by unfold setSl; rw [List.set_comm _ _ hij.symm]
   rw [hsw] at F_5
   exact O .next _ _ _ F_5 H_5 (((x_1.trans x_2).trans x_3).nil.trans x_4 |>.trans x_5) trivial
 case unpack =>
  intro es k tp fx as kw vp p is e hN hv sl σ fl sl' σ' he A env s ρ E Q hA f H O
  have hA' := hA.mono (nLS n)
  refine obP he fun v σ_1 e1 he => ?_
  refine wpAny_Assign_stores (hE hv e1 hA' f H fun u h_1 tk_1 ρ_1 H_1 x_1 r_1 => ?_) rfl rfl
  show wpAny (model prog w) A (standAt tp >>= fun J => unpack u (assignEach es env)) _ E _
  refine tup_e r_1 he fun a items vs ht h1 h2 rs he => obE he fun sl_2 e2 he => ?_
  have O := O.of he
  refine wpB (wpAny_standAt ?_)
  unfold unpack
  obtain ⟨q1, q2, q3⟩ := hN.each env
  have hlen : (assignEach es env).length = items.size := by rw [q1, q3, setMany_len e2, rs.size]
  rw [q2, hlen]
  refine wpB (wpAny_holding (yB (wpAny_unpackItems_tuple hA.handled ht.isTuple fun h_2 hx_2 hs_2 J => ?_)))
  obtain ⟨H_2, x_2⟩ := H_1.keeps (h' := h_2) (fun b o q => hx_2 b o (nNL (hLS q)) q) hs_2
  refine stores_sound (s := { s with heap := h_2, toks := tk_1 }) hN e2 ((f.ext H x_1).ext H_1 x_2) H_2 (rs.ext x_2) fun h_3 tk_3 f_3 H_3 x_3 => ?_
  exact O .next _ _ _ f_3 H_3 ((x_1.nil.trans x_2.nil).trans x_3) trivial
 case put =>
  intro o i q value p mo mi e hsl hc hv ho hi' sl σ fl sl' σ' he A env s ρ E Q hA f H O
  have hA' := hA.mono (nLS n)
  refine obP he fun v σ_1 e1 he => obP he fun vo σ_2 e2 he => obP he fun vi σ_3 e3 he => ?_
  refine wpAny_Assign_Subscript (hE hv e1 hA' f H fun u h_1 tk_1 ρ_1 H_1 x_1 r_1 => ?_) (swapsWith_not hc)
  refine eval2 hE hA' ho hi' e2 e3 (s := { s with heap := h_1, toks := tk_1 }) (f.ext H x_1) H_1 fun uo ui h_2 tk_2 ρ_2 H_2 x_2 ro ri => ?_
  refine lst_e ro he fun k a ga he => yS ri he fun i t he => obE he fun xs e4 he => ifN he fun hcond he => ?_
  have O := O.of he
  obtain ⟨as, n', hn, hvs⟩ := HR.plain (s := { s with heap := h_2, toks := tk_2 }) H_2 ga e4 (oA hcond)
  have hsz := hvs.size
  have h63 : (2 : Int) ^ 63 = 9223372036854775808 := by decide
  refine setItem_plain (s := { s with heap := h_2, toks := tk_2 }) ⟨n', hn⟩ (by omega) (by rw [h63]; lia) (by omega) fun h_3 hp hsame => ?_
  obtain ⟨H_3, x_3⟩ := H_2.setL ga (oA hcond) hsame hp (vs := xs.set i.toNat v) (by
   rw [Array.toList_setIfInBounds]
   exact hvs.set (r_1.ext x_2) _)
  exact O .next _ _ _ (((f.ext H x_1).ext H_1 x_2).ext H_2 x_3) H_3 ((x_1.trans x_2).trans x_3).nil trivial
 case aug =>
  intro x p' op value p i o e g hk ho hv sl σ fl sl' σ' he A env s ρ E Q hA f H O
  have hA' := hA.mono (nLS n)
  refine obE he fun v e0 he => obP he fun v_1 σ_1 e1 he => ?_
  have ho := opOf_inv ho
  subst ho
  have hk' : sc.names.lookup x = some .local \/ isC (sc.names.lookup x) := hk.imp id .inl
  refine wpAny_AugAssign_Name (load_slot f g e0 hk' (fun q => by rcases hk with q' | q' <;> rw [q'] at q <;> cases q) fun old r_0 => hE hv e1 hA' f H fun u h_1 tk_1 ρ_1 H_1 x_1 r_1 => ?_)
  refine yS r_0 he fun a t_0 he => yS r_1 he fun b t_1 he => ?_
  by_cases h1 : o = .Add
  ·subst h1
   have O := O.of he
   refine iadd_int ?_
   exact yH (s := { s with heap := h_1, toks := tk_1 + 1 }) (f.ext H x_1) (H_1.mono qU) g hk (.int _ _) fun h' tk f' H' e' => O .next _ _ _ f' H' (x_1.nil.trans e') trivial
  ·rw [if_neg h1] at he
   refine ifE he fun h2 he => ?_
   subst h2
   have O := O.of he
   refine isub_int ?_
   exact yH (s := { s with heap := h_1, toks := tk_1 + 1 }) (f.ext H x_1) (H_1.mono qU) g hk (.int _ _) fun h' tk f' H' e' => O .next _ _ _ f' H' (x_1.nil.trans e') trivial
 case expr =>
  intro value p e hc hv sl σ fl sl' σ' he A env s ρ E Q hA f H O
  have hA' := hA.mono (nLS n)
  refine obP he fun v σ_1 e1 he => ?_
  refine wpAny_Expr (hE hv e1 hA' f H fun u h_1 tk_1 ρ_1 H_1 x_1 r_1 => ?_) (by unfold interactive; rw [f.eo.kind]; rfl) (swapsWith_not hc)
  refine none_e r_1 he fun he => ?_
  exact O.of he .next _ _ _ (f.ext H x_1) H_1 x_1.nil trivial
 case ite =>
  intro t b o p mt mb mo ht hb ho sl σ fl sl' σ' he A env s ρ E Q hA f H O
  have hA' := hA.mono (nLS n)
  refine obP he fun c σ_1 e1 he => wpAny_If (hT ht e1 hA' f H fun h_1 tk_1 ρ_1 H_1 x_1 => ?_)
  cases c with
  | true => exact hX hb he hA' (s := { s with heap := h_1, toks := tk_1 }) (f.ext H x_1) H_1 (O.after x_1.nil)
  | false => exact hX ho he hA' (s := { s with heap := h_1, toks := tk_1 }) (f.ext H x_1) H_1 (O.after x_1.nil)
 case whil =>
  intro t b p mt mb ht hb sl σ fl sl' σ' he A env s ρ E Q hA f H O
  have hA' := hA.mono (nLS n)
  refine wpAny_While (loop_keep fun R hR => ?_)
  exact hW ht hb he hA' f H fun f' h' tk ρ' F H' e q => hR _ _ (O f' h' tk ρ' F H' e q)
 case for_ => exact fun h1 h2 h3 h4 h5 => hFor h1 h2 h3 h4 h5
 case ret =>
  intro value p e hv sl σ fl sl' σ' he A env s ρ E Q hA f H O
  have hA' := hA.mono (nLS n)
  refine obP he fun v σ_1 e1 he => ?_
  have O := O.of he
  refine wpAny_Return_some (hE hv e1 hA' f H fun u h_1 tk_1 ρ_1 H_1 x_1 r_1 => ?_)
  exact O (.ret u) h_1 tk_1 ρ_1 (f.ext H x_1) H_1 x_1.nil r_1
 case raise => intro a b p sl σ fl sl' σ' he; exact nE he
theorem exec_sound (hS : ∀ {sc x m}, IsS sc x m -> SStep K prog w n (stepF r) x m sc) : SExec K prog w n (execF r) := by
 intro sc xs ms sl σ fl sl' σ' hi
 revert sl σ fl sl' σ'
 induction hi with
 | nil =>
  intro sl σ fl sl' σ' he A env s ρ E Q hA f H O
  exact wpAny_execs_nil (stOf he O .next s.heap s.toks ρ f H (Ext.refl ..) trivial)
 | cons hx _ ih =>
  intro sl σ fl sl' σ' he A env s ρ E Q hA f H O
  refine obE he fun ⟨fl_1, sl_1, σ_1⟩ e1 he => wpAny_execs_cons (hS hx e1 hA f H fun f' h_1 tk_1 ρ_1 F_1 H_1 x_1 q => ?_)
  revert he
  refine flow_e q (fun he => ?_) fun u v q he => ?_
  ·exact ih he hA (s := { s with heap := h_1, toks := tk_1 }) F_1 H_1 fun f'' h' tk ρ' F H' e q => O f'' h' tk ρ' F H' (x_1.trans e) q
  ·exact stOf he O _ h_1 tk_1 ρ_1 F_1 H_1 x_1 q
end
end Mine
namespace Mine
open PySem PySem.W PySem.Calls PyProof.Rows
section
variable {K : Know} {prog : Program} {w : World} {A : Around} {E : Value -> Shared -> Prop} {s : Shared} {σ : Sto} {ρ : Gh}
theorem soft_fields {o : Obj} {ty : String} {vs : Array Value} (hc : o.cls = .type ty) (hd : o.data = .fields vs) (h1 : ty ≠ "range") (h2 : ∀ x t, vs[1]? ≠ some (.str x t)) : Soft o :=
 ⟨.inr (by simp [hd]), .inl (by rw [hc]; intro q; cases q; exact h1 rfl), fun vs' x t q => by rw [hd] at q; cases q; exact h2 x t⟩
theorem IterAt.soft {h : Heap} {it : Addr} {v : V} {i : Nat} (I : IterAt K h ρ it v i) : ∀ a ∈ [it], ∀ o, h.get? a = some o -> Soft o := by
 intro a ha o ho
 simp at ha; subst ha
 have m : ∀ {c : String} {vs : Array Value}, c ≠ "range" -> (∀ x t, vs[1]? ≠ some (.str x t)) -> (∃ o', h.get? a = some o' /\ o'.cls = .type c /\ o'.data = .fields vs) -> Soft o := fun n1 n2 hit => by
  obtain ⟨o', ho', hc, hd⟩ := hit; rw [ho] at ho'; cases ho'; exact soft_fields hc hd n1 n2
 exact IterAt.casesOn (motive := fun J J J => Soft o) I (fun J J J J hit => m (by decide) (by simp) hit) (fun J J J J J J J J J hit => m (by decide) (by simp) hit)
  (fun J J J J J J hit => by unfold IsRangeIter at hit; rw [ho] at hit; cases hit; exact soft_fields rfl rfl (by decide) (by simp [rawInt])) (fun J J J J hit => m (by decide) (by simp) hit)
theorem IterAt.lt {h : Heap} {it : Addr} {v : V} {i : Nat} (I : IterAt K h ρ it v i) : it < h.objs.size := by
 have m : ∀ {P : Obj -> Prop}, (∃ o', h.get? it = some o' /\ P o') -> it < h.objs.size := fun hit => by obtain ⟨J, g, J⟩ := hit; exact hLS g
 exact IterAt.casesOn (motive := fun J J J => it < h.objs.size) I (fun J J J J hit => m hit) (fun J J J J J J J J J hit => m hit) (fun J J J J J J hit => hLS hit) (fun J J J J hit => m hit)
theorem IterAt.extX {X : List Addr} {h h' : Heap} {ρ' : Gh} {it : Addr} {v : V} {i : Nat} (I : IterAt K h ρ it v i) (e : Ext K X h ρ h' ρ') (hX : ∀ a ∈ X, ∀ o, h.get? a = some o -> Soft o) (h1 : it ∉ ρ.l) (h2 : it ≠ K.P) (h3 : it ∉ X) : IterAt K h' ρ' it v i := by
 have kp : ∀ o, h.get? it = some o -> h'.get? it = some o := fun o q => e.keep it o h1 h2 h3 q
 have m : ∀ {P : Obj -> Prop}, (∃ o', h.get? it = some o' /\ P o') -> ∃ o', h'.get? it = some o' /\ P o' := fun hit => by obtain ⟨o', g, r⟩ := hit; exact ⟨o', kp _ g, r⟩
 refine IterAt.casesOn (motive := fun v i J => IterAt K h' ρ' it v i) I (fun k l i g hit => .lst k l i (e.get g) (m hit)) (fun l items vs i ht q1 q2 q3 q4 hit => ?_) (fun x y st i q1 q2 hit => .rng x y st i q1 q2 (kp _ hit)) (fun x t i q1 hit => .str x t i q1 (m hit))
 obtain ⟨n, hn⟩ := id ht
 exact .tup l items vs i ⟨n, e.keep _ _ q1 q2 (fun hx => (hX _ hx _ hn).1.elim (fun q => q rfl) fun q => q _ _ rfl) hn⟩ (e.mem q1 (hLS hn)) q2 q3 (q4.extX e hX) (m hit)
theorem iter_sound {v : V} {u : Value} {o : Option V} {Q : Value -> Shared -> Prop} (e : zV σ v 0 = some o) (H : HR K σ ρ s.heap s.toks) (rv : VR K s.heap ρ u v)
  (h : ∀ it h' tk, HR K σ ρ h' tk -> Ext K [] s.heap ρ h' ρ -> IterAt K h' ρ it v 0 -> it ∉ ρ.l -> K.base.objs.size <= it -> s.heap.objs.size <= it -> Q (.ref it) { s with heap := h', toks := tk }) : wpAny (model prog w) A (pyIter u) Q E s := by
 refine VR.casesOn (motive_1 := fun u v J => zV σ v 0 = some o -> (∀ it h' tk, HR K σ ρ h' tk -> Ext K [] s.heap ρ h' ρ -> IterAt K h' ρ it v 0 -> it ∉ ρ.l -> K.base.objs.size <= it -> s.heap.objs.size <= it -> Q (.ref it) { s with heap := h', toks := tk }) -> wpAny (model prog w) A (pyIter u) Q E s) rv (fun e J => nE e) (fun J e J => nE e) (fun J J e J => nE e) (fun J J J J e J => nE e) ?str ?tup ?lst ?rng (fun J J J e J => nE e) e h
 case lst =>
  intro k a g e h
  refine obE e fun xs hx e => ?_
  obtain ⟨as, hl, J, J⟩ := H.lists _ _ _ g hx
  refine wpAny_pyIter_list hl ?_
  obtain ⟨H', x⟩ := H.push { cls := .type "list_iterator", data := .fields #[.ref a, .int 0 0] }
  exact h _ _ s.toks H' x (.lst k a 0 g ⟨_, hPS _ rfl, rfl, rfl⟩) H.fresh H.big qR
 case rng =>
  intro r a b st t u' v' hr h1 h2 e h
  refine ifE e fun hc e => ?_
  refine wpAny_pyIter_range hr (range_small hc.1 hc.2.1 hc.2.2.1 hc.2.2.2) ?_
  rw [wI hc.1]
  obtain ⟨H', x⟩ := H.push { cls := .type "range_iterator", data := .fields #[rawInt a, rawInt (yO a b st : Int), rawInt st] }
  refine h _ _ s.toks H' x (.rng a b st 0 hc.1 qZ ?_) H.fresh H.big qR
  have e1 : a + ((0 : Nat) : Int) * st = a := by simp
  have e2 : (yO a b st : Int) - ((0 : Nat) : Int) = (yO a b st : Int) := by exact Int.natCast_add _ _
  rw [e1, e2]
  exact hPS _ rfl
 case tup =>
  intro a items vs ht h1 h2 rs e h
  refine wpAny_pyIter_tuple ht.isTuple ?_
  obtain ⟨H', x⟩ := H.push { cls := .type "tuple_iterator", data := .fields #[.ref a, .int 0 0] }
  obtain ⟨n, hn⟩ := id ht
  exact h _ _ s.toks H' x (.tup a items vs 0 ⟨n, hPO _ hn⟩ h1 h2 (nNL (hLS hn)) (rs.ext x) ⟨_, hPS _ rfl, rfl, rfl⟩) H.fresh H.big qR
 case str =>
  intro x t e h
  refine ifE e fun hall e => ?_
  have ha : x.cps.all (· < 128) = true := by simpa using hall
  refine wpAny_pyIter_ascii ha ?_
  obtain ⟨H', x'⟩ := H.push { cls := .type "str_ascii_iterator", data := .fields #[.str x t, .int 0 0] }
  exact h _ _ s.toks H' x' (.str x t 0 ha ⟨_, hPS _ rfl, rfl, rfl⟩) H.fresh H.big qR
noncomputable def NextTo (K : Know) (ρ : Gh) (it : Addr) (v : V) (i : Nat) (Q : Option Value -> Shared -> Prop) (s : Shared) (h' : Heap) (tk : Tok) : Option V -> Prop
 | none => Q none { s with heap := h', toks := tk }
 | some y => ∀ u, VR K h' ρ u y -> IterAt K h' ρ it v (i + 1) -> Q (some u) { s with heap := h', toks := tk }
theorem next_sound {v : V} {i : Nat} {it : Addr} {o : Option V} {Q : Option Value -> Shared -> Prop} (hh : A.handled = none) (e : zV σ v i = some o) (H : HR K σ ρ s.heap s.toks) (I : IterAt K s.heap ρ it v i) (h1 : it ∉ ρ.l) (h2 : K.base.objs.size <= it)
  (h : ∀ h' tk, HR K σ ρ h' tk -> Ext K [it] s.heap ρ h' ρ -> NextTo K ρ it v i Q s h' tk o) : wpAny (model prog w) A (pyNext (.ref it)) Q E s := by
 have soft := I.soft
 have step : ∀ {h'}, (∀ b o, b ≠ it -> s.heap.get? b = some o -> h'.get? b = some o) -> s.heap.objs.size <= h'.objs.size -> HR K σ ρ h' s.toks /\ Ext K [it] s.heap ρ h' ρ := fun k hs =>
  H.step (X := [it]) (fun b o hb q => k b o (by simpa using hb) q) hs (by simpa using ⟨h1, h2⟩) soft
 refine IterAt.casesOn (motive := fun v i J => zV σ v i = some o -> (∀ h' tk, HR K σ ρ h' tk -> Ext K [it] s.heap ρ h' ρ -> NextTo K ρ it v i Q s h' tk o) -> wpAny (model prog w) A (pyNext (.ref it)) Q E s) I (fun k l i g hit e h => ?_) (fun l items vs i ht q1 q2 q3 rs hit e h => ?_) (fun a b st i q1 q2 hit e h => ?_) (fun x t i hx hit e h => ?_) e h
 ·refine obE e fun xs hx e => ?_
  revert h
  refine sE e fun h => ?_
  obtain ⟨as, hl, J, rs⟩ := H.lists _ _ _ g hx
  have hsz := rs.size
  cases hy : xs[i]? with
  | none =>
   rw [hy] at h
   have : as[i]? = none := by
    have := List.getElem?_eq_none_iff.mp hy
    exact Array.getElem?_eq_none (eC hsz this)
   refine yB (wpAny_pyNext_list_end hh hit hl this fun h' hx' hs J => ?_)
   obtain ⟨H', x⟩ := step (h' := h') (fun b o hb q => hx' b o hb q) hs
   exact h h' s.toks H' x
  | some y =>
   rw [hy] at h
   obtain ⟨u, hu, ru⟩ := rs.get hy
   refine wpAny_pyNext_list_item hit hl (by simpa using hu) fun h' hit' hs' => ?_
   obtain ⟨H', x⟩ := step (h' := h') (fun b o hb q => (hs'.2 b hb).trans q) (qE hs'.1.symm)
   exact h h' s.toks H' x u (ru.extX x soft) (.lst k l _ g hit')
 ·revert h
  refine sE e fun h => ?_
  have hsz := rs.size
  cases hy : vs[i]? with
  | none =>
   rw [hy] at h
   have : items[i]? = none := by
    have := List.getElem?_eq_none_iff.mp hy
    exact Array.getElem?_eq_none (eC hsz this)
   refine yB (wpAny_pyNext_tuple_end hh hit ht.isTuple this fun h' hx' hs J => ?_)
   obtain ⟨H', x⟩ := step (h' := h') (fun b o hb q => hx' b o hb q) hs
   exact h h' s.toks H' x
  | some y =>
   rw [hy] at h
   obtain ⟨u, hu, ru⟩ := rs.get hy
   refine wpAny_pyNext_tuple_item hit ht.isTuple (by simpa using hu) fun h' hit' hs' => ?_
   obtain ⟨H', x⟩ := step (h' := h') (fun b o hb q => (hs'.2 b hb).trans q) (qE hs'.1.symm)
   obtain ⟨n, hn⟩ := id ht
   exact h h' s.toks H' x u (ru.extX x soft) (.tup l items vs _ ⟨n, (hs'.2 l q3).trans hn⟩ q1 q2 q3 (rs.extX x soft) hit')
 ·refine ifE e fun hc e => ?_
  ·by_cases hlt : i < yO a b st
   ·rw [if_pos hlt] at e
    revert h
    refine sE e fun h => ?_
    refine wpAny_pyNext_range_item hit (by lia) fun h' hit' hs' => ?_
    obtain ⟨H', x⟩ := step (h' := h') (fun b o hb q => (hs'.2 b hb).trans q) (qE hs'.1.symm)
    refine h h' (s.toks + 1) (H'.mono qU) x _ (.int _ _) (.rng a b st _ q1 hlt ?_)
    have e1 : a + ((i + 1 : Nat) : Int) * st = a + (i : Int) * st + st := by push_cast; rw [Int.add_mul]; lia
    have e2 : (yO a b st : Int) - ((i + 1 : Nat) : Int) = (yO a b st : Int) - (i : Int) - 1 := by lia
    rw [e1, e2]
    exact hit'
   ·rw [if_neg hlt] at e
    revert h
    refine sE e fun h => ?_
    refine yB (wpAny_pyNext_range_end hh hit (by lia) fun h' hx' hs J => ?_)
    obtain ⟨H', x⟩ := step (h' := h') (fun b o hb q => hx' b o hb q) hs
    exact h h' s.toks H' x
 ·have hall : (x.cps.toList.all (· < 128)) = true := by simpa using hx
  revert h
  refine sE ((if_pos hall).symm.trans e) fun h => ?_
  cases hy : x.cps.toList[i]? with
  | none =>
   rw [hy] at h
   refine yB (wpAny_pyNext_ascii_end hh hit (by simpa using hy) fun h' hx' hs J => ?_)
   obtain ⟨H', x'⟩ := step (h' := h') (fun b o hb q => hx' b o hb q) hs
   exact h h' s.toks H' x'
  | some c =>
   rw [hy] at h
   refine wpAny_pyNext_ascii_item hit (c := c) (by simpa using hy) fun h' hit' hs' => ?_
   obtain ⟨H', x'⟩ := step (h' := h') (fun b o hb q => (hs'.2 b hb).trans q) (qE hs'.1.symm)
   exact h h' (s.toks + 1) (H'.mono qU) x' _ (.str ⟨#[c]⟩ _) (.str x t _ hx hit')
end
section
variable {K : Know} {prog : Program} {w : World} {A : Around} {R : Result -> Shared -> Prop} {s : Shared}
theorem while_step {test : Expr} {body orelse : List Stmt} {env : Env}
  (h : wpAny (model prog w) A (isTrue test env (eval test env)) (fun b s_2 =>
    if b then wpAny (model prog w) A (execs body env) (fun f s_3 => match f with
      | .next | .cont => codeAny (model prog w) A (.whileLoop test body orelse env) R s_3
      | .brk => R (.ok .next) s_3
      | .ret v => R (.ok (.ret v)) s_3) (notedBy (model prog w) A env fun e s' => R (.error e) s') s_2
    else wpAny (model prog w) A (execs orelse env) (fun f s_3 => R (.ok f) s_3) (notedBy (model prog w) A env fun e s' => R (.error e) s') s_2)
    (notedBy (model prog w) A env fun e s' => R (.error e) s') s) : codeAny (model prog w) A (.whileLoop test body orelse env) R s := by
 refine codeAny_of_tree ?_
 show wpAny _ A ((whileTurn test body orelse env).onRaise (fun x => do noteFrame x env; theTreesLotGoes x)) _ _ s
 refine wpAny_noted ?_
 refine wpB (wpAny_mono h (fun b s_2 h_2 => ?_) fun J J h' => h')
 cases b with
 | false =>
  exact wpB (wpAny_mono h_2 (fun f s_3 h_3 => wpP h_3) fun J J h' => h')
 | true =>
  refine wpB (wpAny_mono h_2 (fun f s_3 h_3 => ?_) fun J J h' => h')
  cases f with
  | next => exact wpP ⟨rfl, h_3⟩
  | cont => exact wpP ⟨rfl, h_3⟩
  | brk => exact wpP h_3
  | ret v => exact wpP h_3
theorem for_step {target : Expr} {it : Value} {body orelse : List Stmt} {env : Env}
  (h : wpAny (model prog w) A (pyNext it) (fun r s_1 => match r with
   | none => wpAny (model prog w) A (execs orelse env) (fun f s_3 => R (.ok f) s_3) (notedBy (model prog w) A env fun e s' => R (.error e) s') s_1
   | some v => wpAny (model prog w) A (assign target env v) (fun J s_2 => wpAny (model prog w) A (execs body env) (fun f s_3 => match f with
     | .next | .cont => codeAny (model prog w) A (.forLoop target it body orelse env) R s_3
     | .brk => R (.ok .next) s_3
     | .ret v => R (.ok (.ret v)) s_3) (notedBy (model prog w) A env fun e s' => R (.error e) s') s_2) (notedBy (model prog w) A env fun e s' => R (.error e) s') s_1) (notedBy (model prog w) A env fun e s' => R (.error e) s') s)
  (ht : ∀ v, letOwnedTupleGo target it v = pure () := by intro _; rfl) : codeAny (model prog w) A (.forLoop target it body orelse env) R s := by
 refine codeAny_of_tree ?_
 show wpAny _ _ ((forTurn target it body orelse env).onRaise (fun x => do noteFrame x env; theTreesLotGoes x)) _ _ s
 refine wpAny_noted ?_
 refine wpB (wpAny_standAt (wpB (wpAny_onRaise (wpAny_mono h (fun r s_1 h_1 => ?_) fun J J h' => wpAny_standAt h'))))
 cases r with
 | none => exact wpP ⟨rfl, codeAny_block h_1⟩
 | some v =>
  refine wpB (wpAny_of_eq (ht v) ?_)
  refine wpB (wpAny_mono h_1 (fun J s_2 h_2 => wpB (wpAny_mono h_2 (fun f s_3 h_3 => ?_) fun J J h' => h')) fun J J h' => h')
  cases f with
  | next => exact wpP ⟨rfl, h_3⟩
  | cont => exact wpP ⟨rfl, h_3⟩
  | brk => exact wpP h_3
  | ret v => exact wpP h_3
end
section
variable {K : Know} {prog : Program} {w : World} {n : Nat} {r : Rec}
theorem whil_sound (hT : STest K prog w n r.test) (hX : SExec K prog w n r.exec) (hW : SWhil K prog w n r.whil) : SWhil K prog w (n + 1) (whilF r) := by
 intro sc t xs mt ms sl σ fl sl' σ' ht hs he A env s ρ R hA f H O
 have hA' := hA.mono (nLS n)
 refine obP he fun c σ_1 e1 he => ?_
 refine while_step (hT ht e1 hA' f H fun h_1 tk_1 ρ_1 H_1 x_1 => ?_)
 cases c with
 | false =>
  exact wpAny_execs_nil (stOf (R := fun f s => R (.ok f) s) he O .next h_1 tk_1 ρ_1 (f.ext H x_1) H_1 x_1.nil trivial)
 | true =>
  refine obE he fun ⟨fl_2, sl_2, σ_2⟩ e2 he => ?_
  refine hX hs e2 hA' (s := { s with heap := h_1, toks := tk_1 }) (f.ext H x_1) H_1 fun f' h_2 tk_2 ρ_2 F_2 H_2 x_2 q => ?_
  revert he
  refine flow_e q (fun he => ?_) fun u v q he => ?_
  ·exact hW ht hs he hA' (s := { s with heap := h_2, toks := tk_2 }) F_2 H_2 fun f'' h' tk ρ' F H' e q => O f'' h' tk ρ' F H' ((x_1.nil.trans x_2).trans e) q
  ·exact stOf (R := fun f s => R (.ok f) s) he O _ h_2 tk_2 ρ_2 F_2 H_2 (x_1.nil.trans x_2) q
theorem forr_sound (hX : SExec K prog w n r.exec) (hR : SForr K prog w n r.forr) : SForr K prog w (n + 1) (forF r) := by
 intro sc x xp k v i xs ms sl σ fl sl' σ' g hk hs he A env s ρ R it hA f H I h1 h2 h3 O
 have hA' := hA.mono (nLS n)
 refine obE he fun o e1 he => ?_
 have soft := I.soft
 have hne := H.neP_of_new h2
 refine for_step (next_sound hA.handled e1 H I h1 h2 fun h_1 tk_1 H_1 x_1 => ?_)
 have F_1 : FrameOk K sc env h_1 ρ sl := f.extX H x_1 soft (by simpa using h3)
 cases o with
 | none =>
  exact wpAny_execs_nil (stOf (R := fun f s => R (.ok f) s) he O .next h_1 tk_1 ρ F_1 H_1 (x_1.mono (by simp)) trivial)
 | some y =>
  intro u ru I_1
  refine obE he fun ⟨fl_2, sl_2, σ_2⟩ e2 he => ?_
  refine wpAny_assign_Name (yH (s := { s with heap := h_1, toks := tk_1 }) F_1 H_1 g hk ru fun h_2 tk_2 F_2 H_2 x_2 => ?_)
  have I_2 := I_1.extX x_2 F_1.soft h1 hne h3
  refine hX hs e2 hA' (s := { s with heap := h_2, toks := tk_2 }) F_2 H_2 fun f' h_3 tk_3 ρ_3 F_3 H_3 x_3 q => ?_
  have x13 : Ext K (it :: own env) s.heap ρ h_3 ρ_3 := ((x_1.mono (by simp)).trans (x_2.mono fun a ha => mT _ ha)).trans (x_3.mono fun a ha => mT _ ha)
  revert he
  refine flow_e q (fun he => ?_) fun u v q he => ?_
  ·have I_3 := I_2.extX x_3 F_2.soft h1 hne h3
   have h1' : it ∉ ρ_3.l := x_3.mem h1 I_2.lt
   exact hR g hk hs he hA' (s := { s with heap := h_3, toks := tk_3 }) F_3 H_3 I_3 h1' h2 h3 fun f'' h' tk ρ' F H' e q => O f'' h' tk ρ' F H' (x13.trans e) q
  ·exact stOf (R := fun f s => R (.ok f) s) he O _ h_3 tk_3 ρ_3 F_3 H_3 x13 q
theorem xQ {iter : Expr} (h : yK iter = false) (env : Env) (x : Value) : foldedSetIterable iter env x = pure x := by
 cases iter <;> first | rfl | exact tE h
theorem for_stmt (hE : SEval K prog w n r.eval) (hR : SForr K prog w n r.forr) {sc x xp iter b p i mi mb} (g : sc.vars[i]? = some x) (hk : yM sc x) (hset : yK iter = false) (hi : IsE sc iter mi) (hb : IsSs sc b mb) :
  SStep K prog w (n + 1) (stepF r) (.For (.Name x xp) iter b [] p) (.for_ i mi mb) sc := by
 intro sl σ fl sl' σ' he A env s ρ E Q hA f H O
 have hA' := hA.mono (nLS n)
 refine obP he fun v σ_1 e1 he => ?_
 refine obE he fun o e2 he => ?_
 refine wpAny_For (hE hi e1 hA' f H fun u h_1 tk_1 ρ_1 H_1 x_1 r_1 => ?_) (xQ hset env)
 refine iter_sound (s := { s with heap := h_1, toks := tk_1 }) e2 H_1 r_1 fun it h_2 tk_2 H_2 x_2 I h1 h2 h3 => ?_
 have F_1 := f.ext H x_1
 refine loop_keep fun R hR' => ?_
 refine hR g hk hb he hA' (s := { s with heap := h_2, toks := tk_2 }) (F_1.ext H_1 x_2) H_2 I h1 h2 (fun hm => absurd (F_1.lt _ hm) (qK h3)) fun f' h' tk ρ' F H' e q => ?_
 refine hR' _ _ (O f' h' tk ρ' F H' (((x_1.trans x_2).nil.trans e).weaken fun a ha => ?_) q)
 rcases mC.mp ha with rfl | ha
 ·exact .inr (qT x_1.size h3)
 ·exact .inl ha
end
end Mine
set_option maxRecDepth 100000
namespace Mine
open PySem PySem.W PySem.Calls PyProof.Rows
noncomputable def allF : List F := [.insortR, .bisectR, .insortL, .bisectL, .hls, .hsv, .rgb, .quote, .subst, .lev, .value, .light, .read, .due, .law]
theorem allF_mem (f : F) : f ∈ allF := by cases f <;> decide
noncomputable def ckNames (f : F) : Bool :=
 (z8 f).all (fun x => (dsc f).2.2.names.lookup x == some .local || f == .law) && (dsc f).2.2.names.all (fun p => (p.2 != .cell && p.2 != .free) || f == .law) &&
 decide (z8 f).Nodup && decide ((z8 f).length = nSlots f) && decide (nArgs f <= nSlots f) &&
 (dsc f).2.2.isCoroutine == false && (dsc f).2.2.isGenerator == false && (dsc f).2.2.kind == .function
set_option maxHeartbeats 0 in
theorem names_ok : allF.all ckNames = true := by decide +kernel
noncomputable abbrev FnGoodatF (K : Know) (f : F) : Prop := ∃ o fd, K.base.get? (K.fa f) = some o /\ o.data = .func fd /\ fd.body = .stmts (dsc f).2.1 /\ fd.scope = (dsc f).2.2 /\ fd.globals = mainGlobals /\ fd.builtins = builtinsNs /\ fd.closure = [] /\ (∃ c, fd.code = .ref c /\ c ≠ K.P) /\ K.base.CodeRec fd.code fd.qualname /\ (∀ s : Shared, (∀ b o, b ≠ K.P -> K.base.get? b = some o -> s.heap.get? b = some o) -> (kwF f = false -> ∀ ws : List Value, ws.length = nArgs f -> BindsTo s fd ⟨ws, []⟩ (((z8 f).take (nArgs f)).zip ws)) /\ (f = .insortR \/ f = .insortL -> ∃ t, ∀ wa wx wk : Value, BindsTo s fd ⟨[wa, wx], [(oQ "key", wk)]⟩ (((z8 f).take (nArgs f)).zip [wa, wx, .int 0 t, .none, wk])) /\ (f = .bisectR \/ f = .bisectL -> ∀ wa wx wl wh wk : Value, BindsTo s fd ⟨[wa, wx, wl, wh], [(oQ "key", wk)]⟩ (((z8 f).take (nArgs f)).zip [wa, wx, wl, wh, wk])))
structure FnGood (K : Know) (f : F) : Prop where
 ne : K.fa f ≠ K.P
 at_ : FnGoodatF K f
theorem FnGood.fns {K : Know} (h : ∀ f, FnGood K f) : FnsOk K := fun f => ⟨(h f).ne, (h f).at_.imp fun J => Exists.imp fun J q => ⟨q.1, q.2.1⟩⟩
theorem body_is (f : F) : IsSs (scOf f) (dsc f).2.1 (bodyOf f) := by
 have := aT.mp body_ok f (allF_mem f)
 exact ckSs_spec this
section
variable {K : Know} {prog : Program} {w : World} {n : Nat} {r : Rec}
theorem nolimit_at {σ ρ h tk} (k : KOk K) (H : HR K σ ρ h tk) : h.NoLimit := by
 obtain ⟨m, hn, hk⟩ := k.nolimit
 exact ⟨m, hn.at' (fun o e => H.base _ o k.staticsNe e), hk⟩
theorem lookup_zip_reverse {xs : List Str} (hnd : xs.Nodup) {ws : List Value} (hl : xs.length = ws.length) {i : Nat} {x : Str} (h : xs[i]? = some x) : (xs.zip ws).reverse.lookup x = ws[i]? := by
 have hi := (gSI.mp h).1
 have hw : i < ws.length := by exact qA hi (qE hl)
 have hmem : (x, ws[i]) ∈ (xs.zip ws).reverse := by
  rw [List.mem_reverse, List.mem_iff_getElem?]
  exact ⟨i, by rw [List.getElem?_zip_eq_some]; exact ⟨h, by exact gEG hw⟩⟩
 have uniq : ∀ v, (x, v) ∈ (xs.zip ws).reverse -> v = ws[i] := fun v hv => by
  rw [List.mem_reverse, List.mem_iff_getElem?] at hv
  obtain ⟨j, hj⟩ := hv
  rw [List.getElem?_zip_eq_some] at hj
  have : j = i := (List.getElem?_inj (gSI.mp hj.1).1 hnd).mp (hj.1.trans h.symm)
  subst this
  have := hj.2
  simp [hw] at this
  exact this.symm
 have main : ∀ l : List (Str × Value), (x, ws[i]) ∈ l -> (∀ v, (x, v) ∈ l -> v = ws[i]) -> l.lookup x = some ws[i] := by
  intro l
  induction l with
  | nil => intro h; simp at h
  | cons p l ih =>
   obtain ⟨y, v⟩ := p
   intro h1 h2
   by_cases hy : x = y
   ·subst hy
    simp [h2 v (by simp)]
   ·rw [List.lookup_cons, show (x == y) = false by simpa using hy]
    refine ih ?_ fun v hv => h2 v (mT _ hv)
    rcases mC.mp h1 with q | q
    ·cases q; exact absurd rfl hy
    ·exact q
 rw [main _ hmem uniq]
 exact Eq.symm (gEG hw)
theorem xU (hX : SExec K prog w n r.exec) (k : KOk K) (G : ∀ f, FnGood K f) {f : F} (hf : f ≠ .law) {vs : List V} {σ σ' : Sto} {v : V} (e : callF r f vs σ = some (v, σ')) {ws : List Value} {args : Args} {A : Around} {s : Shared} {ρ : Gh} {E : Value -> Shared -> Prop} {Q : Value -> Shared -> Prop}
  (hA : OkA A (n + 1)) (H : HR K σ ρ s.heap s.toks) (rs : VRs K s.heap ρ ws vs) (hb : ∀ o fd, K.base.get? (K.fa f) = some o -> o.data = .func fd -> BindsTo s fd args (((z8 f).take (nArgs f)).zip ws))
  (O : Out K σ' s ρ (fun h' ρ' u => VR K h' ρ' u v) Q) : wpAny (model prog w) A (call (.ref (K.fa f)) args.pos args.kw) Q E s := by
 have nm := aT.mp names_ok f (allF_mem f)
 simp only [ckNames, Bool.and_eq_true, decide_eq_true_eq, beq_iff_eq] at nm
 refine byC fun hG => ?_
 obtain ⟨⟨⟨⟨⟨⟨⟨nm1, nm2⟩, nm3⟩, nm4⟩, nm5⟩, nm6⟩, nm7⟩, nm8⟩ := nm
 refine hG ?_
 have nm1' : ∀ x ∈ z8 f, (dsc f).2.2.names.lookup x = some .local := fun x hx => by
  have := aT.mp nm1 x hx
  simpa [hf] using this
 have nm2' : ∀ p ∈ (dsc f).2.2.names, p.2 ≠ .cell /\ p.2 ≠ .free := fun p hp => by
  have := aT.mp nm2 p hp
  simpa [hf] using this
 refine ifE e fun hlen e => obE e fun ⟨fl, sl', σ_1⟩ e1 e => ?_
 refine byC fun hG => ?_
 obtain ⟨o, fd, ho, hd, hbody, hscope, hglob, hbui, hclo, ⟨c, hc, hcP⟩, hcr, J⟩ := (G f).at_
 refine hG ?_
 have ho' := H.base _ _ (G f).ne ho
 have hcr' : s.heap.CodeRec fd.code fd.qualname := by
  rw [hc] at hcr ⊢
  exact hcr.at fun o q => H.base _ o hcP q
 have hwl : ws.length = nArgs f := by rw [rs.length, hlen]
 have hlen' : ((z8 f).take (nArgs f)).length = ws.length := by rw [List.length_take, nm4, hwl]; exact Nat.min_eq_left nm5
 refine wpAny_call (codeAny_call_def (by have := hA.depth; exact pD this) ho' hd (nolimit_at k H) hcr' hbody (hb o fd ho hd) ?_ ?_ ?_ (by rw [hscope]; exact nm6) (by rw [hscope]; exact nm7) (by rw [hscope]; exact nm8))
 ·intro x hx
  rw [hscope] at hx
  exact (nm2' x hx).1
 ·intro x hx
  rw [hscope]
  exact nm1' _ (List.mem_of_mem_take (List.of_mem_zip hx).1)
 ·intro h_0 hns hkeep
  have hsz : s.heap.objs.size <= h_0.objs.size := qW hns.lt
  obtain ⟨H_0, x_0⟩ := H.keeps hkeep hsz
  have fr : FrameOk K (scOf f) (callEnv fd s.heap.objs.size (K.fa f)) h_0 ρ (vs.map some ++ lQ (nSlots f - nArgs f) none) := by
   refine ⟨⟨?_, ?_, hglob, hbui, fun q => ?_⟩, ⟨_, hns, fun i x g hk => ?_⟩, fun i x g hk => ?_, H.fresh, H.big, fun x y c q => ?_, nm3, ?_, ?_⟩
   ·show fd.scope.names = _
    rw [hscope]; rfl
   ·show fd.scope.kind = _
    rw [hscope]; exact nm8
   ·simp [scOf] at q; exact absurd q hf
   ·have g : (z8 f)[i]? = some x := g
    by_cases hi : i < nArgs f
    ·have hiv : i < vs.length := by exact eA hlen hi
     have gt : ((z8 f).take (nArgs f))[i]? = some x := by rw [List.getElem?_take_of_lt hi, g]
     obtain ⟨u, hu, ru⟩ := rs.get (i := i) (v := vs[i]) (gEG hiv)
     refine ⟨some vs[i], ?_, fun v' hv' => ⟨u, ?_, by cases hv'; exact ru.ext x_0⟩⟩
     ·rw [gAL (by simpa using hiv)]; simp [hiv]
     ·rw [lookup_zip_reverse (nm3.sublist (List.take_sublist _ _)) hlen' gt, hu]
    ·have hin : i < nSlots f := by rw [← nm4]; exact (gSI.mp g).1
     refine ⟨none, ?_, fun v' hv' => by cases hv'⟩
     rw [List.getElem?_append_right (by simp; exact eD hlen hi), List.getElem?_replicate, if_pos (by simp; lia)]
   ·have hl := nm1' x (mOG g)
    have hk : isC ((dsc f).2.2.names.lookup x) := hk
    rw [hl] at hk
    rcases hk with q | q <;> cases q
   ·have : (callEnv fd s.heap.objs.size (K.fa f)).cells = [] := hclo
    rw [this] at q
    simp at q
   ·show _ = (z8 f).length
    simp
    lia
   ·have : (callEnv fd s.heap.objs.size (K.fa f)).cells = [] := hclo
    rw [this]
    exact fun J h => nomatch h
  refine hX (body_is f) e1 (hA.deeper _) (s := { s with heap := h_0, toks := s.toks + _ }) fr (H_0.mono (Nat.le_add_right _ _)) fun f' h' tk ρ' F H' x' q => ?_
  have hown : own (callEnv fd s.heap.objs.size (K.fa f)) = [s.heap.objs.size] := by
   unfold own
   rw [show (callEnv fd s.heap.objs.size (K.fa f)).cells = [] from hclo]
   rfl
  rw [hown] at x'
  have xx : Ext K [] s.heap ρ h' ρ' := (x_0.nil.trans x').weaken fun a ha => .inr (qE (mS.mp ha).symm)
  revert e
  refine flow_e q (fun e => ?_) fun u v' r e => ?_
  ·exact O.of e .none h' tk ρ' H' xx .none
  ·exact O.of e u h' tk ρ' H' xx r
@[elab_as_elim] theorem eqFd {h : Heap} {a : Addr} {o o' : Obj} {fd fd' : FuncData} {C : FuncData -> Prop} (ho : h.get? a = some o) (hd : o.data = .func fd) (ho' : h.get? a = some o') (hd' : o'.data = .func fd') (k : C fd') : C fd := by
 rw [ho] at ho'; cases ho'; rw [hd] at hd'; cases hd'
 exact k
theorem callF_len {f : F} {vs : List V} {σ : Sto} {p : V × Sto} (e : callF r f vs σ = some p) : vs.length = nArgs f := ifE e fun h J => h
theorem call_sound (hX : SExec K prog w n r.exec) (k : KOk K) (G : ∀ f, FnGood K f) : SCall K prog w (n + 1) (callF r) := by
 refine ⟨?_, ?_, ?_⟩
 ·intro f vs σ v σ' hf e ws A s ρ E Q hA H rs O
  refine byC fun hG => ?_
  obtain ⟨o', fd', ho', hd', J, J, J, J, J, J, J, hb⟩ := (G f).at_
  refine hG ?_
  exact xU hX k G (fun q => by rw [q] at hf; exact fE hf.symm) e (args := ⟨ws, []⟩) hA H rs (fun o fd ho hd => eqFd ho hd ho' hd' ((hb s H.base).1 hf ws (rs.length.trans (callF_len e)))) O
 ·intro f a x kk σ v σ' hf e wa wx wk A s ρ E Q hA H ra rx rk O
  refine byC fun hG => ?_
  obtain ⟨o', fd', ho', hd', J, J, J, J, J, J, J, hb⟩ := (G f).at_
  obtain ⟨t, hb⟩ := (hb s H.base).2.1 hf
  refine hG ?_
  exact xU hX k G (fun q => by rw [q] at hf; simp at hf) e (ws := [wa, wx, .int 0 t, .none, wk]) (args := ⟨[wa, wx], [(oQ "key", wk)]⟩) hA H (.cons ra (.cons rx (.cons (.int _ _) (.cons .none (.cons rk .nil))))) (fun o fd ho hd => eqFd ho hd ho' hd' (hb wa wx wk)) O
 ·intro f a x lo hi kk σ v σ' hf e wa wx wl wh wk A s ρ E Q hA H ra rx rl rh rk O
  refine byC fun hG => ?_
  obtain ⟨o', fd', ho', hd', J, J, J, J, J, J, J, hb⟩ := (G f).at_
  refine hG ?_
  exact xU hX k G (fun q => by rw [q] at hf; simp at hf) e (ws := [wa, wx, wl, wh, wk]) (args := ⟨[wa, wx, wl, wh], [(oQ "key", wk)]⟩) hA H (.cons ra (.cons rx (.cons rl (.cons rh (.cons rk .nil))))) (fun o fd ho hd => eqFd ho hd ho' hd' ((hb s H.base).2.2 hf wa wx wl wh wk)) O
end
end Mine
set_option maxRecDepth 10000
namespace Mine
open PySem PySem.W PySem.Calls PyProof.Rows
section
variable {K : Know} {prog : Program} {w : World} {A : Around} {R : Result -> Shared -> Prop} {E : Value -> Shared -> Prop} {s : Shared} {ρ : Gh}
theorem again_iter {it : Addr} {v : V} {i : Nat} {Q : Value -> Shared -> Prop} (I : IterAt K s.heap ρ it v i) (h : Q (.ref it) s) : wpAny (model prog w) A (pyIter (.ref it)) Q E s := by
 cases I with
 | lst k l _ g hit => exact wpAny_pyIter_listiter hit h
 | tup l items vs _ ht q1 q2 q3 rs hit => exact wpAny_pyIter_tupleiter hit h
 | rng a b st _ q1 q2 hit => exact wpAny_pyIter_rangeiter hit h
 | str x t _ hx hit => exact wpAny_pyIter_striter_ascii hit h
noncomputable def clause (y : Str) (yp : Pos) (iter : Expr) (ifs : List Expr) : Comprehension := ⟨.Name y yp, iter, ifs, 0⟩
theorem turn_last (elt iter : Expr) (y : Str) (yp : Pos) (ifs : List Expr) (scope : Scope) (pos : Pos) (it acc : Value) (env : Env) (pre : List Comprehension) (hp : pre.length <= 1) :
  compTurn (.ListComp elt (pre ++ [⟨.Name y yp, iter, ifs, 0⟩]) scope pos) pre.length it acc env = (do
   standAt iter.pos
   match ← pyNext it with
   | none => pure (.done .next)
   | some v =>
    letOwnedTupleGo (.Name y yp) it v
    assign (.Name y yp) env v
    let mut ok := true
    for c in ifs do
     if ok then ok ← isTrue c env (eval c env)
    if ok then
     (do let _ ← call (.builtin "list.append") [acc, ← eval elt env])
    again (.compLoop (.ListComp elt (pre ++ [⟨.Name y yp, iter, ifs, 0⟩]) scope pos) pre.length it acc env)) := by
 match pre, hp with
 | [], _ => rfl
 | [_], _ => rfl
theorem comp_step {elt iter : Expr} {y : Str} {yp : Pos} {ifs : List Expr} {scope : Scope} {pos : Pos} {it acc : Value} {env : Env} {pre : List Comprehension} (hp : pre.length <= 1)
  (h : wpAny (model prog w) A (pyNext it) (fun r s_1 => match r with
   | none => R (.ok .next) s_1
   | some v => wpAny (model prog w) A (assign (.Name y yp) env v) (fun J s_2 =>
     wpAny (model prog w) A (forIn ifs true fun c r => if r = true then do let ok ← isTrue c env (eval c env); pure (ForInStep.yield ok) else pure (ForInStep.yield r)) (fun ok s_3 =>
      if ok = true then wpAny (model prog w) A (eval elt env) (fun x s_4 =>
       wpAny (model prog w) A (call (.builtin "list.append") [acc, x]) (fun J s_5 => codeAny (model prog w) A (.compLoop (.ListComp elt (pre ++ [⟨.Name y yp, iter, ifs, 0⟩]) scope pos) pre.length it acc env) R s_5) (notedBy (model prog w) A env fun e s' => R (.error e) s') s_4) (notedBy (model prog w) A env fun e s' => R (.error e) s') s_3
      else codeAny (model prog w) A (.compLoop (.ListComp elt (pre ++ [⟨.Name y yp, iter, ifs, 0⟩]) scope pos) pre.length it acc env) R s_3) (notedBy (model prog w) A env fun e s' => R (.error e) s') s_2) (notedBy (model prog w) A env fun e s' => R (.error e) s') s_1) (notedBy (model prog w) A env fun e s' => R (.error e) s') s) :
  codeAny (model prog w) A (.compLoop (.ListComp elt (pre ++ [⟨.Name y yp, iter, ifs, 0⟩]) scope pos) pre.length it acc env) R s := by
 refine codeAny_of_tree ?_
 show wpAny _ A ((compTurn (.ListComp elt (pre ++ [⟨.Name y yp, iter, ifs, 0⟩]) scope pos) pre.length it acc env).onRaise (fun x => do noteFrame x env; theTreesLotGoes x)) _ _ s
 refine wpAny_noted ?_
 rw [turn_last _ _ _ _ _ _ _ _ _ _ _ hp]
 refine wpB (wpAny_standAt (wpB (wpAny_mono h (fun r s_1 h_1 => ?_) fun J J h' => h')))
 cases r with
 | none => exact wpP h_1
 | some v =>
  refine wpB (wpP ?_)
  refine wpB (wpAny_mono h_1 (fun J s_2 h_2 => wpB (wpAny_mono h_2 (fun ok s_3 h_3 => ?_) fun J J h' => h')) fun J J h' => h')
  cases ok with
  | false => exact wpP ⟨rfl, h_3⟩
  | true =>
   exact wpB (wpB (wpAny_mono h_3 (fun x s_4 h_4 => wpB (wpAny_mono h_4 (fun J s_5 h_5 => wpP (wpP ⟨rfl, h_5⟩)) fun J J h' => h')) fun J J h' => h'))
theorem turn_first (elt iter iter2 : Expr) (y z : Str) (yp zp : Pos) (scope : Scope) (pos : Pos) (it acc : Value) (env : Env) :
  compTurn (.ListComp elt [⟨.Name y yp, iter, [], 0⟩, ⟨.Name z zp, iter2, [], 0⟩] scope pos) 0 it acc env = (do
   standAt iter.pos
   match ← pyNext it with
   | none => pure (.done .next)
   | some v =>
    letOwnedTupleGo (.Name y yp) it v
    assign (.Name y yp) env v
    let x ← eval iter2 env
    standAt iter2.pos
    let x ← foldedSetIterable iter2 env x
    let _ ← runOwn (.compStart (.ListComp elt [⟨.Name y yp, iter, [], 0⟩, ⟨.Name z zp, iter2, [], 0⟩] scope pos) 1 (← holding [x] (pyIter x)) acc env) env
    again (.compLoop (.ListComp elt [⟨.Name y yp, iter, [], 0⟩, ⟨.Name z zp, iter2, [], 0⟩] scope pos) 0 it acc env)) := rfl
theorem comp_step2 {elt iter iter2 : Expr} {y z : Str} {yp zp : Pos} {scope : Scope} {pos : Pos} {it acc : Value} {env : Env} (hset : yK iter2 = false)
  (h : wpAny (model prog w) A (pyNext it) (fun r s_1 => match r with
   | none => R (.ok .next) s_1
   | some v => wpAny (model prog w) A (assign (.Name y yp) env v) (fun J s_2 =>
     wpAny (model prog w) A (eval iter2 env) (fun x s_3 => wpAny (model prog w) A (pyIter x) (fun it2 s_4 =>
      codeAny (model prog w) A (.compStart (.ListComp elt [⟨.Name y yp, iter, [], 0⟩, ⟨.Name z zp, iter2, [], 0⟩] scope pos) 1 it2 acc env) (fun r s' => match r with
       | .ok _ => codeAny (model prog w) A (.compLoop (.ListComp elt [⟨.Name y yp, iter, [], 0⟩, ⟨.Name z zp, iter2, [], 0⟩] scope pos) 0 it acc env) R s'
       | .error e => cameBackBy (model prog w) A env (notedBy (model prog w) A env fun e s' => R (.error e) s') e s') s_4)
      (notedBy (model prog w) A env fun e s' => R (.error e) s') s_3) (notedBy (model prog w) A env fun e s' => R (.error e) s') s_2)
     (notedBy (model prog w) A env fun e s' => R (.error e) s') s_1) (notedBy (model prog w) A env fun e s' => R (.error e) s') s) :
  codeAny (model prog w) A (.compLoop (.ListComp elt [⟨.Name y yp, iter, [], 0⟩, ⟨.Name z zp, iter2, [], 0⟩] scope pos) 0 it acc env) R s := by
 refine codeAny_of_tree ?_
 show wpAny _ A ((compTurn (.ListComp elt [⟨.Name y yp, iter, [], 0⟩, ⟨.Name z zp, iter2, [], 0⟩] scope pos) 0 it acc env).onRaise (fun x => do noteFrame x env; theTreesLotGoes x)) _ _ s
 refine wpAny_noted ?_
 rw [turn_first]
 refine wpB (wpAny_standAt (wpB (wpAny_mono h (fun r s_1 h_1 => ?_) fun J J h' => h')))
 cases r with
 | none => exact wpP h_1
 | some v =>
  refine wpB (wpP ?_)
  refine wpB (wpAny_mono h_1 (fun J s_2 h_2 => wpB (wpAny_mono h_2 (fun x s_3 h_3 => ?_) fun J J h' => h')) fun J J h' => h')
  refine wpB (wpAny_standAt ?_)
  rw [xQ hset]
  refine wpB (wpP (wpB (wpAny_holding (wpAny_mono h_3 (fun it2 s_4 h_4 => ?_) fun J J h' => h'))))
  refine wpB (wpAny_runOwn (codeAny_mono h_4 fun r s' hr => ?_))
  cases r with
  | ok f => exact wpP ⟨rfl, hr⟩
  | error e => exact hr
theorem start_any {elt : Expr} {gens : List Comprehension} {scope : Scope} {pos : Pos} {depth : Nat} {g : Comprehension} {it : Addr} {acc : Value} {env : Env} {v : V} {i : Nat} (hg : gens[depth]? = some g) (ha : g.is_async = 0) (I : IterAt K s.heap ρ it v i)
  (h : codeAny (model prog w) A (.compLoop (.ListComp elt gens scope pos) depth (.ref it) acc env) R s) : codeAny (model prog w) A (.compStart (.ListComp elt gens scope pos) depth (.ref it) acc env) R s := by
 refine codeAny_of_tree ?_
 show wpAny _ _ ((compStart (.ListComp elt gens scope pos) depth (.ref it) acc env).onRaise (fun x => do noteFrame x env; standAt theWindowsPlace)) _ _ s
 refine wpAny_notedAt ?_
 unfold compStart
 rw [show (clausesOf (.ListComp elt gens scope pos))[depth]? = some g from hg]
 have hf : ((some g).elim false (·.is_async != 0)) = false := by simp [ha]
 rw [hf]
 show wpAny _ _ (ask >>= _) _ _ s
 refine wpB (wpAny_askSetting (wpAny_ite ?_))
 split
 ·first
   | exact wpB (wpP (wpP (And.intro rfl h)))
   | exact wpP (And.intro rfl h)
 ·refine wpB (wpAny_rule ?_)
  show wpAny _ _ (standAt g.iter.pos >>= _) _ _ s
  exact wpB (wpAny_standAt (wpB (again_iter I (wpP (And.intro rfl h)))))
end
section
variable {K : Know} {prog : Program} {w : World} {n : Nat} {r : Rec}
theorem softD {D : Addr} {h : Heap} {ys : Array Value} (hp : h.PlainList D ys) : ∀ a ∈ [D], ∀ o, h.get? a = some o -> Soft o := by
 intro a ha o ho
 simp at ha; subst ha
 obtain ⟨n', hn'⟩ := hp
 rw [ho] at hn'; cases hn'
 exact .seq rfl (by simp)
theorem comp_sound (hE : SEval K prog w n r.eval) (hT : STest K prog w n r.test) (hC : SComp K prog w n r.comp) : SComp K prog w (n + 1) (compF r) := by
 intro sc elt iter y yp vars cond scope p me cap v i mc acc σ vs σ' pre hvars hst he hc hp e A env s ρ R it D ys ov hA f H I h1 h2 h3 d1 d2 d3 d4 hD hys O
 have hA' := hA.mono (nLS n)
 have g0 : sc.vars[0]? = some y := by rw [hvars]; rfl
 refine obE e fun o e1 e => ?_
 have soft := I.soft
 have hne := H.neP_of_new h2
 refine comp_step hp (next_sound hA.handled e1 H I h1 h2 fun h_1 tk_1 H_1 x_1 => ?_)
 have F_1 := f.extX H x_1 soft (by simpa using h3)
 have hD_1 : h_1.PlainList D ys := hD.at fun o q => x_1.keep D o d1 (H.neP_of_new d2) (by simpa using d4) q
 cases o with
 | none =>
  revert O
  refine sP e fun O => ?_
  exact O h_1 tk_1 ρ ys ov F_1 H_1 (x_1.mono (by simp)) hD_1 (hys.extX x_1 soft)
 | some b =>
  intro u ru I_1
  refine wpAny_assign_Name (store_slotT (s := { s with heap := h_1, toks := tk_1 }) F_1 H_1 g0 hst ru fun h_2 tk_2 F_2 H_2 x_2 => ?_)
  have F_2 : FrameOk K sc env h_2 ρ (some b :: cap) := F_2
  have softT : ∀ a ∈ tgt sc env y, ∀ o, h_1.get? a = some o -> Soft o := fun a ha => F_1.soft a (tgt_sub _ ha)
  have I_2 := I_1.extX x_2 softT h1 hne fun hm => h3 (tgt_sub _ hm)
  have hD_2 : h_2.PlainList D ys := hD_1.at fun o q => x_2.keep D o d1 (H.neP_of_new d2) (fun hm => d3 (tgt_sub _ hm)) q
  have x12 : Ext K (it :: D :: tgt sc env y) s.heap ρ h_2 ρ := (x_1.mono (by simp)).trans (x_2.mono fun a ha => mT _ (mT _ ha))
  have hys_2 : VRs K h_2 ρ ys.toList acc := (hys.extX x_1 soft).extX x_2 softT
  have test : ∀ {Q : Bool -> Shared -> Prop} {E : Value -> Shared -> Prop} {c : Bool} {σ_1 : Sto}, testO r.test mc (some b :: cap) σ = some (c, σ_1) ->
    (∀ h' tk ρ', HR K σ_1 ρ' h' tk -> Ext K [] h_2 ρ h' ρ' -> Q c { s with heap := h', toks := tk }) ->
    wpAny (model prog w) A (forIn (ifsOf cond) true fun c r => if r = true then do let ok ← isTrue c env (eval c env); pure (ForInStep.yield ok) else pure (ForInStep.yield r)) Q E { s with heap := h_2, toks := tk_2 } := by
   intro Q E c σ_1 et hq
   cases hc with
   | none =>
    cases et
    exact wpAny_tests_nil (hq h_2 tk_2 ρ H_2 (Ext.refl ..))
   | some ht =>
    exact wpAny_tests_one (hT ht et hA' (s := { s with heap := h_2, toks := tk_2 }) F_2 H_2 hq)
  refine obP e fun c σ_1 e2 e => ?_
  refine test e2 fun h_3 tk_3 ρ_3 H_3 x_3 => ?_
  have F_3 := F_2.ext H_2 x_3
  have x13 := x12.trans x_3.nil
  have hl1 : it ∉ ρ_3.l := x_3.mem h1 I_2.lt
  have hDlt : D < h_2.objs.size := by obtain ⟨n', hn'⟩ := hD_2; exact hLS hn'
  have dl1 : D ∉ ρ_3.l := x_3.mem d1 hDlt
  have I_3 := I_2.extX x_3 (by exact fun J h => nomatch h) h1 hne nmN
  have hD_3 : h_3.PlainList D ys := hD_2.at fun o q => x_3.keep D o d1 (H.neP_of_new d2) nmN q
  cases c with
  | false =>
   exact hC hvars hst he hc hp e hA' (s := { s with heap := h_3, toks := tk_3 }) F_3 H_3 I_3 hl1 h2 h3 dl1 d2 d3 d4 hD_3 (hys_2.ext x_3) fun h' tk ρ' ys' ov' F H' x q1 q2 => O h' tk ρ' ys' ov' F H' (x13.trans x) q1 q2
  | true =>
   refine obP e fun wv σ_2 e3 e => ifN e fun hlen e => ?_
   refine hE he e3 hA' (s := { s with heap := h_3, toks := tk_3 }) F_3 H_3 fun wu h_4 tk_4 ρ_4 H_4 x_4 rw_4 => ?_
   have F_4 := F_3.ext H_3 x_4
   have hl1' : it ∉ ρ_4.l := x_4.mem hl1 I_3.lt
   have hDlt' : D < h_3.objs.size := by obtain ⟨n', hn'⟩ := hD_3; exact hLS hn'
   have dl1' : D ∉ ρ_4.l := x_4.mem dl1 hDlt'
   have I_4 := I_3.extX x_4 (by exact fun J h => nomatch h) hl1 hne nmN
   have hD_4 : h_4.PlainList D ys := hD_3.at fun o q => x_4.keep D o dl1 (H.neP_of_new d2) nmN q
   have hys_4 : VRs K h_4 ρ_4 ys.toList acc := (hys_2.ext x_3).ext x_4
   have hsz := hys_4.size
   refine wpAny_list_append_plain (s := { s with heap := h_4, toks := tk_4 }) hD_4 (fun h_5 hD_5 hs_5 => ?_) (by unfold sizeLine; exact eF hsz hlen)
   obtain ⟨H_5, x_5⟩ := H_4.step (X := [D]) (h' := h_5) (fun b o hb q => (hs_5.2 b (by simpa using hb)).trans q) (qE hs_5.1.symm) (by simpa using ⟨dl1', d2⟩) (softD hD_4)
   have F_5 := F_4.extX H_4 x_5 (softD hD_4) (by simpa using d3)
   have I_5 := I_4.extX x_5 (softD hD_4) hl1' hne (by simpa using Ne.symm d4)
   have hys_5 : VRs K h_5 ρ_4 (ys.push wu).toList (acc ++ [wv]) := by
    rw [Array.toList_push]
    exact (hys_4.extX x_5 (softD hD_4)).append (.cons (rw_4.extX x_5 (softD hD_4)) .nil)
   have x15 : Ext K (it :: D :: tgt sc env y) s.heap ρ h_5 ρ_4 := (x13.trans x_4.nil).trans (x_5.mono (by simp))
   exact hC hvars hst he hc hp e hA' (s := { s with heap := h_5, toks := tk_4 }) F_5 H_5 I_5 hl1' h2 h3 dl1' d2 d3 d4 hD_5 hys_5 fun h' tk ρ' ys' ov' F H' x q1 q2 => O h' tk ρ' ys' ov' F H' (x15.trans x) q1 q2
end
end Mine
namespace Mine
open PySem PySem.W PySem.Calls PyProof.Rows
section
variable {K : Know} {prog : Program} {w : World} {n : Nat} {r : Rec}
@[elab_as_elim] theorem two_ix {α : Type} {a b x : α} {i : Nat} {C : Nat -> α -> Prop} (h : [a, b][i]? = some x) (h0 : C 0 a) (h1 : C 1 b) : C i x := by
 cases i with
 | zero => exact sE h h0
 | succ i => cases i with
  | zero => exact sE h h1
  | succ i => exact nE h
theorem FrameOk.alter {sc sc' : Sc} {env : Env} {h : Heap} {ρ : Gh} {sl sl' : Slots} (f : FrameOk K sc env h ρ sl) (e : EnvOk K sc' env) (hn : sc'.names = sc.names)
  (hv : ∀ (i : Nat) (x : Str), sc'.vars[i]? = some x -> (∃ j : Nat, sc.vars[j]? = some x /\ ∀ ov : Option V, sl[j]? = some ov -> ∃ ov' : Option V, sl'[i]? = some ov' /\ (ov' = none \/ ov' = ov)) \/ (sl'[i]? = some none /\ sc.names.lookup x = some .local))
  (nd : sc'.vars.Nodup) (hl : sl'.length = sc'.vars.length) : FrameOk K sc' env h ρ sl' := by
 have val : ∀ {ow : Option Value} {ov ov' : Option V}, ValOk K h ρ ow ov -> (ov' = none \/ ov' = ov) -> ValOk K h ρ ow ov' := fun q h => h.elim (fun e v hv => nE (e.symm.trans hv)) fun e => e ▸ q
 refine ⟨e, f.ns_e fun m hm hs => ⟨m, hm, fun i x g hk => (hv i x g).elim (fun q => q.elim fun j q => (hs j x q.1 (hn ▸ hk)).elim fun ov q2 => (q.2 ov q2.1).imp fun ov' q3 => ⟨q3.1, val q2.2 q3.2⟩) fun q => ⟨none, q.1, fun J hv => nE hv⟩⟩,
  fun i x g hk => (hv i x g).elim (fun q => q.elim fun j q => f.cell_e q.1 (hn ▸ hk) fun ov c cv g2 g3 hc v h1 h2 => (q.2 ov g2).elim fun ov' q3 => ⟨ov', c, q3.1, g3, ⟨⟨cv, hc, val v q3.2⟩, h1, h2⟩⟩) fun q => ?_, f.out, f.new, f.apart, nd, hl, f.cs⟩
 rw [hn, q.2] at hk
 rcases hk with q | q <;> cases q
theorem FrameOk.swap {names : List (Str × NameKind)} {y z : Str} {l : Bool} {env : Env} {h : Heap} {ρ : Gh} {u v : Option V} (f : FrameOk K ⟨names, [y, z], l⟩ env h ρ [u, v]) : FrameOk K ⟨names, [z, y], l⟩ env h ρ [v, u] :=
 f.alter ⟨f.eo.names, f.eo.kind, f.eo.globals, f.eo.builtins, f.eo.law⟩ rfl (fun J J g => .inl (two_ix g ⟨1, rfl, fun ov q => ⟨ov, q, .inr rfl⟩⟩ ⟨0, rfl, fun ov q => ⟨ov, q, .inr rfl⟩⟩)) ((List.Perm.swap z y []).nodup_iff.mp f.nodup) rfl
noncomputable def SComp2 (K : Know) (prog : Program) (w : World) (n : Nat) (co : ME -> ME -> V -> Nat -> List V -> Sto -> Option (List V × Sto)) : Prop :=
 ∀ {names : List (Str × NameKind)} {elt iter iter2 : Expr} {y z : Str} {yp zp : Pos} {scope : Scope} {p : Pos} {me mj : ME} {v : V} {i : Nat} {acc : List V} {σ : Sto} {vs : List V} {σ' : Sto},
  names.lookup y = some .local -> names.lookup z = some .local -> IsE ⟨names, [z, y], false⟩ elt me -> IsE ⟨names, [y, z], false⟩ iter2 mj -> yK iter2 = false -> co me mj v i acc σ = some (vs, σ') ->
  ∀ {A : Around} {env : Env} {s : Shared} {ρ : Gh} {R : Result -> Shared -> Prop} {it D : Addr} {ys : Array Value} {oy oz : Option V}, OkA A n -> FrameOk K ⟨names, [y, z], false⟩ env s.heap ρ [oy, oz] -> HR K σ ρ s.heap s.toks -> IterAt K s.heap ρ it v i -> it ∉ ρ.l -> K.base.objs.size <= it -> it ∉ own env ->
   D ∉ ρ.l -> K.base.objs.size <= D -> D ∉ own env -> D ≠ it -> s.heap.PlainList D ys -> VRs K s.heap ρ ys.toList acc ->
   (∀ h' tk ρ' ys' oy' oz', FrameOk K ⟨names, [y, z], false⟩ env h' ρ' [oy', oz'] -> HR K σ' ρ' h' tk -> Ext K [it, D, env.locals] s.heap ρ h' ρ' -> h'.PlainList D ys' -> VRs K h' ρ' ys'.toList vs -> R (.ok .next) { s with heap := h', toks := tk }) ->
   codeAny (model prog w) A (.compLoop (.ListComp elt [⟨.Name y yp, iter, [], 0⟩, ⟨.Name z zp, iter2, [], 0⟩] scope p) 0 (.ref it) (.ref D) env) R s
theorem FrameOk.drop {names : List (Str × NameKind)} {y z : Str} {l : Bool} {env : Env} {h : Heap} {ρ : Gh} {u v : Option V} {v' : Option V} (f : FrameOk K ⟨names, [y, z], l⟩ env h ρ [u, v]) (hv : v' = none \/ v' = v) : FrameOk K ⟨names, [y, z], l⟩ env h ρ [u, v'] :=
 f.alter f.eo rfl (fun J J g => .inl (two_ix g ⟨0, rfl, fun ov q => ⟨ov, q, .inr rfl⟩⟩ ⟨1, rfl, fun J q => ⟨v', rfl, sE (C := fun ov => v' = none \/ v' = ov) q hv⟩⟩)) f.nodup rfl
theorem comp2_sound (hE : SEval K prog w n r.eval) (hC : SComp K prog w n r.comp) (hC2 : SComp2 K prog w n r.comp2) : SComp2 K prog w (n + 1) (comp2F r) := by
 intro names elt iter iter2 y z yp zp scope p me mj v i acc σ vs σ' hy hz he hj hset e A env s ρ R it D ys oy oz hA f H I h1 h2 h3 d1 d2 d3 d4 hD hys O
 have hA' := hA.mono (nLS n)
 refine obE e fun o e1 e => ?_
 have soft := I.soft
 have hne := H.neP_of_new h2
 refine comp_step2 hset (next_sound hA.handled e1 H I h1 h2 fun h_1 tk_1 H_1 x_1 => ?_)
 have F_1 := f.extX H x_1 soft (by simpa using h3)
 have hD_1 : h_1.PlainList D ys := hD.at fun o q => x_1.keep D o d1 (H.neP_of_new d2) (by simpa using d4) q
 cases o with
 | none =>
  revert O
  refine sP e fun O => ?_
  exact O h_1 tk_1 ρ ys oy oz F_1 H_1 (x_1.mono (by simp)) hD_1 (hys.extX x_1 soft)
 | some b =>
  intro u ru I_1
  refine wpAny_assign_Name (store_slotT (s := { s with heap := h_1, toks := tk_1 }) F_1 H_1 (i := 0) rfl (.inl hy) ru fun h_2 tk_2 F_2 H_2 x_2 => ?_)
  have F_2 : FrameOk K ⟨names, [y, z], false⟩ env h_2 ρ [some b, none] := FrameOk.drop (v := oz) F_2 (.inl rfl)
  have ty : tgt ⟨names, [y, z], false⟩ env y = [env.locals] := if_pos hy
  have tz : tgt ⟨names, [z, y], false⟩ env z = [env.locals] := if_pos hz
  have lo : env.locals ∈ own env := mcS
  rw [ty] at x_2
  have softT : ∀ a ∈ [env.locals], ∀ o, h_1.get? a = some o -> Soft o := fun a ha => F_1.soft a (mS.mp ha ▸ lo)
  have nT : ∀ {b}, b ∉ own env -> b ∉ [env.locals] := fun hb hm => hb (mS.mp hm ▸ lo)
  have I_2 := I_1.extX x_2 softT h1 hne (nT h3)
  have hD_2 : h_2.PlainList D ys := hD_1.at fun o q => x_2.keep D o d1 (H.neP_of_new d2) (nT d3) q
  have x12 : Ext K [it, D, env.locals] s.heap ρ h_2 ρ := (x_1.mono (by simp)).trans (x_2.mono fun a ha => mT _ (mT _ ha))
  have hys_2 : VRs K h_2 ρ ys.toList acc := (hys.extX x_1 soft).extX x_2 softT
  refine obP e fun wv σ_1 e2 e => ?_
  refine obE e fun o3 e3 e => ?_
  refine obP e fun acc_2 σ_2 e4 e => ?_
  refine hE hj e2 hA' (s := { s with heap := h_2, toks := tk_2 }) F_2 H_2 fun wu h_3 tk_3 ρ_3 H_3 x_3 rw_3 => ?_
  have F_3 := F_2.ext H_2 x_3
  have hl1 : it ∉ ρ_3.l := x_3.mem h1 I_2.lt
  have hDlt : D < h_2.objs.size := by obtain ⟨n', hn'⟩ := hD_2; exact hLS hn'
  have dl1 : D ∉ ρ_3.l := x_3.mem d1 hDlt
  have I_3 := I_2.extX x_3 (by exact fun J h => nomatch h) h1 hne nmN
  have hD_3 : h_3.PlainList D ys := hD_2.at fun o q => x_3.keep D o d1 (H.neP_of_new d2) nmN q
  refine iter_sound (s := { s with heap := h_3, toks := tk_3 }) e3 H_3 rw_3 fun jt h_4 tk_4 H_4 x_4 J j1 j2 j3 => ?_
  have F_4 := F_3.ext H_3 x_4
  have I_4 := I_3.extX x_4 (by exact fun J h => nomatch h) hl1 hne nmN
  have hD_4 : h_4.PlainList D ys := hD_3.at fun o q => x_4.keep D o dl1 (H.neP_of_new d2) nmN q
  have hDlt_3 : D < h_3.objs.size := by obtain ⟨n', hn'⟩ := hD_3; exact hLS hn'
  have hjD : D ≠ jt := fun q => absurd hDlt_3 (qK (q ▸ j3))
  have hjo : jt ∉ own env := fun hm => absurd (F_3.lt _ hm) (qK j3)
  have hji : it ≠ jt := fun q => absurd I_3.lt (qK (q ▸ j3))
  refine start_any (g := ⟨.Name z zp, iter2, [], 0⟩) rfl rfl J ?_
  refine hC (sc := ⟨names, [z, y], false⟩) (vars := [y]) (pre := [⟨.Name y yp, iter, [], 0⟩]) (cond := none) rfl (.inl hz) he .none qR e4 hA' (s := { s with heap := h_4, toks := tk_4 }) F_4.swap H_4 J j1 j2 hjo dl1 d2 d3 hjD hD_4 ((hys_2.ext x_3).ext x_4) fun h_5 tk_5 ρ_5 ys_5 ov_5 F_5 H_5 x_5 hD_5 hys_5 => ?_
  rw [tz] at x_5
  have hXs : ∀ a ∈ [jt, D, env.locals], ∀ o, h_4.get? a = some o -> Soft o := fun a ha o q => by
   rcases mC.mp ha with rfl | ha
   ·exact J.soft _ mcS o q
   ·rcases mC.mp ha with rfl | ha
    ·exact softD hD_4 _ mcS o q
    ·exact F_4.soft a (mS.mp ha ▸ lo) o q
  have hiX : it ∉ [jt, D, env.locals] := by
   simp only [mC, not_or]
   exact ⟨hji, Ne.symm d4, fun hm => h3 (hm ▸ lo), by exact nmN⟩
  have I_5 := I_4.extX x_5 hXs hl1 hne hiX
  have hl5 : it ∉ ρ_5.l := x_5.mem hl1 I_4.lt
  have hDlt_4 : D < h_4.objs.size := by obtain ⟨n', hn'⟩ := hD_4; exact hLS hn'
  have dl5 : D ∉ ρ_5.l := x_5.mem dl1 hDlt_4
  have x14 : Ext K [it, D, env.locals] s.heap ρ h_4 ρ_3 := (x12.trans x_3.nil).trans x_4.nil
  have hjs : s.heap.objs.size <= jt := qT x_1.size (qT x_2.size (qT x_3.size j3))
  have x15 : Ext K [it, D, env.locals] s.heap ρ h_5 ρ_5 := by
   have : Ext K [jt, it, D, env.locals] s.heap ρ h_5 ρ_5 := (x14.mono (by simp)).trans (x_5.mono (by simp))
   exact this.weaken fun a ha => by
    rcases mC.mp ha with rfl | ha
    ·exact .inr hjs
    ·exact .inl ha
  exact hC2 hy hz he hj hset e hA' (s := { s with heap := h_5, toks := tk_5 }) F_5.swap H_5 I_5 hl5 h2 h3 dl5 d2 d3 d4 hD_5 hys_5 fun h' tk ρ' ys' oy' oz' F H' x q1 q2 => O h' tk ρ' ys' oy' oz' F H' (x15.trans x) q1 q2
end
section
variable {K : Know} {prog : Program} {w : World} {M : Model} {A : Around} {E : Value -> Shared -> Prop} {s : Shared}
theorem closure_go {env : Env} (f : Str × NameKind -> List (Str × Addr) -> Sem (ForInStep (List (Str × Addr))))
  (hf : ∀ name kind cells, f (name, kind) cells = if kind == .free then (do let a ← cellOf env name; pure (.yield ((name, a) :: cells))) else pure (.yield cells)) :
  ∀ (names : List (Str × NameKind)) (acc : List (Str × Addr)), (∀ p ∈ names, p.2 = .free -> ∃ c, env.cells.lookup p.1 = some c) -> (∀ p ∈ acc, env.cells.lookup p.1 = some p.2) ->
   ∃ cl, forIn names acc f = pure cl /\ (∀ p ∈ cl, env.cells.lookup p.1 = some p.2) /\ (∀ p ∈ acc, p ∈ cl) /\ (∀ x, (x, NameKind.free) ∈ names -> ∃ c, (x, c) ∈ cl) := by
 intro names; induction names with
 | nil =>
  intro acc _ h2
  exact ⟨acc, rfl, h2, fun J q => q, by exact fun J h => nomatch h⟩
 | cons hd' r ih =>
  intro acc h1 h2
  obtain ⟨name, kind⟩ := hd'
  rw [List.forIn_cons, hf]
  by_cases hk : kind = .free
  ·subst hk
   obtain ⟨c, hc⟩ := h1 _ mcS rfl
   have hcell : cellOf env name = pure c := by unfold cellOf; rw [hc]
   obtain ⟨cl, q1, q2, q3, q4⟩ := ih ((name, c) :: acc) (fun p hp => h1 p (mT _ hp)) (fun p hp => by
    rcases mC.mp hp with rfl | hp
    ·exact hc
    ·exact h2 p hp)
   refine ⟨cl, ?_, q2, fun p hp => q3 p (mT _ hp), fun x hx => ?_⟩
   ·rw [if_pos (show (NameKind.free == NameKind.free) = true from rfl), hcell]
    exact q1
   ·rcases mC.mp hx with q | q
    ·cases q; exact ⟨c, q3 _ mcS⟩
    ·exact q4 x q
  ·obtain ⟨cl, q1, q2, q3, q4⟩ := ih acc (fun p hp => h1 p (mT _ hp)) h2
   refine ⟨cl, ?_, q2, q3, fun x hx => ?_⟩
   ·rw [if_neg (by simpa using hk)]
    exact q1
   ·rcases mC.mp hx with q | q
    ·cases q; exact absurd rfl hk
    ·exact q4 x q
theorem closure_is {sc : Sc} {env : Env} {h : Heap} {ρ : Gh} {sl : Slots} (f : FrameOk K sc env h ρ sl) {scope : Scope} (hc : closed sc scope.names = true) :
  ∃ cl, closureFor scope env = pure cl /\ (∀ p ∈ cl, env.cells.lookup p.1 = some p.2) /\ (∀ x, (x, NameKind.free) ∈ scope.names -> ∃ c, (x, c) ∈ cl) := by
 obtain ⟨cl, q1, q2, J, q4⟩ := closure_go (env := env) (fun p cs => if p.2 == .free then (do let a ← cellOf env p.1; pure (.yield ((p.1, a) :: cs))) else pure (.yield cs)) (fun J J J => rfl) scope.names [] (fun p hp hk => by
  have := aT.mp hc p hp
  simp [hk] at this
  obtain ⟨hm, hl⟩ := this
  obtain ⟨i, hi⟩ := List.mem_iff_getElem?.mp hm
  obtain ⟨ov, c, J, g, J⟩ := f.cells i p.1 hi hl
  exact ⟨c, g⟩) (by exact fun J h => nomatch h)
 refine ⟨cl, ?_, q2, q4⟩
 simp only [closureFor]
 exact (congrArg (· >>= fun s => pure s) q1).trans rfl
end
end Mine
namespace Mine
open PySem PySem.W PySem.Calls PyProof.Rows
theorem cells_none : ∀ {names : List (Str × NameKind)} {n : Nat} {acc : List (Str × Addr)} {h : Heap}, y5 names = true -> cellsFrom n names acc = acc /\ pushCells h names = h := by
 intro names; induction names with
 | nil =>
  intro _ _ _ _
  exact ⟨rfl, rfl⟩
 | cons hd' r ih =>
  intro n acc h q
  obtain ⟨x, k⟩ := hd'
  simp only [y5, List.all_cons, Bool.and_eq_true] at q
  have hk : (k == NameKind.cell) = false := by have := q.1; revert this; cases k <;> decide
  unfold cellsFrom pushCells
  rw [hk]
  exact ih q.2
theorem cells_nil : ∀ {names : List (Str × NameKind)} {n : Nat} {acc : List (Str × Addr)} {h : Heap}, (names.filter fun p => p.2 == .cell) = [] -> cellsFrom n names acc = acc /\ pushCells h names = h := by
 intro names; induction names with
 | nil =>
  intro _ _ _ _
  exact ⟨rfl, rfl⟩
 | cons hd' r ih =>
  intro n acc h q
  obtain ⟨x, k⟩ := hd'
  cases hk : (k == NameKind.cell) with
  | true => simp [List.filter_cons, hk] at q
  | false =>
   simp only [List.filter_cons, hk] at q
   unfold cellsFrom pushCells
   rw [hk]
   exact ih (by simpa using q)
theorem cells_one : ∀ {names : List (Str × NameKind)} {y : Str} {n : Nat} {acc : List (Str × Addr)} {h : Heap}, (names.filter fun p => p.2 == .cell) = [(y, .cell)] -> cellsFrom n names acc = (y, n) :: acc /\ pushCells h names = h.push { cls := .type "cell", data := .cell none } := by
 intro names; induction names with
 | nil =>
  intro _ _ _ _ q
  simp at q
 | cons hd' r ih =>
  intro y n acc h q
  obtain ⟨x, k⟩ := hd'
  cases hk : (k == NameKind.cell) with
  | true =>
   simp only [List.filter_cons, hk, if_true, List.cons.injEq, Prod.mk.injEq] at q
   obtain ⟨⟨rfl, rfl⟩, q⟩ := q
   unfold cellsFrom pushCells
   rw [hk]
   exact cells_nil q
  | false =>
   simp only [List.filter_cons, hk] at q
   unfold cellsFrom pushCells
   rw [hk]
   exact ih (by simpa using q)
theorem relab_lookup {sc : Sc} {x : Str} : ∀ {names : List (Str × NameKind)}, (relab sc names).lookup x = (names.lookup x).map fun k => if k == .free && sc.names.lookup x == some .cell then .cell else k := by
 intro names; induction names with
 | nil => rfl
 | cons p r ih =>
  obtain ⟨y, k⟩ := p
  unfold relab at ih ⊢
  rw [mcC, List.lookup_cons]
  by_cases hc : (k == NameKind.free && sc.names.lookup y == some .cell) = true
  ·simp only [hc, if_true, List.lookup_cons]
   cases hxy : x == y with
   | true => have := beq_iff_eq.mp hxy; subst this; simp only [Option.map_some, hc, if_true]
   | false => simpa using ih
  ·simp only [hc, List.lookup_cons]
   cases hxy : x == y with
   | true => have := beq_iff_eq.mp hxy; subst this; simp only [Option.map_some, hc, Bool.false_eq_true, if_false, hxy]
   | false => simpa [hxy] using ih
theorem wL {cl : List (Str × Addr)} {x : Str} {c : Addr} : (x, c) ∈ cl -> ∃ c', cl.lookup x = some c' := by
 induction cl with
 | nil => intro h; simp at h
 | cons p r ih =>
  intro h
  rw [List.lookup_cons]
  cases hp : x == p.1 with
  | true => exact ⟨_, rfl⟩
  | false =>
   rcases mC.mp h with q | q
   ·rw [← q] at hp; simp at hp
   ·exact ih q
section
variable {K : Know} {prog : Program} {w : World} {M : Model} {A : Around} {E : Value -> Shared -> Prop} {s : Shared} {σ : Sto} {ρ : Gh}
structure CompEnv (K : Know) (sc : Sc) (env : Env) (sl : Slots) (y : Str) (frees : List Nat) (fs : List Str) (scope : Scope) (σ : Sto) (ρ : Gh) (h : Heap) (tk : Tok) (cenv : Env) (h' : Heap) : Prop where
 hr : HR K σ ρ h' tk
 ext : Ext K [] h ρ h' ρ
 fr : FrameOk K ⟨relab sc scope.names, y :: fs, false⟩ { cenv with scope := relabel scope env } h' ρ (none :: zU sl frees)
 st : yM ⟨relab sc scope.names, y :: fs, false⟩ y
 locs : h.objs.size <= cenv.locals
 own_ : ∀ a ∈ own { cenv with scope := relabel scope env }, a ∈ own env \/ h.objs.size <= a
 tgt_ : ∀ a ∈ tgt ⟨relab sc scope.names, y :: fs, false⟩ { cenv with scope := relabel scope env } y, h.objs.size <= a
theorem comp_env {sc : Sc} {env : Env} {sl : Slots} {y : Str} {frees : List Nat} {fs : List Str} {scope : Scope} {cl : List (Str × Addr)} (f : FrameOk K sc env s.heap ρ sl) (H : HR K σ ρ s.heap s.toks) (C : CompOk sc y frees fs scope)
  (hcl : ∀ p ∈ cl, env.cells.lookup p.1 = some p.2) (hcf : ∀ x, (x, NameKind.free) ∈ scope.names -> ∃ c, (x, c) ∈ cl) {Q : Env -> Shared -> Prop}
  (h : ∀ cenv h', CompEnv K sc env sl y frees fs scope σ ρ s.heap s.toks cenv h' -> Q cenv { s with heap := h' }) :
  wpAny M A (newFunctionEnv scope env.globals cl [] env.qual none .none (some env)) Q E s := by
 simp only [newFunctionEnv, Option.isSome_some, if_true]
 refine wpB (wpAny_alloc ?_)
 refine wpB (wpAny_layCells _ (fun name kind cells => by cases hkc : kind == NameKind.cell <;> rfl) _ _ _ _ ?_)
 refine wpB (wpP (wpP (h _ _ ?_)))
 obtain ⟨H_1, x_1⟩ := H.push { cls := .type "dict", data := .dict #[] }
 have hns_1 : (s.heap.push { cls := .type "dict", data := .dict #[] }).Ns s.heap.objs.size (fun J => none) := Heap.Ns.new s.heap (.type "dict")
 have hsz1 : (s.heap.push { cls := .type "dict", data := .dict #[] }).objs.size = s.heap.objs.size + 1 := hSP ..
 have hnames : (relabel scope env).names = relab sc scope.names := by
  unfold relabel relab
  simp only [f.eo.kind, f.eo.kindOf]
  refine List.map_congr_left fun p J => ?_
  simp
 have hlen : (zU sl frees).length = fs.length := by
  have := congrArg List.length C.hfs
  simpa [zU] using this
 have cell_of : ∀ {x c}, cl.lookup x = some c -> env.cells.lookup x = some c := fun q => hcl _ (mem_of_lookup q)
 have main : ∀ (h' : Heap) (cells : List (Str × Addr)), HR K σ ρ h' s.toks -> Ext K [] s.heap ρ h' ρ -> h'.Ns s.heap.objs.size (fun J => none) ->
   ((cells = cl /\ scope.names.lookup y = some .local) \/ (cells = (y, s.heap.objs.size + 1) :: cl /\ scope.names.lookup y = some .cell /\ h'.IsCell (s.heap.objs.size + 1) none)) ->
   CompEnv K sc env sl y frees fs scope σ ρ s.heap s.toks { scope := scope, locals := s.heap.objs.size, globals := env.globals, cells := cells, qual := env.qual, func := none, code := env.code, frame := env.frame, builtins := env.builtins } h' := by
  intro h' cells H' x' hns hy
  have nd : y ∉ fs := (List.nodup_cons.mp C.hnd).1
  have hfree : ∀ {x}, x ∈ fs -> ∃ c, cells.lookup x = some c /\ env.cells.lookup x = some c := fun {x} hx => by
   have hc : (x, NameKind.free) ∈ scope.names := by
    have := aT.mp C.hff x hx
    simpa using this
   obtain ⟨c, hc⟩ := hcf x hc
   obtain ⟨c', hc'⟩ := wL hc
   refine ⟨c', ?_, cell_of hc'⟩
   rcases hy with ⟨rfl, _⟩ | ⟨rfl, _, _⟩
   ·exact hc'
   ·have : (x == y) = false := by
     have : x ≠ y := fun q => nd (q ▸ hx)
     simpa using this
    rw [List.lookup_cons, this]
    exact hc'
  have hy' : (relab sc scope.names).lookup y = scope.names.lookup y := by
   rw [relab_lookup]
   rcases hy with ⟨_, q⟩ | ⟨_, q, _⟩ <;> rw [q] <;> rfl
  have hfs' : ∀ {x}, x ∈ fs -> isC ((relab sc scope.names).lookup x) := fun {x} hx => by
   rw [relab_lookup, C.hlook x hx]
   simp only [Option.map_some]
   split
   ·exact .inl rfl
   ·exact .inr rfl
  have outer : ∀ {j x}, fs[j]? = some x -> ∃ ov c, (zU sl frees)[j]? = some ov /\ env.cells.lookup x = some c /\ CellOk K s.heap ρ c ov := fun {j x} hj => by
   have hm : x ∈ fs := mOG hj
   have e1 : (frees.map (fun i => sc.vars[i]?))[j]? = some (some x) := by rw [C.hfs]; simp [hj]
   simp only [gMP, Option.map_eq_some_iff] at e1
   obtain ⟨i, hi, hv⟩ := e1
   have hc : (x, NameKind.free) ∈ scope.names := by
    have := aT.mp C.hff x hm
    simpa using this
   have hk := aT.mp C.hcl _ hc
   simp at hk
   refine byC fun hG => ?_
   obtain ⟨ov, c, g1, g2, g3⟩ := f.cells i x hv hk.2
   refine hG ?_
   refine ⟨ov, c, ?_, g2, g3⟩
   unfold zU
   rw [gMP, hi]
   simp [g1]
  refine ⟨H', x', ⟨⟨hnames, C.hk, f.eo.globals, f.eo.builtins, fun q => by cases q⟩, ⟨_, hns, fun i x g hk => ?_⟩, fun i x g hk => ?_, H.fresh, H.big, fun x1 x2 c q1 q2 => ?_, C.hnd, (show (zU sl frees).length + 1 = fs.length + 1 by rw [hlen]), fun a ha => ?_⟩, ?_, Nat.le_refl _, fun a ha => ?_, fun a ha => ?_⟩
  ·cases i with
   | zero => exact ⟨none, rfl, fun v hv => by cases hv⟩
   | succ j =>
    exfalso
    have g : fs[j]? = some x := by simpa using g
    have hk : (relab sc scope.names).lookup x = some .local := hk
    rcases hfs' (mOG g) with q | q <;> rw [q] at hk <;> cases hk
  ·cases i with
   | zero =>
    have g : y = x := by simpa using g
    subst g
    have hk : isC ((relab sc scope.names).lookup y) := hk
    rw [hy'] at hk
    rcases hy with ⟨_, q⟩ | ⟨rfl, q, hc⟩
    ·rw [q] at hk; rcases hk with k | k <;> cases k
    ·exact ⟨none, s.heap.objs.size + 1, rfl, by simp, ⟨⟨none, hc, fun v hv => by cases hv⟩, Nat.le_succ_of_le H.big, fun hm => absurd (H.mem_lt hm) (qK qU)⟩⟩
   | succ j =>
    have g : fs[j]? = some x := by simpa using g
    refine byC fun hG => ?_
    obtain ⟨ov, c, g1, g2, ⟨⟨cv, hc, hv⟩, q1, q2⟩⟩ := outer g
    obtain ⟨c', e1, e2⟩ := hfree (mOG g)
    rw [g2] at e2; cases e2
    obtain ⟨o, ho, hd⟩ := id hc
    refine hG ?_
    exact ⟨ov, c, by simpa using g1, e1, ⟨⟨cv, ⟨o, x'.keep _ _ q2 (H.neP_of_new q1) nmN ho, hd⟩, hv.ext x' (by exact fun J h => nomatch h)⟩, q1, q2⟩⟩
  ·have inEnv : ∀ {x}, cl.lookup x = some c -> env.cells.lookup x = some c := fun q => cell_of q
   have hlt : ∀ {x}, cl.lookup x = some c -> c < s.heap.objs.size := fun q => f.lt _ (xD (cell_of q))
   rcases hy with ⟨rfl, _⟩ | ⟨rfl, _, _⟩
   ·exact f.apart _ _ c (inEnv q1) (inEnv q2)
   ·simp only [List.lookup_cons] at q1 q2
    split at q1 <;> split at q2
    ·rename_i h1 _ h2; rw [beq_iff_eq.mp h1, beq_iff_eq.mp h2]
    ·cases q1; exact absurd (hlt q2) (qK qU)
    ·cases q2; exact absurd (hlt q1) (qK qU)
    ·exact f.apart _ _ c (inEnv q1) (inEnv q2)
  ·have old : a ∈ cl.map (·.2) -> (∃ cv, h'.IsCell a cv) /\ K.base.objs.size <= a /\ a ∉ ρ.l := fun hm => by
    refine byC fun hG => ?_
    obtain ⟨p, hp, rfl⟩ := mP.mp hm
    obtain ⟨⟨cv, hc⟩, q1, q2⟩ := f.cs p.2 (mP.mpr ⟨_, mem_of_lookup (hcl p hp), rfl⟩)
    obtain ⟨o, ho, hd⟩ := id hc
    refine hG ?_
    exact ⟨⟨cv, o, x'.keep _ _ q2 (H.neP_of_new q1) nmN ho, hd⟩, q1, q2⟩
   rcases hy with ⟨rfl, _⟩ | ⟨rfl, _, hc⟩
   ·exact old ha
   ·rcases mC.mp ha with rfl | ha
    ·exact ⟨⟨_, hc⟩, Nat.le_succ_of_le H.big, fun hm => absurd (H.mem_lt hm) (qK qU)⟩
    ·exact old ha
  ·show (relab sc scope.names).lookup y = some .local \/ (relab sc scope.names).lookup y = some .cell
   rw [hy']
   rcases hy with ⟨_, q⟩ | ⟨_, q, _⟩
   ·exact .inl q
   ·exact .inr q
  ·rcases mC.mp ha with rfl | ha
   ·exact .inr qR
   ·have old : a ∈ cl.map (·.2) -> a ∈ own env := fun hm => by
     obtain ⟨p, hp, rfl⟩ := mP.mp hm
     exact xD (hcl p hp)
    rcases hy with ⟨rfl, _⟩ | ⟨rfl, _, hc⟩
    ·exact .inl (old ha)
    ·rcases mC.mp ha with rfl | ha
     ·exact .inr qU
     ·exact .inl (old ha)
  ·unfold tgt at ha
   split at ha
   ·have := mS.mp ha
    subst this
    exact Nat.le_refl _
   ·rename_i hn
    have hn : (relab sc scope.names).lookup y ≠ some .local := hn
    rw [hy'] at hn
    rcases hy with ⟨_, q⟩ | ⟨rfl, q, hc⟩
    ·exact absurd q hn
    ·simp at ha
     subst ha
     exact nLS _
 rcases C.hy with ⟨hno, hl⟩ | ⟨hone, hl⟩
 ·have e := cells_none (n := (s.heap.push { cls := .type "dict", data := .dict #[] }).objs.size) (acc := cl) (h := s.heap.push { cls := .type "dict", data := .dict #[] }) hno
  rw [e.1, e.2]
  exact main _ _ H_1 x_1 hns_1 (.inl ⟨rfl, hl⟩)
 ·have hone : (scope.names.filter fun p => p.2 == .cell) = [(y, .cell)] := by simpa [oneCell] using hone
  have e := cells_one (n := (s.heap.push { cls := .type "dict", data := .dict #[] }).objs.size) (acc := cl) (h := s.heap.push { cls := .type "dict", data := .dict #[] }) hone
  rw [e.1, e.2, hsz1]
  obtain ⟨H_2, x_2⟩ := H_1.push { cls := .type "cell", data := .cell none }
  refine main _ _ H_2 (x_1.trans x_2) (hns_1.push _) (.inr ⟨rfl, hl, ?_⟩)
  rw [← hsz1]
  exact ⟨_, hPS _ rfl, rfl⟩
end
end Mine
namespace Mine
open PySem PySem.W PySem.Calls PyProof.Rows
section
variable {K : Know} {prog : Program} {w : World} {n : Nat} {r : Rec}
theorem goodNames_spec {names : List (Str × NameKind)} (h : goodNames names = true) : ∀ x ∈ names, x.2 = .local -> names.lookup x.1 = some .local := by
 intro x hx hl
 have := aT.mp h x hx
 rw [hl] at this
 simpa using this
theorem comp_end {σ' : Sto} {s : Shared} {ρ : Gh} {h' : Heap} {tk : Tok} {ρ' : Gh} {D : Addr} {ys : Array Value} {vs : List V} {X : List Addr}
  (H' : HR K σ' ρ' h' tk) (x : Ext K X s.heap ρ h' ρ') (hX : ∀ a ∈ X, s.heap.objs.size <= a) (hp : h'.PlainList D ys) (hv : VRs K h' ρ' ys.toList vs) (hD : D ∉ ρ'.l) (hDn : K.base.objs.size <= D) (hDs : s.heap.objs.size <= D) :
  HR K (σ' ++ [vs]) (ρ'.add D) h' tk /\ VR K h' (ρ'.add D) (.ref D) (.lst σ'.length) /\ Ext K [] s.heap ρ h' (ρ'.add D) := by
 obtain ⟨H_2, v⟩ := H'.addL hp hv hDn hD
 refine ⟨H_2, v, ?_, x.tok, fun a o h1 h2 J g => x.keep a o h1 h2 (fun hx => absurd (hLS g) (qK (hX a hx))) g, x.size⟩
 obtain ⟨t, q, ht⟩ := x.pre
 refine ⟨t ++ [D], by simp [Gh.add, q], fun a ha => ?_⟩
 rcases mA.mp ha with ha | ha
 ·exact ht a ha
 ·rw [mS.mp ha]; exact hDs
theorem comp_walk (hE : SEval K prog w n r.eval) (hC : SComp K prog w n r.comp) {sc : Sc} {env : Env} {sl : Slots} {elt iter : Expr} {y : Str} {yp p : Pos} {cond : Option Expr} {scope : Scope} {me mi : ME} {frees : List Nat} {fs : List Str} {mc : Option ME} {σ σ_1 σ_2 : Sto} {v : V} {vs : List V} {o : Option V}
  {A : Around} {s : Shared} {ρ : Gh} {E : Value -> Shared -> Prop} {use : Option (Value -> Sem Unit)} {Q : Value -> Shared -> Prop}
  (hset : yK iter = false) (hi : IsE sc iter mi) (C : CompOk sc y frees fs scope) (he : IsE ⟨relab sc scope.names, y :: fs, false⟩ elt me) (hc : IsC ⟨relab sc scope.names, y :: fs, false⟩ cond mc)
  (e1 : r.eval mi sl σ = some (v, σ_1)) (e2 : zV σ_1 v 0 = some o) (e3 : r.comp me (zU sl frees) v 0 mc [] σ_1 = some (vs, σ_2))
  (hA : OkA A n) (f : FrameOk K sc env s.heap ρ sl) (H : HR K σ ρ s.heap s.toks)
  (O : ∀ D C h' tk ρ', HR K (σ_2 ++ [vs]) ρ' h' tk -> Ext K [] s.heap ρ h' ρ' -> VR K h' ρ' (.ref D) (.lst σ_2.length) -> s.heap.objs.size <= C -> C ∉ ρ'.l -> (∃ m, h'.Ns C m) ->
   compPost (model prog w) A E use Q (.ref D) C (.ok .next) { s with heap := h', toks := tk }) :
  wpAny (model prog w) A (comprehension (.ListComp elt [⟨.Name y yp, iter, ifsOf cond, 0⟩] scope p) scope env (firstIterPos [⟨.Name y yp, iter, ifsOf cond, 0⟩] p) (newList []) false (eval iter env) use) Q E s := by
 obtain ⟨cl, hcl, hcm, hcf⟩ := closure_is f C.hcl
 refine wpAny_comprehension_free rfl (xQ hset env) hcl C.hk (goodNames_spec C.hgood) ?_
 refine hE hi e1 hA f H fun u h_1 tk_1 ρ_1 H_1 x_1 r_1 => ?_
 refine iter_sound (s := { s with heap := h_1, toks := tk_1 }) e2 H_1 r_1 fun it h_2 tk_2 H_2 x_2 I i1 i2 i3 => ?_
 refine wpAny_newList ?_
 obtain ⟨H_3, x_3⟩ := H_2.push { cls := .type "list", data := .seq ([] : List Value).toArray }
 have F_3 : FrameOk K sc env (h_2.push { cls := .type "list", data := .seq ([] : List Value).toArray }) ρ_1 sl := ((f.ext H x_1).ext H_1 x_2).ext H_2 x_3
 have I_3 := I.extX x_3 (by exact fun J h => nomatch h) i1 (H_2.neP_of_new i2) nmN
 refine comp_env (s := { s with heap := h_2.push { cls := .type "list", data := .seq ([] : List Value).toArray }, toks := tk_2 }) F_3 H_3 C hcm hcf fun cenv h_4 ce => ?_
 have hsz : (h_2.push { cls := .type "list", data := .seq ([] : List Value).toArray }).objs.size = h_2.objs.size + 1 := hSP ..
 have Dlt : h_2.objs.size < (h_2.push { cls := .type "list", data := .seq ([] : List Value).toArray }).objs.size := by rw [hsz]; exact Nat.lt_succ_self _
 have I_4 := I_3.extX ce.ext (by exact fun J h => nomatch h) i1 (H_2.neP_of_new i2) nmN
 have hpl : h_4.PlainList h_2.objs.size #[] := ⟨_, ce.ext.keep _ _ H_2.fresh (H_2.neP_of_new H_2.big) nmN (hPS _ rfl)⟩
 have hs1 : s.heap.objs.size <= h_1.objs.size := x_1.size
 have hs2 : h_1.objs.size <= h_2.objs.size := x_2.size
 have F_1 := f.ext H x_1
 have notOwn : ∀ a, h_1.objs.size <= a -> a < (h_2.push { cls := .type "list", data := .seq ([] : List Value).toArray }).objs.size -> a ∉ own { cenv with scope := relabel scope env } := fun a h1 h2 hm => by
  rcases ce.own_ a hm with q | q
  ·exact absurd (F_1.lt a q) (qK h1)
  ·exact absurd h2 (qK q)
 have hIlt : it < h_2.objs.size := I.lt
 refine start_any (g := ⟨.Name y yp, iter, ifsOf cond, 0⟩) rfl rfl I_4 ?_
 refine hC (pre := []) (sc := ⟨relab sc scope.names, y :: fs, false⟩) rfl ce.st he hc (by simp) e3 hA (s := { s with heap := h_4, toks := tk_2 }) ce.fr ce.hr I_4 i1 i2 (notOwn it i3 (Nat.lt_trans hIlt Dlt)) H_2.fresh H_2.big (notOwn _ hs2 Dlt) (Nat.ne_of_gt hIlt) hpl .nil fun h_5 tk_5 ρ_5 ys_5 ov_5 F_5 H_5 x_5 hp_5 hv_5 => ?_
 have x05 : Ext K (it :: h_2.objs.size :: tgt ⟨relab sc scope.names, y :: fs, false⟩ { cenv with scope := relabel scope env } y) s.heap ρ h_5 ρ_5 := ((((x_1.trans x_2).trans x_3).trans ce.ext).nil).trans x_5
 have hD5 : h_2.objs.size ∉ ρ_5.l := x_5.mem H_2.fresh (by obtain ⟨n', hn'⟩ := hpl; exact hLS hn')
 obtain ⟨H_6, v_6, x_6⟩ := comp_end H_5 x05 (fun a ha => by
  rcases mC.mp ha with rfl | ha
  ·exact qT hs1 i3
  ·rcases mC.mp ha with rfl | ha
   ·exact qT hs1 hs2
   ·exact qT hs1 (qT hs2 (qT (qW Dlt) (ce.tgt_ a ha)))) hp_5 hv_5 hD5 H_2.big (qT hs1 hs2)
 have hlo : cenv.locals ∉ (ρ_5.add h_2.objs.size).l := by
  intro hm
  rcases mA.mp hm with q | q
  ·exact F_5.out q
  ·have := ce.locs
   rw [mS.mp q] at this
   exact absurd Dlt (qK this)
 obtain ⟨m_5, hn_5, J⟩ := F_5.ns
 exact O _ _ h_5 tk_5 _ H_6 x_6 v_6 (qT hs1 (qT hs2 (qT (qW Dlt) ce.locs))) hlo ⟨m_5, hn_5⟩
theorem ns_soft {h : Heap} {C : Addr} {m} (hn : h.Ns C m) : ∀ a ∈ [C], ∀ o, h.get? a = some o -> Soft o := fun a ha o ho => by
 simp at ha; subst ha
 obtain ⟨o', ho', so⟩ := ns_get hn
 rw [ho] at ho'; cases ho'; exact so
theorem let_go {σ : Sto} {s : Shared} {ρ ρ' : Gh} {h' h'' : Heap} {tk : Tok} {C : Addr} {m} (H : HR K σ ρ' h' tk) (x : Ext K [] s.heap ρ h' ρ') (hn : h'.Ns C m) (hC : s.heap.objs.size <= C) (hCl : C ∉ ρ'.l) (hB : K.base.objs.size <= s.heap.objs.size) (hs : Heap.SameBut C h' h'') :
  HR K σ ρ' h'' tk /\ Ext K [] s.heap ρ h'' ρ' /\ Ext K [C] h' ρ' h'' ρ' := by
 obtain ⟨H', x'⟩ := H.step (X := [C]) (h' := h'') (fun b o hb q => (hs.2 b (by simpa using hb)).trans q) (qE hs.1.symm) (by simpa using ⟨hCl, qT hB hC⟩) (ns_soft hn)
 exact ⟨H', (x.nil.trans x').weaken fun a ha => .inr (by rw [mS.mp ha]; exact hC), x'⟩
theorem comp_expr (hE : SEval K prog w n r.eval) (hC : SComp K prog w n r.comp) {sc : Sc} {elt iter : Expr} {y : Str} {yp p : Pos} {cond : Option Expr} {scope : Scope} {me mi : ME} {frees : List Nat} {fs : List Str} {mc : Option ME}
  (hset : yK iter = false) (hi : IsE sc iter mi) (C : CompOk sc y frees fs scope) (he : IsE ⟨relab sc scope.names, y :: fs, false⟩ elt me) (hc : IsC ⟨relab sc scope.names, y :: fs, false⟩ cond mc) :
  EvAt K prog w (n + 1) sc (.ListComp elt [⟨.Name y yp, iter, ifsOf cond, 0⟩] scope p) (evalF r (.comp me frees mi mc)) := by
 intro sl σ v σ' e A env s ρ E Q hA f H O
 have hA' := hA.mono (nLS n)
 refine obP e fun vi σ_1 e1 e => ?_
 refine obE e fun o e2 e => ?_
 refine obP e fun vs σ_2 e3 e => ?_
 have O := O.of e
 rw [eval_ListComp]
 refine comp_walk (use := none) hE hC hset hi C he hc e1 e2 e3 hA' f H fun D L h' tk ρ' H' x' v' hL hLl hns => ?_
 obtain ⟨m, hn⟩ := hns
 refine ⟨m, hn, fun h'' hs => ?_⟩
 obtain ⟨H'', x'', xs⟩ := let_go H' x' hn hL hLl H.big hs
 exact O _ h'' tk ρ' H'' x'' (v'.extX xs (ns_soft hn))
theorem setc_stmt (hE : SEval K prog w n r.eval) (hEv : r.eval = evalF r_0) (hE0 : SEval K prog w n r_0.eval) (hC : SComp K prog w n r_0.comp) {sc : Sc} {x : Str} {p' : Pos} {elt : Expr} {y : Str} {yp : Pos} {iter : Expr} {scope : Scope} {cp p : Pos} {i : Nat} {me : ME} {frees : List Nat} {fs : List Str} {mi : ME}
  (g : sc.vars[i]? = some x) (hk : sc.names.lookup x = some .local) (hline : (p'.line == cp.line) = true) (hno : (scope.names.any fun (n, k) => n == x && (k == .local || k == .cell)) = false)
  (hset : yK iter = false) (hi : IsE sc iter mi) (C : CompOk sc y frees fs scope) (he : IsE ⟨relab sc scope.names, y :: fs, false⟩ elt me) :
  SStep K prog w (n + 1) (stepF r) (.Assign [.Name x p'] (.ListComp elt [⟨.Name y yp, iter, [], 0⟩] scope cp) p) (.set i (.comp me frees mi none)) sc := by
 intro sl σ fl sl' σ' e A env s ρ E Q hA f H O
 have hA' := hA.mono (nLS n)
 refine obP e fun v_0 σ_0 e0 e => ?_
 rw [hEv] at e0
 refine obP e0 fun vi σ_1 e1 e0 => obE e0 fun o e2 e0 => obP e0 fun vs σ_2 e3 e0 => ?_
 revert e
 refine sP e0 fun e => ?_
 have O := OutS.of O e
 have hb : (env.blockKind == ScopeKind.function) = true := by delta Env.blockKind; rw [f.eo.kind]; rfl
 have hsw : swapsWith (.ListComp elt [⟨.Name y yp, iter, [], 0⟩] scope cp) (some (.Name x p')) p.line env = pure true := by
  show (pure (env.blockKind == .function && env.kindOf x == some NameKind.local && p'.line == cp.line && !(scope.names.any fun (n, k) => n == x && (k == .local || k == .cell))) : Sem Bool) = pure true
  rw [hb, hline, hno, f.eo.kindOf, hk]
  rfl
 rw [exec_Assign_Name_used _ _ _ _ hsw]
 refine wpB (wpAny_standAt ?_)
 show wpAny (model prog w) A ((comprehension (.ListComp elt [⟨.Name y yp, iter, ifsOf none, 0⟩] scope cp) scope env (firstIterPos [⟨.Name y yp, iter, ifsOf none, 0⟩] cp) (newList []) false (eval iter env) (some (assign (.Name x p') env)) >>= fun J => pure ()) >>= fun J => pure .next) Q E s
 refine wpB (wpB ?_)
 refine comp_walk (use := some _) hE0 hC hset hi C he .none e1 e2 e3 hA' f H fun D L h' tk ρ' H' x' v' hL hLl hns => ?_
 obtain ⟨m, hn⟩ := hns
 have F' := f.ext H x'
 have hLo : L ∉ own env := fun hm => absurd (f.lt _ hm) (qK hL)
 show wpAny (model prog w) A (assign (.Name x p') env (.ref D)) _ E _
 refine wpAny_assign_Name (yH (s := { s with heap := h', toks := tk }) F' H' g (.inl hk) v' fun h_2 tk_2 F_2 H_2 x_2 => ?_)
 have hn_2 : h_2.Ns L m := hn.at' fun o q => x_2.keep L o hLl (H'.neP_of_new (qT H.big hL)) hLo q
 refine ⟨m, hn_2, fun h_3 hs_3 => ?_⟩
 obtain ⟨H_3, x_3⟩ := H_2.step (X := [L]) (h' := h_3) (fun b o hb q => (hs_3.2 b (by simpa using hb)).trans q) (qE hs_3.1.symm) (by simpa using ⟨hLl, qT H.big hL⟩) (ns_soft hn_2)
 have F_3 := F_2.extX H_2 x_3 (ns_soft hn_2) (by simpa using hLo)
 refine wpP (wpP ?_)
 refine O .next h_3 tk_2 ρ' F_3 H_3 ?_ trivial
 have : Ext K (L :: own env) s.heap ρ h_3 ρ' := (x'.nil.trans (x_2.mono fun a ha => mT _ ha)).trans (x_3.mono (by simp))
 exact this.weaken fun a ha => by
  rcases mC.mp ha with rfl | ha
  ·exact .inr hL
  ·exact .inl ha
theorem frame_two {names : List (Str × NameKind)} {y z : Str} {env : Env} {h : Heap} {ρ : Gh} {ov : Option V} (f : FrameOk K ⟨names, [y], false⟩ env h ρ [ov]) (hz : names.lookup z = some .local) (hne : y ≠ z) : FrameOk K ⟨names, [y, z], false⟩ env h ρ [ov, none] :=
 f.alter ⟨f.eo.names, f.eo.kind, f.eo.globals, f.eo.builtins, fun q => fE q⟩ rfl (fun i x g => two_ix (C := fun i x => (∃ j : Nat, ([y] : List Str)[j]? = some x /\ ∀ o : Option V, [ov][j]? = some o -> ∃ o' : Option V, [ov, none][i]? = some o' /\ (o' = none \/ o' = o)) \/ ([ov, none][i]? = some none /\ names.lookup x = some .local)) g (.inl ⟨0, rfl, fun o q => ⟨o, q, .inr rfl⟩⟩) (.inr ⟨rfl, hz⟩)) (by simp [hne]) rfl
theorem comp2_expr (hE : SEval K prog w n r.eval) (hC2 : SComp2 K prog w n r.comp2) {sc : Sc} {elt iter iter2 : Expr} {y z : Str} {yp zp p : Pos} {scope : Scope} {me mi mj : ME}
  (hset : yK iter = false) (hset2 : yK iter2 = false) (hi : IsE sc iter mi) (C : CompOk sc y [] [] scope) (hno : y5 scope.names = true) (hz : scope.names.lookup z = some .local) (hne : y ≠ z) (hcl : closed ⟨[], [], false⟩ scope.names = true)
  (hj : IsE ⟨scope.names, [y, z], false⟩ iter2 mj) (he : IsE ⟨scope.names, [z, y], false⟩ elt me) :
  EvAt K prog w (n + 1) sc (.ListComp elt [⟨.Name y yp, iter, [], 0⟩, ⟨.Name z zp, iter2, [], 0⟩] scope p) (evalF r (.comp2 me mi mj)) := by
 intro sl σ v σ' e A env s ρ E Q hA f H O
 have hA' := hA.mono (nLS n)
 refine obP e fun vi σ_1 e1 e => ?_
 refine obE e fun o e2 e => ?_
 refine obP e fun vs σ_2 e3 e => ?_
 have O := O.of e
 have nofree : ∀ x ∈ scope.names, x.2 ≠ .free := fun x hx hk => by
  have := aT.mp hcl x hx
  simp [hk] at this
 have hrel : relab sc scope.names = scope.names := by
  unfold relab
  refine map_eq_self fun x hx => ?_
  have : (x.2 == NameKind.free) = false := by have := nofree x hx; simpa using this
  simp [this]
 have hy : scope.names.lookup y = some .local := by
  rcases C.hy with ⟨_, q⟩ | ⟨q, _⟩
  ·exact q
  ·exfalso
   have q : (scope.names.filter fun p => p.2 == .cell) = [(y, .cell)] := by simpa [oneCell] using q
   have hm : (y, NameKind.cell) ∈ scope.names := (List.mem_filter.mp (q ▸ List.mem_singleton_self _ : (y, NameKind.cell) ∈ scope.names.filter fun p => p.2 == .cell)).1
   have := aT.mp hno _ hm
   simp at this
 rw [eval_ListComp]
 refine wpAny_comprehension_free (use := none) rfl (xQ hset env) (closureFor_none nofree) C.hk (goodNames_spec C.hgood) ?_
 refine hE hi e1 hA' f H fun u h_1 tk_1 ρ_1 H_1 x_1 r_1 => ?_
 refine iter_sound (s := { s with heap := h_1, toks := tk_1 }) e2 H_1 r_1 fun it h_2 tk_2 H_2 x_2 I i1 i2 i3 => ?_
 refine wpAny_newList ?_
 obtain ⟨H_3, x_3⟩ := H_2.push { cls := .type "list", data := .seq ([] : List Value).toArray }
 have F_3 : FrameOk K sc env (h_2.push { cls := .type "list", data := .seq ([] : List Value).toArray }) ρ_1 sl := ((f.ext H x_1).ext H_1 x_2).ext H_2 x_3
 have I_3 := I.extX x_3 (by exact fun J h => nomatch h) i1 (H_2.neP_of_new i2) nmN
 refine comp_env (s := { s with heap := h_2.push { cls := .type "list", data := .seq ([] : List Value).toArray }, toks := tk_2 }) F_3 H_3 C (by exact fun J h => nomatch h) (fun x hx => absurd rfl (nofree _ hx)) fun cenv h_4 ce => ?_
 have hsz : (h_2.push { cls := .type "list", data := .seq ([] : List Value).toArray }).objs.size = h_2.objs.size + 1 := hSP ..
 have Dlt : h_2.objs.size < (h_2.push { cls := .type "list", data := .seq ([] : List Value).toArray }).objs.size := by rw [hsz]; exact Nat.lt_succ_self _
 have I_4 := I_3.extX ce.ext (by exact fun J h => nomatch h) i1 (H_2.neP_of_new i2) nmN
 have hpl : h_4.PlainList h_2.objs.size #[] := ⟨_, ce.ext.keep _ _ H_2.fresh (H_2.neP_of_new H_2.big) nmN (hPS _ rfl)⟩
 have hs1 : s.heap.objs.size <= h_1.objs.size := x_1.size
 have hs2 : h_1.objs.size <= h_2.objs.size := x_2.size
 have F_1 := f.ext H x_1
 have notOwn : ∀ a, h_1.objs.size <= a -> a < (h_2.push { cls := .type "list", data := .seq ([] : List Value).toArray }).objs.size -> a ∉ own { cenv with scope := relabel scope env } := fun a h1 h2 hm => by
  rcases ce.own_ a hm with q | q
  ·exact absurd (F_1.lt a q) (qK h1)
  ·exact absurd h2 (qK q)
 have hIlt : it < h_2.objs.size := I.lt
 have fr0 := ce.fr
 rw [hrel] at fr0
 have fr := frame_two (K := K) (ov := none) fr0 hz hne
 refine start_any (g := ⟨.Name y yp, iter, [], 0⟩) rfl rfl I_4 ?_
 refine hC2 hy hz he hj hset2 e3 hA' (s := { s with heap := h_4, toks := tk_2 }) fr ce.hr I_4 i1 i2 (notOwn it i3 (Nat.lt_trans hIlt Dlt)) H_2.fresh H_2.big (notOwn _ hs2 Dlt) (Nat.ne_of_gt hIlt) hpl .nil fun h_5 tk_5 ρ_5 ys_5 oy_5 oz_5 F_5 H_5 x_5 hp_5 hv_5 => ?_
 have x05 : Ext K [it, h_2.objs.size, cenv.locals] s.heap ρ h_5 ρ_5 := ((((x_1.trans x_2).trans x_3).trans ce.ext).nil).trans x_5
 have hD5 : h_2.objs.size ∉ ρ_5.l := x_5.mem H_2.fresh (by obtain ⟨n', hn'⟩ := hpl; exact hLS hn')
 have hlocs : s.heap.objs.size <= cenv.locals := qT hs1 (qT hs2 (qT (qW Dlt) ce.locs))
 obtain ⟨H_6, v_6, x_6⟩ := comp_end H_5 x05 (fun a ha => by
  rcases mC.mp ha with rfl | ha
  ·exact qT hs1 i3
  ·rcases mC.mp ha with rfl | ha
   ·exact qT hs1 hs2
   ·rw [mS.mp ha]; exact hlocs) hp_5 hv_5 hD5 H_2.big (qT hs1 hs2)
 have hlo : cenv.locals ∉ (ρ_5.add h_2.objs.size).l := by
  intro hm
  rcases mA.mp hm with q | q
  ·exact F_5.out q
  ·have := ce.locs
   rw [mS.mp q] at this
   exact absurd Dlt (qK this)
 obtain ⟨m_5, hn_5, J⟩ := F_5.ns
 refine ⟨m_5, hn_5, fun h'' hs => ?_⟩
 obtain ⟨H'', x'', xs⟩ := let_go H_6 x_6 hn_5 hlocs hlo H.big hs
 exact O _ h'' tk_5 _ H'' x'' (v_6.extX xs (ns_soft hn_5))
end
end Mine
namespace Mine
open PySem PyProof.Rows
theorem wsT {σ α : Type} {M : Model} {A : Around} {Q : α -> σ -> Prop} {E : Value -> Shared -> Prop} {s : Shared} {st : σ} {c : Prop} [Decidable c] {a b : StateT σ Sem α} (h : c) (k : wpS M A E s a Q st) : wpS M A E s (if c then a else b) Q st := by rwa [if_pos h]
theorem wsN {σ α : Type} {M : Model} {A : Around} {Q : α -> σ -> Prop} {E : Value -> Shared -> Prop} {s : Shared} {st : σ} {c : Prop} [Decidable c] {a b : StateT σ Sem α} (h : ¬ c) (k : wpS M A E s b Q st) : wpS M A E s (if c then a else b) Q st := by rwa [if_neg h]
noncomputable def IX (φ : Value -> Int) (xs : Array Keyed) (i : Nat) : Int := match xs[i]? with
 | some p => φ p.2
 | none => 0
noncomputable def LtR (φ : Value -> Int) (xs : Array Keyed) (i j : Nat) : Prop := Kq xs i < Kq xs j \/ (Kq xs i = Kq xs j /\ IX φ xs i < IX φ xs j)
noncomputable def AscR (φ : Value -> Int) (xs : Array Keyed) (n : Nat) : Prop := ∀ i j, i < j -> j < n -> LtR φ xs i j
noncomputable def DescR (φ : Value -> Int) (xs : Array Keyed) (n : Nat) : Prop := ∀ i j, i < j -> j < n -> LtR φ xs j i
structure Rest (φ : Value -> Int) (xs : Array Keyed) (n : Nat) : Prop where
 old : ∀ i : Nat, n <= i -> i < xs.size -> IX φ xs i = (i : Int)
 pre : ∀ i : Nat, i < n -> IX φ xs i < (n : Int)
structure Mid (φ : Value -> Int) (xs : Array Keyed) (p x : Nat) : Prop where
 lt : p < x
 a : DescR φ xs p
 b : ∀ i j, i < p -> p <= j -> j < x -> Kq xs j < Kq xs i
 c : ∀ j : Nat, p <= j -> j < x -> Kq xs j = Kq xs (x - 1) /\ IX φ xs j = (j : Int)
theorem wsDT {σ α : Type} {M : Model} {A : Around} {Q : α -> σ -> Prop} {E : Value -> Shared -> Prop} {s : Shared} {st : σ} {c : Prop} [Decidable c] {a b : StateT σ Sem α} (h : c) (k : wpS M A E s a Q st) : wpS M A E s (if decide c = true then a else b) Q st := wsT (decide_eq_true h) k
theorem wsDN {σ α : Type} {M : Model} {A : Around} {Q : α -> σ -> Prop} {E : Value -> Shared -> Prop} {s : Shared} {st : σ} {c : Prop} [Decidable c] {a b : StateT σ Sem α} (h : ¬ c) (k : wpS M A E s b Q st) : wpS M A E s (if decide c = true then a else b) Q st := wsN (fun q => h (of_decide_eq_true q)) k
section
variable {φ : Value -> Int} {xs ys : Array Keyed} {i j i' j' p x k l : Nat}
theorem xF (h : xs[i]? = ys[j]?) : IX φ xs i = IX φ ys j := by unfold IX; rw [h]
theorem LtR.of (hi : ys[i]? = xs[i']?) (hj : ys[j]? = xs[j']?) (h : LtR φ xs i' j') : LtR φ ys i j := by
 unfold LtR; rw [K_congr hi, K_congr hj, xF hi, xF hj]; exact h
theorem mirA (hx : x <= xs.size) (h : p <= k) (g : k < x) : (mirror xs p x ((x - p) / 2))[k]? = xs[p + x - 1 - k]? := by rw [getElem?_mirror_all hx, if_pos ⟨h, g⟩]
theorem mirB (hx : x <= xs.size) (h : ¬ (p <= k /\ k < x)) : (mirror xs p x ((x - p) / 2))[k]? = xs[k]? := by rw [getElem?_mirror_all hx, if_neg h]
theorem bubE (hs : k < xs.size) (hl : l <= k) (i : Nat) : (bubble xs k (k - l))[i]? = if i = l then xs[k]? else if l < i /\ i <= k then xs[i - 1]? else xs[i]? := by
 have e := getElem?_bubble hs (k - l) (Nat.sub_le _ _) i
 rwa [Nat.sub_sub_self hl] at e
theorem bubA (hs : k < xs.size) (hl : l <= k) : (bubble xs k (k - l))[l]? = xs[k]? := by rw [bubE hs hl, if_pos rfl]
theorem bubB (hs : k < xs.size) (hl : l <= k) (h : l < i) (g : i < k + 1) : (bubble xs k (k - l))[i]? = xs[i - 1]? := by rw [bubE hs hl, if_neg (Nat.ne_of_gt h), if_pos ⟨h, qO g⟩]
theorem bubC (hs : k < xs.size) (hl : l <= k) (h : i < l) : (bubble xs k (k - l))[i]? = xs[i]? := by rw [bubE hs hl, if_neg (nNL h), if_neg (nA (qK (qW h)))]
theorem bubD (hs : k < xs.size) (hl : l <= k) (h : k < i) : (bubble xs k (k - l))[i]? = xs[i]? := by rw [bubE hs hl, if_neg (Nat.ne_of_gt (qD hl h)), if_neg (nB (Nat.not_le_of_lt h))]
theorem m2 (h : j < x) : p <= p + x - 1 - j := by lia
theorem m3 (h : p <= j) (g : j < x) : p + x - 1 - j < x := by lia
theorem m1 (h : i < j) (g : j < x) : p + x - 1 - j < p + x - 1 - i := Nat.sub_lt_sub_left (by lia) h
end
theorem AscR.sorted {φ xs n} (h : AscR φ xs n) : SortedTo xs n := fun i j hij hj => by
 rcases Nat.lt_or_eq_of_le hij with q | q
 ·rcases h i j q hj with r | r
  ·exact qI r
  ·exact Int.le_of_eq r.1
 ·subst q; exact Int.le_refl _
theorem Rest.step {φ xs n m} (h : Rest φ xs n) (hm : n <= m) (hs : m <= xs.size) : Rest φ xs m := by
 refine ⟨fun i h1 h2 => h.old i (qT hm h1) h2, fun i hi => ?_⟩
 by_cases q : i < n
 ·have := h.pre i q; exact Int.lt_of_lt_of_le this (cD hm)
 ·rw [h.old i (qG q) (qA hi hs)]; exact cC hi
theorem Rest.mirror {φ : Value -> Int} {xs : Array Keyed} {p x : Nat} (h : Rest φ xs x) (hx : x <= xs.size) : Rest φ (mirror xs p x ((x - p) / 2)) x := by
 refine ⟨fun i h1 h2 => ?_, fun i hi => ?_⟩
 ·rw [mirror_size] at h2
  exact (xF (mirB hx (nB (qK h1)))).trans (h.old i h1 h2)
 ·by_cases q : p <= i
  ·exact xF (mirA hx q hi) ▸ h.pre _ (m3 q hi)
  ·exact xF (mirB hx (nA q)) ▸ h.pre _ hi
theorem Mid.desc {φ : Value -> Int} {xs : Array Keyed} {p x : Nat} (h : Mid φ xs p x) (hx : x <= xs.size) : DescR φ (mirror xs p x ((x - p) / 2)) x := by
 intro i j hij hj
 have hx' := qM hij hj
 by_cases hi : p <= i
 ·have hjp := qT hi (qW hij)
  have c1 := h.c _ (m2 hx') (m3 hi hx')
  have c2 := h.c _ (m2 hj) (m3 hjp hj)
  exact LtR.of (mirA hx hjp hj) (mirA hx hi hx') (.inr ⟨c2.1.trans c1.1.symm, c1.2 ▸ c2.2 ▸ Int.ofNat_lt.2 (m1 hij hj)⟩)
 ·by_cases hjp : p <= j
  ·exact LtR.of (mirA hx hjp hj) (mirB hx (nA hi)) (.inl (h.b i _ (Nat.lt_of_not_le hi) (m2 hj) (m3 hjp hj)))
  ·exact LtR.of (mirB hx (nA hjp)) (mirB hx (nA hi)) (h.a i j hij (Nat.lt_of_not_le hjp))
theorem Mid.desc1 {φ : Value -> Int} {xs : Array Keyed} {x : Nat} (h : Mid φ xs (x - 1) x) : DescR φ xs x := by
 intro i j hij hj
 have := h.lt
 by_cases hjp : j < x - 1
 ·exact h.a i j hij hjp
 ·exact .inl (h.b i j (qA hij (Nat.le_sub_of_add_le hj)) (qG hjp) hj)
section
variable {prog : Program} {w : World} {A : Around} {E : Value -> Shared -> Prop} {s : Shared} {a_0 : Array Keyed} {φ : Value -> Int}
theorem ascLoopR {st : SortSt} {a nrem : Nat} {Q : AscSt -> SortSt -> Prop} (h0 : IntKeys a_0) (hn : nrem <= a_0.size) (ha : 1 <= a) (han : a <= nrem) (hB : SBase a_0 st)
  (hs : AscR φ (arrOf st) a) (hr : Rest φ (arrOf st) a)
  (h : ∀ n, a <= n -> n <= nrem -> AscR φ (arrOf st) n -> Rest φ (arrOf st) n -> (n = nrem \/ Kq (arrOf st) n < Kq (arrOf st) (n - 1)) -> Q (none, n) st) :
  wpS (model prog w) A E s (ascLoop a nrem) Q st := by
 unfold ascLoop
 refine wpS_forRange (I := fun x c st' => st' = st /\ c = (none, x) /\ AscR φ (arrOf st) x) ?step ?fin ⟨rfl, rfl, hs⟩
 case fin =>
  rintro c st' ⟨rfl, rfl, hs'⟩
  rw [show max a nrem = nrem by exact Nat.max_eq_right han] at hs' ⊢
  exact h nrem han qR hs' (hr.step han (by rw [hB.size]; exact hn)) (.inl rfl)
 case step =>
  rintro x c st' hax hxn ⟨rfl, rfl, hs'⟩
  have hrx : Rest φ (arrOf st') x := hr.step hax (by rw [hB.size]; exact qW (qA hxn hn))
  refine wpS_bind (wpS_ltK hB h0 (qA hxn hn) (Nat.sub_lt_of_lt (qA hxn hn)) ?_)
  by_cases hless : Kq (arrOf st') x < Kq (arrOf st') (x - 1)
  ·exact wsDT hless (wpS_pure (h x hax (qW hxn) hs' hrx (.inr hless)))
  ·refine wsDN hless ?_
   refine wpS_pure ⟨rfl, rfl, fun i j hij hj => ?_⟩
   by_cases hjx : j < x
   ·exact hs' i j hij hjx
   ·have hj' : j = x := by exact qV (qO hj) (qG hjx)
    subst hj'
    have h1 : Kq (arrOf st') i <= Kq (arrOf st') (j - 1) := hs'.sorted i (j - 1) (Nat.le_sub_of_add_le hij) (Nat.sub_lt (qA ha hax) qR)
    have h2 := Int.not_lt.mp hless
    by_cases he : Kq (arrOf st') i = Kq (arrOf st') j
    ·refine .inr ⟨he, ?_⟩
     rw [hrx.old j qR (by rw [hB.size]; exact qA hxn hn)]
     exact hrx.pre i hij
    ·exact .inl (by lia)
noncomputable def Good (φ : Value -> Int) (a_0 : Array Keyed) (nrem : Nat) (Q : Option Nat -> SortSt -> Prop) : Prop :=
 ∀ m st', SBase a_0 st' -> 1 <= m -> m <= nrem -> AscR φ (arrOf st') m -> Rest φ (arrOf st') m -> Q (some m) st'
theorem tail3R {st : SortSt} {n nrem : Nat} {Q : Option Nat -> SortSt -> Prop} (h0 : IntKeys a_0) (hn : nrem <= a_0.size) (h1 : 1 <= n) (hnn : n <= nrem) (hB : SBase a_0 st)
  (hs : DescR φ (arrOf st) n) (hr : Rest φ (arrOf st) n) (h : Good φ a_0 nrem Q) :
  wpS (model prog w) A E s (tail3 n nrem) Q st := by
 unfold tail3
 have hsz : n <= (arrOf st).size := by rw [hB.size]; exact qT hnn hn
 refine wpS_bind (wpS_reverse ?_)
 have hB' : SBase a_0 (setArr st (mirror (arrOf st) 0 n ((n - 0) / 2))) := hB.setArr (mirror_perm _ _ _ _)
 refine wpS_bind (ascLoopR (φ := φ) h0 hn h1 hnn hB' ?_ (hr.mirror (p := 0) hsz) fun m hm1 hm2 hsm hrm J => wpS_pure (h m _ hB' (qA h1 hm1) hm2 hsm hrm))
 exact fun i j hij hj => LtR.of (mirA hsz qZ (qM hij hj)) (mirA hsz qZ hj) (hs _ _ (m1 hij hj) (m3 qZ (qM hij hj)))
theorem descLoopR {st : SortSt} {n nrem : Nat} {Q : DescSt -> SortSt -> Prop} (h0 : IntKeys a_0) (hn : nrem <= a_0.size) (h1 : 1 <= n) (hnn : n <= nrem) (hB : SBase a_0 st)
  (hs : Mid φ (arrOf st) (n - 1) n) (hr : Rest φ (arrOf st) n)
  (h : ∀ m neq st', SBase a_0 st' -> n <= m -> m <= nrem -> neq + 1 <= m -> Mid φ (arrOf st') (m - (neq + 1)) m -> Rest φ (arrOf st') m -> Q (none, m, neq) st') :
  wpS (model prog w) A E s (descLoop n nrem) Q st := by
 unfold descLoop
 refine wpS_forRange (I := fun x c st' => ∃ neq, c = (none, x, neq) /\ SBase a_0 st' /\ neq + 1 <= x /\ Mid φ (arrOf st') (x - (neq + 1)) x /\ Rest φ (arrOf st') x) ?step ?fin ⟨0, rfl, hB, by exact h1, hs, hr⟩
 case fin =>
  rintro c st' ⟨neq, rfl, hB', hq, hm, hr'⟩
  rw [show max n nrem = nrem by exact Nat.max_eq_right hnn] at hm hq hr' ⊢
  exact h nrem neq st' hB' hnn qR hq hm hr'
 case step =>
  rintro x c st' hax hxn ⟨neq, rfl, hB', hq, hm, hr'⟩
  have hsz : x <= (arrOf st').size := by rw [hB'.size]; exact qW (qA hxn hn)
  have hxs : x < (arrOf st').size := by rw [hB'.size]; exact qA hxn hn
  refine wpS_bind (wpS_ltK hB' h0 (qA hxn hn) (Nat.sub_lt_of_lt (qA hxn hn)) ?_)
  by_cases hless : Kq (arrOf st') x < Kq (arrOf st') (x - 1)
  ·refine wsDT hless ?_
   have low : ∀ i, i < x -> Kq (arrOf st') (x - 1) <= Kq (arrOf st') i := fun i hi => by
    by_cases hp : i < x - (neq + 1)
    ·exact qI (hm.b i (x - 1) hp (Nat.sub_le_sub_left qQ _) (Nat.sub_lt (qA h1 hax) qR))
    ·exact Int.le_of_eq (hm.c i (qG hp) hi).1.symm
   have step1 : ∀ xs : Array Keyed, DescR φ xs x -> Rest φ xs x -> xs.size = (arrOf st').size -> Kq xs x = Kq (arrOf st') x -> (∀ i, i < x -> Kq (arrOf st') (x - 1) <= Kq xs i) -> Mid φ xs (x + 1 - (0 + 1)) (x + 1) /\ Rest φ xs (x + 1) := by
    intro xs hd hr hs hk hl
    refine ⟨⟨by exact qR, hd, fun i j hi h1 h2 => ?_, fun j h1 h2 => ?_⟩, hr.step qU (eA hs hxs)⟩
    ·have : j = x := by exact Nat.eq_of_le_of_lt_succ h1 h2
     subst this
     have := hl i hi
     lia
    ·have : j = x := by exact Nat.eq_of_le_of_lt_succ h1 h2
     subst this
     exact ⟨rfl, hr.old j qR (eA hs hxs)⟩
   by_cases hneq : neq > 0
   ·refine wsT hneq ?_
    have q := step1 (mirror (arrOf st') (x - (neq + 1)) x ((x - (x - (neq + 1))) / 2)) (hm.desc hsz) (hr'.mirror hsz) (mirror_size _ _ _ _) (by rw [K_mirror hsz, if_neg (nB (nIR _))]) (fun i hi => by
     rw [K_mirror hsz]
     split
     ·exact low _ (by lia)
     ·exact low _ hi)
    exact wpS_bind (wpS_reverse (wpS_pure ⟨0, rfl, hB'.setArr (mirror_perm _ _ _ _), by exact qQ, q.1, q.2⟩))
   ·refine wsN hneq ?_
    have hz : neq = 0 := by exact qV (qG hneq) qZ
    subst hz
    have q := step1 (arrOf st') hm.desc1 hr' rfl rfl low
    exact wpS_pure ⟨0, rfl, hB', by exact qS hq, q.1, q.2⟩
  ·refine wsDN hless ?_
   refine wpS_bind (wpS_ltK hB' h0 (Nat.sub_lt_of_lt (qA hxn hn)) (qA hxn hn) ?_)
   by_cases hlarger : Kq (arrOf st') (x - 1) < Kq (arrOf st') x
   ·exact wsDT hlarger (wpS_pure (h x neq st' hB' hax (qW hxn) hq hm hr'))
   ·refine wsDN hlarger ?_
    have heqx : Kq (arrOf st') x = Kq (arrOf st') (x - 1) := by lia
    refine wpS_pure ⟨neq + 1, rfl, hB', by exact qB hq, ?_, hr'.step qU hxs⟩
    rw [show x + 1 - (neq + 1 + 1) = x - (neq + 1) by exact Nat.add_sub_add_right _ _ _]
    refine ⟨by exact qB (Nat.sub_le _ _), hm.a, fun i j hi h1 h2 => ?_, fun j h1 h2 => ?_⟩
    ·by_cases hjx : j < x
     ·exact hm.b i j hi h1 hjx
     ·have : j = x := by exact qV (qO h2) (qG hjx)
      subst this
      rw [heqx]
      exact hm.b i (j - 1) hi (Nat.sub_le_sub_left qQ _) (by lia)
    ·rw [show x + 1 - 1 = x by exact Nat.add_sub_cancel _ _]
     by_cases hjx : j < x
     ·rw [heqx]; exact hm.c j h1 hjx
     ·have : j = x := by exact qV (qO h2) (qG hjx)
      subst this
      exact ⟨rfl, hr'.old j qR hxs⟩
theorem descPartR {st : SortSt} {n nrem : Nat} {Q : Option Nat -> SortSt -> Prop} (h0 : IntKeys a_0) (hn : nrem <= a_0.size) (hnn : n + 1 <= nrem) (hB : SBase a_0 st)
  (hs : Mid φ (arrOf st) n (n + 1)) (hr : Rest φ (arrOf st) (n + 1)) (h : Good φ a_0 nrem Q) :
  wpS (model prog w) A E s (descPart n nrem) Q st := by
 unfold descPart
 refine wpS_bind (wpS_lift (wpAny_rule ⟨rfl, ?_⟩))
 refine wpS_bind (descLoopR (φ := φ) h0 hn qQ hnn hB (by simpa using hs) hr fun m neq st' hB' hm1 hm2 hq hm hr' => ?_)
 have hsz : m <= (arrOf st').size := by rw [hB'.size]; exact qT hm2 hn
 by_cases hneq : neq > 0
 ·refine wsT hneq ?_
  exact wpS_bind (wpS_reverse (tail3R h0 hn (qM hneq hq) hm2 (hB'.setArr (mirror_perm _ _ _ _)) (hm.desc hsz) (hr'.mirror hsz) h))
 ·refine wsN hneq ?_
  have hz : neq = 0 := by exact qV (qG hneq) qZ
  subst hz
  exact tail3R h0 hn hq hm2 hB' hm.desc1 hr' h
theorem countRunR {st : SortSt} {nrem : Nat} {Q : Option Nat -> SortSt -> Prop} (h0 : IntKeys a_0) (hn : nrem <= a_0.size) (h1 : 1 <= nrem) (hB : SBase a_0 st) (hr : Rest φ (arrOf st) 0)
  (h : Good φ a_0 nrem Q) : wpS (model prog w) A E s (countRun' 0 nrem) Q st := by
 rw [countRun0_eq]
 have hss : (arrOf st).size = a_0.size := hB.size
 have r1 : Rest φ (arrOf st) 1 := hr.step qZ (eA hss (qA h1 hn))
 refine wpS_bind (ascLoopR (φ := φ) h0 hn (Nat.le_refl 1) h1 hB (fun i j hij hj => by lia) r1 fun n hn1 hn2 hsn hrn hor => ?_)
 by_cases hnn : n = nrem
 ·refine wsT (by simpa using hnn) ?_
  exact wpS_pure (h n st hB hn1 hn2 hsn hrn)
 ·refine wsN (by simpa using hnn) ?_
  have hlt : Kq (arrOf st) n < Kq (arrOf st) (n - 1) := hor.resolve_left hnn
  have hsz : n <= (arrOf st).size := by lia
  by_cases hgt : n > 1
  ·refine wsT hgt ?_
   refine wpS_bind (wpS_ltK hB h0 (qA h1 hn) (by lia) ?_)
   by_cases hrose : Kq (arrOf st) 0 < Kq (arrOf st) (n - 1)
   ·exact wsDT hrose (wpS_pure (h n st hB hn1 hn2 hsn hrn))
   ·refine wsDN hrose ?_
    have hall : ∀ k, k < n -> Kq (arrOf st) k = Kq (arrOf st) (n - 1) := by
     intro k hk
     have a1 := hsn.sorted 0 k qZ hk
     have a2 := hsn.sorted k (n - 1) (Nat.le_sub_of_add_le hk) (Nat.sub_lt hn1 qR)
     lia
    have mid : Mid φ (arrOf st) 0 n := ⟨by exact hn1, fun i j J hj => by lia, fun i j hi => by lia, fun j J hj => ⟨hall j hj, hr.old j qZ (qA hj hsz)⟩⟩
    have hd : DescR φ (mirror (arrOf st) 0 n ((n - 0) / 2)) n := mid.desc hsz
    have hr2 : Rest φ (mirror (arrOf st) 0 n ((n - 0) / 2)) n := hrn.mirror hsz
    have hsm : (mirror (arrOf st) 0 n ((n - 0) / 2)).size = (arrOf st).size := mirror_size _ _ _ _
    refine wpS_bind (wpS_reverse (descPartR h0 hn (Nat.lt_of_le_of_ne hn2 hnn) (hB.setArr (mirror_perm _ _ _ _)) ⟨by exact qR, hd, fun i j hi hj1 hj2 => ?_, fun j hj1 hj2 => ?_⟩ (hr2.step qU (by rw [hsm]; lia)) h))
    ·have : j = n := by exact Nat.eq_of_le_of_lt_succ hj1 hj2
     subst this
     show Kq (mirror (arrOf st) 0 j ((j - 0) / 2)) j < Kq (mirror (arrOf st) 0 j ((j - 0) / 2)) i
     rw [K_mirror hsz, K_mirror hsz, if_neg (by simp), if_pos (And.intro qZ hi), hall (0 + j - 1 - i) (by lia)]
     exact hlt
    ·have : j = n := by exact Nat.eq_of_le_of_lt_succ hj1 hj2
     subst this
     exact ⟨rfl, hr2.old j qR (by rw [hsm]; lia)⟩
  ·refine wsN hgt ?_
   have hn1' : n = 1 := by exact qV (qG hgt) hn1
   subst hn1'
   refine descPartR h0 hn (Nat.lt_of_le_of_ne hn2 hnn) hB ⟨by exact qR, fun i j J hj => by lia, fun i j hi hj1 hj2 => ?_, fun j hj1 hj2 => ?_⟩ (r1.step (qS hn1) (by lia)) h
   ·have e1 : i = 0 := by exact qV (qO hi) qZ
    have e2 : j = 1 := by exact Nat.eq_of_le_of_lt_succ hj1 hj2
    subst e1; subst e2
    exact hlt
   ·have e2 : j = 1 := by exact Nat.eq_of_le_of_lt_succ hj1 hj2
    subst e2
    exact ⟨rfl, r1.old 1 qR (by lia)⟩
theorem m5 {l j k : Nat} (h : l < j) (g : j < k + 1) : j - 1 < k := by lia
theorem insR' {xs : Array Keyed} {k l : Nat} (hks : k < xs.size) (hlk : l <= k) (hs : AscR φ xs k) (hr : Rest φ xs k) (hlo : ∀ i, i < l -> Kq xs i <= Kq xs k) (hhi : ∀ i, l <= i -> i < k -> Kq xs k < Kq xs i) :
  AscR φ (bubble xs k (k - l)) (k + 1) /\ Rest φ (bubble xs k (k - l)) (k + 1) := by
 have hk' : IX φ xs k = (k : Int) := hr.old k qR hks
 have lt : ((k : Nat) : Int) < (k + 1 : Nat) := Int.ofNat_lt.2 (Nat.lt_succ_self k)
 refine ⟨fun i j hij hj => ?_, fun i h1 h2 => ?_, fun i hi => ?_⟩
 ·rcases Nat.lt_trichotomy i l with h1 | rfl | h1
  ·have ei := bubC hks hlk h1
   rcases Nat.lt_trichotomy j l with h4 | rfl | h4
   ·exact LtR.of ei (bubC hks hlk h4) (hs _ _ hij (qA h4 hlk))
   ·refine LtR.of ei (bubA hks hlk) ?_
    by_cases he : Kq xs i = Kq xs k
    ·exact .inr ⟨he, hk' ▸ hr.pre i (qA h1 hlk)⟩
    ·exact .inl (Int.lt_iff_le_and_ne.2 ⟨hlo i h1, he⟩)
   ·exact LtR.of ei (bubB hks hlk h4 hj) (hs _ _ (qA h1 (Nat.le_sub_one_of_lt h4)) (m5 h4 hj))
  ·exact LtR.of (bubA hks hlk) (bubB hks hlk hij hj) (.inl (hhi _ (Nat.le_sub_one_of_lt hij) (m5 hij hj)))
  ·have hlj := qM h1 hij
   exact LtR.of (bubB hks hlk h1 (qM hij hj)) (bubB hks hlk hlj hj) (hs _ _ (Nat.sub_lt_sub_right (qD qZ h1) hij) (m5 hlj hj))
 ·rw [bubble_size] at h2
  exact (xF (bubD hks hlk h1)).trans (hr.old i (qW h1) h2)
 ·rcases Nat.lt_trichotomy i l with h | rfl | h
  ·exact xF (bubC hks hlk h) ▸ Int.lt_trans (hr.pre i (qA h hlk)) lt
  ·exact xF (bubA hks hlk) ▸ hk' ▸ lt
  ·exact xF (bubB hks hlk h hi) ▸ Int.lt_trans (hr.pre _ (m5 h hi)) lt
theorem ltK0 {st : SortSt} {i j : Nat} {Q : Option Bool -> SortSt -> Prop} (hB : SBase a_0 st) (h0 : IntKeys a_0) (hi : i < a_0.size) (hj : j < a_0.size)
  (h : Q (some (decide (Kq (arrOf st) i < Kq (arrOf st) j))) st) : wpS (model prog w) A E s (ltAt' (0 + i) (0 + j)) Q st := by
 rw [Nat.zero_add, Nat.zero_add]; exact wpS_ltK hB h0 hi hj h
theorem mvK {st : SortSt} {k l : Nat} {Q : Unit -> SortSt -> Prop} (h : Q () (setArr st (bubble (arrOf st) k (k - l)))) : wpS (model prog w) A E s (moveDown' (0 + k) (0 + l)) Q st := by
 rw [Nat.zero_add, Nat.zero_add, moveDown'_eq]; exact wpS_modify h
theorem halfLt {l r : Nat} (h : ¬ l ≥ r) : (l + r) / 2 < r := by lia
theorem halfGe {l r : Nat} (h : ¬ l ≥ r) : l <= (l + r) / 2 := by lia
structure BI (xs : Array Keyed) (k l r : Nat) : Prop where
 lr : l <= r
 rk : r <= k
 lo : ∀ i, i < l -> Kq xs i <= Kq xs k
 hi : ∀ i, r <= i -> i < k -> Kq xs k < Kq xs i
theorem binarySortR {st : SortSt} {n ok : Nat} {Q : Bool -> SortSt -> Prop} (h0 : IntKeys a_0) (hn : n <= a_0.size) (h1 : 1 <= ok) (hok : ok <= n) (hB : SBase a_0 st) (hs : AscR φ (arrOf st) ok) (hr : Rest φ (arrOf st) ok)
  (h : ∀ st', SBase a_0 st' -> AscR φ (arrOf st') n -> Q true st') : wpS (model prog w) A E s (binarySort' 0 n ok) Q st := by
 have e : max ok 1 = ok := Nat.max_eq_left h1
 refine wpS_bind (wpS_mono (wpS_forRange (I := fun k c st' => c = (none, ()) /\ SBase a_0 st' /\ AscR φ (arrOf st') k /\ Rest φ (arrOf st') k)
  (Q := fun c st' => c = (none, ()) /\ SBase a_0 st' /\ AscR φ (arrOf st') n) ?step ?fin ⟨rfl, hB, e.symm ▸ hs, e.symm ▸ hr⟩) ?post)
 case post =>
  rintro c st' ⟨rfl, hB', hs'⟩
  exact wpS_pure (h st' hB' hs')
 case fin =>
  rintro c st' ⟨hc, hB', hs', _⟩
  rw [e, Nat.max_eq_right hok] at hs'
  exact ⟨hc, hB', hs'⟩
 case step =>
  rintro k c st' hak hkn ⟨rfl, hB', hs', hr'⟩
  have hk : k < a_0.size := qA hkn hn
  refine wpS_bind (wpS_mono (wpS_forRange (I := fun x c st'' => st'' = st' /\ ∃ l r, c = (none, l, r) /\ r + x <= k + l /\ BI (arrOf st') k l r)
   (Q := fun c st'' => st'' = st' /\ ∃ l, c = (none, l, l) /\ BI (arrOf st') k l l) ?istep ?ifin ⟨rfl, 0, k, rfl, qR, qZ, qR, fun i hi => (nomatch hi), fun i h1 h2 => absurd h2 (qK h1)⟩) ?ipost)
  case ifin =>
   rintro c st'' ⟨rfl, l, r, rfl, hm, b⟩
   obtain rfl : l = r := Nat.le_antisymm b.lr (by lia)
   exact ⟨rfl, l, rfl, b⟩
  case istep =>
   rintro x c st'' _ hxk ⟨rfl, l, r, rfl, hm, b⟩
   by_cases hge : l ≥ r
   ·obtain rfl : l = r := Nat.le_antisymm b.lr hge
    exact wsT hge (wpS_pure ⟨rfl, l, rfl, b⟩)
   ·have h2 := halfLt hge
    have h3 := halfGe hge
    refine wsN hge (wpS_bind (ltK0 hB' h0 hk (qM (qA h2 b.rk) hk) ?_))
    by_cases hless : Kq (arrOf st'') k < Kq (arrOf st'') ((l + r) / 2)
    ·exact wsDT hless (wpS_pure ⟨rfl, l, (l + r) / 2, rfl, by lia, h3, qT (qW h2) b.rk, b.lo, fun i h1 h2 => Int.lt_of_lt_of_le hless (hs'.sorted _ _ h1 h2)⟩)
    ·exact wsDN hless (wpS_pure ⟨rfl, (l + r) / 2 + 1, r, rfl, by lia, h2, b.rk, fun i h1 => iLT (hs'.sorted i ((l + r) / 2) (qO h1) (qA h2 b.rk)) (Int.not_lt.mp hless), b.hi⟩)
  case ipost =>
   rintro c st'' ⟨rfl, l, rfl, b⟩
   have q := insR' (φ := φ) (hB'.size ▸ hk) b.rk hs' hr' b.lo b.hi
   exact wpS_bind (mvK (wpS_pure ⟨rfl, hB'.setArr (bubble_perm _ _ _), q⟩))
theorem sortRunsR {st : SortSt} {Q : Unit -> SortSt -> Prop} (h0 : IntKeys a_0) (hB : SBase a_0 st) (h2 : 2 <= a_0.size) (h64 : a_0.size < 64) (hr : Rest φ (arrOf st) 0)
  (h : ∀ st', (arrOf st').Perm a_0 -> failedOf st' = none -> AscR φ (arrOf st') a_0.size -> Q () st') : wpS (model prog w) A E s sortRuns' Q st := by
 have hmr : minRun' (arrOf st).size (arrOf st).size 0 = a_0.size := by
  rw [hB.size]
  cases hz : a_0.size with
  | zero => rw [hz] at h2; exact absurd h2 (by decide)
  | succ f => rw [minRun'_succ, if_pos (hz ▸ h64)]
 have done : ∀ {st : SortSt} {m z : Nat}, z = 0 -> m = a_0.size -> SBase a_0 st -> AscR φ (arrOf st) a_0.size -> SDone a_0 (setPending st ((pendingOf st).push (z, m, 0))) /\ AscR φ (arrOf (setPending st ((pendingOf st).push (z, m, 0)))) a_0.size := by
  rintro st m z rfl rfl hB hs
  exact ⟨hB.done hs.sorted, hs⟩
 have pos : 1 <= a_0.size := qW h2
 refine wpS_bind (wpS_get (wpS_bind (wpS_mono (wpS_forRange
  (I := fun x c st' => (x = 0 /\ c = (none, 0) /\ SBase a_0 st' /\ Rest φ (arrOf st') 0) \/ (1 <= x /\ c = (none, a_0.size) /\ SDone a_0 st' /\ AscR φ (arrOf st') a_0.size))
  (Q := fun c st' => c = (none, a_0.size) /\ SDone a_0 st' /\ AscR φ (arrOf st') a_0.size) ?step ?fin (.inl ⟨rfl, rfl, hB, hr⟩)) ?post)))
 case fin =>
  rintro c st' (⟨hx, _, _⟩ | ⟨_, hc, hD⟩)
  ·rw [hB.size] at hx; lia
  ·exact ⟨hc, hD⟩
 case step =>
  rintro x c st' _ hx (⟨rfl, rfl, hB', hr'⟩ | ⟨hx1, rfl, hD⟩)
  ·have e : (arrOf st).size - 0 = a_0.size := hB.size
   refine wsN (Nat.not_le_of_lt hx) (wpS_bind (countRunR (φ := φ) h0 (qE e) (e ▸ pos) hB' hr' fun m st2 hB2 hm1 hm2 hs2 hr2 => ?_))
   rw [e] at hm2
   by_cases hlt : m < a_0.size
   ·have hn : min ((arrOf st).size - 0) (minRun' (arrOf st).size (arrOf st).size 0) = a_0.size := by rw [hmr, e, Nat.min_self]
    refine wsT (qA hlt (qE hmr.symm)) (wpS_bind (wpS_lift (wpAny_rule ⟨rfl, wpS_bind (binarySortR (φ := φ) (n := min ((arrOf st).size - 0) (minRun' (arrOf st).size (arrOf st).size 0)) h0 (qE hn) hm1 (hn.symm ▸ hm2) hB2 hs2 hr2 fun st3 hB3 hs3 => ?_)⟩)))
    rw [hn] at hs3
    have hb : (pendingOf st3).back? = none := by rw [hB3.pend]; rfl
    refine wsN (fun q => nomatch q) (wpS_bind (wpS_get ?_))
    rw [hb]
    exact wpS_bind (wpS_modify (wpS_pure (.inr ⟨qR, congrArg (Prod.mk _) ((Nat.zero_add _).trans hn), done rfl hn hB3 hs3⟩)))
   ·have hm : m = a_0.size := Nat.le_antisymm hm2 (qG hlt)
    have hb : (pendingOf st2).back? = none := by rw [hB2.pend]; rfl
    refine wsN (fun q => hlt (qA q (qE hmr))) (wpS_bind (wpS_get ?_))
    rw [hb]
    exact wpS_bind (wpS_modify (wpS_pure (.inr ⟨qR, congrArg (Prod.mk _) ((Nat.zero_add _).trans hm), done rfl hm hB2 (hm ▸ hs2)⟩)))
  ·exact wsT (qE hB.size) (wpS_pure ⟨rfl, hD⟩)
 case post =>
  rintro c st' ⟨rfl, hD, hA⟩
  refine wpS_bind (wpS_mono (wpS_forRange (I := fun J c st'' => st'' = st' /\ c = (none, ())) (Q := fun c st'' => st'' = st' /\ c = (none, ())) ?_ (fun J J hh => hh) ⟨rfl, rfl⟩) ?_)
  ·rintro x c st'' _ _ ⟨rfl, rfl⟩
   exact wpS_bind (wpS_get (wsT (qE (congrArg Array.size hD.2.2.1)) (wpS_pure ⟨rfl, rfl⟩)))
  ·rintro c st'' ⟨rfl, rfl⟩
   exact wpS_pure (h _ hD.1 hD.2.1 hA)
end
end Mine
namespace Mine
open PySem PySem.W PySem.Calls PyProof.Rows
noncomputable def StR (pos : V -> Int) (p q : Int × V) : Prop := p.1 < q.1 \/ (p.1 = q.1 /\ pos p.2 < pos q.2)
noncomputable abbrev ltK (a b : Int × V) : Prop := a.1 < b.1
theorem insK_sorted {pos : V -> Int} {x : Int × V} (l : List (Int × V)) : l.Pairwise (StR pos) -> (∀ p ∈ l, pos p.2 < pos x.2) -> (ins ltK x l).Pairwise (StR pos) :=
 ins_e (c := ltK) (x := x) (C := fun l m => l.Pairwise (StR pos) -> (∀ p ∈ l, pos p.2 < pos x.2) -> m.Pairwise (StR pos)) (fun J J => List.pairwise_singleton _ _)
  (fun y r hk h J => List.pairwise_cons.mpr ⟨fun q hq => (mC.mp hq).elim (fun e => e ▸ .inl hk) fun hq => .inl (((List.pairwise_cons.mp h).1 q hq).elim (Int.lt_trans hk) fun e => e.1 ▸ hk), h⟩)
  (fun y r hk ih h hp => List.pairwise_cons.mpr ⟨fun q hq => (mC.mp ((yN r).mem_iff.mp hq)).elim (fun e => e ▸ (Int.lt_or_eq_of_le (Int.le_of_not_gt hk)).imp id fun e => ⟨e, hp _ mcS⟩) ((List.pairwise_cons.mp h).1 q), ih (List.pairwise_cons.mp h).2 fun p hp' => hp p (mT _ hp')⟩) l
theorem sortK_go {pos : V -> Int} : ∀ (ps acc : List (Int × V)), acc.Pairwise (StR pos) -> (∀ p ∈ acc, ∀ q ∈ ps, pos p.2 < pos q.2) -> ps.Pairwise (fun p q => pos p.2 < pos q.2) ->
  (ps.foldl (fun acc p => ins ltK p acc) acc).Pairwise (StR pos) := by
 intro ps; induction ps with
 | nil => exact fun J h J J => h
 | cons p ps ih =>
  intro acc h hlt hp
  exact ih (ins ltK p acc) (insK_sorted _ h fun a ha => hlt a ha p mcS) (fun a ha q hq => (mC.mp ((yN acc).mem_iff.mp ha)).elim (fun e => e ▸ (List.pairwise_cons.mp hp).1 q hq) fun ha => hlt a ha q (mT _ hq)) (List.pairwise_cons.mp hp).2
theorem sortK_spec {pos : V -> Int} {ps : List (Int × V)} (hp : ps.Pairwise (fun p q => pos p.2 < pos q.2)) : (sortK ps).Perm ps /\ (sortK ps).Pairwise (StR pos) :=
 ⟨(ins_fold_perm ps []).trans (.of_eq (List.append_nil ps)), sortK_go (pos := pos) ps [] .nil (fun J h => nomatch h) hp⟩
theorem StR.unique {pos : V -> Int} {l_1 l_2 : List (Int × V)} (p : l_1.Perm l_2) (h1 : l_1.Pairwise (StR pos)) (h2 : l_2.Pairwise (StR pos)) : l_1 = l_2 :=
 List.Perm.eq_of_pairwise (fun a b J J hab hba => by
  exfalso
  rcases hab with q | q <;> rcases hba with q' | q'
  ·lia
  ·exact absurd q'.1 (qF q)
  ·exact absurd q.1 (qF q')
  ·lia) h1 h2 p
section
variable {prog : Program} {w : World} {A : Around} {E : Value -> Shared -> Prop} {s : Shared}
theorem collect_range {R : List Value -> Shared -> Prop} {r : Addr} {a b c : Int} {t u v : Tok} {n : Nat} (hh : A.handled = none) (hr : IsRange s.heap r a b c t u v) (hsmall : Builtin.Range.small a b c = true) (hn : Builtin.Range.rangeSize a b c = n) (hlen : n <= 2 ^ 24)
  (h : ∀ (h' : Heap) (tk : Nat) (acc : Array Value), (∀ b o, s.heap.get? b = some o -> h'.get? b = some o) -> ItemsOf (fun i v => ∃ t, v = .int (a + i * c) t) acc n -> R acc.toList { s with heap := h', toks := tk }) :
  wpAny (model prog w) A (collect (.ref r)) R E s := by
 have hlt : r < s.heap.objs.size := hLS hr
 unfold collect
 refine wpB (wpAny_runValue (codeAny_builtin PyProof.Rows.entry_proto_collect' ?_))
 rw [Around.under_plainId PySem.F.plain_proto_collect _]
 show wpAny _ A.in1 (newList [] >>= fun l => again (.builtin "list.__iadd__" ⟨[l, .ref r], []⟩)) _ _ s
 refine wpB (wpAny_newObj_type ?_)
 refine wpP ⟨plainId_quiet PySem.F.plain_list_iadd _, codeAny_builtin PyProof.Rows.entry_list_iadd' ?_⟩
 rw [Around.under_plainId PySem.F.plain_list_iadd _]
 have hS_1 : (s.heap.push { cls := .type "list", data := .seq ([] : List Value).toArray }).get? s.heap.objs.size = some { cls := .type "list", data := .seq #[] } := hPS _ rfl
 show wpAny _ A.in1 (Builtin.List.listExtendWith (.ref s.heap.objs.size) (.ref r) (.ref s.heap.objs.size)) _ _ _
 have key := wpAny_extend_range (prog := prog) (w := w) (A := A) (s := { s with heap := s.heap.push { cls := .type "list", data := .seq ([] : List Value).toArray } })
  (R := fun (q : Result) (s' : Shared) => ∃ (h' : Heap) (tk : Nat) (acc' : Array Value) (c' : Nat), q = .ok (.ret (.ref s.heap.objs.size)) /\ s' = { s with heap := h', toks := tk } /\
   (∀ b o, s.heap.get? b = some o -> h'.get? b = some o) /\ h'.get? s.heap.objs.size = some { cls := .type "list", dict := none, data := .seq acc' c', slots := #[] } /\ ItemsOf (fun i v => ∃ t, v = .int (a + i * c) t) acc' n)
  hh (hPO _ hr) hsmall hn hlen s.heap.objs.size (.ref s.heap.objs.size) 0 hS_1
  (fun h' tk acc' c' hk hS' hacc => ⟨h', tk, acc', c', rfl, rfl, fun b o e => hk b o (nNL (hLS e)) (hPO _ e), hS', hacc⟩)
 refine wpAny_mono key (fun fin s' x => ?_) fun e s' x => ?_
 ·cases fin with
  | done f =>
   obtain ⟨h', tk, acc', c', e, rfl, hk, hS', hacc⟩ := x
   cases e
   show wpAny _ A (load s.heap.objs.size >>= _) _ _ _
   refine wpB (wpAny_load hS' ?_)
   exact wpP (h h' tk acc' hk hacc)
  | again c_1 =>
   refine ⟨x.1, codeAny_mono x.2 fun q s_2 y => ?_⟩
   obtain ⟨h', tk, acc', c', rfl, rfl, hk, hS', hacc⟩ := y
   show wpAny _ A (load s.heap.objs.size >>= _) _ _ _
   refine wpB (wpAny_load hS' ?_)
   exact wpP (h h' tk acc' hk hacc)
 ·obtain ⟨J, J, J, J, e', J⟩ := x
  cases e'
end
theorem idx_inj {is : List Int} (hnd : is.Nodup) {i : Nat} {c : Int} (h : is[i]? = some c) : is.idxOf c = i := by
 obtain ⟨hi, e⟩ := gSI.mp h
 subst e
 exact hnd.idxOf_getElem i hi
theorem ints_get {vs : List Value} {ns : List Int} (h : IntsAre vs ns) : vs.length = ns.length /\ ∀ i : Nat, ∀ v, vs[i]? = some v -> ∃ n t, v = .int n t /\ ns[i]? = some n := by
 induction h with
 | nil => exact ⟨rfl, fun i v hv => by simp at hv⟩
 | cons n t _ ih =>
  refine ⟨by simp [ih.1], fun i v hv => ?_⟩
  cases i with
  | zero => simp at hv; subst hv; exact ⟨n, t, rfl, rfl⟩
  | succ i => simpa using ih.2 i v (by simpa using hv)
section
variable {prog : Program} {w : World} {A : Around} {E : Value -> Shared -> Prop} {s : Shared}
theorem zip_ints : ∀ {as : List Value} {ks : List Int} {bs : List Value} {is : List Int}, IntsAre as ks -> IntsAre bs is -> (as.zip bs).map (fun p : Keyed => (numOf p.1, V.int (numOf p.2))) = ks.zip (is.map V.int) := by
 intro as ks bs is h; revert bs is; induction h with
 | nil => exact fun J => rfl
 | cons n t h ih => intro bs is g; cases g with
  | nil => rfl
  | cons m u g => exact congrArg ((n, V.int m) :: ·) (ih g)
noncomputable def vNum : V -> Int
 | .int c => c
 | _ => 0
theorem sort_out {keys : Array Value} {ws : List Value} {ks is : List Int} (hk : IntsAre keys.toList ks) (hw : IntsAre ws is) (hnd : is.Nodup) (hlen : ks.length = is.length) (xs : Array Keyed) (hp : xs.Perm (keys.zip ws.toArray))
  (ha : AscR (fun v => ((is.idxOf (numOf v) : Nat) : Int)) xs xs.size) : (xs.toList.map fun p : Keyed => (numOf p.1, V.int (numOf p.2))) = sortK (ks.zip (is.map V.int)) := by
 let pos : V -> Int := fun v => ((is.idxOf (vNum v) : Nat) : Int)
 have hl : xs.toList.Perm (keys.toList.zip ws) := by rw [← ksk_zip]; exact Array.perm_iff_toList_perm.mp hp
 have e0 : (keys.toList.zip ws).map (fun p : Keyed => (numOf p.1, V.int (numOf p.2))) = ks.zip (is.map V.int) := zip_ints hk hw
 have h1 : (xs.toList.map fun p : Keyed => (numOf p.1, V.int (numOf p.2))).Perm (ks.zip (is.map V.int)) := e0 ▸ hl.map _
 have h2 : (xs.toList.map fun p : Keyed => (numOf p.1, V.int (numOf p.2))).Pairwise (StR pos) := by
  rw [List.pairwise_iff_getElem]
  intro i j hi hj hij
  have hi' : i < xs.size := by simpa using hi
  have hj' : j < xs.size := by simpa using hj
  have q := ha i j hij hj'
  unfold LtR IX at q
  rw [K_eq hi', K_eq hj'] at q
  simp only [getElem?_pos xs i hi', getElem?_pos xs j hj'] at q
  simp only [List.getElem_map, Array.getElem_toList]
  exact q
 have h3 : (ks.zip (is.map V.int)).Pairwise (fun p q => pos p.2 < pos q.2) := by
  rw [List.pairwise_iff_getElem]
  intro i j hi hj hij
  have hi' : i < is.length := by simp at hi; exact qA hi (Nat.min_le_right _ _)
  have hj' : j < is.length := by simp at hj; exact qA hj (Nat.min_le_right _ _)
  have e1 := idx_inj hnd (gEG hi')
  have e2 := idx_inj hnd (gEG hj')
  simp only [List.getElem_zip, List.getElem_map]
  show ((is.idxOf is[i] : Nat) : Int) < ((is.idxOf is[j] : Nat) : Int)
  rw [e1, e2]
  exact cC hij
 obtain ⟨p1, p2⟩ := sortK_spec h3
 exact StR.unique (h1.trans p1.symm) h2 p2
end
end Mine
set_option maxRecDepth 100000
namespace Mine
open PySem PySem.W PySem.Calls PyProof.Rows
theorem mapKeys_cons {ev : V -> Sto -> Option (V × Sto)} {x : V} {r : List V} {σ σ' : Sto} {ps : List (Int × V)} (h : xB ev (x :: r) σ = some (ps, σ')) :
  ∃ n σ_1 ps', ev x σ = some (.int n, σ_1) /\ xB ev r σ_1 = some (ps', σ') /\ ps = (n, x) :: ps' := by
 refine obP h fun k σ_1 h1 h => ?_
 cases k with
 | int n => exact obP h fun ps' σ_2 h2 h => by cases h; exact ⟨n, σ_1, ps', h1, h2, rfl⟩
 | _ => exact nE h
theorem mapKeys_snd {ev : V -> Sto -> Option (V × Sto)} : ∀ {vs : List V} {σ σ' : Sto} {ps : List (Int × V)}, xB ev vs σ = some (ps, σ') -> ps.map (·.2) = vs := by
 intro vs; induction vs with
 | nil =>
  intro σ σ' ps h
  cases h; rfl
 | cons x r ih =>
  intro σ σ' ps h
  obtain ⟨n, σ_1, ps', J, h2, rfl⟩ := mapKeys_cons h
  exact congrArg (x :: ·) (ih h2)
theorem isInts_spec : ∀ {vs : List V} {is : List Int}, isInts vs = some is -> vs = is.map V.int := by
 intro vs; induction vs with
 | nil =>
  intro _ h
  exact sE h rfl
 | cons v r ih =>
  intro is h
  cases v with
  | int i => exact obE h fun js hj e => by cases e; exact congrArg (V.int i :: ·) (ih hj)
  | _ => exact nE h
theorem VRs.ints {K : Know} {h : Heap} {ρ : Gh} : ∀ {is : List Int} {ws : List Value}, VRs K h ρ ws (is.map V.int) -> IntsAre ws is
 | [], _, r => by cases r.inv; exact .nil
 | i :: is, _, r => by
  obtain ⟨J, us, rfl, r1, rs⟩ := r.inv
  obtain ⟨t, rfl⟩ := r1.inv
  exact .cons i t rs.ints
theorem soft_list {xs : Array Value} {n : Nat} : Soft (seqObj "list" xs n) := .seq rfl (by simp)
section
variable {K : Know} {prog : Program} {w : World} {A : Around} {E : Value -> Shared -> Prop} {s : Shared} {σ σ' : Sto} {ρ : Gh} {n_0 : Nat} {Pr : Heap -> Gh -> Prop} {ev : V -> Sto -> Option (V × Sto)} {f : Value}
noncomputable def Stays (K : Know) (n_0 : Nat) (Pr : Heap -> Gh -> Prop) : Prop := ∀ {h h' : Heap} {ρ ρ' : Gh} {σ : Sto} {tk : Tok} {X : List Addr}, Pr h ρ -> HR K σ ρ h tk -> Ext K X h ρ h' ρ' -> (∀ a ∈ X, n_0 <= a) -> (∀ a ∈ X, ∀ o, h.get? a = some o -> Soft o) -> Pr h' ρ'
noncomputable def KeyCall (K : Know) (prog : Program) (w : World) (A : Around) (Pr : Heap -> Gh -> Prop) (ev : V -> Sto -> Option (V × Sto)) (f : Value) : Prop :=
 ∀ {E : Value -> Shared -> Prop} {x k : V} {σ σ' : Sto} {u : Value} {s : Shared} {ρ : Gh} {Q : Value -> Shared -> Prop}, ev x σ = some (k, σ') -> Pr s.heap ρ -> HR K σ ρ s.heap s.toks -> VR K s.heap ρ u x -> Out K σ' s ρ (fun h' ρ' v => VR K h' ρ' v k) Q -> wpAny (model prog w) A (call f [u]) Q E s
theorem upd_at {a : Addr} {xs : Array Value} {n : Nat} {g : Array Value -> Array Value} {Q : Unit -> Shared -> Prop} (H : HR K σ ρ s.heap s.toks) (ha : s.heap.get? a = some (seqObj "list" xs n)) (hl : a ∉ ρ.l) (hb : K.base.objs.size <= a)
  (hz : xs.size <= sizeLine) (hz2 : (g xs).size <= sizeLine + 1)
  (k : ∀ h', HR K σ ρ h' s.toks -> Ext K [a] s.heap ρ h' ρ -> (∀ b ∈ [a], ∀ o, s.heap.get? b = some o -> Soft o) -> (∃ c, h'.get? a = some (seqObj "list" (g xs) c)) -> (∀ b o, b ≠ a -> s.heap.get? b = some o -> h'.get? b = some o) -> Q () { s with heap := h' }) :
  wpAny (model prog w) A (Builtin.List.listUpdate (.ref a) g) Q E s := by
 have su := Heap.SameBut.update s.heap a (Obj.mapSeq g)
 have sf : ∀ b ∈ [a], ∀ o, s.heap.get? b = some o -> Soft o := fun b hb o q => by rw [mS.mp hb, ha] at q; cases q; exact soft_list
 have nb : ∀ b o, b ≠ a -> s.heap.get? b = some o -> (s.heap.update a (Obj.mapSeq g)).get? b = some o := fun b o hb q => (su.2 b hb).trans q
 obtain ⟨H', x⟩ := H.step (X := [a]) (fun b o hb q => nb b o (fun e => hb (e ▸ List.mem_singleton_self _)) q) (qE su.1.symm) (fun b hb' => mS.mp hb' ▸ ⟨hl, hb⟩) sf
 exact listUpdate_at ha rfl (k _ H' x sf ⟨_, get?_update_seq ha g⟩ nb) hz hz2
theorem kind_at {keys : Array Value} {kz : List Int} {Q : SortKind -> Shared -> Prop} (hk : IntsAre keys.toList kz) (h2 : 2 <= keys.size) (h : Q oneType' s) : wpAny (model prog w) A (keyKind' keys) Q E s := by
 rw [ksk_kind hk h2]; exact wpP h
theorem rest0 {ws : List Value} {is : List Int} {keys : Array Value} (hws : IntsAre ws is) (hnd : is.Nodup) (hwl : ws.length = 6) (hzs : (keys.zip ws.toArray).size = 6) : Rest (fun v => ((is.idxOf (numOf v) : Nat) : Int)) (keys.zip ws.toArray) 0 := by
 refine ⟨fun i J hi => ?_, fun i hi => nomatch hi⟩
 have hiw : i < ws.length := eA hwl (eB hzs hi)
 obtain ⟨m, t, hv, hm⟩ := (ints_get hws).2 i ws[i] (gEG hiw)
 have : numOf ((keys.zip ws.toArray)[i]).2 = m := by simp [hv]; rfl
 unfold IX
 rw [getElem?_pos _ i hi]
 show ((is.idxOf (numOf ((keys.zip ws.toArray)[i]).2) : Nat) : Int) = _
 rw [this, idx_inj hnd hm]
theorem out_rel {ws : List Value} {is : List Int} {h : Heap} (hws : IntsAre ws is) : ∀ l : List Keyed, (∀ p ∈ l, p.2 ∈ ws) -> VRs K h ρ (l.map (·.2)) (l.map ((fun x => x.2) ∘ fun p : Keyed => (numOf p.1, V.int (numOf p.2)))) := by
 intro l
 induction l with
 | nil => intro _; exact .nil
 | cons p l ih =>
  intro hm
  obtain ⟨i, hi⟩ := List.mem_iff_getElem?.mp (hm p mcS)
  obtain ⟨m, t, hv, J⟩ := (ints_get hws).2 i p.2 hi
  refine .cons ?_ (ih fun q hq => hm q (mT _ hq))
  show VR K _ ρ p.2 (V.int (numOf p.2))
  rw [hv]
  exact .int _ _
theorem fitLine {n : Nat} (h : n <= 7) : n <= sizeLine := by rw [sizeLine_eq]; exact wA h
theorem sort_end {P : PySem.Fin -> Shared -> Prop} {D kS : Addr} {keys : Array Value} {e e1 : Nat} {ws : List Value} {ks is : List Int} (H : HR K σ ρ s.heap s.toks)
  (hD : s.heap.get? D = some (seqObj "list" #[] e1)) (hk : s.heap.get? kS = some (seqObj "list" keys e)) (hne : kS ≠ D) (hDl : D ∉ ρ.l) (hkl : kS ∉ ρ.l) (hDb : K.base.objs.size <= D) (hkb : K.base.objs.size <= kS)
  (hks : IntsAre keys.toList ks) (hws : IntsAre ws is) (hnd : is.Nodup) (h6 : is.length = 6) (hlen : ks.length = 6)
  (O : ∀ h' out c, HR K σ ρ h' s.toks -> Ext K [kS, D] s.heap ρ h' ρ -> h'.get? D = some (seqObj "list" out c) -> VRs K h' ρ out.toList ((sortK (ks.zip (is.map V.int))).map (·.2)) -> P (.done (.ret .none)) { s with heap := h' }) :
  wpAny (model prog w) A (ksk_end D false ws.toArray e1 (.ref kS) keys) P E s := by
 have hsz : keys.size = 6 := by rw [← Array.length_toList, (ints_get hks).1, hlen]
 have hwl : ws.length = 6 := by rw [(ints_get hws).1, h6]
 have hzs : (keys.zip ws.toArray).size = 6 := by rw [Array.size_zip, hsz, List.size_toArray, hwl, Nat.min_self]
 have h2 : ¬ ws.toArray.size < 2 := by rw [List.size_toArray]; exact wF hwl
 refine wpN h2 (wpB (kind_at hks (hsz ▸ by decide) (wpB (wpAny_mono (wsN h2 (sortRunsR (φ := fun v => ((is.idxOf (numOf v) : Nat) : Int)) (a_0 := keys.zip ws.toArray)
  (Q := fun J st' => (arrOf st').Perm (keys.zip ws.toArray) /\ failedOf st' = none /\ AscR (fun v => ((is.idxOf (numOf v) : Nat) : Int)) (arrOf st') (keys.zip ws.toArray).size)
  (ksk_intKeys hks) ⟨Array.Perm.refl _, rfl, rfl, rfl⟩ (hzs ▸ by decide) (hzs ▸ by decide) (rest0 hws hnd hwl hzs) fun st' a1 a2 a3 => ⟨a1, a2, a3⟩)) ?_ fun J J e => e))))
 rintro ⟨⟨⟩, st⟩ s' ⟨rfl, hp, hf, hs⟩
 refine wpB (upd_at H hk hkl hkb (fitLine (hsz ▸ by decide)) qZ fun h1 H1 x1 J J n1 => ?_)
 have hD1 := n1 _ _ (Ne.symm hne) hD
 refine wpB (wpAny_letGo (wpB (seqEpoch_at hD1 rfl (wpB (upd_at H1 hD1 hDl hDb qZ (Nat.le_succ_of_le (fitLine (by rw [show (if false = true then ((arrOf st).map (·.2)).reverse else (arrOf st).map (·.2)) = (arrOf st).map (·.2) from rfl, Array.size_map, hp.size_eq, hzs]; decide))) fun h2 H2 x2 J hc J => ?_)))))
 obtain ⟨c, hc⟩ := hc
 rw [hf]
 refine wpN (by simp) (wpP (O h2 _ c H2 ((x1.mono (by simp)).trans (x2.mono (by simp))) hc ?_))
 have hl : (arrOf st).toList.Perm (keys.toList.zip ws) := by rw [← ksk_zip]; exact Array.perm_iff_toList_perm.mp hp
 rw [← sort_out hks hws hnd (hlen.trans h6.symm) (arrOf st) hp (by rw [hp.size_eq]; exact hs), mM]
 show VRs K h2 ρ ((arrOf st).map (·.2)).toList _
 rw [Array.toList_map]
 exact out_rel hws _ fun p hp' => (List.of_mem_zip (hl.mem_iff.mp hp')).2
structure New (K : Know) (σ : Sto) (ρ : Gh) (h : Heap) (tk : Tok) (c : String) (xs : Array Value) (h' : Heap) (a : Addr) : Prop where
 H : HR K σ ρ h' tk
 x : Ext K [] h ρ h' ρ
 l : a ∉ ρ.l
 b : K.base.objs.size <= a
 n : h.objs.size <= a
 g : h'.get? a = some (seqObj c xs 0)
 k : ∀ b o, h.get? b = some o -> h'.get? b = some o
theorem HR.fresh' {h : Heap} {tk : Tok} (H : HR K σ ρ h tk) (c : String) (xs : Array Value) : New K σ ρ h tk c xs (h.push (seqObj c xs 0)) h.objs.size :=
 have ⟨H', x⟩ := H.push (seqObj c xs 0)
 ⟨H', x, H.fresh, H.big, qR, hPS _ rfl, fun J J e => hPO _ e⟩
theorem tup_at {items : List Value} {Q : Value -> Shared -> Prop} (H : HR K σ ρ s.heap s.toks) (hz : items.length <= sizeLine) (k : ∀ h' a, New K σ ρ s.heap s.toks "tuple" items.toArray h' a -> Q (.ref a) { s with heap := h' }) : wpAny (model prog w) A (newTuple items) Q E s :=
 wpAny_newTuple (k _ _ (H.fresh' _ _)) hz
theorem lst_at {items : List Value} {Q : Value -> Shared -> Prop} (H : HR K σ ρ s.heap s.toks) (hz : items.length <= sizeLine) (k : ∀ h' a, New K σ ρ s.heap s.toks "list" items.toArray h' a -> Q (.ref a) { s with heap := h' }) : wpAny (model prog w) A (newList items) Q E s :=
 wpAny_newList (k _ _ (H.fresh' _ _)) hz
theorem key_next {h : Heap} {ws : List Value} {is : List Int} {ps : List (Int × V)} {i : Nat} {x : Value} (hv : VRs K h ρ ws (is.map V.int)) (hx : ws[i]? = some x) (h6 : (is.map V.int).length = 6) (hw : ws.length = 6) (hp : ps.length = 6) (hm : xB ev ((is.map V.int).drop i) σ = some (ps.drop i, σ')) :
  ∃ k v σ_1, ev v σ = some (.int k, σ_1) /\ VR K h ρ x v /\ xB ev ((is.map V.int).drop (i + 1)) σ_1 = some (ps.drop (i + 1), σ') /\ (ps.map (·.1)).take (i + 1) = (ps.map (·.1)).take i ++ [k] := by
 have hj : i < 6 := hw ▸ (gSI.mp hx).1
 have hjv := eA h6 hj
 have hjp := eA hp hj
 rw [List.drop_eq_getElem_cons hjv] at hm
 obtain ⟨k, σ_1, ps', e1, e2, e3⟩ := mapKeys_cons hm
 rw [List.drop_eq_getElem_cons hjp] at e3
 obtain ⟨e4, e5⟩ := List.cons.inj e3
 obtain ⟨u, hu, ru⟩ := hv.get (i := i) (gEG hjv)
 obtain rfl := sI (hx.symm.trans hu)
 refine ⟨k, _, σ_1, e1, ru, e5 ▸ e2, ?_⟩
 rw [List.take_add_one, gMP, gEG hjp, e4]; rfl
structure SI (K : Know) (Pr : Heap -> Gh -> Prop) (ev : V -> Sto -> Option (V × Sto)) (σ' : Sto) (h_0 : Heap) (ρ_0 : Gh) (D kS : Addr) (e1 : Nat) (ws : List Value) (is : List Int) (ps : List (Int × V)) (i : Nat) (h : Heap) (tk : Tok) (ρ : Gh) (σ : Sto) (kA : Array Value) (e : Nat) : Prop where
 H : HR K σ ρ h tk
 x : Ext K [kS, D] h_0 ρ_0 h ρ
 p : Pr h ρ
 k : h.get? kS = some (seqObj "list" kA e)
 d : h.get? D = some (seqObj "list" #[] e1)
 kl : kS ∉ ρ.l
 Dl : D ∉ ρ.l
 v : VRs K h ρ ws (is.map V.int)
 ks : IntsAre kA.toList ((ps.map (·.1)).take i)
 m : xB ev ((is.map V.int).drop i) σ = some (ps.drop i, σ')
theorem fold0 {body : Value -> PUnit -> Sem (ForInStep PUnit)} {Q : PUnit -> Shared -> Prop} {M : Model} (I : Nat -> Shared -> Prop) (vs : List Value) (hI : I 0 s)
  (step : ∀ i x s', vs[i]? = some x -> I i s' -> wpAny M A (body x ⟨⟩) (fun r s'' => r = .yield ⟨⟩ /\ I (i + 1) s'') E s') (done : ∀ s', I vs.length s' -> Q ⟨⟩ s') : wpAny M A (forIn vs.toArray PUnit.unit body) Q E s := by
 rw [List.forIn_toArray]
 refine ksk_fold I vs 0 s hI (fun j x s' hx hJ => ?_) fun s' h => done s' (by rwa [Nat.zero_add] at h)
 rw [Nat.zero_add] at hJ ⊢
 exact step j x s' hx hJ
theorem sort_rest {P : PySem.Fin -> Shared -> Prop} {D kS : Addr} {ws : List Value} {is : List Int} {ps : List (Int × V)} {h_0 : Heap} {ρ_0 : Gh} {e1 : Nat} (hP : Stays K n_0 Pr) (hc : KeyCall K prog w A Pr ev f) (hne : kS ≠ D) (hDb : K.base.objs.size <= D) (hkb : K.base.objs.size <= kS) (hkn : n_0 <= kS) (hw : ws.length = 6) (hnd : is.Nodup) (h6 : is.length = 6) (hps : ps.map (·.2) = is.map V.int)
  (I : SI K Pr ev σ' h_0 ρ_0 D kS e1 ws is ps 0 s.heap s.toks ρ σ #[] 0)
  (O : ∀ h' tk ρ' out c, HR K σ' ρ' h' tk -> Ext K [kS, D] h_0 ρ_0 h' ρ' -> h'.get? D = some (seqObj "list" out c) -> D ∉ ρ'.l -> VRs K h' ρ' out.toList ((sortK ps).map (·.2)) -> P (.done (.ret .none)) { s with heap := h', toks := tk }) :
  wpAny (model prog w) A (ksk_rest D f false ws.toArray e1 (.ref kS)) P E s := by
 have hl : (is.map V.int).length = 6 := by rw [lM, h6]
 have hp : ps.length = 6 := by rw [← hl, ← hps, lM]
 refine wpB (wpAny_rule (wpB (fold0 (fun i s' => ∃ h' tk ρ' σi kA e, s' = { s with heap := h', toks := tk } /\ SI K Pr ev σ' h_0 ρ_0 D kS e1 ws is ps i h' tk ρ' σi kA e) ws
  ⟨_, _, ρ, σ, #[], 0, rfl, I⟩ ?step ?done)))
 case step =>
  intro j x s' hx hI
  refine byC fun hG => ?_
  obtain ⟨h', tk, ρ', σi, kA, e, rfl, I⟩ := hI
  obtain ⟨k, v, σ_1, e1', ru, m', ek⟩ := key_next I.v hx hl hw hp I.m
  refine hG ?_
  have hz : kA.size <= 6 := by
   rw [← Array.length_toList, (ints_get I.ks).1, List.length_take, lM]
   exact qT (Nat.min_le_right _ _) (qE hp)
  refine wpB (wpAny_attempt (hc (s := { s with heap := h', toks := tk }) e1' I.p I.H ru fun v h_2 tk_2 ρ_2 H_2 x_2 rv => ?_))
  obtain ⟨t2, rfl⟩ := rv.int_inv
  have hk_2 := x_2.keep _ _ I.kl (I.H.neP_of_new hkb) nmN I.k
  have hD_2 := x_2.keep _ _ I.Dl (I.H.neP_of_new hDb) nmN I.d
  have hkl_2 := x_2.mem I.kl (hLS I.k)
  have p_2 := hP I.p I.H x_2 (fun J q => nomatch q) (fun J q => nomatch q)
  refine wpB (upd_at H_2 hk_2 hkl_2 hkb (fitLine (qT hz qU)) (by rw [Array.size_push]; exact Nat.succ_le_succ (fitLine (qT hz qU))) fun h_3 H_3 x_3 sf hc_3 nb => ?_)
  obtain ⟨c, hc_3⟩ := hc_3
  exact wpP ⟨rfl, h_3, tk_2, ρ_2, σ_1, _, c, rfl, H_3, (I.x.trans x_2.nil).trans (x_3.mono (by simp)), hP p_2 H_2 x_3 (fun a q => mS.mp q ▸ hkn) sf, hc_3, nb _ _ (Ne.symm hne) hD_2, hkl_2, x_2.mem I.Dl (hLS I.d), (I.v.ext x_2).extX x_3 sf, by rw [Array.toList_push, ek]; exact ksk_snoc I.ks, m'⟩
 case done =>
  intro s' hI
  refine byC fun hG => ?_
  obtain ⟨h', tk, ρ', σi, kA, e, rfl, I⟩ := hI
  refine hG ?_
  have hm := I.m
  rw [List.drop_of_length_le (qE (hl.trans hw.symm)), List.drop_of_length_le (qE (hp.trans hw.symm))] at hm
  obtain rfl : σi = σ' := (Prod.mk.inj (sI hm)).2
  have hks := I.ks
  rw [List.take_of_length_le (by rw [lM]; exact qE (hp.trans hw.symm))] at hks
  refine wpB (listItems_at I.k rfl (sort_end (s := { s with heap := h', toks := tk }) I.H I.d I.k hne I.Dl I.kl hDb hkb hks I.v.ints hnd h6 (by rw [lM]; exact hp) fun h_2 out c H_2 x_2 hD_2 hv_2 => ?_))
  rw [← hps, List.zip_map', List.map_id'] at hv_2
  exact O h_2 tk ρ' out c H_2 (I.x.trans x_2) hD_2 I.Dl hv_2
theorem sort_tree {P : PySem.Fin -> Shared -> Prop} {D : Addr} {ws : List Value} {is : List Int} {ps : List (Int × V)} (hP : Stays K n_0 Pr) (hc : KeyCall K prog w A Pr ev f) (hp : Pr s.heap ρ) (H : HR K σ ρ s.heap s.toks)
  (hD : s.heap.get? D = some (seqObj "list" ws.toArray 0)) (hDl : D ∉ ρ.l) (hDb : K.base.objs.size <= D) (hDn : n_0 <= D) (hn : n_0 <= s.heap.objs.size) (hv : VRs K s.heap ρ ws (is.map V.int)) (hnd : is.Nodup) (h6 : is.length = 6) (hm : xB ev (is.map V.int) σ = some (ps, σ'))
  (O : ∀ h' tk ρ' out c, HR K σ' ρ' h' tk -> Ext K [D] s.heap ρ h' ρ' -> h'.get? D = some (seqObj "list" out c) -> D ∉ ρ'.l -> VRs K h' ρ' out.toList ((sortK ps).map (·.2)) -> P (.done (.ret .none)) { s with heap := h', toks := tk }) :
  wpAny (model prog w) A (ksk_tree D f false) P E s := by
 have hwl : ws.length = 6 := by rw [hv.length, lM, h6]
 have h7 : ws.length <= sizeLine := fitLine (hwl ▸ by decide)
 refine wpB (listItems_at hD rfl (wpB (upd_at H hD hDl hDb (by rw [List.size_toArray]; exact h7) qZ fun h1 H1 x1 sf hc1 nb => ?_)))
 obtain ⟨e1, hD1⟩ := hc1
 have p1 := hP hp H x1 (fun a q => mS.mp q ▸ hDn) sf
 refine wpB (seqEpoch_at hD1 rfl (wpB (tup_at H1 h7 fun h2 T n2 => wpB (lst_at n2.H qZ fun h3 kS n3 => wpAny_holding ?_))))
 have hkS : s.heap.objs.size <= kS := qT x1.size (qT n2.x.size n3.n)
 refine sort_rest (h_0 := s.heap) (ρ_0 := ρ) (s := { s with heap := h3 }) hP hc (fun q => absurd (hLS hD) (qK (q ▸ hkS))) hDb n3.b (qT hn hkS) hwl hnd h6 (mapKeys_snd hm)
  ⟨n3.H, ((x1.mono (by simp)).trans n2.x.nil).trans n3.x.nil, hP (hP p1 H1 n2.x (fun J q => nomatch q) (fun J q => nomatch q)) n2.H n3.x (fun J q => nomatch q) (fun J q => nomatch q), n3.g, n3.k _ _ (n2.k _ _ hD1), n3.l, hDl, ((hv.extX x1 sf).ext n2.x).ext n3.x, .nil, hm⟩
  fun h' tk ρ' out c H' x' hD' hl' hv' => O h' tk ρ' out c H' (x'.weaken fun a ha => ?_) hD' hl' hv'
 rcases mC.mp ha with rfl | ha
 ·exact .inr hkS
 ·exact .inl ha
end
end Mine
namespace Mine
open PySem PySem.W PySem.Calls PyProof.Rows
structure LamOk (K : Know) : Prop where
 code : CodeHd K.base K.c K.P
 bm : K.base.BuiltinsAt K.mg K.P
noncomputable def xK : Str := oQ "law" ++ oQ ".<locals>." ++ "<lambda>"
section
variable {K : Know} {prog : Program} {w : World} {M : Model} {A : Around} {E : Value -> Shared -> Prop} {s : Shared} {σ σ' : Sto} {ρ : Gh}
theorem codeHd_at {h : Heap} {tk : Tok} (L : LamOk K) (H : HR K σ ρ h tk) : CodeHd h K.c K.P := by
 obtain ⟨o, vs, file, tf, flags, tg, inF, text, tt, e, r1, r2, r3, r4, r5, r6, r7, r8, hne⟩ := L.code
 exact ⟨o, vs, file, tf, flags, tg, inF, text, tt, H.base _ _ hne e, r1, r2, r3, r4, r5, r6, r7, r8, hne⟩
theorem bm_at {h : Heap} {tk : Tok} (L : LamOk K) (H : HR K σ ρ h tk) : h.BuiltinsAt K.mg K.P := by
 obtain ⟨bm, o, e1, e2, e3, e4, e5, r⟩ := L.bm
 exact ⟨bm, o, e1, e2, e3, e4, H.base _ _ e4 e5, r⟩
theorem among_snoc {pos : Pos} {a b : Int} {x c : Value} (l : List Value) (h : TriplesOk l) (hf : codeAmong pos (l ++ [rawInt a, rawInt b, x]) = some c) : codeAmong pos l = some c \/ c = x := by
 fun_induction TriplesOk l with
 | case1 =>
  simp only [List.nil_append, rawInt, codeAmong] at hf
  split at hf
  ·exact .inr (sI hf).symm
  ·cases hf
 | case2 a' t b' u y rest ih =>
  simp only [List.cons_append, codeAmong] at hf ⊢
  split at hf
  ·rename_i q; rw [if_pos q]; exact .inl hf
  ·rename_i q; rw [if_neg q]; exact ih h hf
 | case3 l h1 h2 => exact h.elim
theorem soft_tab {ps : Array Value} (h : TriplesOk ps.toList) : Soft (tabObj ps) := by
 refine ⟨.inr (by simp), .inl (by exact fun h => nomatch h), fun vs t u q => ?_⟩
 simp only [Data.fields.injEq] at q
 subst q
 intro hv
 have hv : ps.toList[1]? = some (.str t u) := by simpa using hv
 generalize ps.toList = l at h hv
 cases l with
 | nil => exact nE hv
 | cons x l => cases l with
 | nil => exact nE hv
 | cons y l =>
  cases hv
  cases x <;> exact False.elim h
theorem HR.table {h h' : Heap} {tk : Tok} {ps : Array Value} {l c : Int} {c' : Addr} (H : HR K σ ρ h tk) (hx : Heap.ExtBut K.P h h') (hs : h.objs.size <= h'.objs.size) (hP : h.get? K.P = some (tabObj ps))
  (hP' : h'.get? K.P = some (tabObj (ps ++ #[rawInt l, rawInt c, .ref c']))) (hrec : h'.CodeRec (.ref c') xK) : HR K σ ρ h' tk /\ Ext K [] h ρ h' ρ := by
 refine byC fun hG => ?_
 obtain ⟨ps', hp, ht, hc, ⟨ps_0, more, hb, hm⟩⟩ := H.tab
 refine hG ?_
 rw [hP] at hp
 cases hp
 have e : Ext K [] h ρ h' ρ := ⟨⟨[], by simp, by exact fun J h => nomatch h⟩, fun J J q => q, fun a o J h2 J g => hx a o h2 g, hs⟩
 have soft : ∀ a ∈ [K.P], ∀ o, h.get? a = some o -> Soft o := fun a ha o q => by
  rw [mS.mp ha, hP] at q
  cases q
  exact soft_tab ht
 refine ⟨⟨H.tk0, H.tlt, fun b o hb q => hx b o hb (H.base b o hb q), qT H.big hs, ⟨_, hP', ?_, fun pos cc q => ?_, ps_0, more ++ #[rawInt l, rawInt c, .ref c'], hb, by rw [hm, Array.append_assoc]⟩, H.len, H.nodup, H.new, H.first, fun i a vs g1 g2 => ?_⟩, e⟩
 ·rw [Array.toList_append]
  exact TriplesOk_snoc l c _ _ ht
 ·rw [Array.toList_append] at q
  rcases among_snoc _ ht q with q | rfl
  ·exact codeRec_neX (X := [K.P]) (hc pos cc q) (fun b o hb g => hx b o (by simpa using hb) g) soft
  ·exact hrec
 ·refine byC fun hG => ?_
  obtain ⟨xs, hl, hp, hv⟩ := H.lists i a vs g1 g2
  have haP := H.neP g1
  obtain ⟨o, ho, r⟩ := id hl
  refine hG ?_
  refine ⟨xs, ⟨o, hx a o haP ho, r⟩, fun hi => ?_, hv.ext e⟩
  obtain ⟨n, hn⟩ := hp hi
  exact ⟨n, hx a _ haP hn⟩
noncomputable def LamAt (h : Heap) (f : Addr) (params : Arguments) (body : Expr) (scope : Scope) (cl : List (Str × Addr)) : Prop :=
 ∃ pm cv ctv, h.get? f = some { cls := .type "function", data := .func (kla_fn "<lambda>" xK params body scope cl pm cv ctv) } /\ (∃ c', cv = .ref c' /\ c' ≠ f) /\ h.CodeRec cv xK
theorem lam_make (L : LamOk K) (k : KOk K) {sc : Sc} {env : Env} {sl : Slots} {params : Arguments} {body : Expr} {scope : Scope} {cl : List (Str × Addr)} {pos : Pos} {Q : Value -> Shared -> Prop} (hlaw : sc.law = true) (fr : FrameOk K sc env s.heap ρ sl) (H : HR K σ ρ s.heap s.toks) (hcl : closureFor scope env = pure cl)
  (h : ∀ f h' tk, HR K σ ρ h' tk -> Ext K [] s.heap ρ h' ρ -> LamAt h' f params body scope cl -> f ∉ ρ.l -> K.base.objs.size <= f -> f < h'.objs.size -> Q (.ref f) { s with heap := h', toks := tk }) :
  wpAny M A (makeFunction "<lambda>" (env.qual ++ "<lambda>") params (.expr body) scope env [] [] [] pos pos.line) Q E s := by
 refine byC fun hG => ?_
 obtain ⟨hcode, hq⟩ := fr.eo.law hlaw
 obtain ⟨ps, hP, ht, hc, _⟩ := id H.tab
 refine hG ?_
 have hg : s.heap.Ns mainGlobals K.mg := ns_at H k.glob
 have hgP := neP_of_ns H k.glob
 have hqual : env.qual ++ "<lambda>" = xK := by rw [hq]; rfl
 rw [hqual]
 cases hf : codeAmong pos ps.toList with
 | none =>
  refine yB (kla_makeFunction (mg := K.mg) hcl fr.eo.globals hg hcode (codeHd_at L H) hP ht hf hgP (bm_at L H) fun c' ctv h' tk hx hge hlt hrec hP' hsz htk => ?_)
  have hs : s.heap.objs.size <= h'.objs.size := qT hge (qW hlt)
  obtain ⟨H', x'⟩ := H.table hx hs hP hP' hrec
  obtain ⟨H'', x''⟩ := H'.push (kla_obj "<lambda>" xK params body scope cl ((K.mg "__name__").getD .none) c' ctv)
  have hcr : (h'.push (kla_obj "<lambda>" xK params body scope cl ((K.mg "__name__").getD .none) c' ctv)).CodeRec (.ref c') xK := hrec.at fun o q => hPO _ q
  refine h h'.objs.size _ tk (H''.mono htk) (x'.trans x'') ⟨_, _, _, hPS _ rfl, ⟨c', rfl, nNL hlt⟩, hcr⟩ H'.fresh H'.big (by rw [hSP]; exact Nat.lt_succ_self _)
 | some cv =>
  refine yB (kla_makeFunctionHit (mg := K.mg) hcl fr.eo.globals hg hcode (codeHd_at L H) hP ht hf (bm_at L H) fun ctv h' tk hk hs hsz htk => ?_)
  refine byC fun hG => ?_
  obtain ⟨H', x'⟩ := H.keeps hk hs
  obtain ⟨H'', x''⟩ := H'.push { cls := .type "function", data := .func (kla_fn "<lambda>" xK params body scope cl ((K.mg "__name__").getD .none) cv ctv) }
  have hrec := hc pos cv hf
  obtain ⟨c', oc, vs, t, rfl, hoc, hd, hv⟩ := id hrec
  refine hG ?_
  have hcr : (h'.push { cls := .type "function", data := .func (kla_fn "<lambda>" xK params body scope cl ((K.mg "__name__").getD .none) (.ref c') ctv) }).CodeRec (.ref c') xK := hrec.at fun o q => hPO _ (hk _ _ q)
  exact h h'.objs.size _ tk (H''.mono htk) (x'.trans x'') ⟨_, _, _, hPS _ rfl, ⟨c', rfl, nNL (hLS (hk _ _ hoc))⟩, hcr⟩ H'.fresh H'.big (by rw [hSP]; exact Nat.lt_succ_self _)
end
end Mine
namespace Mine
open PySem PySem.W PySem.Calls PyProof.Rows
theorem bind_one {y : Str} (h : y = oQ "k") (yp : Pos) (body : Expr) (scope : Scope) (cl : List (Str × Addr)) (pm cv ctv u : Value) (nm q : Str) :
  bindArgs (kla_fn nm q ⟨[], [⟨y, none, yp⟩], none, [], [], none, []⟩ body scope cl pm cv ctv) ⟨[u], []⟩ = pure [(y, u)] := by
 subst h
 kernel_rfl
section
variable {K : Know} {prog : Program} {w : World} {n : Nat} {r : Rec}
theorem codeRec_ext {σ : Sto} {ρ ρ' : Gh} {h h' : Heap} {tk : Tok} {X : List Addr} {cv : Value} {q : Str} (x : h.CodeRec cv q) (H : HR K σ ρ h tk) (e : Ext K X h ρ h' ρ') (hX : ∀ a ∈ X, ∀ o, h.get? a = some o -> Soft o) : h'.CodeRec cv q := by
 obtain ⟨c, o, vs, t, rfl, ho, hd, hv⟩ := x
 refine ⟨c, o, vs, t, rfl, e.keep c o (fun hm => ?_) (fun hp => ?_) (fun hx => (hX c hx o ho).2.2 vs q t hd hv) ho, hd, hv⟩
 ·obtain ⟨i, hi⟩ := List.mem_iff_getElem?.mp hm
  have hl : i < σ.length := by rw [← H.len]; exact (gSI.mp hi).1
  obtain ⟨xs, ⟨o', ho', J, m, hd'⟩, J⟩ := H.lists i c σ[i] hi (gEG hl)
  rw [ho] at ho'; cases ho'
  rw [hd] at hd'; cases hd'
 ·obtain ⟨ps, hP, ht, J⟩ := H.tab
  rw [← hp, ho] at hP
  cases hP
  exact (soft_tab ht).2.2 vs q t hd hv
theorem lam_stays {sc : Sc} {env : Env} {sl : Slots} {params : Arguments} {body : Expr} {scope : Scope} {cl : List (Str × Addr)} {f : Addr} {n_0 : Nat} (ho : ∀ a ∈ own env, a < n_0) (hf : f < n_0) (hb : K.base.objs.size <= f) :
  Stays K n_0 (fun h ρ => LamAt h f params body scope cl /\ f ∉ ρ.l /\ FrameOk K sc env h ρ sl) := by
 intro h h' ρ ρ' σ tk X p H e hX hs
 refine byC fun hG => ?_
 obtain ⟨⟨pm, cv, ctv, g, hne, hcr⟩, hfl, fr⟩ := p
 refine hG ?_
 have hfX : f ∉ X := fun hx => absurd hf (qK (hX f hx))
 refine ⟨⟨pm, cv, ctv, e.keep f _ hfl (H.neP_of_new hb) hfX g, hne, codeRec_ext hcr H e hs⟩, e.mem hfl (hLS g), fr.extX H e hs fun a hx hm => absurd (ho a hm) (qK (hX a hx))⟩
theorem lam_call {y : Str} (hk : y = oQ "k") (hE : SEval K prog w n r.eval) (k : KOk K) {A : Around} (hA1 : A.handled = none) (hA2 : A.depth + 1 + n < recursionLimit) (hA3 : A.units + 3 + 16 * n + 200 < cLine) {sc : Sc} {env : Env} {sl : Slots} {yp : Pos} {body : Expr} {mb : ME} {frees : List Nat} {fs : List Str} {scope : Scope} {cl : List (Str × Addr)} {f : Addr}
  (C : CompOk sc y frees fs scope) (hno : y5 scope.names = true) (hco : scope.isCoroutine = false) (hge : scope.isGenerator = false) (hb : IsE ⟨scope.names, y :: fs, false⟩ body mb)
  (hcm : ∀ p ∈ cl, env.cells.lookup p.1 = some p.2) (hcf : ∀ x, (x, NameKind.free) ∈ scope.names -> ∃ c, (x, c) ∈ cl) :
  KeyCall K prog w A (fun h ρ => LamAt h f ⟨[], [⟨y, none, yp⟩], none, [], [], none, []⟩ body scope cl /\ f ∉ ρ.l /\ FrameOk K sc env h ρ sl) (fun x σ => r.eval mb (some x :: zU sl frees) σ) (.ref f) := by
 intro E x kv σ σ' u s ρ Q e p H ru O
 refine byC fun hG => ?_
 obtain ⟨⟨pm, cv, ctv, ho, ⟨c', rfl, J⟩, hcr⟩, hfl, fr⟩ := p
 refine hG ?_
 have hy : scope.names.lookup y = some .local := by
  rcases C.hy with ⟨_, q⟩ | ⟨q, _⟩
  ·exact q
  ·exfalso
   have q : (scope.names.filter fun p => p.2 == .cell) = [(y, .cell)] := by simpa [oneCell] using q
   have hm : (y, NameKind.cell) ∈ scope.names := (List.mem_filter.mp (q ▸ List.mem_singleton_self _ : (y, NameKind.cell) ∈ scope.names.filter fun p => p.2 == .cell)).1
   have := aT.mp hno _ hm
   simp at this
 have hcell : ∀ p ∈ scope.names, p.2 ≠ .cell := fun p hp hk => by
  have := aT.mp hno p hp
  simp [hk] at this
 refine wpAny_call (kla_callFunE (qW (pD hA2)) ho rfl hco hge rfl hcr ?_)
 rw [bind_one hk]
 refine wpP ?_
 refine wpAny_newFunctionEnv hcell (by intro p hp; rw [mS.mp hp]; exact hy) (fun h_1 hns hsb => ?_) C.hk
 have hkeep : ∀ b o, s.heap.get? b = some o -> h_1.get? b = some o := fun b o q => hsb.extBut b o (nNL (hLS q)) (hPO _ q)
 have hsz : s.heap.objs.size <= h_1.objs.size := qW hns.lt
 obtain ⟨H_1, x_1⟩ := H.keeps hkeep hsz
 refine ⟨nolimit_at k H_1, kla_codeExpr ?_⟩
 have hlen : (zU sl frees).length = fs.length := by
  have := congrArg List.length C.hfs
  simpa [zU] using this
 have cell_of : ∀ {x c}, cl.lookup x = some c -> env.cells.lookup x = some c := fun q => hcm _ (mem_of_lookup q)
 have fr_1 := fr.ext H x_1
 have F : FrameOk K ⟨scope.names, y :: fs, false⟩ (newEnv scope s.heap.objs.size mainGlobals cl (xK ++ ".<locals>.") (some f) (.ref c') none builtinsNs) h_1 ρ (some x :: zU sl frees) := by
  refine ⟨⟨rfl, C.hk, rfl, rfl, fun q => by cases q⟩, ⟨_, hns, fun i z g hk => ?_⟩, fun i z g hk => ?_, H.fresh, H.big, fun x1 x2 c q1 q2 => fr.apart x1 x2 c (cell_of q1) (cell_of q2), C.hnd, (show (zU sl frees).length + 1 = fs.length + 1 by rw [hlen]), fun a ha => ?_⟩
  ·cases i with
   | zero =>
    have g : y = z := by simpa using g
    subst g
    exact ⟨some x, rfl, fun v hv => ⟨u, by simp, by cases hv; exact ru.ext x_1⟩⟩
   | succ j =>
    exfalso
    have g : fs[j]? = some z := by simpa using g
    have hk : scope.names.lookup z = some .local := hk
    rw [C.hlook z (mOG g)] at hk
    cases hk
  ·cases i with
   | zero =>
    exfalso
    have g : y = z := by simpa using g
    subst g
    have hk : isC (scope.names.lookup y) := hk
    rw [hy] at hk
    rcases hk with q | q <;> cases q
   | succ j =>
    have g : fs[j]? = some z := by simpa using g
    have hm : z ∈ fs := mOG g
    have e1 : (frees.map (fun i => sc.vars[i]?))[j]? = some (some z) := by rw [C.hfs]; simp [g]
    simp only [gMP, Option.map_eq_some_iff] at e1
    obtain ⟨i, hi, hv⟩ := e1
    have hc : (z, NameKind.free) ∈ scope.names := by
     have := aT.mp C.hff z hm
     simpa using this
    have hk' := aT.mp C.hcl _ hc
    simp at hk'
    refine byC fun hG => ?_
    obtain ⟨ov, c, g1, g2, g3⟩ := fr_1.cells i z hv hk'.2
    obtain ⟨c_0, hc_0⟩ := hcf z hc
    obtain ⟨c_1, hc_1⟩ := wL hc_0
    refine hG ?_
    have := cell_of hc_1
    rw [g2] at this
    cases this
    refine ⟨ov, c, ?_, hc_1, g3⟩
    show (zU sl frees)[j]? = some ov
    unfold zU
    rw [gMP, hi]
    simp [g1]
  ·obtain ⟨p, hp, rfl⟩ := mP.mp ha
   exact fr_1.cs p.2 (mP.mpr ⟨_, mem_of_lookup (hcm p hp), rfl⟩)
 refine hE hb e ⟨hA1, hA2, hA3⟩ (s := { s with heap := h_1, toks := s.toks + _ }) F (H_1.mono (Nat.le_add_right _ _)) (O.after x_1)
theorem sorted_call {A : Around} (hh : A.handled = none) {E : Value -> Shared -> Prop} {s : Shared} {σ σ' : Sto} {ρ : Gh} {Q : Value -> Shared -> Prop} {v : V} {u : Value} {f : Addr} {xs : List V} {is : List Int} {ps : List (Int × V)} {Pr : Heap -> Gh -> Prop} {ev : V -> Sto -> Option (V × Sto)}
  (hP : Stays K s.heap.objs.size Pr) (hc : KeyCall K prog w A.in1.in1 Pr ev (.ref f)) (hp : Pr s.heap ρ) (H : HR K σ ρ s.heap s.toks) (ru : VR K s.heap ρ u v) (hsrc : sortSrc σ v = some xs) (his : isInts xs = some is) (hnd : is.Nodup) (h6 : is.length = 6)
  (hm : xB ev xs σ = some (ps, σ')) (O : Out K (σ' ++ [(sortK ps).map (·.2)]) s ρ (fun h' ρ' u => VR K h' ρ' u (.lst σ'.length)) Q) : wpAny (model prog w) A (call (.builtin "sorted") [u] [(oQ "key", .ref f)]) Q E s := by
 have hxs := isInts_spec his
 subst hxs
 have coll : ∀ {R : List Value -> Shared -> Prop} {E : Value -> Shared -> Prop}, (∀ (ws : List Value) (h' : Heap) (tk : Tok), HR K σ ρ h' tk -> Ext K [] s.heap ρ h' ρ -> VRs K h' ρ ws (is.map V.int) -> R ws { s with heap := h', toks := tk }) -> wpAny (model prog w) A.in1 (collect u) R E s := by
  intro R E hR
  refine VR.on (F := sortSrc σ) (C := fun u => wpAny (model prog w) A.in1 (collect u) R E s) ru hsrc (lst := fun i a g hsrc => ?_) (rng := fun rr a b st t u' v' hr J J hsrc => ?_)
  ·obtain ⟨as, hl, J, hv⟩ := H.lists _ _ _ g hsrc
   have hsz : as.toList.length = 6 := by rw [hv.length, lM, h6]
   have hl' : s.heap.IsList a as.toList.toArray := by rw [Array.toArray_toList]; exact hl
   refine collect_list hl' ?_ (by rw [hsz]; decide)
   obtain ⟨H1, x1⟩ := H.push (seqObj "list" #[] 0)
   have su := Heap.SameBut.update (s.heap.push (seqObj "list" #[] 0)) s.heap.objs.size (Obj.mapSeq (· ++ as.toList.toArray))
   obtain ⟨H2, x2⟩ := H1.step (X := [s.heap.objs.size]) (h' := (s.heap.push (seqObj "list" #[] 0)).update s.heap.objs.size (Obj.mapSeq (· ++ as.toList.toArray))) (fun b o hb q => (su.2 b (by simpa using hb)).trans q) (qE su.1.symm) (by simpa using ⟨H.fresh, H.big⟩)
    (fun b hb o q => by rw [mS.mp hb, hPS _ rfl] at q; cases q; exact soft_list)
   have x : Ext K [] s.heap ρ ((s.heap.push (seqObj "list" #[] 0)).update s.heap.objs.size (Obj.mapSeq (· ++ as.toList.toArray))) ρ := (x1.nil.trans x2).weaken fun a ha => .inr (qE (mS.mp ha).symm)
   exact hR _ _ s.toks H2 x (hv.ext x)
  ·refine ifE hsrc fun hcnd hsrc => ?_
   obtain ⟨rfl, rfl, rfl⟩ := hcnd
   have hrs : rngInts 0 6 1 = is := (List.map_inj_right fun a b h => by cases h; rfl).mp (sI hsrc)
   refine yB (collect_range (n := 6) hh hr (range_small (by decide) (by decide) (by decide) (by decide)) (by decide) (by decide) fun h' tk acc hk hI hs1 ht1 => ?_)
   obtain ⟨H', x'⟩ := H.keeps hk hs1
   refine hR _ h' tk (H'.mono ht1) x' ?_
   rw [← hrs]
   have hlen : acc.toList.length = 6 := by simpa using hI.1
   have := VRs.rng (K := K) (h := h') (ρ := ρ) acc.toList 0 (fun j v hj => by
    obtain ⟨t, ht⟩ := hI.2 j v (by simpa using hj)
    exact ⟨t, by rw [ht, Nat.zero_add]⟩)
   rw [hlen] at this
   exact this
 refine call_function_entry_kw kind_sorted plain_sorted entry_sorted (ksk_s1 _ _) ?_
 unfold Builtin.«sorted»
 refine wpB (m := checkCount "sorted" 1 1 _) (wpP ?_)
 refine wpB (coll fun ws h_1 tk_1 H_1 x_1 hv_1 => ?_)
 have hwl : ws.length = 6 := by rw [hv_1.length, lM, h6]
 refine wpB (wpAny_newList ?_ (by rw [hwl]; decide))
 obtain ⟨H_2, x_2⟩ := H_1.push (seqObj "list" ws.toArray 0)
 have hp_2 := hP (hP hp H x_1 (by exact fun J h => nomatch h) (by exact fun J h => nomatch h)) H_1 x_2 (by exact fun J h => nomatch h) (by exact fun J h => nomatch h)
 have hs1 : s.heap.objs.size <= h_1.objs.size := x_1.size
 have hoL : (h_1.push (seqObj "list" ws.toArray 0)).get? h_1.objs.size = some (seqObj "list" ws.toArray 0) := hPS _ rfl
 refine wpB (wpAny_holding (wpAny_call_entry_kw slot_list_sort ⟨_, hoL, rfl⟩ entry_list_sort ?body (ksk_l1 _ _)))
 rw [ksk_t1]
 refine sort_tree (s := { s with heap := h_1.push (seqObj "list" ws.toArray 0), toks := tk_1 }) hP hc hp_2 H_2 hoL H_1.fresh H_1.big hs1 (qT hs1 x_2.size) (hv_1.ext x_2) hnd h6 hm fun h' tk ρ' out c H' x' hD hDl hv => ⟨_, rfl, ?_⟩
 refine wpP ⟨_, rfl, ?_⟩
 obtain ⟨H_3, v_3, x_3⟩ := comp_end (s := s) (X := [h_1.objs.size]) H' (((x_1.trans x_2).nil).trans x') (by simpa using hs1) ⟨c, hD⟩ hv hDl H_1.big hs1
 exact O _ h' tk _ H_3 x_3 v_3
theorem sortk_expr (hE : SEval K prog w n r.eval) (k : KOk K) (L : LamOk K) {sc : Sc} {sp : Pos} {src : Expr} {y : Str} {yp : Pos} {body : Expr} {scope : Scope} {lp kp p : Pos} {msrc : ME} {frees : List Nat} {fs : List Str} {mb : ME}
  (hlaw : sc.law = true) (hk : y = oQ "k") (hname : sc.names.lookup (oQ "sorted") = some .globalImplicit) (hs : IsE sc src msrc) (C : CompOk sc y frees fs scope) (hno : y5 scope.names = true) (hco : scope.isCoroutine = false) (hge : scope.isGenerator = false) (hb : IsE ⟨scope.names, y :: fs, false⟩ body mb) :
  EvAt K prog w (n + 1) sc (.Call (.Name (oQ "sorted") sp) [src] [⟨some (oQ "key"), .Lambda ⟨[], [⟨y, none, yp⟩], none, [], [], none, []⟩ body scope lp, kp⟩] p) (evalF r (.sortk msrc frees mb)) := by
 intro sl σ v σ' e A env s ρ E Q hA f H O
 have hA' := hA.mono (nLS n)
 refine obP e fun vi σ_1 e1 e => obE e fun xs e2 e => obE e fun is e3 e => ifE e fun hcond e => obP e fun ps σ_2 e4 e => ?_
 have O := O.of e
 refine byC fun hG => ?_
 obtain ⟨cl, hcl, hcm, hcf⟩ := closure_is f C.hcl
 obtain ⟨wf, hwf, hvf⟩ := k.name (oQ "sorted") .sorted (by decide)
 refine hG ?_
 have hx : env.kindOf (oQ "sorted") = some .globalImplicit := (f.eo.kindOf _).trans hname
 have hgl : s.heap.Ns env.globals K.mg := by rw [f.eo.globals]; exact ns_at H k.glob
 have hbl : s.heap.Ns env.builtins K.mb := by rw [f.eo.builtins]; exact ns_at H k.bui
 have hwf' : wf = .builtin "sorted" := by
  have := (hvf s.heap ρ).glob_inv
  exact (sI this).symm
 subst hwf'
 refine wpAny_Call_Name_kw (Name_function_global f.eo.kind hx ?_ (by decide))
 have go : wpAny (model prog w) A (callWith p (.builtin "sorted") [] (backTo p (starEach [src] env)) (backToKw p (keywordEach [⟨some (oQ "key"), .Lambda ⟨[], [⟨y, none, yp⟩], none, [], [], none, []⟩ body scope lp, kp⟩] env))) Q E s := by
  have hes : IsEs sc [src] [msrc] := .cons hs .nil
  rw [hes.trees]
  refine callWith_builtin_kwB (trees_plain _ _) rfl (evalArgs_kw rfl ?_)
  refine spliced_cons (hE hs e1 hA' f H fun u h_1 tk_1 ρ_1 H_1 x_1 r_1 => spliced_nil ?_)
  have f_1 := f.ext H x_1
  refine wpAny_evalAll_cons ?_
  show wpAny (model prog w) A (eval (.Lambda ⟨[], [⟨y, none, yp⟩], none, [], [], none, []⟩ body scope lp) env >>= fun v => standAt p >>= fun J => pure v) _ E _
  refine wpB (kla_eval rfl ?_)
  refine lam_make (s := { s with heap := h_1, toks := tk_1 }) L k hlaw f_1 H_1 hcl fun fa h_2 tk_2 H_2 x_2 la hfl hfb hflt => ?_
  refine wpB (wpAny_standAt (wpP ?_))
  refine wpAny_evalAll_nil ?_
  have f_2 := f_1.ext H_1 x_2
  refine sorted_call (s := { s with heap := h_2, toks := tk_2 }) hA.handled (lam_stays (fun a ha => f_2.lt a ha) hflt hfb)
   (lam_call (A := A.in1.in1) hk hE k hA.handled (show A.depth + 1 + n < recursionLimit by have := hA.depth; lia) (show A.units + 1 + 1 + 3 + 16 * n + 200 < cLine by have := hA.units; lia) C hno hco hge hb hcm hcf) ⟨la, hfl, f_2⟩ H_2 (r_1.ext x_2) e2 e3 hcond.2 hcond.1 e4 (O.after (x_1.trans x_2))
 rcases hwf with q | ⟨q1, q2⟩
 ·exact loadGlobal_global hgl q go
 ·exact loadGlobal_builtin hgl q1 hbl q2 go
end
end Mine
set_option maxRecDepth 10000
namespace Mine
open PySem PySem.W PySem.Calls PyProof.Rows
section
variable {K : Know} {prog : Program} {w : World}
theorem SEval.mono {n m : Nat} {ev} (h : SEval K prog w n ev) (hm : n <= m) : SEval K prog w m ev := fun hi he A env s ρ E Q hA => h hi he (hA.mono hm)
theorem SComp.mono {n m : Nat} {co} (h : SComp K prog w n co) (hm : n <= m) : SComp K prog w m co := by
 intro sc elt iter y yp vars cond scope p me cap v i mc acc σ vs σ' pre h1 h2 h3 h4 h5 h6 A env s ρ R it D ys ov hA
 exact h h1 h2 h3 h4 h5 h6 (hA.mono hm)
structure AllS (K : Know) (prog : Program) (w : World) (n : Nat) (r : Rec) : Prop where
 ev : SEval K prog w n r.eval
 te : STest K prog w n r.test
 ex : SExec K prog w n r.exec
 wh : SWhil K prog w n r.whil
 fo : SForr K prog w n r.forr
 co : SComp K prog w n r.comp
 c2 : SComp2 K prog w n r.comp2
 ca : SCall K prog w n r.call
theorem all_sound (k : KOk K) (L : LamOk K) (hB : NoneBooked K.base) (F : ∀ f, FnGood K f) (G : SubGet K) (hS : SubOk K prog w) : ∀ n, AllS K prog w n (recN n)
 | 0 => by
  refine ⟨?_, ?_, ?_, ?_, ?_, ?_, ?_, ⟨?_, ?_, ?_⟩⟩
  ·intro sc x e sl σ v σ' _ h; exact nE h
  ·intro sc x e sl σ v σ' _ h; exact nE h
  ·intro sc x e sl σ v σ' _ _ h; exact nE h
  ·intro sc t xs mt ms sl σ fl sl' σ' _ _ h; exact nE h
  ·intro sc x xp k v i xs ms sl σ fl sl' σ' _ _ _ h; exact nE h
  ·intro sc elt iter y yp vars cond scope p me cap v i mc acc σ vs σ' pre h1 h2 h3 h4 h5 h; exact nE h
  ·intro names elt iter iter2 y z yp zp scope p me mj v i acc σ vs σ' _ _ _ _ _ h; exact nE h
  ·intro f vs σ v σ' _ h; exact nE h
  ·intro f a x kk σ v σ' _ h; exact nE h
  ·intro f a x lo hi kk σ v σ' _ h; exact nE h
 | n + 1 => by
  have ih := all_sound k L hB F G hS n
  have ev : SEval K prog w (n + 1) (recN (n + 1)).eval := eval_sound ih.ev ih.te ih.ca k hB (FnGood.fns F) G hS (fun h1 h h2 h3 h4 h5 h6 h7 h8 => sortk_expr ih.ev k L h1 h h2 h3 h4 h5 h6 h7 h8) (fun h1 h2 h3 h4 h5 => comp_expr ih.ev ih.co h1 h2 h3 h4 h5) (fun h1 h2 h3 h4 h5 h6 h7 h8 h9 h10 => comp2_expr ih.ev ih.c2 h1 h2 h3 h4 h5 h6 h7 h8 h9 h10)
  have st : ∀ {sc x m}, IsS sc x m -> SStep K prog w (n + 1) (stepF (recN n)) x m sc := by
   intro sc x m hi
   refine step_sound ih.ev ih.te ih.ex ih.wh (fun h1 h2 h3 h4 h5 => for_stmt ih.ev ih.fo h1 h2 h3 h4 h5) (fun h1 h2 h3 h4 h5 h6 h7 h8 => ?_) hi
   cases n with
   | zero =>
    intro sl σ fl sl' σ' e
    exact nE e
   | succ m =>
    have ih0 := all_sound k L hB F G hS m
    intro sl σ fl sl' σ' e A env s ρ E Q
    exact setc_stmt (r_0 := recN m) ih.ev rfl (SEval.mono ih0.ev (nLS m)) (SComp.mono ih0.co (nLS m)) h1 h2 h3 h4 h5 h6 h7 h8 e
  exact ⟨ev, test_sound ih.ev ih.te k hB, exec_sound st, whil_sound ih.te ih.ex ih.wh, forr_sound ih.ex ih.fo, comp_sound ih.ev ih.te ih.co, comp2_sound ih.ev ih.co ih.c2, call_sound ih.ex k F⟩
end
end Mine
set_option maxRecDepth 100000
namespace Mine
open PySem PySem.W PySem.Calls PyProof.Rows
theorem cellsFrom_acc : ∀ (names : List (Str × NameKind)) (n : Nat) (acc : List (Str × Addr)), ∀ p ∈ acc, p ∈ cellsFrom n names acc := by
 intro names; induction names with
 | nil =>
  intro _ _ _ h
  exact h
 | cons hd' r ih =>
  intro n acc p h
  obtain ⟨x, k⟩ := hd'
  unfold cellsFrom
  split
  ·exact ih _ _ p (mT _ h)
  ·exact ih _ _ p h
theorem cellsFrom_mem : ∀ {names : List (Str × NameKind)} {n : Nat} {acc : List (Str × Addr)} {x : Str}, (x, NameKind.cell) ∈ names -> ∃ c, (x, c) ∈ cellsFrom n names acc := by
 intro names; induction names with
 | nil => exact fun h => nomatch h
 | cons p r ih =>
  intro n acc x h
  obtain ⟨y, k⟩ := p
  unfold cellsFrom
  rcases mC.mp h with q | q
  ·cases q
   rw [if_pos (show (NameKind.cell == NameKind.cell) = true from rfl)]
   exact ⟨n, cellsFrom_acc r _ _ _ mcS⟩
  ·split
   ·exact ih q
   ·exact ih q
noncomputable def ckLaw : Bool :=
 let names := (dsc .law).2.2.names
 (z8 .law).all (fun x => names.lookup x == some .local || names.lookup x == some .cell) && names.all (fun p => p.2 != .free) && (names.lookup (oQ "script") == some .local) &&
 decide (z8 .law).Nodup && decide ((z8 .law).length = 28) && ((z8 .law)[0]? == some (oQ "script")) && (dsc .law).2.2.isCoroutine == false && (dsc .law).2.2.isGenerator == false && (dsc .law).2.2.kind == .function
set_option maxHeartbeats 0 in
theorem law_names : ckLaw = true := by decide +kernel
noncomputable abbrev LawFnatF (K : Know) : Prop := ∃ o fd, K.base.get? (K.fa .law) = some o /\ o.data = .func fd /\ fd.body = .stmts (dsc .law).2.1 /\ fd.scope = (dsc .law).2.2 /\ fd.globals = mainGlobals /\ fd.builtins = builtinsNs /\ fd.closure = [] /\ fd.code = .ref K.c /\ fd.qualname = oQ "law" /\ K.base.CodeRec fd.code fd.qualname /\ ∀ u, bindArgs fd ⟨[u], []⟩ = pure [(oQ "script", u)]
structure LawFn (K : Know) : Prop where
 ne : K.fa .law ≠ K.P
 cP : K.c ≠ K.P
 at_ : LawFnatF K
section
variable {K : Know} {prog : Program} {w : World} {n : Nat} {r : Rec}
theorem law_call (hX : SExec K prog w n r.exec) (k : KOk K) (F : LawFn K) {σ σ' : Sto} {v : V} (e : callF r .law [.lst 0] σ = some (v, σ')) {u : Value} {A : Around} {s : Shared} {ρ : Gh} {E : Value -> Shared -> Prop} {Q : Value -> Shared -> Prop}
  (hA : OkA A (n + 1)) (H : HR K σ ρ s.heap s.toks) (ru : VR K s.heap ρ u (.lst 0)) (O : Out K σ' s ρ (fun h' ρ' u => VR K h' ρ' u v) Q) : wpAny (model prog w) A (call (.ref (K.fa .law)) [u]) Q E s := by
 have nm := law_names
 simp only [ckLaw, Bool.and_eq_true, decide_eq_true_eq, beq_iff_eq] at nm
 obtain ⟨⟨⟨⟨⟨⟨⟨⟨nm1, nm2⟩, nm3⟩, nm4⟩, nm5⟩, nm6⟩, nm7⟩, nm8⟩, nm9⟩ := nm
 have nm1' : ∀ x ∈ z8 .law, (dsc .law).2.2.names.lookup x = some .local \/ (dsc .law).2.2.names.lookup x = some .cell := fun x hx => by
  have := aT.mp nm1 x hx
  simpa using this
 obtain ⟨o, fd, ho, hd, hbody, hscope, hglob, hbui, hclo, hcode, hq, hcr, hbind⟩ := F.at_
 refine ifE e fun J e => obE e fun ⟨fl, sl', σ_1⟩ e1 e => ?_
 have hcr' : s.heap.CodeRec fd.code fd.qualname := by
  rw [hcode] at hcr ⊢
  exact hcr.at fun o q => H.base _ o F.cP q
 refine wpAny_call (codeAny_call_function (by have := hA.depth; exact pD this) (H.base _ _ F.ne ho) hd (by rw [hscope]; exact nm7) (by rw [hscope]; exact nm8) hbody hcr' ?_)
 rw [hbind, hclo]
 refine wpP ?_
 simp only [newFunctionEnv, Option.isSome_none, Bool.false_eq_true, if_false]
 refine wpB (wpAny_alloc ?_)
 refine wpB (wpAny_layCells _ (fun name kind cells => by cases hkc : kind == NameKind.cell <;> rfl) _ _ _ _ ?_)
 have hsz1 : (s.heap.push { cls := .type "frame", data := .dict #[] }).objs.size = s.heap.objs.size + 1 := hSP ..
 have ok := cellsFrom_ok fd.scope.names (s.heap.push { cls := .type "frame", data := .dict #[] }) (s.heap.objs.size + 1) [] ⟨fun J J hm => (nomatch hm), List.Pairwise.nil⟩ (by rw [hsz1]; exact Nat.le_refl _)
 rw [hsz1] at ok
 rw [show ({ s with heap := s.heap.push { cls := .type "frame", data := .dict #[] } } : Shared).heap.objs.size = s.heap.objs.size + 1 from hsz1]
 generalize hcs : cellsFrom (s.heap.objs.size + 1) fd.scope.names [] = cs at ok ⊢
 have hns : (pushCells (s.heap.push { cls := .type "frame", data := .dict #[] }) fd.scope.names).Ns s.heap.objs.size (fun J => none) := (Heap.Ns.new s.heap (.type "frame")).keeps (pushCells_keeps _ _)
 have hkeep : ∀ b o, s.heap.get? b = some o -> (pushCells (s.heap.push { cls := .type "frame", data := .dict #[] }) fd.scope.names).get? b = some o := fun b o q => pushCells_keeps _ _ b o (hPO _ q)
 generalize pushCells (s.heap.push { cls := .type "frame", data := .dict #[] }) fd.scope.names = h_1 at ok hns hkeep ⊢
 have hkind : Env.kindOf ({ scope := fd.scope, locals := s.heap.objs.size, globals := fd.globals, cells := cs, qual := fd.qualname ++ ".<locals>.", func := some (K.fa .law), code := fd.code, frame := some s.heap.objs.size, builtins := fd.builtins } : Env) (oQ "script") = some .local := by
  show fd.scope.names.lookup _ = _
  rw [hscope]; exact nm3
 rw [List.forIn_cons]
 refine wpB (wpB (wpB (wpAny_storeName_local hkind hns (fun h_2 hn_2 hs_2 => ?_) (by show (fd.scope.kind == .class || (fd.scope.kind == .module && _)) = false; rw [hscope, nm9]; rfl))))
 refine wpP (wpP (wpP ?_))
 have hkeep_2 : ∀ b o, s.heap.get? b = some o -> h_2.get? b = some o := fun b o q => (hs_2.2 b (nNL (hLS q))).trans (hkeep b o q)
 have hsz : s.heap.objs.size <= h_2.objs.size := qW hn_2.lt
 obtain ⟨H_2, x_2⟩ := H.keeps hkeep_2 hsz
 refine ⟨nolimit_at k H_2, codeAny_func ?_⟩
 have hcell : ∀ {x c}, (x, c) ∈ cs -> h_2.IsCell c none /\ s.heap.objs.size + 1 <= c := fun {x c} hm => by
  obtain ⟨q1, q2⟩ := ok.empty x c hm
  exact ⟨q1.sameBut hs_2 (Nat.ne_of_gt q2), q2⟩
 have fr : FrameOk K (scOf .law) { scope := fd.scope, locals := s.heap.objs.size, globals := fd.globals, cells := cs, qual := fd.qualname ++ ".<locals>.", func := some (K.fa .law), code := fd.code, frame := some s.heap.objs.size, builtins := fd.builtins } h_2 ρ ([V.lst 0].map some ++ lQ (nSlots .law - nArgs .law) none) := by
  refine ⟨⟨?_, ?_, hglob, hbui, fun J => ⟨hcode, ?_⟩⟩, ⟨_, hn_2, fun i x g hk => ?_⟩, fun i x g hk => ?_, H.fresh, H.big, fun x y c q1 q2 => name_of_addr ok.apart (mem_of_lookup q1) (mem_of_lookup q2), nm4, ?_, fun a ha => ?_⟩
  ·show fd.scope.names = _
   rw [hscope]; rfl
  ·show fd.scope.kind = _
   rw [hscope]; exact nm9
  ·show fd.qualname ++ ".<locals>." = _
   rw [hq]
  ·have g : (z8 .law)[i]? = some x := g
   cases i with
   | zero =>
    rw [nm6] at g
    cases g
    exact ⟨some (.lst 0), rfl, fun v' hv' => ⟨u, by rfl, by cases hv'; exact ru.ext x_2⟩⟩
   | succ j =>
    have hj : j + 1 < 28 := by rw [← nm5]; exact (gSI.mp g).1
    refine ⟨none, ?_, fun v' hv' => by cases hv'⟩
    show ([some (V.lst 0)] ++ lQ 27 none)[j + 1]? = some none
    rw [List.getElem?_append_right qQ, List.getElem?_replicate, if_pos (by simp; exact qO hj)]
  ·have g : (z8 .law)[i]? = some x := g
   have hk : isC ((dsc .law).2.2.names.lookup x) := hk
   have hcl : (dsc .law).2.2.names.lookup x = some .cell := by
    rcases hk with q | q
    ·exact q
    ·exfalso
     have := aT.mp nm2 _ (mem_of_lookup q)
     simp at this
   obtain ⟨c, hc⟩ := cellsFrom_mem (n := s.heap.objs.size + 1) (acc := []) (mem_of_lookup hcl)
   rw [← hscope, hcs] at hc
   obtain ⟨c', hc'⟩ := wL hc
   obtain ⟨q1, q2⟩ := hcell (mem_of_lookup hc')
   cases i with
   | zero =>
    rw [nm6] at g
    cases g
    rw [nm3] at hcl
    cases hcl
   | succ j =>
    have hj : j + 1 < 28 := by rw [← nm5]; exact (gSI.mp g).1
    refine ⟨none, c', ?_, hc', ⟨⟨none, q1, fun v' hv' => by cases hv'⟩, qT H.big (qW q2), fun hm => absurd (H.mem_lt hm) (qK (qW q2))⟩⟩
    show ([some (V.lst 0)] ++ lQ 27 none)[j + 1]? = some none
    rw [List.getElem?_append_right qQ, List.getElem?_replicate, if_pos (by simp; exact qO hj)]
  ·show _ = (z8 .law).length
   rw [nm5]; rfl
  ·obtain ⟨p, hp, rfl⟩ := mP.mp ha
   obtain ⟨q1, q2⟩ := hcell hp
   exact ⟨⟨_, q1⟩, qT H.big (qW q2), fun hm => absurd (H.mem_lt hm) (qK (qW q2))⟩
 refine hX (body_is .law) e1 (hA.deeper _) (s := { s with heap := h_2, toks := s.toks + 1 }) fr (H_2.mono qU) fun f' h' tk ρ' F' H' x' q => ?_
 have xx : Ext K [] s.heap ρ h' ρ' := (x_2.nil.trans x').weaken fun a ha => .inr (by
  rcases mC.mp ha with rfl | ha
  ·exact Nat.le_refl _
  ·obtain ⟨p, hp, rfl⟩ := mP.mp ha
   exact qW (hcell hp).2)
 revert e
 refine flow_e q (fun e => ?_) fun u v' r e => ?_
 ·exact O.of e .none h' tk ρ' H' xx .none
 ·exact O.of e u h' tk ρ' H' xx r
end
end Mine
namespace Mine
open PySem PySem.W PySem.Calls PyProof.Rows
noncomputable def faOf : F -> Addr
 | .insortR => 40 | .bisectR => 49 | .insortL => 58 | .bisectL => 67 | .hls => 74 | .hsv => 81 | .rgb => 88 | .quote => 105 | .subst => 112 | .lev => 119 | .value => 126 | .light => 133 | .read => 140 | .due => 147 | .law => 152
noncomputable def theK (h : Heap) (mg mb : Str -> Option Value) : Know := ⟨h, 149, 151, faOf, 93, 98, mg, mb⟩
noncomputable def fnAt (Kf : Frag) (a : Addr) : FuncData := match Kf.lookup a with
 | some ⟨_, _, .func fd, _⟩ => fd
 | _ => default
noncomputable def codeNo : Value -> Addr
 | .ref a => a
 | _ => 0
noncomputable def zR (Kf : Frag) (a : Addr) : Array Value := match Kf.lookup a with
 | some ⟨_, _, .fields vs, _⟩ => vs
 | _ => #[]
noncomputable def objAt (Kf : Frag) (a : Addr) : Obj := (Kf.lookup a).getD default
noncomputable def tokOf : Option Value -> Tok
 | some (.str _ t) => t
 | _ => 0
noncomputable abbrev FnFactslookF (Kf : Frag) (f : F) : Prop := Kf.lookup (faOf f) = some { cls := .type "function", data := .func (fnAt Kf (faOf f)) }
noncomputable abbrev FnFactscodeF (Kf : Frag) (f : F) : Prop := (fnAt Kf (faOf f)).code = .ref (codeNo (fnAt Kf (faOf f)).code)
noncomputable abbrev FnFactsclF (Kf : Frag) (f : F) : Prop := Kf.lookup (codeNo (fnAt Kf (faOf f)).code) = some (objAt Kf (codeNo (fnAt Kf (faOf f)).code))
noncomputable abbrev FnFactscdF (Kf : Frag) (f : F) : Prop := (objAt Kf (codeNo (fnAt Kf (faOf f)).code)).data = .fields (zR Kf (codeNo (fnAt Kf (faOf f)).code))
noncomputable abbrev FnFactscqF (Kf : Frag) (f : F) : Prop := (zR Kf (codeNo (fnAt Kf (faOf f)).code))[1]? = some (.str (fnAt Kf (faOf f)).qualname (tokOf (zR Kf (codeNo (fnAt Kf (faOf f)).code))[1]?))
structure FnFacts (Kf : Frag) (f : F) : Prop where
 look : FnFactslookF Kf f
 body : (fnAt Kf (faOf f)).body = .stmts (dsc f).2.1
 scope : (fnAt Kf (faOf f)).scope = (dsc f).2.2
 globs : (fnAt Kf (faOf f)).globals = mainGlobals
 bui : (fnAt Kf (faOf f)).builtins = builtinsNs
 clo : (fnAt Kf (faOf f)).closure = []
 code : FnFactscodeF Kf f
 codeP : (codeNo (fnAt Kf (faOf f)).code == 149) = false
 cl : FnFactsclF Kf f
 cd : FnFactscdF Kf f
 cq : FnFactscqF Kf f
noncomputable def dfl : F -> Addr
 | .insortR => 32 | .bisectR => 41 | .insortL => 50 | .bisectL => 59 | _ => 0
noncomputable def dTok (Kf : Frag) (a : Addr) : Tok := match Kf.lookup a with
 | some ⟨_, _, .seq xs _, _⟩ => (match (xs[0]? : Option Value) with | some (Value.int _ t) => t | _ => 0)
 | _ => 0
noncomputable def dFrag (Kf : Frag) (f : F) : Frag := [(dfl f, { cls := .type "tuple", data := .seq #[.int 0 (dTok Kf (dfl f)), .none] })]
noncomputable abbrev BindFactsb1F (Kf : Frag) : Prop := ∀ f, (f = .quote \/ f = .value \/ f = .light \/ f = .read) -> ∀ a, bindArgs (fnAt Kf (faOf f)) ⟨[a], []⟩ = pure (((z8 f).take (nArgs f)).zip [a])
noncomputable abbrev BindFactsb2F (Kf : Frag) : Prop := ∀ a b, bindArgs (fnAt Kf (faOf .subst)) ⟨[a, b], []⟩ = pure (((z8 .subst).take (nArgs .subst)).zip [a, b])
noncomputable abbrev BindFactsb3F (Kf : Frag) : Prop := ∀ f, (f = .hls \/ f = .hsv \/ f = .rgb \/ f = .lev \/ f = .due) -> ∀ a b c, bindArgs (fnAt Kf (faOf f)) ⟨[a, b, c], []⟩ = pure (((z8 f).take (nArgs f)).zip [a, b, c])
noncomputable abbrev BindFactslawF (Kf : Frag) : Prop := ∀ u, bindArgs (fnAt Kf (faOf .law)) ⟨[u], []⟩ = pure [(oQ "script", u)]
noncomputable abbrev BindFactsdlF (Kf : Frag) : Prop := ∀ f, (f = .insortR \/ f = .insortL \/ f = .bisectR \/ f = .bisectL) -> Kf.lookup (dfl f) = some { cls := .type "tuple", data := .seq #[.int 0 (dTok Kf (dfl f)), .none] } /\ (dfl f == 149) = false
noncomputable abbrev BindFactsinsF (Kf : Frag) : Prop := ∀ f, (f = .insortR \/ f = .insortL) -> ∀ S a x k, peek (dFrag Kf f) S (bindArgs (fnAt Kf (faOf f)) ⟨[a, x], [(oQ "key", k)]⟩) = some (((z8 f).take (nArgs f)).zip [a, x, .int 0 (dTok Kf (dfl f)), .none, k])
noncomputable abbrev BindFactsbisF (Kf : Frag) : Prop := ∀ f, (f = .bisectR \/ f = .bisectL) -> ∀ S a x l h k, peek (dFrag Kf f) S (bindArgs (fnAt Kf (faOf f)) ⟨[a, x, l, h], [(oQ "key", k)]⟩) = some (((z8 f).take (nArgs f)).zip [a, x, l, h, k])
structure BindFacts (Kf : Frag) : Prop where
 b1 : BindFactsb1F Kf
 b2 : BindFactsb2F Kf
 b3 : BindFactsb3F Kf
 law : BindFactslawF Kf
 dl : BindFactsdlF Kf
 ins : BindFactsinsF Kf
 bis : BindFactsbisF Kf
noncomputable def tok2 : Option (Option Value) -> Tok
 | some (some (.str _ t)) => t
 | some (some (.int _ t)) => t
 | _ => 0
noncomputable abbrev NameFactsfnF (Kf : Frag) : Prop := ∀ f, f ≠ .law -> nsIn Kf mainGlobals (pyName f) = some (some (.ref (faOf f)))
noncomputable abbrev NameFactsre1F (Kf : Frag) : Prop := nsIn Kf mainGlobals (oQ "_twin_re_1") = some (some (.ref 93))
noncomputable abbrev NameFactsre2F (Kf : Frag) : Prop := nsIn Kf mainGlobals (oQ "_twin_re_2") = some (some (.ref 98))
noncomputable abbrev NameFactscrlfF (Kf : Frag) : Prop := nsIn Kf mainGlobals (oQ "CRLF") = some (some (.str ⟨#[13, 10]⟩ (tok2 (nsIn Kf mainGlobals (oQ "CRLF")))))
noncomputable abbrev NameFactsmaxszF (Kf : Frag) : Prop := nsIn Kf mainGlobals (oQ "_MAX_STRING_SIZE") = some (some (.int 40 (tok2 (nsIn Kf mainGlobals (oQ "_MAX_STRING_SIZE")))))
noncomputable abbrev NameFactsmoveF (Kf : Frag) : Prop := nsIn Kf mainGlobals (oQ "_MOVE_COST") = some (some (.int 2 (tok2 (nsIn Kf mainGlobals (oQ "_MOVE_COST")))))
noncomputable abbrev NameFactscaseF (Kf : Frag) : Prop := nsIn Kf mainGlobals (oQ "_CASE_COST") = some (some (.int 1 (tok2 (nsIn Kf mainGlobals (oQ "_CASE_COST")))))
noncomputable abbrev NameFactsbmnF (Kf : Frag) : Prop := nsIn Kf mainGlobals (oQ "__builtins__") = some (some (.ref 4))
noncomputable abbrev NameFactsbmoF (Kf : Frag) : Prop := Kf.lookup 4 = some { cls := .type "module", dict := some 0 }
noncomputable abbrev NameFactsr1F (Kf : Frag) : Prop := Kf.lookup 93 = some { cls := .type "re.Pattern", data := .fields (zR Kf 93) }
noncomputable abbrev NameFactsr2F (Kf : Frag) : Prop := Kf.lookup 98 = some { cls := .type "re.Pattern", data := .fields (zR Kf 98) }
structure NameFacts (Kf : Frag) : Prop where
 fn : NameFactsfnF Kf
 range : nsIn Kf mainGlobals (oQ "range") = some none
 sum : nsIn Kf mainGlobals (oQ "sum") = some none
 list : nsIn Kf mainGlobals (oQ "list") = some none
 len : nsIn Kf mainGlobals (oQ "len") = some none
 max : nsIn Kf mainGlobals (oQ "max") = some none
 min : nsIn Kf mainGlobals (oQ "min") = some none
 sorted : nsIn Kf mainGlobals (oQ "sorted") = some none
 int : nsIn Kf mainGlobals (oQ "int") = some none
 re1 : NameFactsre1F Kf
 re2 : NameFactsre2F Kf
 crlf : NameFactscrlfF Kf
 maxsz : NameFactsmaxszF Kf
 move : NameFactsmoveF Kf
 case : NameFactscaseF Kf
 bmn : NameFactsbmnF Kf
 bmo : NameFactsbmoF Kf
 tab : Kf.lookup 149 = some (tabObj #[])
 statics : nsIn Kf cStatics sharingNotToldKey = some none
 lawCode : (fnAt Kf (faOf .law)).code = .ref 151
 lawQual : (fnAt Kf (faOf .law)).qualname = oQ "law"
 r1 : NameFactsr1F Kf
 r2 : NameFactsr2F Kf
theorem bui_range : bootBuiltins (oQ "range") = some (.type "range") := by kernel_rfl
theorem bui_sum : bootBuiltins (oQ "sum") = some (.builtin "sum") := by kernel_rfl
theorem bui_list : bootBuiltins (oQ "list") = some (.type "list") := by kernel_rfl
theorem bui_len : bootBuiltins (oQ "len") = some (.builtin "len") := by kernel_rfl
theorem bui_max : bootBuiltins (oQ "max") = some (.builtin "max") := by kernel_rfl
theorem bui_min : bootBuiltins (oQ "min") = some (.builtin "min") := by kernel_rfl
theorem bui_sorted : bootBuiltins (oQ "sorted") = some (.builtin "sorted") := by kernel_rfl
theorem bui_int : bootBuiltins (oQ "int") = some (.type "int") := by kernel_rfl
theorem plain_re : PlainAttrs "re.Pattern" :=
 ⟨⟨"object.__getattribute__", by rw [typeLookup_type, builtinLookup_eq_fast]; kernel_rfl, by decide +kernel⟩, by rw [typeLookup_type, builtinLookup_eq_fast]; kernel_rfl⟩
theorem slot_re_sub : Slot "re.Pattern" "sub" "re.Pattern.sub" :=
 .of (owner := "re.Pattern") (n := "sub") (by rw [typeLookup_type, builtinLookup_eq_fast]; kernel_rfl) (by decide +kernel) (by decide +kernel) (by decide +kernel)
  (by first | exact .inl (by decide +kernel) | exact .inr (by decide +kernel)) (by rw [isSubtype_type]; kernel_rfl)
theorem type_re_sub : typeOf (.builtin "re.Pattern.sub") = pure (.type "method_descriptor") := by show builtinType _ = _; rw [builtinType_eq_fast]; kernel_rfl
theorem ns_none_of {Kf : Frag} {h : Heap} {a : Addr} {m : Str -> Option Value} {n : Str} (X : Kf.In h) (G : h.Ns a m) (e : nsIn Kf a n = some none) : m n = none := by
 obtain ⟨o, es, ep, ho, hd, J, hf⟩ := G
 delta nsIn at e
 rcases q : Kf.lookup a with _ | ⟨c, d, dt, n'⟩
 ·rw [q] at e; exact nE e
 ·have := X _ _ q
  rw [ho] at this
  cases this
  rw [q] at e
  cases dt with
  | dict es' n'' =>
   cases hd
   rcases he : es.toList.find? (·.key.isStr n) with _ | x
   ·rw [← hf]
    unfold nsFind findBy
    rw [← Array.find?_toList, he]
    rfl
   ·change (match es.toList.find? (·.key.isStr n) with | some e => some (some e.val) | none => if es.toList.any (·.refKey) then none else some none) = some none at e
    rw [he] at e; cases e
  | _ => exact nE e
end Mine
namespace Mine
open PySem PySem.W PySem.Calls PyProof.Rows
noncomputable def strV : Value -> Str
 | .str s _ => s
 | _ => Str.empty
noncomputable def tokV : Value -> Tok
 | .str _ t => t
 | .int _ t => t
 | _ => 0
noncomputable def intV : Value -> Int
 | .int i _ => i
 | _ => 0
noncomputable def boolV : Value -> Bool
 | .bool b => b
 | _ => false
structure LamFacts (Kf : Frag) : Prop where
 look : Kf.lookup 151 = some { cls := .type "code", data := .fields (zR Kf 151) }
 v11 : (zR Kf 151)[11]? = some (.ref 149)
 w11 : (zR Kf 151).getD 11 .none = .ref 149
 v18 : (zR Kf 151).getD 18 .none = .str (strV ((zR Kf 151).getD 18 .none)) (tokV ((zR Kf 151).getD 18 .none))
 v7 : (zR Kf 151).getD 7 .none = .int (intV ((zR Kf 151).getD 7 .none)) (tokV ((zR Kf 151).getD 7 .none))
 v9 : (zR Kf 151).getD 9 .none = .bool (boolV ((zR Kf 151).getD 9 .none))
 v10 : (zR Kf 151).getD 10 .none = .int (intV ((zR Kf 151).getD 10 .none)) (tokV ((zR Kf 151).getD 10 .none))
section
variable {Kf : Frag} {h : Heap} {mg mb : Str -> Option Value}
theorem faNe : ∀ f, faOf f ≠ 149 := by intro f; cases f <;> decide
theorem lamOk (X : Kf.In h) (L : LamFacts Kf) (N : NameFacts Kf) (g : h.Ns mainGlobals mg) : LamOk (theK h mg mb) := by
 refine ⟨⟨_, zR Kf 151, _, _, _, _, _, _, _, X _ _ L.look, rfl, rfl, L.v11, L.w11, L.v18, L.v7, L.v9, L.v10, (by decide : (151 : Nat) ≠ 149)⟩, ?_⟩
 exact ⟨4, _, mg_of X g N.bmn, by decide, by decide, (by decide : (4 : Nat) ≠ 149), X _ _ N.bmo, rfl, rfl, rfl⟩
theorem subGet (X : Kf.In h) (N : NameFacts Kf) : SubGet (theK h mg mb) :=
 ⟨plain_re, slot_re_sub, type_re_sub, ⟨_, X _ _ N.r1, rfl, rfl, (by decide : (93 : Nat) ≠ 149)⟩, ⟨_, X _ _ N.r2, rfl, rfl, (by decide : (98 : Nat) ≠ 149)⟩⟩
theorem memC {α} {P : α -> Prop} {a : α} {l : List α} (h : P a) (t : ∀ x ∈ l, P x) : ∀ x ∈ a :: l, P x := List.forall_mem_cons.mpr ⟨h, t⟩
theorem kOk (X : Kf.In h) (N : NameFacts Kf) (g : h.Ns mainGlobals mg) (b : h.Ns builtinsNs mb) (nl : h.NoLimit) (bu : ∀ x : Str, x ≠ "__name__" -> mb x = bootBuiltins x) : KOk (theK h mg mb) := by
 refine ⟨g, b, nl, (by decide : (2 : Nat) ≠ 149), fun x gg hg => ?_⟩
 have hm : (x, gg) ∈ gnames := mem_of_lookup hg
 have vf : ∀ f : F, ∀ h' ρ, VR (theK h mg mb) h' ρ (.ref (faOf f)) (globV (.fn f)) := fun f h' ρ => .glob _ _ rfl
 have bi : ∀ {y : Str} {v : Value} {g' : G}, nsIn Kf mainGlobals y = some none -> bootBuiltins y = some v -> y ≠ "__name__" -> (theK h mg mb).gv g' = some v -> globV g' = .glob g' -> ∃ v, (mg y = some v \/ (mg y = none /\ mb y = some v)) /\ ∀ h' ρ, VR (theK h mg mb) h' ρ v (globV g') :=
  fun {y v g'} e1 e2 e3 e4 e5 => ⟨v, .inr ⟨mg_none_of X g e1, (bu y e3).trans e2⟩, fun h' ρ => by rw [e5]; exact .glob _ _ e4⟩
 have fi : ∀ f : F, f ≠ .law -> ∃ v, (mg (pyName f) = some v \/ (mg (pyName f) = none /\ mb (pyName f) = some v)) /\ ∀ h' ρ, VR (theK h mg mb) h' ρ v (globV (.fn f)) :=
  fun f hf => ⟨_, .inl (mg_of X g (N.fn f hf)), vf f⟩
 refine (show ∀ p ∈ gnames, ∃ v, (mg p.1 = some v \/ (mg p.1 = none /\ mb p.1 = some v)) /\ ∀ h' ρ, VR (theK h mg mb) h' ρ v (globV p.2) from ?_) (x, gg) hm
 exact memC (fi .insortR (by decide)) <| memC (fi .bisectR (by decide)) <| memC (fi .insortL (by decide)) <| memC (fi .bisectL (by decide)) <| memC (fi .hls (by decide)) <| memC (fi .hsv (by decide)) <| memC (fi .rgb (by decide)) <| memC (fi .quote (by decide)) <| memC (fi .subst (by decide)) <| memC (fi .lev (by decide)) <| memC (fi .value (by decide)) <| memC (fi .light (by decide)) <| memC (fi .read (by decide)) <| memC (fi .due (by decide)) <| memC (bi N.range bui_range (by decide) rfl rfl) <| memC (bi N.sum bui_sum (by decide) rfl rfl) <| memC (bi N.list bui_list (by decide) rfl rfl) <| memC (bi N.len bui_len (by decide) rfl rfl) <| memC (bi N.max bui_max (by decide) rfl rfl) <| memC (bi N.min bui_min (by decide) rfl rfl) <| memC (bi N.sorted bui_sorted (by decide) rfl rfl) <| memC (bi N.int bui_int (by decide) rfl rfl) <| memC (⟨_, .inl (mg_of X g N.re1), fun h' ρ => .glob _ _ rfl⟩) <| memC (⟨_, .inl (mg_of X g N.re2), fun h' ρ => .glob _ _ rfl⟩) <| memC (⟨_, .inl (mg_of X g N.crlf), fun h' ρ => .strOf _ _ _ rfl⟩) <| memC (⟨_, .inl (mg_of X g N.maxsz), fun h' ρ => .int _ _⟩) <| memC (⟨_, .inl (mg_of X g N.move), fun h' ρ => .int _ _⟩) <| memC (⟨_, .inl (mg_of X g N.case), fun h' ρ => .int _ _⟩) <| fun J h => nomatch h
theorem noneBooked (X : Kf.In h) (N : NameFacts Kf) (nl : h.NoLimit) : NoneBooked h := by
 obtain ⟨mc, hn, _⟩ := nl
 exact ⟨mc, hn, ns_none_of X hn N.statics⟩
theorem f_groups (f : F) (hk : kwF f = false) : (f = .quote \/ f = .value \/ f = .light \/ f = .read) \/ f = .subst \/ f = .hls \/ f = .hsv \/ f = .rgb \/ f = .lev \/ f = .due := by
 cases f <;> first | decide | exact nomatch hk
theorem dIn {f : F} {s : Shared} (X : Kf.In h) (B : BindFacts Kf) (hf : f = .insortR \/ f = .insortL \/ f = .bisectR \/ f = .bisectL) (hs : ∀ b o, b ≠ (theK h mg mb).P -> h.get? b = some o -> s.heap.get? b = some o) : (dFrag Kf f).In s.heap := by
 obtain ⟨q1, q2⟩ := B.dl f hf
 intro a o e
 simp only [dFrag, List.lookup_cons, List.lookup_nil] at e
 split at e
 ·rename_i he
  cases e
  rw [beq_iff_eq.mp he]
  exact hs _ _ (fun q => by rw [q] at q2; simp [theK] at q2) (X _ _ q1)
 ·cases e
theorem fnGood (X : Kf.In h) (Ff : ∀ f, FnFacts Kf f) (B : BindFacts Kf) (f : F) : FnGood (theK h mg mb) f := by
 have Fa := Ff f
 refine ⟨faNe f, _, fnAt Kf (faOf f), X _ _ Fa.look, rfl, Fa.body, Fa.scope, Fa.globs, Fa.bui, Fa.clo, ⟨_, Fa.code, ?_⟩, ⟨_, _, _, _, Fa.code, X _ _ Fa.cl, Fa.cd, Fa.cq⟩, fun s hs => ⟨fun hk ws hw => ?_, fun hf => ⟨dTok Kf (dfl f), fun wa wx wk => ?_⟩, fun hf wa wx wl wh wk => ?_⟩⟩
 ·have := Fa.codeP
  exact fun q => by simp only [q, beq_self_eq_true] at this; cases this
 ·rcases f_groups f hk with q | q | q
  ·obtain ⟨a, rfl⟩ := List.length_eq_one_iff.mp (hw.trans (by rcases q with rfl | rfl | rfl | rfl <;> rfl))
   exact BindsTo.of_eq (B.b1 f q a)
  ·subst q
   obtain ⟨a, b, rfl⟩ := lenTwo hw
   exact BindsTo.of_eq (B.b2 a b)
  ·obtain ⟨a, b, c, rfl⟩ := lenThree (hw.trans (by rcases q with rfl | rfl | rfl | rfl | rfl <;> rfl))
   exact BindsTo.of_eq (B.b3 f q a b c)
 ·exact kp_binds (dIn X B (hf.imp id .inl) hs) fun S => B.ins f hf S wa wx wk
 ·exact kp_binds (dIn X B (.inr (.inr hf)) hs) fun S => B.bis f hf S wa wx wl wh wk
theorem lawFn (X : Kf.In h) (Ff : ∀ f, FnFacts Kf f) (B : BindFacts Kf) (N : NameFacts Kf) : LawFn (theK h mg mb) := by
 have Fa := Ff .law
 exact ⟨(by decide : (152 : Nat) ≠ 149), (by decide : (151 : Nat) ≠ 149), _, fnAt Kf (faOf .law), X _ _ Fa.look, rfl, Fa.body, Fa.scope, Fa.globs, Fa.bui, Fa.clo, N.lawCode, N.lawQual, ⟨_, _, _, _, Fa.code, X _ _ Fa.cl, Fa.cd, Fa.cq⟩, B.law⟩
theorem hr_start (X : Kf.In h) (N : NameFacts Kf) {tk : Tok} (htk : 0 < tk) (hsz : h.objs.size = 154) {ws : List Value} {is : List Int} (hl : h.IsList 153 ws.toArray) (hi : IntsAre ws is) :
  HR (theK h mg mb) [is.map V.int] ⟨[153], fun J => none⟩ h tk := by
 have hv : ∀ {ws : List Value} {is : List Int}, IntsAre ws is -> VRs (theK h mg mb) h ⟨[153], fun J => none⟩ ws (is.map V.int) := by
  intro ws is hi
  induction hi with
  | nil => exact .nil
  | cons n t _ ih => exact .cons (.int n t) ih
 refine ⟨htk, fun t x q => (by cases q), fun b o J q => q, Nat.le_refl _, ⟨#[], X _ _ N.tab, trivial, fun pos c q => (by cases q), #[], #[], X _ _ N.tab, rfl⟩, rfl, by decide, fun i a g hi => ?_, ⟨153, rfl, (by decide : (153 : Nat) ≠ 149), (by show (153 : Nat) < h.objs.size; exact qE (Eq.symm hsz))⟩, fun i a vs g1 g2 => ?_⟩
 ·cases i with
  | zero => exact absurd rfl hi
  | succ i => simp at g
 ·cases i with
  | zero =>
   simp at g1 g2
   subst g1; subst g2
   exact ⟨_, hl, fun q => absurd rfl q, by simpa using hv hi⟩
  | succ i => simp at g1
end
theorem law_answers {Kf : Frag} {h : Heap} {mg mb : Str -> Option Value} (X : Kf.In h) (Ff : ∀ f, FnFacts Kf f) (B : BindFacts Kf) (N : NameFacts Kf) (L : LamFacts Kf) (g : h.Ns mainGlobals mg) (b : h.Ns builtinsNs mb) (nl : h.NoLimit) (bu : ∀ x : Str, x ≠ "__name__" -> mb x = bootBuiltins x)
  {prog : Program} {w : World} (hS : SubOk (theK h mg mb) prog w) {n : Nat} {is : List Int} {ws : List Value} {bb : Bool} {σ' : Sto} (hrun : callF (recN n) .law [.lst 0] [is.map V.int] = some (.bool bb, σ'))
  {s : Shared} (hs : s.heap = h) (htk : 0 < s.toks) (hsz : h.objs.size = 154) (hl : h.IsList 153 ws.toArray) (hi : IntsAre ws is) {A : Around} (hA : OkA A (n + 1)) {E : Value -> Shared -> Prop} {Q : Value -> Shared -> Prop}
  (hQ : ∀ h' tk, OldK s.heap h' -> Q (.bool bb) { s with heap := h', toks := tk }) :
  wpAny (model prog w) A (call (.ref 152) [.ref 153]) Q E s := by
 subst hs
 have k := kOk X N g b nl bu
 have H := hr_start (mg := mg) (mb := mb) X N htk hsz hl hi
 have all := all_sound (prog := prog) (w := w) k (lamOk (mb := mb) X L N g) (noneBooked X N nl) (fnGood (mg := mg) (mb := mb) X Ff B) (subGet X N) hS n
 refine law_call (K := theK s.heap mg mb) all.ex k (lawFn X Ff B N) hrun hA H (.lst 0 153 rfl) fun u h' tk ρ' H' x' r => ?_
 have := r.bool_inv
 subst this
 obtain ⟨ps, q, _, _, ps_0, more, e1, e2⟩ := H'.tab
 have e1 : s.heap.get? 149 = some (tabObj ps_0) := e1
 have q : h'.get? 149 = some (tabObj ps) := q
 have keep : ∀ b o, b ≠ 149 -> s.heap.get? b = some o -> h'.get? b = some o := fun b o hb g => H'.base b o hb g
 refine hQ h' tk ⟨fun b o g => ?_, fun b o g => ?_⟩
 ·by_cases hb : b = 149
  ·subst hb
   rw [e1] at g
   cases g
   exact .inr (.inl ⟨⟨151, _, _, X _ _ L.look, rfl, rfl, L.v11⟩, rfl, ps_0, more, rfl, by rw [q, e2]⟩)
  ·exact .inl (keep b o hb g)
 ·by_cases hb : b = 149
  ·subst hb; exact ⟨_, q⟩
  ·exact ⟨o, keep b o hb g⟩
theorem post_true (args : List WData) : PySem.Challenge.rw_sc0085_01.row.claim.post args (.bool true) args = true := by kernel_rfl
end Mine
namespace Mine
open PySem PySem.Sre
noncomputable def code1 : Array Nat := #[14, 4, 0, 1, 1, 6, 1, 16, 46, 1]
noncomputable def code2 : Array Nat := #[14, 9, 4, 1, 2, 16, 10, 16, 13, 0, 7, 7, 16, 13, 16, 10, 15, 18, 5, 16, 10, 15, 13, 11, 16, 13, 5, 5, 0, 16, 10, 1, 15, 2, 0, 1]
noncomputable def atS (code text : Array Nat) (pc s : Nat) (first mu : Bool) (seen : Seen) : M :=
 { code, text, lim := text.size, start := s, lastStart := text.size, mustAdvance := mu, pc, pos := s, handed := s, outermost := first, marks := #[], frames := [{ wait := .nextStart, pc, pos := s, outermost := first }], weight := 1, seen }
theorem xG : ∀ (a b : Nat) (m : M), M.runFor (a + b) m = M.runFor b (M.runFor a m) := by
 intro a; induction a with
 | zero =>
  intro b m
  rw [Nat.zero_add]; rfl
 | succ a ih =>
  intro b m
  rw [Nat.add_right_comm]
  show (if m.outcome.isSome then m else M.runFor (a + b) m.step) = M.runFor b (if m.outcome.isSome then m else M.runFor a m.step)
  split
  ·rename_i h
   cases b with
   | zero => rfl
   | succ b => show _ = (if m.outcome.isSome then m else _); rw [if_pos h]
  ·exact ih b m.step
noncomputable abbrev yP (text : Array Nat) (s : Nat) : Prop := s = 0 \/ text[s - 1]?.getD 0 = 10
theorem runFor_one {m : M} (h : m.outcome = none) (n : Nat) : M.runFor (n + 1) m = M.runFor n m.step := by
 show (if m.outcome.isSome then m else _) = _
 rw [h]; rfl
theorem rs {m m_1 r : M} {n : Nat} (h : m.outcome = none) (e : m.step = m_1) (k : M.runFor n m_1 = r) : M.runFor (n + 1) m = r := by rw [runFor_one h, e, k]
theorem rd (text : Array Nat) (i : Nat) : text.getD i 0 = text[i]?.getD 0 := Array.getD_eq_getD_getElem?
theorem step_exec {m : M} (ho : m.outcome = none) (ha : m.answer = none) (hp : m.pc < m.code.size) : m.step = m.exec := by
 unfold M.step
 rw [ho, ha]
 exact if_pos hp
noncomputable def litY (m : M) : M := { m with seen := m.seen.add 16, pc := m.pc + 2, pos := m.pos + 1 }
noncomputable def litN (m : M) : M := { m with seen := m.seen.add 16, answer := some false }
section
variable {m : M} (ho : m.outcome = none) (ha : m.answer = none) (hp : m.pc < m.code.size) (hw : m.code.getD m.pc 0 = 16)
include ho ha hp hw
theorem lit_exec : m.step = if m.lim <= m.pos then litN m else cond (m.text.getD m.pos 0 == m.code.getD (m.pc + 1) 0) (litY m) (litN m) := by
 have h : ∀ (x : Nat) (s : Seen), accepts m.code m.pc x s = .ok (x == m.code.getD (m.pc + 1) 0, s) := fun x s => by
  unfold accepts
  rw [hw]
  rfl
 have hi : itemWidth m.code m.pc = 2 := by
  unfold itemWidth
  rw [hw]
  rfl
 rw [step_exec ho ha hp]
 unfold M.exec M.word
 rw [show m.code.getD (m.pc + 0) 0 = 16 from hw]
 show (if m.lim <= m.pos then litN m else match accepts m.code m.pc (m.text.getD m.pos 0) (m.seen.add 16) with
  | .error why => ({ m with seen := m.seen.add 16 } : M).stick why
  | .ok (false, seen) => M.say { m with seen } false
  | .ok (true, seen) => { m with seen, pc := m.pc + itemWidth m.code m.pc, pos := m.pos + 1 }) = _
 rw [h, hi]
 cases m.text.getD m.pos 0 == m.code.getD (m.pc + 1) 0 <;> rfl
end
noncomputable def ready (m : M) (w : Nat) : Bool := m.outcome.isNone && m.answer.isNone && decide (m.pc < m.code.size) && m.code.getD m.pc 0 == w && !m.wholeText
noncomputable def sees (m : M) : Nat × Nat × Array Nat × Nat := (m.pos, m.lim, m.text, m.code.getD (m.pc + 1) 0)
theorem xZ {m : M} {w : Nat} (h : ready m w = true) : m.outcome = none /\ m.answer = none /\ m.pc < m.code.size /\ m.code.getD m.pc 0 = w /\ m.wholeText = false := by
 simpa [ready, and_assoc] using h
section
variable {m : M} {text : Array Nat} {p w : Nat} (hr : ready m 16 = true) (hx : sees m = (p, text.size, text, w))
include hr hx
theorem lit_yes (hl : p < text.size) (hc : text[p]?.getD 0 = w) : m.step = litY m := by
 obtain ⟨a, b, c, d, _⟩ := xZ hr
 obtain ⟨rfl, hl', rfl, rfl⟩ : m.pos = p /\ m.lim = text.size /\ m.text = text /\ m.code.getD (m.pc + 1) 0 = w := by simpa [sees] using hx
 rw [lit_exec a b c d, hl', if_neg (Nat.not_le.mpr hl), rd, hc, beq_self_eq_true]; rfl
theorem lit_no (hc : p < text.size -> text[p]?.getD 0 ≠ w) : m.step = litN m := by
 obtain ⟨a, b, c, d, _⟩ := xZ hr
 obtain ⟨rfl, hl', rfl, rfl⟩ : m.pos = p /\ m.lim = text.size /\ m.text = text /\ m.code.getD (m.pc + 1) 0 = w := by simpa [sees] using hx
 rw [lit_exec a b c d]
 rw [hl']
 by_cases q : m.text.size <= m.pos
 ·rw [if_pos q]
 ·rw [if_neg q, rd, beq_false_of_ne (hc (Nat.lt_of_not_le q))]; rfl
end
noncomputable def failS (text : Array Nat) (s : Nat) (first mu : Bool) (p : Nat) (seen : Seen) : M := { atS code1 text 5 s first mu seen with pc := p, answer := some false }
noncomputable def sn1 (seen : Seen) : Seen := (seen.add 6).add 44
section
variable {text : Array Nat} {s : Nat} {first mu : Bool} {seen : Seen}
theorem at_iff : (s == 0 || text.getD (s - 1) 0 == 10) = true ↔ yP text s := by simp [yP]
theorem at_no (h : ¬ yP text s) : (atS code1 text 5 s first mu seen).step = failS text s first mu 5 (sn1 seen) := if_neg (mt at_iff.mp h)
theorem at_yes (h : yP text s) : (atS code1 text 5 s first mu seen).step = { atS code1 text 5 s first mu (sn1 seen) with pc := 7 } := if_pos (at_iff.mpr h)
theorem nx_yes {p : Nat} (hs : s < text.size) : (failS text s first mu p seen).step = atS code1 text 5 (s + 1) false false seen := if_pos hs
theorem nx_no {p : Nat} : (M.runFor 2 (failS text text.size first mu p seen)).outcome = some .failed := by
 rw [runFor_one rfl, show (failS text text.size first mu p seen).step = _ from if_neg (nIR _)]
 rfl
theorem one_no (h : ¬ yP text s) (hs : s < text.size) : ∃ seen', M.runFor 2 (atS code1 text 5 s first mu seen) = atS code1 text 5 (s + 1) false false seen' :=
 ⟨_, rs rfl (at_no h) (rs rfl (nx_yes hs) rfl)⟩
theorem lit7 (hc : s < text.size -> text[s]?.getD 0 ≠ 46) : ({ atS code1 text 5 s first mu seen with pc := 7 } : M).step = failS text s first mu 7 (seen.add 16) :=
 lit_no rfl rfl hc
theorem one_other (h : yP text s) (hs : s < text.size) (hc : text[s]?.getD 0 ≠ 46) : ∃ seen', M.runFor 3 (atS code1 text 5 s first mu seen) = atS code1 text 5 (s + 1) false false seen' :=
 ⟨_, rs rfl (at_yes h) (rs rfl (lit7 fun J => hc) (rs rfl (nx_yes hs) rfl))⟩
noncomputable def sucY (m : M) : M := { m with seen := m.seen.add 1, handed := m.pos, answer := some true }
theorem suc_step {m : M} {a b : Nat} (hr : ready m 1 = true) (h : (m.pos, m.start) = (a, b)) (hq : a ≠ b) :
  m.step = sucY m := by
 obtain ⟨ho, ha, hp, hw, hx⟩ := xZ hr
 cases h
 rw [step_exec ho ha hp]
 unfold M.exec M.word
 rw [show m.code.getD (m.pc + 0) 0 = 1 from hw]
 refine if_neg ?_
 show ¬ (m.outermost && ((m.wholeText && _) || (m.mustAdvance && m.pos == m.start))) = true
 rw [hx, beq_false_of_ne hq]
 exact fun h => absurd h (by rw [show ∀ a b c : Bool, (a && ((false && b) || (c && false))) = false by decide]; decide)
theorem one_yes (h : yP text s) (hs : s < text.size) (hc : text[s]?.getD 0 = 46) :
  ∃ m, M.runFor 5 (atS code1 text 5 s first mu seen) = m /\ m.outcome = some .matched /\ m.start = s /\ m.handed = s + 1 :=
 ⟨_, rs rfl (at_yes h) (rs rfl (lit_yes rfl rfl hs hc) (rs rfl (suc_step rfl rfl (Nat.succ_ne_self s)) rfl)), rfl, rfl, rfl⟩
theorem one_end : ∃ k m, k <= 4 /\ M.runFor k (atS code1 text 5 text.size first mu seen) = m /\ m.outcome = some .failed := by
 by_cases h : yP text text.size
 ·exact ⟨4, _, by decide, rs rfl (at_yes h) (rs rfl (lit7 fun q => absurd q (nIR _)) rfl), nx_no⟩
 ·exact ⟨3, _, by decide, rs rfl (at_no h) rfl, nx_no⟩
end
noncomputable def next1 (text : Array Nat) : Nat -> Nat -> Option Nat
 | 0, _ => none
 | n + 1, s => if yP text s /\ text[s]?.getD 0 = 46 then some s else next1 text n (s + 1)
noncomputable def Ends (m : M) (f : Nat -> Nat) (o : Option Nat) : Prop := o.elim (m.outcome = some .failed) fun j => m.outcome = some .matched /\ m.start = j /\ m.handed = f j
theorem next1_t {text : Array Nat} {n s : Nat} (h : yP text s /\ text[s]?.getD 0 = 46) : next1 text (n + 1) s = some s := if_pos h
theorem next1_f {text : Array Nat} {n s : Nat} (h : ¬ (yP text s /\ text[s]?.getD 0 = 46)) : next1 text (n + 1) s = next1 text n (s + 1) := if_neg h
theorem run1 {text : Array Nat} : ∀ (n s : Nat) (first mu : Bool) (seen : Seen), s + n = text.size -> ∃ k m, k <= 3 * n + 5 /\ M.runFor k (atS code1 text 5 s first mu seen) = m /\
  Ends m (fun j => j + 1) (next1 text n s) := by
 intro n; induction n with
 | zero =>
  intro s first mu seen h
  have : s = text.size := by exact h
  subst this
  obtain ⟨k, m, a, b, c⟩ := one_end (text := text) (first := first) (mu := mu) (seen := seen)
  exact ⟨k, m, by exact qS a, b, c⟩
 | succ n ih =>
  intro s first mu seen h
  have hs : s < text.size := by exact pA h
  by_cases hh : yP text s
  ·by_cases hc : text[s]?.getD 0 = 46
   ·obtain ⟨m, e, h1, h2, h3⟩ := one_yes (first := first) (mu := mu) (seen := seen) hh hs hc
    refine ⟨5, m, by exact qL, e, ?_⟩
    rw [next1_t ⟨hh, hc⟩]
    exact ⟨h1, h2, h3⟩
   ·obtain ⟨seen', e⟩ := one_other (first := first) (mu := mu) (seen := seen) hh hs hc
    obtain ⟨k, m, hk, e', hm⟩ := ih (s + 1) false false seen' (pB h)
    refine ⟨3 + k, m, by lia, by rw [xG, e, e'], ?_⟩
    rw [next1_f (nB hc)]
    exact hm
  ·obtain ⟨seen', e⟩ := one_no (first := first) (mu := mu) (seen := seen) hh hs
   obtain ⟨k, m, hk, e', hm⟩ := ih (s + 1) false false seen' (pB h)
   refine ⟨2 + k, m, by lia, by rw [xG, e, e'], ?_⟩
   rw [next1_f (nA hh)]
   exact hm
theorem runFor_done {m : M} (h : m.outcome.isSome = true) : ∀ n, M.runFor n m = m
 | 0 => rfl
 | n + 1 => by show (if m.outcome.isSome then m else _) = m; rw [if_pos h]
theorem drive {Md : Model} {A : Around} {E : Value -> Shared -> Prop} {s : Shared} {Q : M -> Shared -> Prop} : ∀ (turns k : Nat) (m : M), k <= 4 * turns -> 0 < turns -> (M.runFor k m).outcome.isSome = true -> Q (M.runFor k m) s -> wpAny Md A (Builtin.Re.reDrive turns m) Q E s := by
 intro turns; induction turns with
 | zero =>
  intro _ _ _ h _ _
  exact absurd h (nIR _)
 | succ turns ih =>
  intro k m hk _ ho hq
  have e4 : Builtin.Re.reTurnSteps = 4 := rfl
  show wpAny Md A (if (M.runFor 4 m).outcome.isSome = true then pure (M.runFor 4 m) else (do rule "sre.turn"; Builtin.Re.reDrive turns (M.runFor 4 m))) Q E s
  by_cases h4 : (M.runFor 4 m).outcome.isSome = true
  ·rw [if_pos h4]
   have : M.runFor 4 m = M.runFor k m := by
    by_cases hk4 : k <= 4
    ·have e : 4 = k + (4 - k) := by exact Eq.symm (qP hk4)
     rw [e, xG, runFor_done ho]
    ·have e : k = 4 + (k - 4) := by lia
     rw [e, xG, runFor_done h4]
   rw [this]
   exact wpP hq
  ·rw [if_neg h4]
   have hk4 : 4 < k := by
    refine Nat.lt_of_not_le fun q => h4 ?_
    have e : 4 = k + (4 - k) := by exact Eq.symm (qP q)
    rw [e, xG, runFor_done ho]
    exact ho
   have e : k = 4 + (k - 4) := by lia
   rw [e, xG] at ho hq
   exact wpB (wpAny_rule (ih (k - 4) _ (Nat.sub_le_of_le_add hk) (by lia) ho hq))
end Mine
namespace Mine
open PySem PySem.Sre
noncomputable def isNl (c : Nat) : Bool := c == 10 || c == 13
noncomputable def next2 (text : Array Nat) : Nat -> Nat -> Option Nat
 | 0, _ => none
 | n + 1, s => if isNl (text[s]?.getD 0) then some s else next2 text n (s + 1)
theorem next2_t {text : Array Nat} {n s : Nat} (h : isNl (text[s]?.getD 0) = true) : next2 text (n + 1) s = some s := if_pos h
theorem next2_f {text : Array Nat} {n s : Nat} (h : ¬ isNl (text[s]?.getD 0) = true) : next2 text (n + 1) s = next2 text n (s + 1) := if_neg h
noncomputable def len2 (text : Array Nat) (j : Nat) : Nat := if text[j]?.getD 0 = 13 /\ j + 1 < text.size /\ text[j + 1]?.getD 0 = 10 then 2 else 1
theorem inSet2 (c : Nat) (seen : Seen) : ∃ seen', inSet code2 c code2.size 5 true seen = .ok (isNl c, seen') := by
 have e : inSet code2 c code2.size 5 true seen = if (c == 10) = true then .ok (true, seen.add 16) else if (c == 13) = true then .ok (true, (seen.add 16).add 16) else .ok (false, ((seen.add 16).add 16).add 0) := rfl
 rw [e]
 unfold isNl
 cases c == 10 with
 | true => exact ⟨_, rfl⟩
 | false => cases c == 13 <;> exact ⟨_, rfl⟩
theorem adm_step {m : M} {f s : Nat} {seen seen_1 : Seen} {b : Bool} (h : ¬ s ≥ m.lim) (e : inSet m.code (m.text.getD s 0) m.code.size 5 true seen = .ok (b, seen_1)) : M.admitted m (f + 1) s seen = if b then .ok (some s, seen_1) else M.admitted m f (s + 1) seen_1 := by
 refine (if_neg h).trans ?_
 rw [e]
 cases b <;> rfl
theorem admitted2 {m : M} (hc : m.code = code2) (hl : m.lim = m.text.size) : ∀ (n s : Nat) (seen : Seen) (extra : Nat), s + n = m.text.size -> ∃ seen', M.admitted m (n + 1 + extra) s seen = .ok (next2 m.text n s, seen') := by
 intro n; induction n with
 | zero =>
  intro s seen extra h
  refine ⟨seen, ?_⟩
  have : 0 + 1 + extra = extra + 1 := by exact Nat.add_comm _ _
  rw [this]
  exact if_pos (eD hl (pC h))
 | succ n ih =>
  intro s seen extra h
  obtain ⟨seen_1, e⟩ := inSet2 (m.text.getD s 0) seen
  have hg : m.text.getD s 0 = m.text[s]?.getD 0 := by simp
  have : n + 1 + 1 + extra = (n + 1 + extra) + 1 := by exact qC
  rw [this]
  rw [adm_step (by lia) (show inSet m.code (m.text.getD s 0) m.code.size 5 true seen = _ by rw [hc]; exact e), hg]
  cases hn : isNl (m.text[s]?.getD 0) with
  | true =>
   refine ⟨seen_1, ?_⟩
   rw [next2_t hn]; rfl
  | false =>
   obtain ⟨seen', e'⟩ := ih (s + 1) seen_1 extra (pB h)
   refine ⟨seen', ?_⟩
   rw [next2_f (ne_true_of_eq_false hn)]
   exact e'
theorem rk {m r : M} {n : Nat} (h : m.outcome = none) (k : M.runFor n m.step = r) : M.runFor (n + 1) m = r := rs h rfl k
theorem rly {m r : M} {n : Nat} {text : Array Nat} {p w : Nat} (hr : ready m 16 = true) (hx : sees m = (p, text.size, text, w)) (hl : p < text.size) (hc : text[p]?.getD 0 = w) (k : M.runFor n (litY m) = r) : M.runFor (n + 1) m = r :=
 rs (xZ hr).1 (lit_yes hr hx hl hc) k
theorem rln {m r : M} {n : Nat} {text : Array Nat} {p w : Nat} (hr : ready m 16 = true) (hx : sees m = (p, text.size, text, w)) (hc : p < text.size -> text[p]?.getD 0 ≠ w) (k : M.runFor n (litN m) = r) : M.runFor (n + 1) m = r :=
 rs (xZ hr).1 (lit_no hr hx hc) k
theorem rsu {m r : M} {n a b : Nat} (hr : ready m 1 = true) (h : (m.pos, m.start) = (a, b)) (hq : a ≠ b) (k : M.runFor n (sucY m) = r) : M.runFor (n + 1) m = r :=
 rs (xZ hr).1 (suc_step hr h hq) k
section
variable {text : Array Nat} {s : Nat} {first mu : Bool} {seen : Seen}
theorem two_lf (hs : s < text.size) (hc : text[s]?.getD 0 = 10) :
  ∃ k m, k <= 40 /\ M.runFor k (atS code2 text 10 s first mu seen) = m /\ m.outcome = some .matched /\ m.start = s /\ m.handed = s + 1 :=
 ⟨12, _, by decide, rk (by kernel_rfl) (rln (w := 13) (by kernel_rfl) (by kernel_rfl) (fun (_ : s < text.size) e => absurd (hc.symm.trans e) (by decide)) (rk (by kernel_rfl) (rly (by kernel_rfl) (by kernel_rfl) hs hc
  (rk (by kernel_rfl) (rsu (by kernel_rfl) (by kernel_rfl) (Nat.succ_ne_self s) rfl))))), by kernel_rfl, by kernel_rfl, by kernel_rfl⟩
theorem two_crlf (hs : s + 1 < text.size) (hc : text[s]?.getD 0 = 13) (hd : text[s + 1]?.getD 0 = 10) :
  ∃ k m, k <= 40 /\ M.runFor k (atS code2 text 10 s first mu seen) = m /\ m.outcome = some .matched /\ m.start = s /\ m.handed = s + 2 :=
 ⟨12, _, by decide, rk (by kernel_rfl) (rly (by kernel_rfl) (by kernel_rfl) (Nat.lt_of_succ_lt hs) hc (rly (by kernel_rfl) (by kernel_rfl) hs hd
  (rk (by kernel_rfl) (rsu (by kernel_rfl) (b := s) (by kernel_rfl) (Nat.ne_of_gt (Nat.lt_add_of_pos_right (k := 2) (by decide))) rfl)))), by kernel_rfl, by kernel_rfl, by kernel_rfl⟩
theorem two_cr (hs : s < text.size) (hc : text[s]?.getD 0 = 13) (hd : ¬ (s + 1 < text.size /\ text[s + 1]?.getD 0 = 10)) :
  ∃ k m, k <= 40 /\ M.runFor k (atS code2 text 10 s first mu seen) = m /\ m.outcome = some .matched /\ m.start = s /\ m.handed = s + 1 :=
 ⟨22, _, by decide, rk (by kernel_rfl) (rly (by kernel_rfl) (by kernel_rfl) hs hc (rln (by kernel_rfl) (by kernel_rfl) (fun q e => hd ⟨q, e⟩) (rk (by kernel_rfl)
  (rln (w := 10) (by kernel_rfl) (by kernel_rfl) (fun (_ : s < text.size) e => absurd (hc.symm.trans e) (by decide)) (rk (by kernel_rfl) (rly (by kernel_rfl) (by kernel_rfl) hs hc (rk (by kernel_rfl)
  (rln (by kernel_rfl) (by kernel_rfl) (fun q e => hd ⟨q, e⟩) (rk (by kernel_rfl) (rk (by kernel_rfl) (rsu (by kernel_rfl) (by kernel_rfl) (Nat.succ_ne_self s) rfl))))))))))), by kernel_rfl, by kernel_rfl, by kernel_rfl⟩
end
end Mine
namespace Mine
open PySem PySem.Sre
theorem start1 {text : Array Nat} {s : Nat} {must : Bool} (h : s < text.size) : ∃ seen, forSearch code1 text 0 s text.size must = atS code1 text 5 s true must seen := by
 refine ⟨({} : Seen).add 14, ?_⟩
 have hc : (decide (s > text.size) || decide (text.size - s < 1)) = false := by simp; lia
 have hh : header code1 = (1, 5) := rfl
 unfold forSearch
 simp only [hh]
 rw [if_neg (by simpa using hc)]
 rfl
theorem over1 {text : Array Nat} {s : Nat} {must : Bool} (h : text.size <= s) : (M.runFor 1 (forSearch code1 text 0 s text.size must)).outcome = some .failed := by
 have hc : (decide (s > text.size) || decide (text.size - s < 1)) = true := by simp; exact Or.inr (Nat.sub_eq_zero_of_le h)
 have hh : header code1 = (1, 5) := rfl
 unfold forSearch
 simp only [hh]
 rw [if_pos (by simpa using hc)]
 rfl
theorem over2 {text : Array Nat} {s : Nat} {must : Bool} (h : text.size <= s) : (M.runFor 1 (forSearch code2 text 0 s text.size must)).outcome = some .failed := by
 have hc : (decide (s > text.size) || decide (text.size - s < 1)) = true := by simp; exact Or.inr (Nat.sub_eq_zero_of_le h)
 have hh : header code2 = (1, 10) := rfl
 unfold forSearch
 simp only [hh]
 rw [if_pos (by simpa using hc)]
 rfl
theorem search1 {text : Array Nat} {s : Nat} {must : Bool} : ∃ k m, k <= 3 * text.size + 45 /\ M.runFor k (forSearch code1 text 0 s text.size must) = m /\
  Ends m (fun j => j + 1) (next1 text (text.size - s) s) := by
 by_cases h : s < text.size
 ·obtain ⟨seen, e⟩ := start1 (must := must) h
  obtain ⟨k, m, hk, e', hm⟩ := run1 (text := text) (text.size - s) s true must seen (qP (qW h))
  exact ⟨k, m, by lia, by rw [e, e'], hm⟩
 ·have e0 : text.size - s = 0 := by exact Nat.sub_eq_zero_of_le (qG h)
  rw [e0]
  exact ⟨1, _, by exact qQ, rfl, over1 (qG h)⟩
theorem x7 {text : Array Nat} : ∀ {n s j : Nat}, next2 text n s = some j -> s <= j /\ j < s + n /\ isNl (text[j]?.getD 0) = true := by
 intro n; induction n with
 | zero =>
  intro s j h
  cases h
 | succ n ih =>
  intro s j h
  by_cases q : isNl (text[s]?.getD 0) = true
  ·cases (next2_t q).symm.trans h; exact ⟨Nat.le_refl _, qB (Nat.le_add_right _ _), q⟩
  ·obtain ⟨a, b, c⟩ := ih ((next2_f q).symm.trans h)
   exact ⟨qW a, eB qC b, c⟩
theorem search2 {text : Array Nat} {s : Nat} {must : Bool} : ∃ k m, k <= 3 * text.size + 45 /\ M.runFor k (forSearch code2 text 0 s text.size must) = m /\
  Ends m (fun j => j + len2 text j) (next2 text (text.size - s) s) := by
 by_cases h : s < text.size
 ·let m_0 : M := { code := code2, text, lim := text.size, start := s, lastStart := text.size, pc := 10, pos := s, handed := s, marks := #[], mustAdvance := must, seen := ({} : Seen).add 14 }
  have e0 : forSearch code2 text 0 s text.size must = m_0.attemptFrom s true := by
   have hc : (decide (s > text.size) || decide (text.size - s < 1)) = false := by simp; lia
   have hh : header code2 = (1, 10) := rfl
   unfold forSearch
   simp only [hh]
   rw [if_neg (by simpa using hc)]
   rfl
  obtain ⟨seen', ea⟩ := admitted2 (m := m_0) rfl rfl (text.size - s) s m_0.seen 0 (by show s + (text.size - s) = text.size; exact qP (qW h))
  have el : m_0.lim + 1 - s = text.size - s + 1 + 0 := by show text.size + 1 - s = _; exact Nat.sub_add_comm (qW h)
  have e1 : m_0.attemptFrom s true = (match M.admitted m_0 (m_0.lim + 1 - s) s m_0.seen with
    | .ok (some s, seen) => ({ m_0 with mustAdvance := false, seen } : M).attemptAt s true
    | .ok (none, seen) => ({ m_0 with seen } : M).say false
    | .error why => m_0.stick why) := rfl
  rw [e0, e1, el, ea]
  cases hn : next2 text (text.size - s) s with
  | none =>
   exact ⟨1, _, by exact qQ, rfl, rfl⟩
  | some j =>
   obtain ⟨a, b, c⟩ := x7 hn
   have hj : j < text.size := by omega
   have ej : ({ m_0 with mustAdvance := false, seen := seen' } : M).attemptAt j true = atS code2 text 10 j true false seen' := rfl
   show ∃ k m, k <= _ /\ M.runFor k (({ m_0 with mustAdvance := false, seen := seen' } : M).attemptAt j true) = m /\ _
   rw [ej]
   by_cases h13 : text[j]?.getD 0 = 13
   ·by_cases h2 : j + 1 < text.size /\ text[j + 1]?.getD 0 = 10
    ·obtain ⟨k, m, hk, e, r1, r2, r3⟩ := two_crlf (first := true) (mu := false) (seen := seen') h2.1 h13 h2.2
     exact ⟨k, m, by exact qT hk qL, e, r1, r2, r3.trans (congrArg (j + ·) (if_pos ⟨h13, h2⟩ : len2 text j = 2).symm)⟩
    ·obtain ⟨k, m, hk, e, r1, r2, r3⟩ := two_cr (first := true) (mu := false) (seen := seen') hj h13 h2
     exact ⟨k, m, by exact qT hk qL, e, r1, r2, r3.trans (congrArg (j + ·) (if_neg (fun q => h2 q.2) : len2 text j = 1).symm)⟩
   ·have h10 : text[j]?.getD 0 = 10 := by
     simp [isNl] at c
     rcases c with c | c
     ·exact c
     ·exact absurd c h13
    obtain ⟨k, m, hk, e, r1, r2, r3⟩ := two_lf (first := true) (mu := false) (seen := seen') hj h10
    exact ⟨k, m, by exact qT hk qL, e, r1, r2, r3.trans (congrArg (j + ·) (if_neg (fun q => h13 q.1) : len2 text j = 1).symm)⟩
 ·have e0 : text.size - s = 0 := by exact Nat.sub_eq_zero_of_le (qG h)
  rw [e0]
  exact ⟨1, _, by exact qQ, rfl, over2 (qG h)⟩
end Mine
set_option maxRecDepth 10000
namespace Mine
open PySem PySem.Sre
theorem drop_cons {text : Array Nat} {a : Nat} (h : a < text.size) : text.toList.drop a = text[a]?.getD 0 :: text.toList.drop (a + 1) := by
 rw [List.drop_eq_getElem_cons (by simpa using h)]
 simp [h]
theorem next1_ge {text : Array Nat} : ∀ {n s j : Nat}, next1 text n s = some j -> s <= j /\ j < s + n /\ yP text j /\ text[j]?.getD 0 = 46 := by
 intro n; induction n with
 | zero =>
  intro s j h
  cases h
 | succ n ih =>
  intro s j h
  by_cases q : yP text s /\ text[s]?.getD 0 = 46
  ·cases (next1_t q).symm.trans h; exact ⟨Nat.le_refl _, qB (Nat.le_add_right _ _), q⟩
  ·obtain ⟨a, b, c⟩ := ih ((next1_f q).symm.trans h)
   exact ⟨qW a, eB qC b, c⟩
theorem head_succ (text : Array Nat) (a : Nat) : decide (yP text (a + 1)) = (text[a]?.getD 0 == 10) := by
 have : yP text (a + 1) ↔ text[a]?.getD 0 = 10 := by simp [yP]
 rw [decide_eq_decide.mpr this]
 rfl
theorem dot_next {text : Array Nat} {repl : List Nat} : ∀ (n a : Nat), a + n = text.size -> dotF repl (decide (yP text a)) (text.toList.drop a) = match next1 text n a with
  | some j => (text.toList.drop a).take (j - a) ++ repl ++ dotF repl (decide (yP text (j + 1))) (text.toList.drop (j + 1))
  | none => text.toList.drop a := by
 intro n; induction n with
 | zero =>
  intro a h
  rw [List.drop_of_length_le (by simp; exact qE (Eq.symm h))]
  rfl
 | succ n ih =>
  intro a h
  have ih := ih (a + 1) (pB h)
  have ha : a < text.size := by exact pA h
  rw [drop_cons ha]
  by_cases hc : yP text a /\ text[a]?.getD 0 = 46
  ·rw [next1_t hc, dotF_t (by rw [decide_eq_true hc.1, hc.2]; rfl)]
   show _ = (text[a]?.getD 0 :: text.toList.drop (a + 1)).take (a - a) ++ repl ++ dotF repl (decide (yP text (a + 1))) (text.toList.drop (a + 1))
   rw [head_succ, hc.2, Nat.sub_self]
   rfl
  ·rw [next1_f hc, dotF_f (Bool.eq_false_iff.mpr fun q => hc ⟨of_decide_eq_true (Bool.and_eq_true_iff.mp q).1, eq_of_beq (Bool.and_eq_true_iff.mp q).2⟩), ← head_succ, ih]
   cases hn : next1 text n (a + 1) with
   | none => rfl
   | some j =>
    have : j - a = (j - (a + 1)) + 1 := (Nat.sub_add_cancel (Nat.sub_pos_of_lt (next1_ge hn).1)).symm
    simp only [this]
    rfl
theorem cr_next {text : Array Nat} {repl : List Nat} : ∀ (n a : Nat), a + n = text.size -> crF repl (text.toList.drop a) = match next2 text n a with
  | some j => (text.toList.drop a).take (j - a) ++ repl ++ crF repl (text.toList.drop (j + len2 text j))
  | none => text.toList.drop a := by
 intro n; induction n with
 | zero =>
  intro a h
  rw [List.drop_of_length_le (by simp; exact qE (Eq.symm h))]
  rfl
 | succ n ih =>
  intro a h
  have ih := ih (a + 1) (pB h)
  have ha : a < text.size := by exact pA h
  rw [drop_cons ha]
  by_cases hc : isNl (text[a]?.getD 0) = true
  ·have e : crF repl (text[a]?.getD 0 :: text.toList.drop (a + 1)) = repl ++ crF repl (text.toList.drop (a + len2 text a)) := by
    refine (crG_t hc).trans (congrArg (repl ++ ·) ?_)
    by_cases h2 : text[a]?.getD 0 = 13 /\ a + 1 < text.size /\ text[a + 1]?.getD 0 = 10
    ·rw [show len2 text a = 2 from if_pos h2, drop_cons h2.2.1, h2.1, h2.2.2]
     rfl
    ·rw [show len2 text a = 1 from if_neg h2]
     by_cases hs : a + 1 < text.size
     ·by_cases h3 : text[a]?.getD 0 = 13
      ·rw [drop_cons hs]
       exact crG_e (beq_false_of_ne fun q => h2 ⟨h3, hs, q⟩)
      ·rw [beq_false_of_ne h3]; rfl
     ·rw [List.drop_of_length_le (qG hs)]
      rfl
   rw [next2_t hc, e]
   show _ = (text[a]?.getD 0 :: text.toList.drop (a + 1)).take (a - a) ++ repl ++ _
   rw [Nat.sub_self]
   rfl
  ·rw [next2_f hc, show crF repl (text[a]?.getD 0 :: text.toList.drop (a + 1)) = _ from crG_f hc, show crG repl false (text.toList.drop (a + 1)) = _ from ih]
   cases hn : next2 text n (a + 1) with
   | none => rfl
   | some j =>
    have : j - a = (j - (a + 1)) + 1 := (Nat.sub_add_cancel (Nat.sub_pos_of_lt (x7 hn).1)).symm
    simp only [this]
    rfl
end Mine
namespace Mine
open PySem PySem.Sre PySem.Builtin.Re
section
variable {Md : Model} {A : Around} {E : Value -> Shared -> Prop} {s : Shared}
noncomputable def PatAt (h : Heap) (a : Addr) (code : Array Nat) : Prop :=
 ∃ o vs c oc items n, h.get? a = some o /\ o.data = .fields vs /\ vs.getD 5 .none = .ref c /\ h.get? c = some oc /\ oc.data = .seq items n /\ (items.map reRawOf).map (·.toNat) = code /\ reRawNat (vs.getD 6 .none) = 0 /\ reRawNat (vs.getD 2 .none) = 0
noncomputable def yI (a : Addr) (code : Array Nat) (x : Str) (t : Tok) : ReTarget := { pattern := .ref a, string := .str x t, code, text := x.cps, kind := 0, groups := 0, pos := 0, lim := x.cps.size }
theorem whole_target {a : Addr} {code : Array Nat} {x : Str} {t : Tok} {Q : ReTarget -> Shared -> Prop} (p : PatAt s.heap a code) (h : Q (yI a code x t) s) : wpAny Md A (reWholeTarget (.ref a) (.str x t)) Q E s := by
 refine byC fun hG => ?_
 obtain ⟨o, vs, c, oc, items, n, ho, hd, h5, hc, hcd, hcode, h6, h2⟩ := p
 refine hG ?_
 unfold reWholeTarget
 refine wpB (wpAny_fieldsOf ho hd ?_)
 refine wpB (m := reTextOf (.str x t)) (wpP ?_)
 dsimp only
 rw [h6]
 refine wpB (m := reNoCollectionInside (.str x t) 0) (wpP ?_)
 rw [h5]
 unfold reRawItems
 refine wpB (wpB (wpAny_seqItems hc hcd (wpP ?_)))
 refine wpP ?_
 show Q { pattern := .ref a, string := .str x t, code := (items.map reRawOf).map (·.toNat), text := x.cps, kind := 0, groups := reRawNat (vs.getD 2 .none), pos := 0, lim := x.cps.size } s
 rw [hcode, h2]
 exact h
theorem rules_loop {c : Nat -> Bool} {tag : Nat -> String} {Q : PUnit -> Shared -> Prop} (h : Q ⟨⟩ s) : ∀ l : List Nat, wpAny Md A (forIn l PUnit.unit fun i (_ : PUnit) => if c i = true then (do rule (tag i); pure (ForInStep.yield PUnit.unit)) else pure (ForInStep.yield PUnit.unit)) Q E s := by
 intro l; induction l with
 | nil =>
  rw [List.forIn_nil]; exact wpP h
 | cons i l ih =>
  rw [List.forIn_cons]
  by_cases hc : c i = true
  ·rw [if_pos hc]
   exact wpB (wpB (wpAny_rule (wpP ih)))
  ·rw [if_neg hc]
   exact wpB (wpP ih)
theorem run_to_end {k : Nat} {m m_0 : M} {Q : Option M -> Shared -> Prop} (hk : k <= 4 * 2 ^ 64) (he : M.runFor k m_0 = m) (ho : m.outcome = some .matched \/ m.outcome = some .failed)
  (h : Q (match m.outcome with | some .matched => some m | _ => none) s) : wpAny Md A (reRunToEnd m_0) Q E s := by
 unfold reRunToEnd
 refine wpB (drive (2 ^ 64) k m_0 hk (by decide) (by rw [he]; rcases ho with q | q <;> rw [q] <;> rfl) ?_)
 rw [he]
 refine wpB (rules_loop ?_ _)
 rcases ho with q | q
 ·rw [q] at h ⊢
  exact wpP h
 ·rw [q] at h ⊢
  exact wpP h
end
end Mine
set_option maxRecDepth 100000
namespace Mine
open PySem PySem.Sre PySem.Builtin.Re
theorem entry_sub : entryFor table "re.Pattern.sub" = some Builtin.«re.Pattern.sub» := entryFor_of_fast (by kernel_rfl)
theorem entry_sub_loop : entryFor table "re.Pattern.sub.loop" = some Builtin.«re.Pattern.sub.loop» := entryFor_of_fast (by kernel_rfl)
theorem y7 : plainId "re.Pattern.sub.loop" = true := by decide +kernel
theorem args_sub (a b c : Value) : argsOk "re.Pattern.sub" ⟨[a, b, c], []⟩ := by unfold argsOk; kernel_rfl
end Mine
namespace Mine
open PySem PySem.Sre PySem.Builtin.Re PySem.W PyProof.Rows
noncomputable def Searches (code text : Array Nat) (nx : Nat -> Nat -> Option Nat) (ln : Nat -> Nat) : Prop :=
 ∀ s must, ∃ k m, k <= 3 * text.size + 45 /\ M.runFor k (forSearch code text 0 s text.size must) = m /\
  Ends m (fun j => j + ln j) (nx (text.size - s) s)
noncomputable def subL (text : Array Nat) (nx : Nat -> Nat -> Option Nat) (ln : Nat -> Nat) (r : Str) : Nat -> Nat -> List Str
 | 0, _ => []
 | f + 1, a => (nx (text.size - a) a).elim (if a < text.size then [⟨text.extract a text.size⟩] else []) fun j => (if a < j then [(⟨text.extract a j⟩ : Str)] else []) ++ r :: subL text nx ln r f (j + ln j)
theorem subL_n {text : Array Nat} {nx : Nat -> Nat -> Option Nat} {ln : Nat -> Nat} {r : Str} {f a : Nat} (h : nx (text.size - a) a = none) : subL text nx ln r (f + 1) a = if a < text.size then [⟨text.extract a text.size⟩] else [] := congrArg (Option.elim · _ _) h
theorem subL_s {text : Array Nat} {nx : Nat -> Nat -> Option Nat} {ln : Nat -> Nat} {r : Str} {f a j : Nat} (h : nx (text.size - a) a = some j) : subL text nx ln r (f + 1) a = (if a < j then [(⟨text.extract a j⟩ : Str)] else []) ++ r :: subL text nx ln r f (j + ln j) := congrArg (Option.elim · _ _) h
section
variable {prog : Program} {w : World} {A : Around} {E : Value -> Shared -> Prop} {R : Result -> Shared -> Prop}
theorem next_found {a : Addr} {code : Array Nat} {x : Str} {t : Tok} {nx : Nat -> Nat -> Option Nat} {ln : Nat -> Nat} (S : Searches code x.cps nx ln) (hsz : x.cps.size <= 10000) {st : Nat} {must : Bool} {s : Shared} {Md : Model} {Q : Option M -> Shared -> Prop}
  (h0 : nx (x.cps.size - st) st = none -> Q none s) (h1 : ∀ j, nx (x.cps.size - st) st = some j -> ∀ m : M, m.start = j -> m.handed = j + ln j -> Q (some m) s) : wpAny Md A (reNextFound (yI a code x t) st must) Q E s := by
 obtain ⟨k, m, hk, e, hm⟩ := S st must
 unfold reNextFound
 show wpAny Md A (reRunToEnd (forSearch code x.cps 0 st x.cps.size must)) Q E s
 cases hn : nx (x.cps.size - st) st with
 | some j =>
  rw [hn] at hm
  refine run_to_end (k := k) (m := m) (by lia) e (.inl hm.1) ?_
  rw [hm.1]
  exact h1 j hn m hm.2.1 hm.2.2
 | none =>
  rw [hn] at hm
  refine run_to_end (k := k) (m := m) (by lia) e (.inr hm) ?_
  rw [hm]
  exact h0 hn
noncomputable def Aside (L : Addr) (h h' : Heap) : Prop := (∀ b o, b ≠ L -> h.get? b = some o -> h'.get? b = some o)
theorem push_piece {L : Addr} {h : Heap} {l : List (Str × Tok)} {e : Nat} {y : Str} {u : Tok} (hL : h.get? L = some (seqObj "list" (strValues l).toArray e)) :
  ∃ e', (h.update L (Obj.mapSeq (·.push (.str y u)))).get? L = some (seqObj "list" (strValues (l ++ [(y, u)])).toArray e') /\ Aside L h (h.update L (Obj.mapSeq (·.push (.str y u)))) := by
 have e1 : ((strValues l).toArray.push (.str y u)) = (strValues (l ++ [(y, u)])).toArray := by simp [strValues]
 have e2 := get?_update_seq hL (·.push (.str y u))
 rw [e1] at e2
 exact ⟨_, e2, fun b o hb q => (Heap.get?_update_other _ _ (Ne.symm hb)).trans q⟩
end
end Mine
namespace Mine
open PySem PySem.Sre PySem.Builtin.Re PySem.W PyProof.Rows
theorem Aside.refl (L : Addr) (h : Heap) : Aside L h h := fun J J J q => q
theorem Aside.trans {L : Addr} {h h' h'' : Heap} (x : Aside L h h') (y : Aside L h' h'') : Aside L h h'' := fun b o hb q => y b o hb (x b o hb q)
noncomputable def glue (l : List (Str × Tok)) : List Nat := (l.map fun p => p.1.cps.toList).flatten
structure NextOk (text : Array Nat) (nx : Nat -> Nat -> Option Nat) (ln : Nat -> Nat) : Prop where
 ge : ∀ {n s j}, nx n s = some j -> s <= j /\ j < s + n
 pos : ∀ j, 1 <= ln j
 fits : ∀ {n s j}, nx n s = some j -> s + n <= text.size -> j + ln j <= text.size
theorem sub_loop {a L : Addr} {code : Array Nat} {x r : Str} {t u : Tok} {nx : Nat -> Nat -> Option Nat} {ln : Nat -> Nat} (S : Searches code x.cps nx ln) (O : NextOk x.cps nx ln) (hsz : x.cps.size <= 10000) (hr : r.cps.size <= 2) :
  ∀ (f st n : Nat) (must : Bool) (l : List (Str × Tok)), x.cps.size < f + st -> st <= x.cps.size -> l.length <= 2 * st -> (glue l).length <= 2 * st ->
   Meets (Builtin.«re.Pattern.sub.loop» ⟨[.ref a, .str x t, .str r u, rawInt 0, rawInt 0, rawInt n, rawInt st, rawInt st, .bool must, .ref L, .bool false], []⟩)
    (fun J R s => (∀ h', Aside L s.heap h' -> PatAt h' a code) /\ (∃ e, s.heap.get? L = some (seqObj "list" (strValues l).toArray e)) /\
     ∀ h' tk y t', s.toks <= tk -> Aside L s.heap h' -> s.heap.objs.size <= h'.objs.size -> y.cps.toList = glue l ++ ((subL x.cps nx ln r f st).map (·.cps.toList)).flatten -> R (.ok (.ret (.str y t'))) { s with heap := h', toks := tk }) := by
 intro f; induction f with
 | zero =>
  intro st n must l h h2 _ _
  exact absurd h (by lia)
 | succ f ih =>
  intro st n must l hf hst hl hg
  intro prog w A R s ⟨hP, ⟨e, hL⟩, hR⟩
  unfold Builtin.«re.Pattern.sub.loop»
  refine wpB (whole_target (hP _ (.refl _ _)) ?_)
  refine wpT (by decide) (wpB (m := reLiteralCannotBeTurned (Value.str r u)) (wpP (wpB (wpN Bool.false_ne_true (next_found (st := st) S hsz (fun hn => ?_) fun j hn => ?_)))))
  ·rw [subL_n hn] at hR
   have key : ∀ (h_1 : Heap) (tk_1 : Nat) (l_1 : List (Str × Tok)) (e_1 : Nat), Aside L s.heap h_1 -> s.heap.objs.size <= h_1.objs.size -> s.toks <= tk_1 -> h_1.get? L = some (seqObj "list" (strValues l_1).toArray e_1) ->
     glue l_1 = glue l ++ ((if st < x.cps.size then [(⟨x.cps.extract st x.cps.size⟩ : Str)] else []).map (·.cps.toList)).flatten -> (glue l_1).length <= 20000 ->
     wpAny (model prog w) A.in1 (do
      let joiner ← reSlice (yI a code x t).text (yI a code x t).kind 0 0
      let text ← if ((← seqItems? (.ref L)).getD #[]).isEmpty then pure joiner
       else call (.builtin (if (yI a code x t).kind == 0 then "str.join" else "bytes.join")) [joiner, .ref L]
      if false then ret (← holding [text] do newTuple [text, ← mkInt n]) else ret text)
     (fun fin s' => match fin with | .done f => R (.ok f) s' | .again c' => c'.quiet = true /\ codeAny (model prog w) A c' R s') (fun e s' => R (.error e) s') { s with heap := h_1, toks := tk_1 } := by
    intro h_1 tk_1 l_1 e_1 a1 a2 a3 a4 a5 a6
    have hx0 : (yI a code x t).text.extract 0 0 = #[] := by simp
    refine wpB (m := reSlice (yI a code x t).text (yI a code x t).kind 0 0) (wpAny_mkStr ?_ (by show Array.size _ <= _; rw [hx0]; exact Nat.zero_le _))
    rw [hx0]
    refine wpB (wpAny_seqItems (s := { s with heap := h_1, toks := tk_1 + 1 }) a4 rfl ?_)
    by_cases hc : l_1 = []
    ·subst hc
     refine wpT (by rfl) ?_
     refine wpB (wpP ?_)
     refine wpP (hR h_1 (tk_1 + 1) Str.empty tk_1 (qS a3) a1 a2 ?_)
     rw [← a5]; rfl
    ·refine wpN (by cases l_1 with | nil => exact absurd rfl hc | cons p q => exact Bool.false_ne_true) ?_
     have hg1 : (Txt.join Str.empty (l_1.map (·.1))).cps.toList = glue l_1 := by rw [join_empty, mM]; rfl
     refine wpB (call_str_join (x := Str.empty) (l := l_1) ?_ (joinOk_empty ?_) fun J t' k hk => wpP ?_)
     ·exact ⟨_, a4, rfl, _, rfl⟩
     ·have : (Txt.join Str.empty (l_1.map (·.1))).length = (glue l_1).length := by rw [← hg1]; simp [Str.length]
      exact eE this a6
     ·refine hR h_1 k _ t' (qT a3 (qT qU hk)) a1 a2 ?_
      rw [hg1, a5]
   by_cases hc : st < x.cps.size
   ·refine wpT hc ?_
    refine wpB (m := reSlice (yI a code x t).text (yI a code x t).kind st x.cps.size) (wpAny_mkStr ?_ ?_)
    ·have hz : (strValues l).toArray.size = l.length := by exact lM _
     refine wpB (wpAny_updateSeq (s := { s with toks := s.toks + 1 }) hL rfl ?_ (by unfold sizeLine; lia) (by unfold sizeLine; simp [strValues]; lia))
     obtain ⟨e_2, q1, q2⟩ := push_piece (y := ⟨x.cps.extract st x.cps.size⟩) (u := s.toks) hL
     have g2 : glue (l ++ [((⟨x.cps.extract st x.cps.size⟩ : Str), s.toks)]) = glue l ++ (x.cps.extract st x.cps.size).toList := by simp [glue]
     exact key _ _ _ _ q2 (qE (Heap.size_update ..).symm) qU q1 (by rw [g2, if_pos hc]; simp) (by rw [g2]; simp; lia)
    ·show Array.size _ <= _
     unfold sizeLine
     simp [yI]
     exact Nat.le_add_right_of_le (wA hsz)
   ·refine wpN hc ?_
    exact key _ _ _ _ (.refl _ _) qR qR hL (by rw [if_neg hc]; exact Eq.symm (List.append_nil _)) (by lia)
  ·obtain ⟨hj1, hj2⟩ := O.ge hn
   have hj3 := O.fits hn (qE (qP hst))
   have hj4 := O.pos j
   intro m hm1 hm2
   dsimp only
   rw [subL_s hn] at hR
   rw [hm1, hm2]
   have key : ∀ (h_1 : Heap) (tk_1 : Nat) (l_1 : List (Str × Tok)) (e_1 : Nat), Aside L s.heap h_1 -> s.heap.objs.size <= h_1.objs.size -> s.toks <= tk_1 -> h_1.get? L = some (seqObj "list" (strValues l_1).toArray e_1) ->
     l_1.length <= 2 * st + 1 -> glue l_1 = glue l ++ ((if st < j then [(⟨x.cps.extract st j⟩ : Str)] else []).map (·.cps.toList)).flatten -> (glue l_1).length <= 2 * j ->
     wpAny (model prog w) A.in1 (do
      updateSeq L fun x => x.push (.str r u)
      again (.builtin "re.Pattern.sub.loop" ⟨[.ref a, .str x t, .str r u, rawInt 0, rawInt 0, rawInt (n + 1 : Nat), rawInt (j + ln j : Nat), rawInt (j + ln j : Nat), .bool (j + ln j == j), .ref L, .bool false], []⟩))
     (fun fin s' => match fin with | .done f => R (.ok f) s' | .again c' => c'.quiet = true /\ codeAny (model prog w) A c' R s') (fun e s' => R (.error e) s') { s with heap := h_1, toks := tk_1 } := by
    intro h_1 tk_1 l_1 e_1 a1 a2 a3 a4 a5 a6 a7
    have hz : (strValues l_1).toArray.size = l_1.length := by exact lM _
    refine wpB (wpAny_updateSeq a4 rfl ?_ (by unfold sizeLine; lia) (by unfold sizeLine; simp [strValues]; lia))
    obtain ⟨e_2, q1, q2⟩ := push_piece (y := r) (u := u) a4
    have g2 : glue (l_1 ++ [(r, u)]) = glue l_1 ++ r.cps.toList := by simp [glue]
    refine wpP ⟨plainId_quiet y7 _, codeAny_builtin entry_sub_loop ?_⟩
    rw [Around.under_plainId y7]
    refine ih (j + ln j) (n + 1) _ (l_1 ++ [(r, u)]) (by lia) hj3 (by simp; lia) (by rw [g2]; simp; lia) prog w A R _ ⟨fun h' q => hP h' ((a1.trans q2).trans q), ⟨_, q1⟩, fun h' tk y t' b1 b2 b3 b4 => ?_⟩
    refine hR h' tk y t' (qT a3 b1) ((a1.trans q2).trans b2) (qT a2 (qT (qE (Heap.size_update ..).symm) b3)) ?_
    rw [b4, g2, a6]
    simp
   by_cases hc : st < j
   ·refine wpT hc ?_
    refine wpB (m := reSlice (yI a code x t).text (yI a code x t).kind st j) (wpAny_mkStr ?_ ?_)
    ·have hz : (strValues l).toArray.size = l.length := by exact lM _
     refine wpB (wpAny_updateSeq (s := { s with toks := s.toks + 1 }) hL rfl ?_ (by unfold sizeLine; lia) (by unfold sizeLine; simp [strValues]; lia))
     refine wpT (by decide) ?_
     obtain ⟨e_2, q1, q2⟩ := push_piece (y := ⟨x.cps.extract st j⟩) (u := s.toks) hL
     have g2 : glue (l ++ [((⟨x.cps.extract st j⟩ : Str), s.toks)]) = glue l ++ (x.cps.extract st j).toList := by simp [glue]
     exact key _ _ _ _ q2 (qE (Heap.size_update ..).symm) qU q1 (by simp; exact hl) (by rw [g2, if_pos hc]; simp) (by rw [g2]; simp; lia)
    ·show Array.size _ <= _
     unfold sizeLine
     simp [yI]
     lia
   ·refine wpN hc (wpT (by decide) ?_)
    exact key _ _ _ _ (.refl _ _) qR qR hL (qS hl) (by rw [if_neg hc]; exact Eq.symm (List.append_nil _)) (by lia)
end Mine
namespace Mine
open PySem PySem.Sre PySem.Builtin.Re PySem.W PyProof.Rows
noncomputable def itemsAt (Kf : Frag) (a : Addr) : Array Value := match Kf.lookup a with
 | some ⟨_, _, .seq vs _, _⟩ => vs
 | _ => #[]
noncomputable def numAt (Kf : Frag) (a : Addr) : Nat := match Kf.lookup a with
 | some ⟨_, _, .seq _ n, _⟩ => n
 | _ => 0
theorem named_sub (r x : Value) : reNamed "re.Pattern.sub" "sub" ["repl", "string", "count"] 2 [r, x] [] = pure [some r, some x, none] := by kernel_rfl
theorem named_at {M : Model} {A : Around} {E : Value -> Shared -> Prop} {s : Shared} {r x : Value} {Q : List (Option Value) -> Shared -> Prop} (h : Q [some r, some x, none] s) : wpAny M A (reNamed "re.Pattern.sub" "sub" ["repl", "string", "count"] 2 [r, x] []) Q E s := named_sub r x ▸ wpP h
theorem str_no_call : typeLookup (.type "str") (oQ "__call__") = pure none := by rw [typeLookup_type, builtinLookup_eq_fast]; kernel_rfl
theorem sub_meets {a : Addr} {code : Array Nat} {x r : Str} {t u : Tok} {nx : Nat -> Nat -> Option Nat} {ln : Nat -> Nat} (S : Searches code x.cps nx ln) (O : NextOk x.cps nx ln) (hsz : x.cps.size <= 10000) (hr : r.cps.size <= 2) (h92 : r.cps.contains 92 = false) :
   Meets (Builtin.«re.Pattern.sub» ⟨[.ref a, .str r u, .str x t], []⟩)
    (fun J R s => PatAt s.heap a code /\
     ∀ h' tk y t', s.toks <= tk -> (∀ b o, s.heap.get? b = some o -> h'.get? b = some o) -> s.heap.objs.size <= h'.objs.size -> y.cps.toList = ((subL x.cps nx ln r (x.cps.size + 1) 0).map (·.cps.toList)).flatten -> R (.ok (.ret (.str y t'))) { s with heap := h', toks := tk }) := by
 intro prog w A R s ⟨hP, hR⟩
 refine wpB (named_at ?_)
 refine wpB (m := (pure (0 : Int) : Sem Int)) (wpP ?_)
 refine wpB (wpAny_specialOf (typeIs_str s r u) str_no_call ?_)
 refine wpB (m := asStr? (.str r u)) (wpP ?_)
 refine wpB (wpP ?_)
 rw [h92]
 refine wpN Bool.false_ne_true (wpT rfl (wpB (wpP ?_)))
 refine wpB (wpAny_holding (whole_target hP ?_))
 refine wpN (by decide) ?_
 refine wpB (wpAny_newList ?_)
 refine wpP ⟨plainId_quiet y7 _, codeAny_builtin entry_sub_loop ?_⟩
 rw [Around.under_plainId y7]
 have hL : (s.heap.push { cls := .type "list", data := .seq ([] : List Value).toArray }).get? s.heap.objs.size = some { cls := .type "list", data := .seq ([] : List Value).toArray } := hPS _ rfl
 have keepA : ∀ h', Aside s.heap.objs.size (s.heap.push { cls := .type "list", data := .seq ([] : List Value).toArray }) h' -> ∀ b o, s.heap.get? b = some o -> h'.get? b = some o := fun h' q b o g =>
  q b o (fun e => absurd (hLS g) (by rw [e]; exact nIR _)) (hPO _ g)
 refine sub_loop (L := s.heap.objs.size) S O hsz hr (x.cps.size + 1) 0 0 false [] qR qZ (by simp) qR prog w A R _ ⟨fun h' q => ?_, ⟨_, hL⟩, fun h' tk y t' b1 b2 b3 b4 => ?_⟩
 ·obtain ⟨o, vs, c, oc, items, n, ho, hd, h5, hc, r⟩ := hP
  exact ⟨o, vs, c, oc, items, n, keepA _ q _ _ ho, hd, h5, keepA _ q _ _ hc, r⟩
 ·refine hR h' tk y t' b1 (keepA _ b2) (qT ?_ b3) ?_
  ·show _ <= (s.heap.push _).objs.size
   rw [hSP]; exact qU
  ·rw [b4]; exact List.nil_append _
theorem sub_glue {text : Array Nat} {nx : Nat -> Nat -> Option Nat} {ln : Nat -> Nat} {r : Str} {G : Nat -> List Nat} (O : NextOk text nx ln)
  (hG : ∀ a, a <= text.size -> G a = match nx (text.size - a) a with
   | some j => (text.toList.drop a).take (j - a) ++ r.cps.toList ++ G (j + ln j)
   | none => text.toList.drop a) : ∀ (f a : Nat), text.size - a < f -> a <= text.size -> ((subL text nx ln r f a).map (·.cps.toList)).flatten = G a := by
 intro f; induction f with
 | zero =>
  intro a h _
  exact absurd h (Nat.not_lt_zero _)
 | succ f ih =>
  intro a h ha
  rw [hG a ha]
  cases hn : nx (text.size - a) a with
  | none =>
   rw [subL_n hn]
   by_cases hc : a < text.size
   ·rw [if_pos hc]
    simp
    rw [List.take_of_length_le (by simp)]
   ·rw [if_neg hc, List.drop_of_length_le (qG hc)]
    rfl
  | some j =>
   obtain ⟨h1, h2⟩ := O.ge hn
   have h3 := O.fits hn (qE (qP ha))
   have h4 := O.pos j
   have ih := ih (j + ln j) (by omega) (by omega)
   rw [subL_s hn, List.map_append, List.flatten_append, mcC, List.flatten_cons, ih]
   by_cases hc : a < j
   ·rw [if_pos hc]; simp [List.drop_take]
   ·rw [if_neg hc]; exact congrArg (fun k => List.take k (text.toList.drop a) ++ r.cps.toList ++ G (j + ln j)) (Nat.sub_eq_zero_of_le (qG hc)).symm
theorem nextOk1 {text : Array Nat} : NextOk text (next1 text) (fun J => 1) :=
 ⟨fun h => ⟨(next1_ge h).1, (next1_ge h).2.1⟩, fun J => Nat.le_refl _, fun h q => by have := (next1_ge h).2.1; exact qA this q⟩
theorem nextOk2 {text : Array Nat} : NextOk text (next2 text) (len2 text) := by
 refine ⟨fun h => ⟨(x7 h).1, (x7 h).2.1⟩, fun j => ?_, fun {n s j} h q => ?_⟩
 ·unfold len2; split <;> simp
 ·have := (x7 h).2.1
  unfold len2; split <;> lia
theorem glue1 {text : Array Nat} {r : Str} : ((subL text (next1 text) (fun J => 1) r (text.size + 1) 0).map (·.cps.toList)).flatten = dotF r.cps.toList true text.toList := by
 rw [sub_glue (G := fun a => dotF r.cps.toList (decide (yP text a)) (text.toList.drop a)) nextOk1 (fun a ha => dot_next _ _ (by exact qP ha)) _ _ (by exact qR) (by exact qZ)]
 rfl
theorem glue2 {text : Array Nat} {r : Str} : ((subL text (next2 text) (len2 text) r (text.size + 1) 0).map (·.cps.toList)).flatten = crF r.cps.toList text.toList := by
 rw [sub_glue (G := fun a => crF r.cps.toList (text.toList.drop a)) nextOk2 (fun a ha => cr_next _ _ (by exact qP ha)) _ _ (by exact qR) (by exact qZ)]
 rfl
structure ReFacts (Kf : Frag) : Prop where
 r1 : Kf.lookup 93 = some (objAt Kf 93)
 r2 : Kf.lookup 98 = some (objAt Kf 98)
 d1 : (objAt Kf 93).data = .fields (zR Kf 93)
 d2 : (objAt Kf 98).data = .fields (zR Kf 98)
 c1 : (zR Kf 93).getD 5 .none = .ref 92
 c2 : (zR Kf 98).getD 5 .none = .ref 97
 s1 : Kf.lookup 92 = some (objAt Kf 92)
 s2 : Kf.lookup 97 = some (objAt Kf 97)
 e1 : (objAt Kf 92).data = .seq (itemsAt Kf 92) (numAt Kf 92)
 e2 : (objAt Kf 97).data = .seq (itemsAt Kf 97) (numAt Kf 97)
 w1 : ((itemsAt Kf 92).map reRawOf).map (·.toNat) = code1
 w2 : ((itemsAt Kf 97).map reRawOf).map (·.toNat) = code2
 k1 : reRawNat ((zR Kf 93).getD 6 .none) = 0
 k2 : reRawNat ((zR Kf 98).getD 6 .none) = 0
 g1 : reRawNat ((zR Kf 93).getD 2 .none) = 0
 g2 : reRawNat ((zR Kf 98).getD 2 .none) = 0
theorem patAt1 {Kf : Frag} {h : Heap} (X : ∀ a o, a ≠ 149 -> Kf.lookup a = some o -> h.get? a = some o) (R : ReFacts Kf) : PatAt h 93 code1 :=
 ⟨_, _, _, _, _, _, X _ _ (by decide) R.r1, R.d1, R.c1, X _ _ (by decide) R.s1, R.e1, R.w1, R.k1, R.g1⟩
theorem patAt2 {Kf : Frag} {h : Heap} (X : ∀ a o, a ≠ 149 -> Kf.lookup a = some o -> h.get? a = some o) (R : ReFacts Kf) : PatAt h 98 code2 :=
 ⟨_, _, _, _, _, _, X _ _ (by decide) R.r2, R.d2, R.c2, X _ _ (by decide) R.s2, R.e2, R.w2, R.k2, R.g2⟩
theorem sub_ok {Kf : Frag} {h : Heap} {mg mb : Str -> Option Value} (X : Kf.In h) (N : NameFacts Kf) (Rf : ReFacts Kf) (prog : Program) (w : World) : SubOk (theK h mg mb) prog w := by
 intro A E s σ ρ n g r x v wo wr wx Q hA H ro rr rx e O
 have XX : ∀ a o, a ≠ 149 -> Kf.lookup a = some o -> s.heap.get? a = some o := fun a o ha q => H.base a o ha (X _ _ q)
 have hG := subGet (mg := mg) (mb := mb) X N
 have gv := ro.glob_inv
 obtain ⟨r', tr, rfl, hr'⟩ := rr.str_inv
 obtain ⟨x', tx, rfl, hx'⟩ := rx.str_inv
 subst hr'; subst hx'
 have fin : ∀ {h' : Heap} {tk : Nat} {y : Str} {t' : Tok} {l : List Nat}, v = .str l -> s.toks <= tk -> (∀ b o, s.heap.get? b = some o -> h'.get? b = some o) -> s.heap.objs.size <= h'.objs.size -> y.cps.toList = l -> Q (.str y t') { s with heap := h', toks := tk } := by
  intro h' tk y t' l hv b1 b2 b3 b4
  obtain ⟨H', e'⟩ := H.keeps b2 b3
  exact O _ h' tk ρ (H'.mono b1) e' (by rw [hv]; exact .strOf _ _ _ b4)
 have two : g = .re1 \/ g = .re2 := by
  exact ifE e fun J e => by
   by_cases h : g = .re1 /\ r'.cps.toList = [46, 46]
   ·exact .inl h.1
   ·rw [if_neg h] at e; exact ifE e fun h J => .inr h.1
 rcases two with rfl | rfl
 ·refine ifE e fun hl e => ?_
  by_cases hq : G.re1 = .re1 /\ r'.cps.toList = [46, 46]
  ·have hc : r'.cps.toList = [46, 46] /\ x'.cps.toList.length <= 10000 := ⟨hq.2, hl⟩
   rw [if_pos hq] at e
   cases e
   cases gv
   have hr2 : r'.cps.size <= 2 := by rw [← Array.length_toList, hc.1]; decide
   have h92 : r'.cps.contains 92 = false := by rw [← Array.contains_toList, hc.1]; rfl
   obtain ⟨ob, h1, h2, h3, h4⟩ := hG.re1
   refine call_meets slot_re_sub ⟨ob, H.base _ _ h4 h1, h2⟩ entry_sub (args_sub _ _ _) (sub_meets (code := code1) (fun s m => search1) nextOk1 (by simpa using hc.2) hr2 h92) ⟨patAt1 XX Rf, fun h' tk y t' b1 b2 b3 b4 => ?_⟩
   exact fin rfl b1 b2 b3 (b4.trans glue1)
  ·rw [if_neg hq] at e; exact ifE e fun h J => nomatch h.1
 ·refine ifE e fun hl e => ?_
  rw [if_neg (fun h => nomatch h.1 : ¬ (G.re2 = .re1 /\ r'.cps.toList = [46, 46]))] at e
  refine ifE e fun hq e => ?_
  ·have hc : r'.cps.toList = [13, 10] /\ x'.cps.toList.length <= 10000 := ⟨hq.2, hl⟩
   cases e
   cases gv
   have hr2 : r'.cps.size <= 2 := by rw [← Array.length_toList, hc.1]; decide
   have h92 : r'.cps.contains 92 = false := by rw [← Array.contains_toList, hc.1]; rfl
   obtain ⟨ob, h1, h2, h3, h4⟩ := hG.re2
   refine call_meets slot_re_sub ⟨ob, H.base _ _ h4 h1, h2⟩ entry_sub (args_sub _ _ _) (sub_meets (code := code2) (fun s m => search2) nextOk2 (by simpa using hc.2) hr2 h92) ⟨patAt2 XX Rf, fun h' tk y t' b1 b2 b3 b4 => ?_⟩
   exact fin rfl b1 b2 b3 (b4.trans glue2)
end Mine
open PySem PySem.W PyProof.Rows PySem.W.X PySem.W.ZRun
namespace Mine
theorem law_run {ws : List Value} {is : List Int} (_ : IntsAre ws is) (hc : ¬ ((63 : Nat) : Int) < (is.length : Int)) : ∃ σ', callF (recN 300) .law [.lst 0] [is.map V.int] = some (.bool true, σ') := Pl.plain_law is (by omega)
end Mine
open Mine in
set_option maxRecDepth 100000 in
set_option maxHeartbeats 0 in
theorem PySem.Challenge.cw_sc0085_01_holds : PySem.Challenge.rw_sc0085_01.Holds := by
 w_on; o_law; z_head; (case hw => w_witness2)
 k_fill
 intro w s_0 s_1 mg mb G y fa o pm cd doc dV kV ho hd hcd hD hmg hg args vals as L hpre hlay hrd hwl hlo
 z_open y L KX ZH ZN ZT
 refine Ground.open G ?_
 intro T B D TE TW
 wrow_args hpre hlay hrd hwl hlo
 obtain ⟨hat, hsz⟩ := script_at L
 have htk := script_toks L ZT
 rw [ZN] at hat hsz
 subst hat
 x_fa T KX hmg
 all_lens
 rename IntsAre _ _ => hIs
 obtain ⟨σ', hrun⟩ := law_run hIs (by assumption)
 have N : NameFacts (cw_sc0085_01_holds.heap_169 w.params) := by
  constructor
  ·intro f hf
   cases f <;> first | exact absurd rfl hf | kernel_rfl
  all_goals kernel_rfl
 have Rf : ReFacts (cw_sc0085_01_holds.heap_169 w.params) := by constructor <;> kernel_rfl
 refine law_answers (Kf := cw_sc0085_01_holds.heap_169 w.params) KX ?_ ?_ N ?_ T.g T.b T.nolimit T.builtins (sub_ok KX N Rf _ _) hrun rfl (qA (show 0 < 536 by decide) htk) hsz (by assumption) hIs ⟨rfl, by decide, by decide⟩ fun h' tk hold => ?_
 ·intro f; cases f <;> constructor <;> kernel_rfl
 ·constructor
  ·rintro f (rfl | rfl | rfl | rfl) a <;> kernel_rfl
  ·intro a b; kernel_rfl
  ·rintro f (rfl | rfl | rfl | rfl | rfl) a b c <;> kernel_rfl
  ·intro u; kernel_rfl
  ·rintro f (rfl | rfl | rfl | rfl) <;> exact ⟨by kernel_rfl, by kernel_rfl⟩
  ·rintro f (rfl | rfl) S a x k <;> kernel_rfl
  ·rintro f (rfl | rfl) S a x l h k <;> kernel_rfl
 ·constructor <;> kernel_rfl
 ·exact ⟨.inl ⟨_, .bool true, [], rfl, fun _ => rfl, .bool _, post_true _, fun _ => ⟨List.nodup_nil, by simp⟩⟩, hold, rfl, AllBare.of_eq hg⟩
