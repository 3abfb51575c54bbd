import PyProof.Rows.All
import Wide.All
import OpenK.AllK
import Wide.FinOn
import PySem.Challenge.RW_sn0071_01
set_option Elab.async false
set_option maxRecDepth 100000
set_option linter.all false
set_option compiler.extract_closed false
section
namespace Mine
set_option genSizeOf false
set_option genInjectivity false
inductive Tm where
  | v (i : Nat)
  | n (k : Nat)
  | a (x y : Tm)
  | s (x y : Tm)
  | m (k : Nat) (x : Tm)
  | w (x : Tm) (k : Nat)
  | ca (x : Tm)
  | tn (x : Tm)
  | ng (x : Tm)
  | mi (x y : Tm)
  | mx (x y : Tm)
  | pw (k j : Nat)
noncomputable abbrev V0 : Tm := .v 0
noncomputable abbrev V1 : Tm := .v 1
noncomputable abbrev V2 : Tm := .v 2
noncomputable abbrev V3 : Tm := .v 3
noncomputable abbrev V4 : Tm := .v 4
noncomputable abbrev V5 : Tm := .v 5
noncomputable abbrev V6 : Tm := .v 6
noncomputable abbrev V7 : Tm := .v 7
noncomputable abbrev V8 : Tm := .v 8
noncomputable abbrev O0 : Tm := .n 0
noncomputable abbrev O1 : Tm := .n 1
noncomputable abbrev O2 : Tm := .n 2
noncomputable abbrev OX : Tm := .n 10
inductive Fo where
  | le (x y : Tm)
  | lt (x y : Tm)
  | eq (x y : Tm)
  | ff
  | im (p q : Fo)
  | an (p q : Fo)
  | or (p q : Fo)
  | il (x y : Tm)
  | jl (x y : Tm)
  | je (x y : Tm)
  | dv (x : Tm) (k i : Nat)
noncomputable def nth : List Nat → Nat → Nat := fun e => List.rec (fun _ => 0) (fun x _ r i => Nat.rec x (fun j _ => r j) i) e
noncomputable def Tm.e (e : List Nat) (t : Tm) : Nat × Int := Tm.rec (fun i => (nth e i, 0)) (fun k => (k, Int.ofNat k)) (fun _ _ p q => (p.1 + q.1, p.2 + q.2)) (fun _ _ p q => (p.1 - q.1, p.2 - q.2)) (fun k _ p => (k * p.1, Int.ofNat k * p.2)) (fun _ k p => (p.1 * k, p.2 * Int.ofNat k))
  (fun _ p => (p.1, (p.1 : Int))) (fun _ p => (p.2.toNat, 0)) (fun _ p => (0, -p.2)) (fun _ _ p q => (min p.1 q.1, min p.2 q.2)) (fun _ _ p q => (max p.1 q.1, max p.2 q.2)) (fun k j => (k ^ j, Int.ofNat k ^ j)) t
noncomputable def Tm.d (e : List Nat) (t : Tm) : Nat := (t.e e).1
noncomputable def Tm.z (e : List Nat) (t : Tm) : Int := (t.e e).2
noncomputable def Fo.d (e : List Nat) (t : Fo) : Prop := Fo.rec (fun x y => x.d e ≤ y.d e) (fun x y => x.d e < y.d e) (fun x y => x.d e = y.d e) False (fun _ _ p q => p → q) (fun _ _ p q => p ∧ q) (fun _ _ p q => p ∨ q) (fun x y => x.z e ≤ y.z e) (fun x y => x.z e < y.z e) (fun x y => x.z e = y.z e) (fun x k i => nth e i = x.d e / k) t
noncomputable def dot (f : List Int) : List Nat → Int := List.rec (fun _ => 0) (fun c _ r e => List.rec 0 (fun x e _ => c * x + r e) e) f
noncomputable def lad (f : List Int) : List Int → List Int := List.rec (fun g => g) (fun a f r g => List.rec (a :: f) (fun b g _ => (a + b) :: r g) g) f
noncomputable def lsc (k : Int) (f : List Int) : List Int := List.rec [] (fun a _ r => (k * a) :: r) f
noncomputable def lun (i : Nat) : List Int := Nat.rec [1] (fun _ r => 0 :: r) i
theorem dot_nil (e : List Nat) : dot [] e = 0 := rfl
theorem dot_cons (c : Int) (f : List Int) (x : Nat) (e : List Nat) : dot (c :: f) (x :: e) = c * x + dot f e := rfl
theorem dot_e (f : List Int) : dot f [] = 0 := by cases f <;> rfl
theorem dot_lad : ∀ (f g : List Int) (e : List Nat), dot (lad f g) e = dot f e + dot g e
  | [], g, e => by show dot g e = 0 + _; omega
  | a :: f, [], e => by show dot (a :: f) e = _ + 0; omega
  | a :: f, b :: g, [] => rfl
  | a :: f, b :: g, x :: e => by
    show (a + b) * (x : Int) + dot (lad f g) e = (a * x + dot f e) + (b * x + dot g e)
    rw [dot_lad f g e, Int.add_mul]; omega
theorem dot_lsc (k : Int) : ∀ (f : List Int) (e : List Nat), dot (lsc k f) e = k * dot f e
  | [], e => (Int.mul_zero k).symm
  | a :: f, [] => (Int.mul_zero k).symm
  | a :: f, x :: e => by
    show k * a * (x : Int) + dot (lsc k f) e = k * (a * x + dot f e)
    rw [dot_lsc k f e, Int.mul_add, Int.mul_assoc]
theorem dot_lun : ∀ (i : Nat) (e : List Nat), dot (lun i) e = nth e i
  | 0, [] => rfl
  | 0, x :: e => by show 1 * (x : Int) + 0 = x; omega
  | i + 1, [] => rfl
  | i + 1, x :: e => by show 0 * (x : Int) + dot (lun i) e = nth e i; rw [dot_lun i e]; omega
abbrev Fs := List (List Int)
def Ok (e : List Nat) (fs : Fs) : Prop := ∀ f ∈ fs, 0 ≤ dot f (1 :: e)
theorem Ok.cons {e : List Nat} {f : List Int} {fs : Fs} (h : 0 ≤ dot f (1 :: e)) (H : Ok e fs) : Ok e (f :: fs) := fun g hg => by
  cases hg with
  | head => exact h
  | tail _ hg => exact H g hg
theorem Ok.put {e : List Nat} {f : List Int} {fs : Fs} {v : Int} (H : Ok e fs) (h : 0 ≤ v) (x : dot f (1 :: e) = v) : Ok e (f :: fs) := H.cons (x ▸ h)
noncomputable def lz (f : List Int) : Bool := List.rec true (fun c _ r => Int.rec (fun n => Nat.rec r (fun _ _ => false) n) (fun _ => false) c) f
theorem dot_lz : ∀ (f : List Int) (e : List Nat), lz f = true → dot f e = 0
  | [], _, _ => rfl
  | _ :: _, [], _ => rfl
  | .ofNat 0 :: f, x :: e, h => by show (0 : Int) * x + dot f e = 0; rw [dot_lz f e h]; omega
  | .ofNat (_ + 1) :: _, _ :: _, h => Bool.noConfusion h
  | .negSucc _ :: _, _ :: _, h => Bool.noConfusion h
noncomputable def mem (h : List Int) (fs : Fs) : Bool := List.rec false (fun f _ r => Bool.rec r true (lz (lad f (lsc (-1) h)))) fs
theorem mem_ok {e : List Nat} {h : List Int} : ∀ fs : Fs, Ok e fs → mem h fs = true → 0 ≤ dot h (1 :: e)
  | [], _, m => Bool.noConfusion m
  | f :: fs, H, m => by
    have IH := mem_ok (h := h) fs fun g hg => H g (.tail _ hg)
    replace m : (Bool.rec (mem h fs) true (lz (lad f (lsc (-1) h))) : Bool) = true := m
    cases z : lz (lad f (lsc (-1) h)) with
    | false => rw [z] at m; exact IH m
    | true =>
      have a := dot_lz _ (1 :: e) z
      rw [dot_lad, dot_lsc] at a
      have b := H f (.head _)
      omega
noncomputable def cut (f g : List Int) (fs : Fs) (c d : Fs → Bool) : Bool :=
  Bool.rec (Bool.rec (Bool.rec false (d (lad g (lsc (-1) f) :: fs)) (c (lad f (lsc (-1) g) :: fs))) (d fs) (mem (lad g (lsc (-1) f)) fs)) (c fs) (mem (lad f (lsc (-1) g)) fs)
noncomputable def Tm.k (t : Tm) : Bool → Fs → (List Int → Fs → Bool) → Bool :=
  Tm.rec (fun i b fs c => Bool.rec (c (0 :: lun i) fs) (c [] fs) b) (fun k _ fs c => c [(k : Int)] fs)
    (fun _ _ p q b fs c => p b fs fun f fs => q b fs fun g fs => c (lad f g) fs)
    (fun _ _ p q b fs c => p b fs fun f fs => q b fs fun g fs => Bool.rec (cut f g fs (c (lad f (lsc (-1) g))) (c [])) (c (lad f (lsc (-1) g)) fs) b)
    (fun k _ p b fs c => p b fs fun f fs => c (lsc k f) fs)
    (fun _ k p b fs c => p b fs fun f fs => c (lsc k f) fs)
    (fun _ p _ fs c => p false fs c)
    (fun _ p b fs c => p true fs fun f fs => Bool.rec (cut f [] fs (c f) (c [])) (c [] fs) b)
    (fun _ p b fs c => p b fs fun f fs => Bool.rec (c [] fs) (c (lsc (-1) f) fs) b)
    (fun _ _ p q b fs c => p b fs fun f fs => q b fs fun g fs => cut f g fs (c g) (c f))
    (fun _ _ p q b fs c => p b fs fun f fs => q b fs fun g fs => cut f g fs (c f) (c g))
    (fun k j _ fs c => c [((k ^ j : Nat) : Int)] fs) t
theorem band {a b : Bool} (h : (Bool.rec false b a : Bool) = true) : a = true ∧ b = true := by
  cases a with
  | false => exact Bool.noConfusion h
  | true => exact ⟨rfl, h⟩
theorem dot_sb {f g : List Int} {e : List Nat} {x y : Int} (e1 : dot f e = x) (e2 : dot g e = y) : dot (lad f (lsc (-1) g)) e = x - y :=
  by rw [dot_lad, dot_lsc, e1, e2, ← Int.neg_eq_neg_one_mul]; rfl
def Sd (e : List Nat) (k : Fs → (List Int → Fs → Bool) → Bool) (v : Int) : Prop := ∀ fs c (P : Prop), k fs c = true → Ok e fs → (∀ f fs', Ok e fs' → dot f (1 :: e) = v → c f fs' = true → P) → P
theorem Sd.one {e : List Nat} {f : List Int} {v : Int} (h : dot f (1 :: e) = v) : Sd e (fun fs c => c f fs) v := fun fs _ _ x H q => q f fs H h x
theorem cut_ok {e : List Nat} {f g : List Int} {x y : Int} (e1 : dot f (1 :: e) = x) (e2 : dot g (1 :: e) = y) {fs : Fs} {c d : Fs → Bool} (H : Ok e fs) (h : cut f g fs c d = true) {P : Prop}
    (hc : ∀ fs', Ok e fs' → y ≤ x → c fs' = true → P) (hd : ∀ fs', Ok e fs' → x ≤ y → d fs' = true → P) : P := by
  have d1 := dot_sb e1 e2
  have d2 := dot_sb e2 e1
  unfold cut at h
  cases m1 : mem (lad f (lsc (-1) g)) fs with
  | true => rw [m1] at h; exact hc fs H (Int.sub_nonneg.mp (d1 ▸ mem_ok fs H m1)) h
  | false =>
    cases m2 : mem (lad g (lsc (-1) f)) fs with
    | true => rw [m1, m2] at h; exact hd fs H (Int.sub_nonneg.mp (d2 ▸ mem_ok fs H m2)) h
    | false =>
      rw [m1, m2] at h
      exact (Int.le_total y x).elim (fun le => hc _ (H.cons (d1 ▸ Int.sub_nonneg.mpr le)) le (band h).1) (fun le => hd _ (H.cons (d2 ▸ Int.sub_nonneg.mpr le)) le (band h).2)
noncomputable def Tm.q (e : List Nat) (t : Tm) (b : Bool) : Int := Bool.rec (t.d e : Int) (t.z e) b
theorem dot_1 (k : Int) (e : List Nat) : dot [k] (1 :: e) = k := (Int.add_zero _).trans (Int.mul_one k)
theorem Tm.ok (e : List Nat) (t : Tm) : ∀ b, Sd e (t.k b) (t.q e b) :=
  Tm.rec (motive := fun t => ∀ b, Sd e (t.k b) (t.q e b))
    (fun i b => Bool.rec (.one ((Int.add_comm _ _).trans ((congrArg (dot (lun i) e + ·) (Int.zero_mul _)).trans ((Int.add_zero _).trans (dot_lun i e))))) (.one rfl) b)
    (fun k b => Bool.rec (.one (dot_1 _ e)) (.one (dot_1 _ e)) b)
    (fun x y A B b fs c P h H q => A b fs _ P h H fun f fs H e1 h => B b fs _ P h H fun g fs H e2 h =>
      q _ fs H ((dot_lad f g _).trans ((congr (congrArg _ e1) e2).trans (Bool.rec (Int.natCast_add _ _).symm rfl b))) h)
    (fun x y A B b fs c P h H q => A b fs _ P h H fun f fs H e1 h => B b fs _ P h H fun g fs H e2 => Bool.rec (motive := fun b => dot f (1 :: e) = x.q e b → dot g (1 :: e) = y.q e b → (∀ f fs', Ok e fs' → dot f (1 :: e) = (x.s y).q e b → c f fs' = true → P) → Bool.rec _ _ b = true → P)
      (fun e1 e2 q h => cut_ok e1 e2 H h (fun fs H le h => q _ fs H ((dot_sb e1 e2).trans (Int.ofNat_sub (Int.ofNat_le.mp le)).symm) h)
        (fun fs H le h => q [] fs H (congrArg Int.ofNat (Nat.sub_eq_zero_of_le (Int.ofNat_le.mp le))).symm h))
      (fun e1 e2 q h => q _ fs H (dot_sb e1 e2) h) b e1 e2 q)
    (fun k x A b fs c P h H q => A b fs _ P h H fun f fs H e1 h => q _ fs H ((dot_lsc _ f _).trans ((congrArg _ e1).trans (Bool.rec (Int.natCast_mul _ _).symm rfl b))) h)
    (fun x k A b fs c P h H q => A b fs _ P h H fun f fs H e1 h => q _ fs H ((dot_lsc _ f _).trans ((congrArg _ e1).trans ((Int.mul_comm _ _).trans (Bool.rec (Int.natCast_mul _ _).symm rfl b)))) h)
    (fun x A b fs c P h H q => A false fs _ P h H fun f fs H e1 h => q f fs H (e1.trans (Bool.rec rfl rfl b)) h)
    (fun x A b fs c P h H q => A true fs _ P h H fun f fs H e1 => Bool.rec
      (fun q h => cut_ok e1 (rfl : dot [] (1 :: e) = 0) H h (fun fs H le h => q f fs H (e1.trans (Int.toNat_of_nonneg le).symm) h) (fun fs H le h => q [] fs H (congrArg Int.ofNat (Int.toNat_of_nonpos le)).symm h))
      (fun q h => q [] fs H rfl h) b q)
    (fun x A b fs c P h H q => A b fs _ P h H fun f fs H e1 => Bool.rec (fun e1 q h => q [] fs H rfl h)
      (fun e1 q h => q _ fs H ((dot_lsc _ f _).trans ((congrArg _ e1).trans (Int.neg_eq_neg_one_mul _).symm)) h) b e1 q)
    (fun x y A B b fs c P h H q => A b fs _ P h H fun f fs H e1 h => B b fs _ P h H fun g fs H e2 h =>
      cut_ok e1 e2 H h (fun fs H le h => q g fs H (e2.trans (Bool.rec (fun le => (congrArg Int.ofNat (Nat.min_eq_right (Int.ofNat_le.mp le))).symm) (fun le => (Int.min_eq_right le).symm) b le)) h)
        (fun fs H le h => q f fs H (e1.trans (Bool.rec (fun le => (congrArg Int.ofNat (Nat.min_eq_left (Int.ofNat_le.mp le))).symm) (fun le => (Int.min_eq_left le).symm) b le)) h))
    (fun x y A B b fs c P h H q => A b fs _ P h H fun f fs H e1 h => B b fs _ P h H fun g fs H e2 h =>
      cut_ok e1 e2 H h (fun fs H le h => q f fs H (e1.trans (Bool.rec (fun le => (congrArg Int.ofNat (Nat.max_eq_left (Int.ofNat_le.mp le))).symm) (fun le => (Int.max_eq_left le).symm) b le)) h)
        (fun fs H le h => q g fs H (e2.trans (Bool.rec (fun le => (congrArg Int.ofNat (Nat.max_eq_right (Int.ofNat_le.mp le))).symm) (fun le => (Int.max_eq_right le).symm) b le)) h))
    (fun k j b => Bool.rec (.one (dot_1 _ e)) (.one ((dot_1 _ e).trans (Int.natCast_pow k j))) b) t
noncomputable def lsb (f g : List Int) (j : Int) : List Int := lad (lad g (lsc (-1) f)) [-j]
theorem dot_lsb {f g : List Int} {j : Int} {e : List Nat} {x y : Int} (h1 : dot f (1 :: e) = x) (h2 : dot g (1 :: e) = y) : dot (lsb f g j) (1 :: e) = y - x - j :=
  by show dot (lad _ _) _ = _; rw [dot_lad, dot_sb h2 h1, dot_1]; rfl
noncomputable def hd1 (f : List Int) : Int := List.rec 0 (fun _ r _ => List.rec 0 (fun a _ _ => a) r) f
noncomputable def tl1 (f : List Int) : List Int := List.rec [] (fun c r _ => List.rec [c] (fun _ r _ => c :: r) r) f
theorem dot_hd (f : List Int) (x : Nat) (e : List Nat) : dot f (1 :: x :: e) = hd1 f * x + dot (tl1 f) (1 :: e) := by
  match f with
  | [] => show (0 : Int) = 0 * x + 0; omega
  | [c] => show c * (1 : Nat) + 0 = 0 * x + (c * (1 : Nat) + 0); omega
  | c :: a :: r => show c * (1 : Nat) + (a * x + dot r e) = a * x + (c * (1 : Nat) + dot r e); omega
noncomputable def pairs (p : Nat) (f : List Int) (gs : Fs) : Fs → Fs := fun z =>
  List.rec z (fun g _ r => Int.rec (fun _ => r) (fun q => lad (lsc ((q + 1 : Nat) : Int) f) (lsc ((p + 1 : Nat) : Int) (tl1 g)) :: r) (hd1 g)) gs
theorem pairs_ok {p : Nat} {f : List Int} {x : Nat} {e : List Nat} (hf : 0 ≤ ((p + 1 : Nat) : Int) * x + dot f (1 :: e)) {z : Fs} (hz : Ok e z) : ∀ gs : Fs, Ok (x :: e) gs → Ok e (pairs p f gs z)
  | [], _ => hz
  | g :: gs, H => by
    have IH := pairs_ok hf hz gs fun g hg => H g (.tail _ hg)
    have hg := H g (.head _)
    rw [dot_hd] at hg
    unfold pairs
    show Ok e (Int.rec (fun _ => pairs p f gs z) (fun q => _ :: pairs p f gs z) (hd1 g))
    cases E : hd1 g with
    | ofNat n => exact IH
    | negSucc q =>
      rw [E] at hg
      refine IH.cons ?_
      rw [dot_lad, dot_lsc, dot_lsc]
      have e1 : Int.negSucc q = -((q + 1 : Nat) : Int) := rfl
      rw [e1] at hg
      have m1 := Int.mul_nonneg (Int.natCast_nonneg (q + 1)) hf
      have m2 := Int.mul_nonneg (Int.natCast_nonneg (p + 1)) hg
      rw [Int.mul_add] at m1 m2
      rw [Int.neg_mul, Int.mul_neg] at m2
      have e2 : ((q + 1 : Nat) : Int) * (((p + 1 : Nat) : Int) * x) = ((p + 1 : Nat) : Int) * (((q + 1 : Nat) : Int) * x) := by
        rw [← Int.mul_assoc, ← Int.mul_assoc, Int.mul_comm ((q + 1 : Nat) : Int)]
      rw [e2] at m1
      omega
noncomputable def elim (all : Fs) (fs : Fs) : Fs :=
  List.rec [] (fun f _ r => Int.rec (fun n => Nat.rec (tl1 f :: r) (fun p _ => pairs p (tl1 f) all r) n) (fun _ => r) (hd1 f)) fs
theorem elim_ok {x : Nat} {e : List Nat} {all : Fs} (ha : Ok (x :: e) all) : ∀ fs : Fs, Ok (x :: e) fs → Ok e (elim all fs)
  | [], _ => fun _ h => nomatch h
  | f :: fs, H => by
    have IH := elim_ok ha fs fun g hg => H g (.tail _ hg)
    have hf := H f (.head _)
    rw [dot_hd] at hf
    show Ok e (Int.rec (fun n => Nat.rec (tl1 f :: elim all fs) (fun p _ => pairs p (tl1 f) all (elim all fs)) n) (fun _ => elim all fs) (hd1 f))
    cases E : hd1 f with
    | ofNat n =>
      rw [E] at hf
      cases n with
      | zero => exact IH.cons (by have : Int.ofNat 0 * (x : Int) = 0 := Int.zero_mul _; omega)
      | succ p => exact pairs_ok hf IH all ha
    | negSucc q => exact IH
noncomputable def fbad (fs : Fs) : Bool := List.rec false (fun f _ r => List.rec r (fun c _ _ => Int.rec (fun _ => r) (fun _ => true) c) f) fs
theorem fbad_ok : ∀ fs : Fs, Ok [] fs → fbad fs = true → False
  | [], _, h => absurd h (by decide)
  | [] :: fs, H, h => fbad_ok fs (fun g hg => H g (.tail _ hg)) h
  | (.ofNat _ :: f) :: fs, H, h => fbad_ok fs (fun g hg => H g (.tail _ hg)) h
  | (.negSucc n :: f) :: fs, H, h => by
    have := H _ (.head _)
    rw [dot_cons, dot_e] at this
    have : Int.negSucc n = -((n + 1 : Nat) : Int) := rfl
    omega
noncomputable def fm (n : Nat) : Fs → Bool := Nat.rec fbad (fun _ r fs => let all : Fs := [0, 1] :: fs; r (elim all all)) n
theorem fm_ok : ∀ (e : List Nat) (fs : Fs), Ok e fs → fm e.length fs = true → False
  | [], fs, H, h => fbad_ok fs H h
  | x :: e, fs, H, h => by
    have H' : Ok (x :: e) ([0, 1] :: fs) := H.cons (by show (0 : Int) ≤ 0 * (1 : Nat) + (1 * (x : Int) + 0); omega)
    exact fm_ok e _ (elim_ok H' _ H') h
noncomputable def kle (o : Bool) (x y : Tm) (b : Bool) (fs : Fs) (c : Fs → Bool) : Bool := x.k o fs fun f fs => y.k o fs fun g fs => Bool.rec (c (lsb g f 1 :: fs)) (c (lsb f g 0 :: fs)) b
noncomputable def klt (o : Bool) (x y : Tm) (b : Bool) (fs : Fs) (c : Fs → Bool) : Bool := x.k o fs fun f fs => y.k o fs fun g fs => Bool.rec (c (lsb g f 0 :: fs)) (c (lsb f g 1 :: fs)) b
noncomputable def cutE (n : Nat) (fs : Fs) (c : Fs → Bool) : Bool := Bool.rec (c fs) true (fm n fs)
noncomputable def keq (n : Nat) (o : Bool) (x y : Tm) (b : Bool) (fs : Fs) (c : Fs → Bool) : Bool := x.k o fs fun f fs => y.k o fs fun g fs => Bool.rec (Bool.rec false (cutE n (lsb f g 1 :: fs) c) (cutE n (lsb g f 1 :: fs) c)) (c (lsb f g 0 :: lsb g f 0 :: fs)) b
noncomputable def kdv (x : Tm) (k i : Nat) (b : Bool) (fs : Fs) (c : Fs → Bool) : Bool :=
  Bool.rec (c fs) (Nat.rec (c fs) (fun j _ => x.k false fs fun f fs => c (lsb (lsc ((j + 1 : Nat) : Int) (0 :: lun i)) f 0 :: lsb f (lsc ((j + 1 : Nat) : Int) (0 :: lun i)) (-(j : Int)) :: fs)) k) b
noncomputable def Fo.k (n : Nat) (t : Fo) : Bool → Fs → (Fs → Bool) → Bool :=
  Fo.rec (kle false) (klt false) (keq n false)
    (fun b fs c => Bool.rec (c fs) true b)
    (fun _ _ p q b fs c => Bool.rec (p true fs fun fs => q false fs c) (Bool.rec false (q true fs c) (p false fs c)) b)
    (fun _ _ p q b fs c => Bool.rec (Bool.rec false (q false fs c) (p false fs c)) (p true fs fun fs => q true fs c) b)
    (fun _ _ p q b fs c => Bool.rec (p false fs fun fs => q false fs c) (Bool.rec false (q true fs c) (p true fs c)) b)
    (kle true) (klt true) (keq n true) kdv t
def Fd (e : List Nat) (k : Fs → (Fs → Bool) → Bool) (p : Prop) : Prop := ∀ fs c (P : Prop), k fs c = true → Ok e fs → p → (∀ fs', Ok e fs' → c fs' = true → P) → P
theorem sb0 {x y : Int} (h : x ≤ y) : 0 ≤ y - x - 0 := by omega
theorem sb1 {x y : Int} (h : x < y) : 0 ≤ y - x - 1 := by omega
theorem kle_ok {e : List Nat} {o : Bool} {x y : Tm} {p : Prop} (hp : p ↔ x.q e o ≤ y.q e o) : Fd e (kle o x y true) p ∧ Fd e (kle o x y false) (¬ p) :=
  ⟨fun fs _ P h H d q => Tm.ok e x o fs _ P h H fun _ fs H e1 h => Tm.ok e y o fs _ P h H fun _ _ H e2 h => q _ (H.put (sb0 (hp.mp d)) (dot_lsb e1 e2)) h,
   fun fs _ P h H d q => Tm.ok e x o fs _ P h H fun _ fs H e1 h => Tm.ok e y o fs _ P h H fun _ _ H e2 h => q _ (H.put (sb1 (Int.not_le.mp fun k => d (hp.mpr k))) (dot_lsb e2 e1)) h⟩
theorem klt_ok {e : List Nat} {o : Bool} {x y : Tm} {p : Prop} (hp : p ↔ x.q e o < y.q e o) : Fd e (klt o x y true) p ∧ Fd e (klt o x y false) (¬ p) :=
  ⟨fun fs _ P h H d q => Tm.ok e x o fs _ P h H fun _ fs H e1 h => Tm.ok e y o fs _ P h H fun _ _ H e2 h => q _ (H.put (sb1 (hp.mp d)) (dot_lsb e1 e2)) h,
   fun fs _ P h H d q => Tm.ok e x o fs _ P h H fun _ fs H e1 h => Tm.ok e y o fs _ P h H fun _ _ H e2 h => q _ (H.put (sb0 (Int.not_lt.mp fun k => d (hp.mpr k))) (dot_lsb e2 e1)) h⟩
theorem cutE_ok {e : List Nat} {fs : Fs} {c : Fs → Bool} {P : Prop} (H : Ok e fs) (h : cutE e.length fs c = true) (q : ∀ fs', Ok e fs' → c fs' = true → P) : P := by
  unfold cutE at h
  cases m : fm e.length fs with
  | true => exact (fm_ok e fs H m).elim
  | false => rw [m] at h; exact q fs H h
theorem keq_ok {e : List Nat} {o : Bool} {x y : Tm} {p : Prop} (hp : p ↔ x.q e o = y.q e o) : Fd e (keq e.length o x y true) p ∧ Fd e (keq e.length o x y false) (¬ p) :=
  ⟨fun fs _ P h H d q => Tm.ok e x o fs _ P h H fun _ fs H e1 h => Tm.ok e y o fs _ P h H fun _ _ H e2 h =>
    q _ ((H.put (sb0 (Int.le_of_eq (hp.mp d).symm)) (dot_lsb e2 e1)).put (sb0 (Int.le_of_eq (hp.mp d))) (dot_lsb e1 e2)) h,
   fun fs _ P h H d q => Tm.ok e x o fs _ P h H fun _ fs H e1 h => Tm.ok e y o fs _ P h H fun _ _ H e2 h =>
    (Int.lt_or_gt_of_ne fun k => d (hp.mpr k)).elim (fun l => cutE_ok (H.put (sb1 l) (dot_lsb e1 e2)) (band h).2 q) (fun l => cutE_ok (H.put (sb1 l) (dot_lsb e2 e1)) (band h).1 q)⟩
theorem kdv_ok {e : List Nat} {x : Tm} {k i : Nat} : Fd e (kdv x k i true) (nth e i = x.d e / k) ∧ Fd e (kdv x k i false) (¬ nth e i = x.d e / k) := by
  refine ⟨fun fs c P h H d q => ?_, fun fs c P h H d q => q fs H h⟩
  cases k with
  | zero => exact q fs H h
  | succ j =>
    refine Tm.ok e x false fs _ P h H fun f fs H e1 h => ?_
    have e2 : dot (lsc ((j + 1 : Nat) : Int) (0 :: lun i)) (1 :: e) = (((j + 1) * (x.d e / (j + 1)) : Nat) : Int) := by
      rw [dot_lsc, dot_cons, dot_lun, d, Int.zero_mul, Int.zero_add]; exact (Int.natCast_mul _ _).symm
    have a1 := Nat.mul_div_le (x.d e) (j + 1)
    have a2 := Nat.lt_mul_div_succ (x.d e) (Nat.succ_pos j)
    rw [Nat.mul_add] at a2
    generalize (j + 1) * (x.d e / (j + 1)) = Q at *
    refine q _ ((H.cons (Int.le_trans ?_ (Int.le_of_eq (dot_lsb e1 e2).symm))).cons (Int.le_trans ?_ (Int.le_of_eq (dot_lsb e2 e1).symm))) h
    · show (0 : Int) ≤ (Q : Int) - (x.d e : Int) - -(j : Int); omega
    · show (0 : Int) ≤ (x.d e : Int) - (Q : Int) - 0; omega
theorem Fo.ok (e : List Nat) (t : Fo) : Fd e (t.k e.length true) (t.d e) ∧ Fd e (t.k e.length false) (¬ t.d e) :=
  Fo.rec (motive := fun t => Fd e (t.k e.length true) (t.d e) ∧ Fd e (t.k e.length false) (¬ t.d e))
    (fun x y => kle_ok (o := false) Int.ofNat_le.symm) (fun x y => klt_ok (o := false) Int.ofNat_lt.symm) (fun x y => keq_ok (o := false) Int.ofNat_inj.symm)
    ⟨fun _ _ _ _ _ d _ => d.elim, fun fs _ _ h H _ q => q fs H h⟩
    (fun p r A B => ⟨fun fs c P h H d q => Classical.byCases (p := p.d e) (fun hp => B.1 fs c P (band h).2 H (d hp) q) (fun hp => A.2 fs c P (band h).1 H hp q),
      fun fs c P h H d q => A.1 fs _ P h H (Classical.byContradiction fun hp => d fun x => (hp x).elim) fun fs H h => B.2 fs c P h H (fun hq => d fun _ => hq) q⟩)
    (fun p r A B => ⟨fun fs c P h H d q => A.1 fs _ P h H d.1 fun fs H h => B.1 fs c P h H d.2 q,
      fun fs c P h H d q => Classical.byCases (p := p.d e) (fun hp => B.2 fs c P (band h).2 H (fun hq => d ⟨hp, hq⟩) q) (fun hp => A.2 fs c P (band h).1 H hp q)⟩)
    (fun p r A B => ⟨fun fs c P h H d q => d.elim (fun d => A.1 fs c P (band h).1 H d q) (fun d => B.1 fs c P (band h).2 H d q),
      fun fs c P h H d q => A.2 fs _ P h H (fun x => d (.inl x)) fun fs H h => B.2 fs c P h H (fun x => d (.inr x)) q⟩)
    (fun x y => kle_ok (o := true) Iff.rfl) (fun x y => klt_ok (o := true) Iff.rfl) (fun x y => keq_ok (o := true) Iff.rfl) (fun x k i => kdv_ok) t
noncomputable def chk (n : Nat) (p : Fo) : Bool := p.k n false [] (fm n)
theorem lin (p : Fo) (e : List Nat) (h : chk e.length p = true) : p.d e := Classical.byContradiction fun d =>
  (Fo.ok e p).2 [] (fm e.length) False h (fun _ h => nomatch h) d fun fs H h => fm_ok e fs H h
theorem LI0 (p : Fo) (h : chk 0 p = true := by kernel_rfl) : p.d [] := lin p [] h
theorem LI1 (p : Fo) {a : Nat} (h : chk 1 p = true := by kernel_rfl) : p.d [a] := lin p [a] h
theorem LI2 (p : Fo) {a b : Nat} (h : chk 2 p = true := by kernel_rfl) : p.d [a, b] := lin p [a, b] h
theorem LI3 (p : Fo) {a b c : Nat} (h : chk 3 p = true := by kernel_rfl) : p.d [a, b, c] := lin p [a, b, c] h
theorem LI4 (p : Fo) {a b c d : Nat} (h : chk 4 p = true := by kernel_rfl) : p.d [a, b, c, d] := lin p [a, b, c, d] h
theorem LI5 (p : Fo) {a b c d f : Nat} (h : chk 5 p = true := by kernel_rfl) : p.d [a, b, c, d, f] := lin p [a, b, c, d, f] h
theorem LI6 (p : Fo) {a b c d f g : Nat} (h : chk 6 p = true := by kernel_rfl) : p.d [a, b, c, d, f, g] := lin p [a, b, c, d, f, g] h
theorem LI7 (p : Fo) {a b c d f g i : Nat} (h : chk 7 p = true := by kernel_rfl) : p.d [a, b, c, d, f, g, i] := lin p [a, b, c, d, f, g, i] h
theorem LI8 (p : Fo) {a b c d f g i j : Nat} (h : chk 8 p = true := by kernel_rfl) : p.d [a, b, c, d, f, g, i, j] := lin p [a, b, c, d, f, g, i, j] h
theorem LI9 (p : Fo) {a b c d f g i j k : Nat} (h : chk 9 p = true := by kernel_rfl) : p.d [a, b, c, d, f, g, i, j, k] := lin p [a, b, c, d, f, g, i, j, k] h
end Mine
end
section
namespace Mine
set_option genSizeOf false
set_option genInjectivity false
inductive E2 {a0 a1 : Type} (P : a0 → a1 → Prop) : Prop where
  | mk (x0 : a0) (x1 : a1) (h : P x0 x1) : E2 P
inductive E3 {a0 a1 a2 : Type} (P : a0 → a1 → a2 → Prop) : Prop where
  | mk (x0 : a0) (x1 : a1) (x2 : a2) (h : P x0 x1 x2) : E3 P
inductive E4 {a0 a1 a2 a3 : Type} (P : a0 → a1 → a2 → a3 → Prop) : Prop where
  | mk (x0 : a0) (x1 : a1) (x2 : a2) (x3 : a3) (h : P x0 x1 x2 x3) : E4 P
inductive E6 {a0 a1 a2 a3 a4 a5 : Type} (P : a0 → a1 → a2 → a3 → a4 → a5 → Prop) : Prop where
  | mk (x0 : a0) (x1 : a1) (x2 : a2) (x3 : a3) (x4 : a4) (x5 : a5) (h : P x0 x1 x2 x3 x4 x5) : E6 P
inductive E7 {a0 a1 a2 a3 a4 a5 a6 : Type} (P : a0 → a1 → a2 → a3 → a4 → a5 → a6 → Prop) : Prop where
  | mk (x0 : a0) (x1 : a1) (x2 : a2) (x3 : a3) (x4 : a4) (x5 : a5) (x6 : a6) (h : P x0 x1 x2 x3 x4 x5 x6) : E7 P
inductive E8 {a0 a1 a2 a3 a4 a5 a6 a7 : Type} (P : a0 → a1 → a2 → a3 → a4 → a5 → a6 → a7 → Prop) : Prop where
  | mk (x0 : a0) (x1 : a1) (x2 : a2) (x3 : a3) (x4 : a4) (x5 : a5) (x6 : a6) (x7 : a7) (h : P x0 x1 x2 x3 x4 x5 x6 x7) : E8 P
inductive E9 {a0 a1 a2 a3 a4 a5 a6 a7 a8 : Type} (P : a0 → a1 → a2 → a3 → a4 → a5 → a6 → a7 → a8 → Prop) : Prop where
  | mk (x0 : a0) (x1 : a1) (x2 : a2) (x3 : a3) (x4 : a4) (x5 : a5) (x6 : a6) (x7 : a7) (x8 : a8) (h : P x0 x1 x2 x3 x4 x5 x6 x7 x8) : E9 P
inductive E10 {a0 a1 a2 a3 a4 a5 a6 a7 a8 a9 : Type} (P : a0 → a1 → a2 → a3 → a4 → a5 → a6 → a7 → a8 → a9 → Prop) : Prop where
  | mk (x0 : a0) (x1 : a1) (x2 : a2) (x3 : a3) (x4 : a4) (x5 : a5) (x6 : a6) (x7 : a7) (x8 : a8) (x9 : a9) (h : P x0 x1 x2 x3 x4 x5 x6 x7 x8 x9) : E10 P
inductive E11 {a0 a1 a2 a3 a4 a5 a6 a7 a8 a9 a10 : Type} (P : a0 → a1 → a2 → a3 → a4 → a5 → a6 → a7 → a8 → a9 → a10 → Prop) : Prop where
  | mk (x0 : a0) (x1 : a1) (x2 : a2) (x3 : a3) (x4 : a4) (x5 : a5) (x6 : a6) (x7 : a7) (x8 : a8) (x9 : a9) (x10 : a10) (h : P x0 x1 x2 x3 x4 x5 x6 x7 x8 x9 x10) : E11 P
inductive E14 {a0 a1 a2 a3 a4 a5 a6 a7 a8 a9 a10 a11 a12 a13 : Type} (P : a0 → a1 → a2 → a3 → a4 → a5 → a6 → a7 → a8 → a9 → a10 → a11 → a12 → a13 → Prop) : Prop where
  | mk (x0 : a0) (x1 : a1) (x2 : a2) (x3 : a3) (x4 : a4) (x5 : a5) (x6 : a6) (x7 : a7) (x8 : a8) (x9 : a9) (x10 : a10) (x11 : a11) (x12 : a12) (x13 : a13) (h : P x0 x1 x2 x3 x4 x5 x6 x7 x8 x9 x10 x11 x12 x13) : E14 P
inductive E32 {a0 a1 a2 a3 a4 a5 a6 a7 a8 a9 a10 a11 a12 a13 a14 a15 a16 a17 a18 a19 a20 a21 a22 a23 a24 a25 a26 a27 a28 a29 a30 a31 : Type} (P : a0 → a1 → a2 → a3 → a4 → a5 → a6 → a7 → a8 → a9 → a10 → a11 → a12 → a13 → a14 → a15 → a16 → a17 → a18 → a19 → a20 → a21 → a22 → a23 → a24 → a25 → a26 → a27 → a28 → a29 → a30 → a31 → Prop) : Prop where
  | mk (x0 : a0) (x1 : a1) (x2 : a2) (x3 : a3) (x4 : a4) (x5 : a5) (x6 : a6) (x7 : a7) (x8 : a8) (x9 : a9) (x10 : a10) (x11 : a11) (x12 : a12) (x13 : a13) (x14 : a14) (x15 : a15) (x16 : a16) (x17 : a17) (x18 : a18) (x19 : a19) (x20 : a20) (x21 : a21) (x22 : a22) (x23 : a23) (x24 : a24) (x25 : a25) (x26 : a26) (x27 : a27) (x28 : a28) (x29 : a29) (x30 : a30) (x31 : a31) (h : P x0 x1 x2 x3 x4 x5 x6 x7 x8 x9 x10 x11 x12 x13 x14 x15 x16 x17 x18 x19 x20 x21 x22 x23 x24 x25 x26 x27 x28 x29 x30 x31) : E32 P
inductive A3 (a0 a1 a2 : Prop) : Prop where
  | mk (x0 : a0) (x1 : a1) (x2 : a2) : A3 a0 a1 a2
inductive A4 (a0 a1 a2 a3 : Prop) : Prop where
  | mk (x0 : a0) (x1 : a1) (x2 : a2) (x3 : a3) : A4 a0 a1 a2 a3
inductive A5 (a0 a1 a2 a3 a4 : Prop) : Prop where
  | mk (x0 : a0) (x1 : a1) (x2 : a2) (x3 : a3) (x4 : a4) : A5 a0 a1 a2 a3 a4
inductive A6 (a0 a1 a2 a3 a4 a5 : Prop) : Prop where
  | mk (x0 : a0) (x1 : a1) (x2 : a2) (x3 : a3) (x4 : a4) (x5 : a5) : A6 a0 a1 a2 a3 a4 a5
inductive A7 (a0 a1 a2 a3 a4 a5 a6 : Prop) : Prop where
  | mk (x0 : a0) (x1 : a1) (x2 : a2) (x3 : a3) (x4 : a4) (x5 : a5) (x6 : a6) : A7 a0 a1 a2 a3 a4 a5 a6
inductive A8 (a0 a1 a2 a3 a4 a5 a6 a7 : Prop) : Prop where
  | mk (x0 : a0) (x1 : a1) (x2 : a2) (x3 : a3) (x4 : a4) (x5 : a5) (x6 : a6) (x7 : a7) : A8 a0 a1 a2 a3 a4 a5 a6 a7
inductive A9 (a0 a1 a2 a3 a4 a5 a6 a7 a8 : Prop) : Prop where
  | mk (x0 : a0) (x1 : a1) (x2 : a2) (x3 : a3) (x4 : a4) (x5 : a5) (x6 : a6) (x7 : a7) (x8 : a8) : A9 a0 a1 a2 a3 a4 a5 a6 a7 a8
inductive A10 (a0 a1 a2 a3 a4 a5 a6 a7 a8 a9 : Prop) : Prop where
  | mk (x0 : a0) (x1 : a1) (x2 : a2) (x3 : a3) (x4 : a4) (x5 : a5) (x6 : a6) (x7 : a7) (x8 : a8) (x9 : a9) : A10 a0 a1 a2 a3 a4 a5 a6 a7 a8 a9
inductive A11 (a0 a1 a2 a3 a4 a5 a6 a7 a8 a9 a10 : Prop) : Prop where
  | mk (x0 : a0) (x1 : a1) (x2 : a2) (x3 : a3) (x4 : a4) (x5 : a5) (x6 : a6) (x7 : a7) (x8 : a8) (x9 : a9) (x10 : a10) : A11 a0 a1 a2 a3 a4 a5 a6 a7 a8 a9 a10
inductive A12 (a0 a1 a2 a3 a4 a5 a6 a7 a8 a9 a10 a11 : Prop) : Prop where
  | mk (x0 : a0) (x1 : a1) (x2 : a2) (x3 : a3) (x4 : a4) (x5 : a5) (x6 : a6) (x7 : a7) (x8 : a8) (x9 : a9) (x10 : a10) (x11 : a11) : A12 a0 a1 a2 a3 a4 a5 a6 a7 a8 a9 a10 a11
inductive A14 (a0 a1 a2 a3 a4 a5 a6 a7 a8 a9 a10 a11 a12 a13 : Prop) : Prop where
  | mk (x0 : a0) (x1 : a1) (x2 : a2) (x3 : a3) (x4 : a4) (x5 : a5) (x6 : a6) (x7 : a7) (x8 : a8) (x9 : a9) (x10 : a10) (x11 : a11) (x12 : a12) (x13 : a13) : A14 a0 a1 a2 a3 a4 a5 a6 a7 a8 a9 a10 a11 a12 a13
inductive A15 (a0 a1 a2 a3 a4 a5 a6 a7 a8 a9 a10 a11 a12 a13 a14 : Prop) : Prop where
  | mk (x0 : a0) (x1 : a1) (x2 : a2) (x3 : a3) (x4 : a4) (x5 : a5) (x6 : a6) (x7 : a7) (x8 : a8) (x9 : a9) (x10 : a10) (x11 : a11) (x12 : a12) (x13 : a13) (x14 : a14) : A15 a0 a1 a2 a3 a4 a5 a6 a7 a8 a9 a10 a11 a12 a13 a14
inductive A17 (a0 a1 a2 a3 a4 a5 a6 a7 a8 a9 a10 a11 a12 a13 a14 a15 a16 : Prop) : Prop where
  | mk (x0 : a0) (x1 : a1) (x2 : a2) (x3 : a3) (x4 : a4) (x5 : a5) (x6 : a6) (x7 : a7) (x8 : a8) (x9 : a9) (x10 : a10) (x11 : a11) (x12 : a12) (x13 : a13) (x14 : a14) (x15 : a15) (x16 : a16) : A17 a0 a1 a2 a3 a4 a5 a6 a7 a8 a9 a10 a11 a12 a13 a14 a15 a16
inductive A18 (a0 a1 a2 a3 a4 a5 a6 a7 a8 a9 a10 a11 a12 a13 a14 a15 a16 a17 : Prop) : Prop where
  | mk (x0 : a0) (x1 : a1) (x2 : a2) (x3 : a3) (x4 : a4) (x5 : a5) (x6 : a6) (x7 : a7) (x8 : a8) (x9 : a9) (x10 : a10) (x11 : a11) (x12 : a12) (x13 : a13) (x14 : a14) (x15 : a15) (x16 : a16) (x17 : a17) : A18 a0 a1 a2 a3 a4 a5 a6 a7 a8 a9 a10 a11 a12 a13 a14 a15 a16 a17
end Mine
end
section
open PySem PySem.W PyProof.Rows
namespace Mine
noncomputable def tp (i : Nat) : Stmt := (PySem.Challenge.pw_sn0071_01.main.body[i]?).getD (.Pass default)
noncomputable def tm (i j : Nat) : Stmt := match tp i with
  | .ClassDef _ _ _ b .. => (b[j]?).getD (.Pass default)
  | s => s
noncomputable def fo (s : Stmt) (qual : Str) (dV kV : Value) (md : Str) (mt cd : Nat) : Obj := match s with
  | .FunctionDef name args body _ _ _ scope .. => ⟨.type "function", none, .func { name := name, qualname := qual, params := args, body := .stmts body, scope := scope, globals := 3, closure := [], defaults := dV, kwdefaults := kV, pyModule := .str md mt, code := .ref cd }, #[]⟩
  | _ => ⟨.none, none, .plain, #[]⟩
noncomputable def tu (l : Array Value) : Obj := ⟨.type "tuple", none, .seq l, #[]⟩
noncomputable def di (l : Array DictEntry) (n : Nat) : Obj := ⟨.type "dict", none, .dict l n, #[]⟩
noncomputable def co (n : Str) (nt : Nat) (q : Str) (qt ft : Nat) (ln ac pc kc fl : Nat) (c1 fi c2 c3 c4 c5 sz l2 f2 : Nat) : Obj :=
  ⟨.type "code", none, .fields #[.str n nt, .str q qt, .str "/claim/cut.py" ft, .int ln 0, .int ac 0, .int pc 0, .int kc 0, .int fl 0, .ref c1, .bool true, .int fi 0, .ref c2, .none, .ref c3, .ref c4, .ref c5, .int sz 0, .int l2 0, .str "/claim/cut.py" f2], #[]⟩
noncomputable def hd.heap_39 : Params → Frag := fun P =>
(nat_lit 2, ⟨.none, none, .dict #[(⟨PyData.keyHash P "\x69mport.loaded._sre", .str "\x69mport.loaded._sre" 183, .bool true⟩ : DictEntry), (⟨PyData.keyHash P "class._frozen_importlib.BuiltinImporter", .str "class._frozen_importlib.BuiltinImporter" 185, .ref 14⟩ : DictEntry), (⟨PyData.keyHash P "watched.\x69mport", .str "watched.\x69mport" 206, .ref 18⟩ : DictEntry), (⟨PyData.keyHash P "class._frozen_importlib.ModuleSpec", .str "class._frozen_importlib.ModuleSpec" 216, .ref 22⟩ : DictEntry), (⟨PyData.keyHash P "sys.modules.booked-epoch", .str "sys.modules.booked-epoch" 245, .int 3 0⟩ : DictEntry), (⟨PyData.keyHash P "\x69mport.later-laid._sre", .str "\x69mport.later-laid._sre" 270, .bool true⟩ : DictEntry), (⟨PyData.keyHash P "watched.library", .str "watched.library" 272, .ref 27⟩ : DictEntry), (⟨PyData.keyHash P "watched.library-objects", .str "watched.library-objects" 0, .str "\x0c" 0⟩ : DictEntry), (⟨PyData.keyHash P "watched.library-deep._sre", .str "watched.library-deep._sre" 273, .str "\x04\x00\x00\x0b\x04\x00\x00\x0b\x04\x00\x00\x03\x04\x00\x00\x0b\x08\x04dict\x02" 0⟩ : DictEntry)] 9, #[]⟩) ::
(nat_lit 3, di #[(⟨PyData.keyHash P "__name__", .str "__name__" 165, .str "law_sn0071_01" 679⟩ : DictEntry), (⟨PyData.keyHash P "__doc__", .str "__doc__" 166, .none⟩ : DictEntry), (⟨PyData.keyHash P "__package__", .str "__package__" 167, .none⟩ : DictEntry), (⟨PyData.keyHash P "__loader__", .str "__loader__" 168, .builtin "__main__.__loader__#opaque"⟩ : DictEntry), (⟨PyData.keyHash P "__spec__", .str "__spec__" 169, .none⟩ : DictEntry), (⟨PyData.keyHash P "__annotations__", .str "__annotations__" 170, .ref 6⟩ : DictEntry), (⟨PyData.keyHash P "__builtins__", .str "__builtins__" 171, .ref 4⟩ : DictEntry), (⟨PyData.keyHash P "__file__", .str "__file__" 173, .str "/claim/cut.py" 172⟩ : DictEntry), (⟨PyData.keyHash P "__cached__", .str "__cached__" 174, .none⟩ : DictEntry), (⟨PyData.keyHash P "_sre", .str "_sre" 275, .ref 12⟩ : DictEntry), (⟨PyData.keyHash P "_wall", .str "_wall" 288, .ref 38⟩ : DictEntry), (⟨PyData.keyHash P "_int2digits", .str "_int2digits" 301, .ref 45⟩ : DictEntry), (⟨PyData.keyHash P "_digits2int", .str "_digits2int" 312, .ref 52⟩ : DictEntry), (⟨PyData.keyHash P "insort_right", .str "insort_right" 327, .ref 61⟩ : DictEntry), (⟨PyData.keyHash P "bisect_right", .str "bisect_right" 341, .ref 70⟩ : DictEntry), (⟨PyData.keyHash P "bisect_left", .str "bisect_left" 355, .ref 79⟩ : DictEntry), (⟨PyData.keyHash P "_netrclex", .str "_netrclex" 415, .ref 117⟩ : DictEntry), (⟨PyData.keyHash P "tspecials", .str "tspecials" 451, .ref 126⟩ : DictEntry), (⟨PyData.keyHash P "_name_disallowed_re", .str "_name_disallowed_re" 477, .ref 131⟩ : DictEntry), (⟨PyData.keyHash P "_value_disallowed_re", .str "_value_disallowed_re" 511, .ref 136⟩ : DictEntry), (⟨PyData.keyHash P "_formatparam", .str "_formatparam" 521, .ref 144⟩ : DictEntry), (⟨PyData.keyHash P "Headers", .str "Headers" 678, .ref 265⟩ : DictEntry), (⟨PyData.keyHash P "_law_machine", .str "_law_machine" 691, .ref 276⟩ : DictEntry), (⟨PyData.keyHash P "_law_cells", .str "_law_cells" 697, .ref 281⟩ : DictEntry), (⟨PyData.keyHash P "_law_text", .str "_law_text" 703, .ref 286⟩ : DictEntry), (⟨PyData.keyHash P "_law_number", .str "_law_number" 709, .ref 291⟩ : DictEntry), (⟨PyData.keyHash P "_law_word", .str "_law_word" 715, .ref 296⟩ : DictEntry), (⟨PyData.keyHash P "_law_stops", .str "_law_stops" 730, .ref 303⟩ : DictEntry), (⟨PyData.keyHash P "_law_taken_out", .str "_law_taken_out" 736, .ref 308⟩ : DictEntry), (⟨PyData.keyHash P "_law_shared", .str "_law_shared" 742, .ref 313⟩ : DictEntry), (⟨PyData.keyHash P "_law_outward", .str "_law_outward" 753, .ref 320⟩ : DictEntry), (⟨PyData.keyHash P "law", .str "law" 759, .ref 325⟩ : DictEntry)] 32) ::
(nat_lit 32, tu #[]) ::
(nat_lit 34, tu #[.str "k" 285]) ::
(nat_lit 35, tu #[]) ::
(nat_lit 37, co "_wall" 282 "_wall" 283 284 2 1 0 0 3 32 276 33 34 35 36 286 2 287) ::
(nat_lit 38, fo (tp 1) "_wall" .none .none "__main__" 164 37) ::
(nat_lit 39, tu #[]) ::
(nat_lit 41, tu #[.str "a" 294, .str "n" 295]) ::
(nat_lit 42, tu #[.str "n" 296, .str "a_digits" 297, .str "inner" 298]) ::
(nat_lit 44, co "_int2digits" 291 "_int2digits" 292 293 6 2 0 0 3 39 276 40 41 42 43 299 6 300) ::
(nat_lit 45, fo (tp 3) "_int2digits" .none .none "cpy313._pylong" 289 44) ::
(nat_lit 46, tu #[]) ::
(nat_lit 48, tu #[.str "digits" 305, .str "n" 306]) ::
(nat_lit 49, tu #[.str "digits" 307, .str "n" 308, .str "inner" 309]) ::
(nat_lit 51, co "_digits2int" 302 "_digits2int" 303 304 22 2 0 0 3 46 276 47 48 49 50 310 22 311) ::
(nat_lit 52, fo (tp 4) "_digits2int" .none .none "cpy313._pylong" 289 51) ::
(nat_lit 53, tu #[.int 0 315, .none]) ::
(nat_lit 54, di #[(⟨PyData.keyHash P "key", .str "key" 316, .none⟩ : DictEntry)] 1) ::
(nat_lit 55, tu #[]) ::
(nat_lit 57, tu #[.str "a" 320, .str "x" 321, .str "lo" 322, .str "hi" 323, .str "key" 324]) ::
(nat_lit 58, tu #[]) ::
(nat_lit 60, co "insort_right" 317 "insort_right" 318 319 32 4 0 1 3 55 276 56 57 58 59 325 32 326) ::
(nat_lit 61, fo (tp 6) "insort_right" (.ref 53) (.ref 54) "cpy313.bisect" 313 60) ::
(nat_lit 62, tu #[.int 0 328, .none]) ::
(nat_lit 63, di #[(⟨PyData.keyHash P "key", .str "key" 329, .none⟩ : DictEntry)] 1) ::
(nat_lit 64, tu #[]) ::
(nat_lit 66, tu #[.str "a" 333, .str "x" 334, .str "lo" 335, .str "hi" 336, .str "key" 337, .str "mid" 338]) ::
(nat_lit 67, tu #[]) ::
(nat_lit 69, co "bisect_right" 330 "bisect_right" 331 332 38 4 0 1 3 64 276 65 66 67 68 339 38 340) ::
(nat_lit 70, fo (tp 7) "bisect_right" (.ref 62) (.ref 63) "cpy313.bisect" 313 69) ::
(nat_lit 71, tu #[.int 0 342, .none]) ::
(nat_lit 72, di #[(⟨PyData.keyHash P "key", .str "key" 343, .none⟩ : DictEntry)] 1) ::
(nat_lit 73, tu #[]) ::
(nat_lit 75, tu #[.str "a" 347, .str "x" 348, .str "lo" 349, .str "hi" 350, .str "key" 351, .str "mid" 352]) ::
(nat_lit 76, tu #[]) ::
(nat_lit 78, co "bisect_left" 344 "bisect_left" 345 346 58 4 0 1 3 73 276 74 75 76 77 353 58 354) ::
(nat_lit 79, fo (tp 8) "bisect_left" (.ref 71) (.ref 72) "cpy313.bisect" 313 78) ::
(nat_lit 87, tu #[]) ::
(nat_lit 89, tu #[.str "self" 373, .str "fp" 374]) ::
(nat_lit 90, tu #[]) ::
(nat_lit 92, co "__init__" 370 "_netrclex.__init__" 371 372 81 2 0 0 3 87 276 88 89 90 91 375 81 376) ::
(nat_lit 93, fo (tm 10 0) "_netrclex.__init__" .none .none "cpy313.netrc" 356 92) ::
(nat_lit 94, tu #[]) ::
(nat_lit 96, tu #[.str "self" 381, .str "ch" 382]) ::
(nat_lit 97, tu #[]) ::
(nat_lit 99, co "_read_char" 378 "_netrclex._read_char" 379 380 87 1 0 0 3 94 276 95 96 97 98 383 87 384) ::
(nat_lit 100, fo (tm 10 1) "_netrclex._read_char" .none .none "cpy313.netrc" 356 99) ::
(nat_lit 101, tu #[]) ::
(nat_lit 103, tu #[.str "self" 389, .str "token" 390, .str "fiter" 391, .str "ch" 392]) ::
(nat_lit 104, tu #[]) ::
(nat_lit 106, co "get_token" 386 "_netrclex.get_token" 387 388 93 1 0 0 3 101 276 102 103 104 105 393 93 394) ::
(nat_lit 107, fo (tm 10 2) "_netrclex.get_token" .none .none "cpy313.netrc" 356 106) ::
(nat_lit 108, tu #[]) ::
(nat_lit 110, tu #[.str "self" 399, .str "token" 400]) ::
(nat_lit 111, tu #[]) ::
(nat_lit 113, co "push_token" 396 "_netrclex.push_token" 397 398 120 2 0 0 3 108 276 109 110 111 112 401 120 402) ::
(nat_lit 114, fo (tm 10 3) "_netrclex.push_token" .none .none "cpy313.netrc" 356 113) ::
(nat_lit 115, tu #[.str "instream" 404, .str "lineno" 405, .str "pushback" 406, .str "whitespace" 407]) ::
(nat_lit 116, di #[(⟨PyData.keyHash P "__module__", .str "__module__" 365, .str "cpy313.netrc" 356⟩ : DictEntry), (⟨PyData.keyHash P "__firstlineno__", .str "__firstlineno__" 369, .int 79 368⟩ : DictEntry), (⟨PyData.keyHash P "__init__", .str "__init__" 377, .ref 93⟩ : DictEntry), (⟨PyData.keyHash P "_read_char", .str "_read_char" 385, .ref 100⟩ : DictEntry), (⟨PyData.keyHash P "get_token", .str "get_token" 395, .ref 107⟩ : DictEntry), (⟨PyData.keyHash P "push_token", .str "push_token" 403, .ref 114⟩ : DictEntry), (⟨PyData.keyHash P "__static_attributes__", .str "__static_attributes__" 408, .ref 115⟩ : DictEntry), (⟨PyData.keyHash P "__dict__", .str "__dict__" 410, .ref 118⟩ : DictEntry), (⟨PyData.keyHash P "__weakref__", .str "__weakref__" 412, .ref 119⟩ : DictEntry), (⟨PyData.keyHash P "__doc__", .str "__doc__" 413, .none⟩ : DictEntry)] 4) ::
(nat_lit 117, ⟨.type "type", none, .cls { name := "_netrclex", bases := [.type "object"], mro := [.ref 117, .type "object"], ns := 116, qualname := "_netrclex" }, #[.none, .none, .some (.str "_netrclex" 358), .some (.str "_netrclex" 366), .some (.builtin "object.__new__"), .some (.bool true)]⟩) ::
(nat_lit 118, ⟨.type "getset_descriptor", none, .fields #[.str "__dict__" 409, .ref 117, .builtin "function.__dict__", .builtin "function.__dict__#set"], #[]⟩) ::
(nat_lit 119, ⟨.type "getset_descriptor", none, .fields #[.str "__weakref__" 411, .ref 117, .builtin "ExceptionGroup.__weakref__", .none], #[]⟩) ::
(nat_lit 125, tu #[.int 14 0, .int 14 0, .int 4 0, .int 1 0, .int 1 0, .int 9 0, .int 0 0, .int 4227896069 0, .int 939524097 0, .int 0 0, .int 0 0, .int 0 0, .int 0 0, .int 0 0, .int 0 0, .int 13 0, .int 11 0, .int 9 0, .int 0 0, .int 4227896069 0, .int 939524097 0, .int 0 0, .int 0 0, .int 0 0, .int 0 0, .int 0 0, .int 0 0, .int 1 0]) ::
(nat_lit 126, ⟨.type "re.Pattern", none, .fields #[.str "[ \\(\\)<>@,;:\\\\\"/\\[\\]\\?=]" 419, .int 32 450, .int 0 0, .none, .none, .ref 125, .int 0 0], #[]⟩) ::
(nat_lit 130, tu #[.int 14 0, .int 10 0, .int 4 0, .int 1 0, .int 1 0, .int 22 0, .int 0 0, .int 31 0, .int 16 0, .int 127 0, .int 0 0, .int 13 0, .int 7 0, .int 22 0, .int 0 0, .int 31 0, .int 16 0, .int 127 0, .int 0 0, .int 1 0]) ::
(nat_lit 131, ⟨.type "re.Pattern", none, .fields #[.str "[\\x00-\\x1F\\x7F]" 453, .int 32 476, .int 0 0, .none, .none, .ref 130, .int 0 0], #[]⟩) ::
(nat_lit 135, tu #[.int 14 0, .int 14 0, .int 4 0, .int 1 0, .int 1 0, .int 9 0, .int 4294966783 0, .int 0 0, .int 0 0, .int 2147483648 0, .int 0 0, .int 0 0, .int 0 0, .int 0 0, .int 0 0, .int 13 0, .int 11 0, .int 9 0, .int 4294966783 0, .int 0 0, .int 0 0, .int 2147483648 0, .int 0 0, .int 0 0, .int 0 0, .int 0 0, .int 0 0, .int 1 0]) ::
(nat_lit 136, ⟨.type "re.Pattern", none, .fields #[.str "[\\x00-\\x08\\x0A-\\x1F\\x7F]" 479, .int 32 510, .int 0 0, .none, .none, .ref 135, .int 0 0], #[]⟩) ::
(nat_lit 137, tu #[.none, .int 1 512]) ::
(nat_lit 138, tu #[]) ::
(nat_lit 140, tu #[.str "param" 516, .str "value" 517, .str "quote" 518]) ::
(nat_lit 141, tu #[]) ::
(nat_lit 143, co "_formatparam" 513 "_formatparam" 514 515 126 3 0 0 3 138 276 139 140 141 142 519 126 520) ::
(nat_lit 144, fo (tp 15) "_formatparam" (.ref 137) .none "cpy313.wsgiref.headers" 416 143) ::
(nat_lit 152, tu #[.none]) ::
(nat_lit 153, tu #[]) ::
(nat_lit 155, tu #[.str "self" 537, .str "headers" 538, .str "k" 539, .str "v" 540]) ::
(nat_lit 156, tu #[]) ::
(nat_lit 158, co "__init__" 534 "Headers.__init__" 535 536 137 2 0 0 3 153 276 154 155 156 157 541 137 542) ::
(nat_lit 159, fo (tm 16 0) "Headers.__init__" (.ref 152) .none "cpy313.wsgiref.headers" 416 158) ::
(nat_lit 160, tu #[]) ::
(nat_lit 162, tu #[.str "self" 547, .str "value" 548, .str "name" 549, .str "regex" 550]) ::
(nat_lit 163, tu #[]) ::
(nat_lit 165, co "_convert_string_type" 544 "Headers._convert_string_type" 545 546 147 2 0 1 3 160 276 161 162 163 164 551 147 552) ::
(nat_lit 166, fo (tm 16 1) "Headers._convert_string_type" .none .none "cpy313.wsgiref.headers" 416 165) ::
(nat_lit 167, tu #[]) ::
(nat_lit 169, tu #[.str "self" 557]) ::
(nat_lit 170, tu #[]) ::
(nat_lit 172, co "__len__" 554 "Headers.__len__" 555 556 155 1 0 0 3 167 276 168 169 170 171 558 155 559) ::
(nat_lit 173, fo (tm 16 2) "Headers.__len__" .none .none "cpy313.wsgiref.headers" 416 172) ::
(nat_lit 174, tu #[]) ::
(nat_lit 176, tu #[.str "self" 564, .str "name" 565, .str "val" 566]) ::
(nat_lit 177, tu #[]) ::
(nat_lit 179, co "__setitem__" 561 "Headers.__setitem__" 562 563 158 3 0 0 3 174 276 175 176 177 178 567 158 568) ::
(nat_lit 180, fo (tm 16 3) "Headers.__setitem__" .none .none "cpy313.wsgiref.headers" 416 179) ::
(nat_lit 181, tu #[]) ::
(nat_lit 184, ⟨.type "code", none, .fields #[.str "__delitem__" 570, .str "Headers.__delitem__" 571, .str "/claim/cut.py" 572, .int 162 0, .int 2 0, .int 0 0, .int 0 0, .int 3 0, .ref 181, .bool true, .int 276 0, .ref 182, .none, .none, .none, .ref 183, .int 573 0, .int 162 0, .str "/claim/cut.py" 574], #[]⟩) ::
(nat_lit 185, fo (tm 16 4) "Headers.__delitem__" .none .none "cpy313.wsgiref.headers" 416 184) ::
(nat_lit 186, tu #[]) ::
(nat_lit 188, tu #[.str "self" 579, .str "name" 580]) ::
(nat_lit 189, tu #[]) ::
(nat_lit 191, co "__getitem__" 576 "Headers.__getitem__" 577 578 166 2 0 0 3 186 276 187 188 189 190 581 166 582) ::
(nat_lit 192, fo (tm 16 5) "Headers.__getitem__" .none .none "cpy313.wsgiref.headers" 416 191) ::
(nat_lit 193, tu #[]) ::
(nat_lit 195, tu #[.str "self" 587, .str "name" 588]) ::
(nat_lit 196, tu #[]) ::
(nat_lit 198, co "__contains__" 584 "Headers.__contains__" 585 586 169 2 0 0 3 193 276 194 195 196 197 589 169 590) ::
(nat_lit 199, fo (tm 16 6) "Headers.__contains__" .none .none "cpy313.wsgiref.headers" 416 198) ::
(nat_lit 200, tu #[]) ::
(nat_lit 203, ⟨.type "code", none, .fields #[.str "get_all" 592, .str "Headers.get_all" 593, .str "/claim/cut.py" 594, .int 172 0, .int 2 0, .int 0 0, .int 0 0, .int 3 0, .ref 200, .bool true, .int 276 0, .ref 201, .none, .none, .none, .ref 202, .int 595 0, .int 172 0, .str "/claim/cut.py" 596], #[]⟩) ::
(nat_lit 204, fo (tm 16 7) "Headers.get_all" .none .none "cpy313.wsgiref.headers" 416 203) ::
(nat_lit 205, tu #[.none]) ::
(nat_lit 206, tu #[]) ::
(nat_lit 208, tu #[.str "self" 601, .str "name" 602, .str "default" 603, .str "k" 604, .str "v" 605]) ::
(nat_lit 209, tu #[]) ::
(nat_lit 211, co "get" 598 "Headers.get" 599 600 176 3 0 0 3 206 276 207 208 209 210 606 176 607) ::
(nat_lit 212, fo (tm 16 8) "Headers.get" (.ref 205) .none "cpy313.wsgiref.headers" 416 211) ::
(nat_lit 213, tu #[]) ::
(nat_lit 216, ⟨.type "code", none, .fields #[.str "keys" 609, .str "Headers.keys" 610, .str "/claim/cut.py" 611, .int 183 0, .int 1 0, .int 0 0, .int 0 0, .int 3 0, .ref 213, .bool true, .int 276 0, .ref 214, .none, .none, .none, .ref 215, .int 612 0, .int 183 0, .str "/claim/cut.py" 613], #[]⟩) ::
(nat_lit 217, fo (tm 16 9) "Headers.keys" .none .none "cpy313.wsgiref.headers" 416 216) ::
(nat_lit 218, tu #[]) ::
(nat_lit 221, ⟨.type "code", none, .fields #[.str "values" 615, .str "Headers.values" 616, .str "/claim/cut.py" 617, .int 186 0, .int 1 0, .int 0 0, .int 0 0, .int 3 0, .ref 218, .bool true, .int 276 0, .ref 219, .none, .none, .none, .ref 220, .int 618 0, .int 186 0, .str "/claim/cut.py" 619], #[]⟩) ::
(nat_lit 222, fo (tm 16 10) "Headers.values" .none .none "cpy313.wsgiref.headers" 416 221) ::
(nat_lit 223, tu #[]) ::
(nat_lit 225, tu #[.str "self" 624]) ::
(nat_lit 226, tu #[]) ::
(nat_lit 228, co "items" 621 "Headers.items" 622 623 189 1 0 0 3 223 276 224 225 226 227 625 189 626) ::
(nat_lit 229, fo (tm 16 11) "Headers.items" .none .none "cpy313.wsgiref.headers" 416 228) ::
(nat_lit 230, tu #[]) ::
(nat_lit 232, tu #[.str "self" 631]) ::
(nat_lit 233, tu #[]) ::
(nat_lit 235, co "__repr__" 628 "Headers.__repr__" 629 630 192 1 0 0 3 230 276 231 232 233 234 632 192 633) ::
(nat_lit 236, fo (tm 16 12) "Headers.__repr__" .none .none "cpy313.wsgiref.headers" 416 235) ::
(nat_lit 237, tu #[]) ::
(nat_lit 240, ⟨.type "code", none, .fields #[.str "__str__" 635, .str "Headers.__str__" 636, .str "/claim/cut.py" 637, .int 195 0, .int 1 0, .int 0 0, .int 0 0, .int 3 0, .ref 237, .bool true, .int 276 0, .ref 238, .none, .none, .none, .ref 239, .int 638 0, .int 195 0, .str "/claim/cut.py" 639], #[]⟩) ::
(nat_lit 241, fo (tm 16 13) "Headers.__str__" .none .none "cpy313.wsgiref.headers" 416 240) ::
(nat_lit 242, tu #[]) ::
(nat_lit 244, tu #[.str "self" 644]) ::
(nat_lit 245, tu #[]) ::
(nat_lit 247, co "__bytes__" 641 "Headers.__bytes__" 642 643 198 1 0 0 3 242 276 243 244 245 246 645 198 646) ::
(nat_lit 248, fo (tm 16 14) "Headers.__bytes__" .none .none "cpy313.wsgiref.headers" 416 247) ::
(nat_lit 249, tu #[]) ::
(nat_lit 251, tu #[.str "self" 651, .str "name" 652, .str "value" 653]) ::
(nat_lit 252, tu #[]) ::
(nat_lit 254, co "setdefault" 648 "Headers.setdefault" 649 650 201 3 0 0 3 249 276 250 251 252 253 654 201 655) ::
(nat_lit 255, fo (tm 16 15) "Headers.setdefault" .none .none "cpy313.wsgiref.headers" 416 254) ::
(nat_lit 256, tu #[]) ::
(nat_lit 258, tu #[.str "self" 660, .str "_name" 661, .str "_value" 662, .str "_params" 663, .str "parts" 664, .str "k" 665, .str "v" 666]) ::
(nat_lit 259, tu #[]) ::
(nat_lit 261, co "add_header" 657 "Headers.add_header" 658 659 204 3 0 0 11 256 276 257 258 259 260 667 204 668) ::
(nat_lit 262, fo (tm 16 16) "Headers.add_header" .none .none "cpy313.wsgiref.headers" 416 261) ::
(nat_lit 263, tu #[.str "_headers" 670]) ::
(nat_lit 264, di #[(⟨PyData.keyHash P "__module__", .str "__module__" 529, .str "cpy313.wsgiref.headers" 416⟩ : DictEntry), (⟨PyData.keyHash P "__firstlineno__", .str "__firstlineno__" 533, .int 135 532⟩ : DictEntry), (⟨PyData.keyHash P "__init__", .str "__init__" 543, .ref 159⟩ : DictEntry), (⟨PyData.keyHash P "_convert_string_type", .str "_convert_string_type" 553, .ref 166⟩ : DictEntry), (⟨PyData.keyHash P "__len__", .str "__len__" 560, .ref 173⟩ : DictEntry), (⟨PyData.keyHash P "__setitem__", .str "__setitem__" 569, .ref 180⟩ : DictEntry), (⟨PyData.keyHash P "__delitem__", .str "__delitem__" 575, .ref 185⟩ : DictEntry), (⟨PyData.keyHash P "__getitem__", .str "__getitem__" 583, .ref 192⟩ : DictEntry), (⟨PyData.keyHash P "__contains__", .str "__contains__" 591, .ref 199⟩ : DictEntry), (⟨PyData.keyHash P "get_all", .str "get_all" 597, .ref 204⟩ : DictEntry), (⟨PyData.keyHash P "get", .str "get" 608, .ref 212⟩ : DictEntry), (⟨PyData.keyHash P "keys", .str "keys" 614, .ref 217⟩ : DictEntry), (⟨PyData.keyHash P "values", .str "values" 620, .ref 222⟩ : DictEntry), (⟨PyData.keyHash P "items", .str "items" 627, .ref 229⟩ : DictEntry), (⟨PyData.keyHash P "__repr__", .str "__repr__" 634, .ref 236⟩ : DictEntry), (⟨PyData.keyHash P "__str__", .str "__str__" 640, .ref 241⟩ : DictEntry), (⟨PyData.keyHash P "__bytes__", .str "__bytes__" 647, .ref 248⟩ : DictEntry), (⟨PyData.keyHash P "setdefault", .str "setdefault" 656, .ref 255⟩ : DictEntry), (⟨PyData.keyHash P "add_header", .str "add_header" 669, .ref 262⟩ : DictEntry), (⟨PyData.keyHash P "__static_attributes__", .str "__static_attributes__" 671, .ref 263⟩ : DictEntry), (⟨PyData.keyHash P "__dict__", .str "__dict__" 673, .ref 266⟩ : DictEntry), (⟨PyData.keyHash P "__weakref__", .str "__weakref__" 675, .ref 267⟩ : DictEntry), (⟨PyData.keyHash P "__doc__", .str "__doc__" 676, .none⟩ : DictEntry)] 4) ::
(nat_lit 265, ⟨.type "type", none, .cls { name := "Headers", bases := [.type "object"], mro := [.ref 265, .type "object"], ns := 264, qualname := "Headers" }, #[.none, .none, .some (.str "Headers" 522), .some (.str "Headers" 530), .some (.builtin "object.__new__"), .some (.bool true)]⟩) ::
(nat_lit 266, ⟨.type "getset_descriptor", none, .fields #[.str "__dict__" 672, .ref 265, .builtin "function.__dict__", .builtin "function.__dict__#set"], #[]⟩) ::
(nat_lit 267, ⟨.type "getset_descriptor", none, .fields #[.str "__weakref__" 674, .ref 265, .builtin "ExceptionGroup.__weakref__", .none], #[]⟩) ::
(nat_lit 270, tu #[]) ::
(nat_lit 272, tu #[.str "text" 684, .str "_law_read_on" 685, .str "stream" 686]) ::
(nat_lit 273, tu #[.str "text" 687, .str "at" 688]) ::
(nat_lit 275, co "_law_machine" 681 "_law_machine" 682 683 218 1 0 0 3 270 276 271 272 273 274 689 218 690) ::
(nat_lit 276, fo (tp 18) "_law_machine" .none .none "law_sn0071_01" 679 275) ::
(nat_lit 277, tu #[]) ::
(nat_lit 280, ⟨.type "code", none, .fields #[.str "_law_cells" 692, .str "_law_cells" 693, .str "/claim/cut.py" 694, .int 228 0, .int 1 0, .int 0 0, .int 0 0, .int 3 0, .ref 277, .bool true, .int 276 0, .ref 278, .none, .none, .none, .ref 279, .int 695 0, .int 228 0, .str "/claim/cut.py" 696], #[]⟩) ::
(nat_lit 281, fo (tp 19) "_law_cells" .none .none "law_sn0071_01" 679 280) ::
(nat_lit 282, tu #[]) ::
(nat_lit 285, ⟨.type "code", none, .fields #[.str "_law_text" 698, .str "_law_text" 699, .str "/claim/cut.py" 700, .int 231 0, .int 2 0, .int 0 0, .int 0 0, .int 3 0, .ref 282, .bool true, .int 276 0, .ref 283, .none, .none, .none, .ref 284, .int 701 0, .int 231 0, .str "/claim/cut.py" 702], #[]⟩) ::
(nat_lit 286, fo (tp 20) "_law_text" .none .none "law_sn0071_01" 679 285) ::
(nat_lit 287, tu #[]) ::
(nat_lit 290, ⟨.type "code", none, .fields #[.str "_law_number" 704, .str "_law_number" 705, .str "/claim/cut.py" 706, .int 235 0, .int 1 0, .int 0 0, .int 0 0, .int 3 0, .ref 287, .bool true, .int 276 0, .ref 288, .none, .none, .none, .ref 289, .int 707 0, .int 235 0, .str "/claim/cut.py" 708], #[]⟩) ::
(nat_lit 291, fo (tp 21) "_law_number" .none .none "law_sn0071_01" 679 290) ::
(nat_lit 292, tu #[]) ::
(nat_lit 295, ⟨.type "code", none, .fields #[.str "_law_word" 710, .str "_law_word" 711, .str "/claim/cut.py" 712, .int 237 0, .int 1 0, .int 0 0, .int 0 0, .int 3 0, .ref 292, .bool true, .int 276 0, .ref 293, .none, .none, .none, .ref 294, .int 713 0, .int 237 0, .str "/claim/cut.py" 714], #[]⟩) ::
(nat_lit 296, fo (tp 22) "_law_word" .none .none "law_sn0071_01" 679 295) ::
(nat_lit 297, tu #[]) ::
(nat_lit 299, tu #[.str "word" 719, .str "table" 720, .str "row" 721, .str "stop" 722, .str "longest" 723, .str "begin" 724, .str "part" 725, .str "number" 726, .str "place" 727]) ::
(nat_lit 300, tu #[]) ::
(nat_lit 302, co "_law_stops" 716 "_law_stops" 717 718 239 1 0 0 3 297 276 298 299 300 301 728 239 729) ::
(nat_lit 303, fo (tp 23) "_law_stops" .none .none "law_sn0071_01" 679 302) ::
(nat_lit 304, tu #[]) ::
(nat_lit 307, ⟨.type "code", none, .fields #[.str "_law_taken_out" 731, .str "_law_taken_out" 732, .str "/claim/cut.py" 733, .int 255 0, .int 2 0, .int 0 0, .int 0 0, .int 3 0, .ref 304, .bool true, .int 276 0, .ref 305, .none, .none, .none, .ref 306, .int 734 0, .int 255 0, .str "/claim/cut.py" 735], #[]⟩) ::
(nat_lit 308, fo (tp 24) "_law_taken_out" .none .none "law_sn0071_01" 679 307) ::
(nat_lit 309, tu #[]) ::
(nat_lit 312, ⟨.type "code", none, .fields #[.str "_law_shared" 737, .str "_law_shared" 738, .str "/claim/cut.py" 739, .int 268 0, .int 1 0, .int 0 0, .int 0 0, .int 3 0, .ref 309, .bool true, .int 276 0, .ref 310, .none, .none, .none, .ref 311, .int 740 0, .int 268 0, .str "/claim/cut.py" 741], #[]⟩) ::
(nat_lit 313, fo (tp 25) "_law_shared" .none .none "law_sn0071_01" 679 312) ::
(nat_lit 314, tu #[]) ::
(nat_lit 316, tu #[.str "word" 746, .str "found" 747, .str "middle" 748, .str "left" 749, .str "right" 750]) ::
(nat_lit 317, tu #[]) ::
(nat_lit 319, co "_law_outward" 743 "_law_outward" 744 745 283 1 0 0 3 314 276 315 316 317 318 751 283 752) ::
(nat_lit 320, fo (tp 26) "_law_outward" .none .none "law_sn0071_01" 679 319) ::
(nat_lit 321, tu #[]) ::
(nat_lit 324, ⟨.type "code", none, .fields #[.str "law" 754, .str "law" 755, .str "/claim/cut.py" 756, .int 294 0, .int 1 0, .int 0 0, .int 0 0, .int 3 0, .ref 321, .bool true, .int 276 0, .ref 322, .none, .none, .none, .ref 323, .int 757 0, .int 294 0, .str "/claim/cut.py" 758], #[]⟩) ::
(nat_lit 325, fo (tp 27) "law" .none .none "law_sn0071_01" 679 324) :: []
noncomputable def hd.view : Program := { PySem.Challenge.pw_sn0071_01 with main := { PySem.Challenge.pw_sn0071_01.main with body := [0, 1, 3, 4, 10, 12, 13, 14, 16, 18, 19, 20, 21, 22, 23, 24, 25, 26, 27].filterMap fun i => PySem.Challenge.pw_sn0071_01.main.body[i]? } }
noncomputable def hd.loose : List Str := ["insort_right", "bisect_right", "bisect_left", "tspecials", "_name_disallowed_re", "_value_disallowed_re", "_formatparam"]
noncomputable def hd.ads : List Addr := [2, 3, 32, 34, 35, 37, 38, 39, 41, 42, 44, 45, 46, 48, 49, 51, 52, 53, 54, 55, 57, 58, 60, 61, 62, 63, 64, 66, 67, 69, 70, 71, 72, 73, 75, 76, 78, 79, 87, 89, 90, 92, 93, 94, 96, 97, 99, 100, 101, 103, 104, 106, 107, 108, 110, 111, 113, 114, 115, 116, 117, 118, 119, 125, 126, 130, 131, 135, 136, 137, 138, 140, 141, 143, 144, 152, 153, 155, 156, 158, 159, 160, 162, 163, 165, 166, 167, 169, 170, 172, 173, 174, 176, 177, 179, 180, 181, 184, 185, 186, 188, 189, 191, 192, 193, 195, 196, 198, 199, 200, 203, 204, 205, 206, 208, 209, 211, 212, 213, 216, 217, 218, 221, 222, 223, 225, 226, 228, 229, 230, 232, 233, 235, 236, 237, 240, 241, 242, 244, 245, 247, 248, 249, 251, 252, 254, 255, 256, 258, 259, 261, 262, 263, 264, 265, 266, 267, 270, 272, 273, 275, 276, 277, 280, 281, 282, 285, 286, 287, 290, 291, 292, 295, 296, 297, 299, 300, 302, 303, 304, 307, 308, 309, 312, 313, 314, 316, 317, 319, 320, 321, 324, 325]
theorem hd.ads_eq : ∀ P, hd.ads = (hd.heap_39 P).map (·.1) := fun _ => by kernel_rfl
noncomputable def hd.hook : Hook := kmHook hd.heap_39 hd.ads hd.ads_eq [47, 40, 271]
noncomputable def hd.look (s : Shared) : Bool := xlAt hd.view [] s && recOk (RowW.records PySem.Challenge.rw_sn0071_01.row.toRowW) s
theorem hd.said : PySem.Challenge.rw_sn0071_01.wellSaid = true := by
  rw [PySem.W.Fast.te9446332074065402090]
  refine look_both (look_both (look_both (look_both (look_both (look_both (look_both (look_both (look_both (look_both (look_both (look_both (look_both (look_both (look_both (look_both (look_both (look_both (look_both ?a ?_) ?_) ?_) ?_) ?_) ?_) ?_) ?_) ?_) ?_) ?_) ?_) ?_) ?_) ?_) ?_) ?_) ?_) ?_
  case a =>
    refine look_both (look_both ?b ?_) ?_
    case b =>
      refine look_both (look_both (look_both (look_both (look_both (look_both (look_both (look_both (look_both (look_both (look_both (look_both (look_both ?c ?_) ?_) ?_) ?_) ?_) ?_) ?_) ?_) ?_) ?_) ?_) ?_) ?_
      case c =>
        refine look_both (look_both (look_both (look_both (look_both ?_ ?_) ?_) ?_) ?_) ?_
        all_goals decide +kernel
      all_goals decide +kernel
    all_goals decide +kernel
  all_goals decide +kernel
noncomputable def hd.de (P : Params) (k : Str) (t : Nat) (v : Value) : DictEntry := ⟨PyData.keyHash P k, .str k t, v⟩
noncomputable def hd.nf (l : Array Value) : Obj := ⟨.none, none, .fields l, #[]⟩
noncomputable def hd.fq (s : Stmt) (qual : Str) : Obj := match s with
  | .FunctionDef name args body _ _ _ scope .. => ⟨.none, none, .func { name := name, qualname := qual, params := args, body := .stmts body, scope := scope, globals := 0, closure := [], defaults := .none, kwdefaults := .none }, #[]⟩
  | _ => ⟨.none, none, .plain, #[]⟩
noncomputable def hd.rest (P : Params) : List Obj := [
di #[hd.de P "__name__" 1 (.str "builtins" 160),hd.de P "__doc__" 2 (.builtin "builtins.__doc__:str#opaque"),hd.de P "__package__" 3 (.builtin "builtins.__package__:str#opaque"),hd.de P "__loader__" 4 (.builtin "builtins.__loader__:shared#opaque"),hd.de P "__spec__" 5 (.builtin "builtins.__spec__#opaque"),hd.de P "__build_class__" 6 (.builtin "__build_class__"),hd.de P "__import__" 7 (.builtin "__import__"),hd.de P "abs" 8 (.builtin "abs"),hd.de P "all" 9 (.builtin "all"),hd.de P "any" 10 (.builtin "any"),hd.de P "ascii" 11 (.builtin "ascii"),hd.de P "bin" 12 (.builtin "bin"),hd.de P "breakpoint" 13 (.builtin "breakpoint"),hd.de P "callable" 14 (.builtin "callable"),hd.de P "chr" 15 (.builtin "chr"),hd.de P "compile" 16 (.builtin "compile"),hd.de P "delattr" 17 (.builtin "delattr"),hd.de P "dir" 18 (.builtin "dir"),hd.de P "divmod" 19 (.builtin "divmod"),hd.de P "eval" 20 (.builtin "eval"),hd.de P "exec" 21 (.builtin "exec"),hd.de P "format" 22 (.builtin "format"),hd.de P "getattr" 23 (.builtin "getattr"),hd.de P "globals" 24 (.builtin "globals"),hd.de P "hasattr" 25 (.builtin "hasattr"),hd.de P "hash" 26 (.builtin "hash"),hd.de P "hex" 27 (.builtin "hex"),hd.de P "id" 28 (.builtin "id"),hd.de P "input" 29 (.builtin "input"),hd.de P "isinstance" 30 (.builtin "isinstance"),hd.de P "issubclass" 31 (.builtin "issubclass"),hd.de P "iter" 32 (.builtin "iter"),hd.de P "aiter" 33 (.builtin "aiter"),hd.de P "len" 34 (.builtin "len"),hd.de P "locals" 35 (.builtin "locals"),hd.de P "max" 36 (.builtin "max"),hd.de P "min" 37 (.builtin "min"),hd.de P "next" 38 (.builtin "next"),hd.de P "anext" 39 (.builtin "anext"),hd.de P "oct" 40 (.builtin "oct"),hd.de P "ord" 41 (.builtin "ord"),hd.de P "pow" 42 (.builtin "pow"),hd.de P "print" 43 (.builtin "print"),hd.de P "repr" 44 (.builtin "repr"),hd.de P "round" 45 (.builtin "round"),hd.de P "setattr" 46 (.builtin "setattr"),hd.de P "sorted" 47 (.builtin "sorted"),hd.de P "sum" 48 (.builtin "sum"),hd.de P "vars" 49 (.builtin "vars"),hd.de P "None" 50 .none,hd.de P "Ellipsis" 51 .ellipsis,hd.de P "NotImplemented" 52 .notImplemented,hd.de P "False" 53 (.bool false),hd.de P "True" 54 (.bool true),hd.de P "bool" 55 (.type "bool"),hd.de P "memoryview" 56 (.type "memoryview"),hd.de P "bytearray" 57 (.type "bytearray"),hd.de P "bytes" 58 (.type "bytes"),hd.de P "classmethod" 59 (.type "classmethod"),hd.de P "complex" 60 (.type "complex"),hd.de P "dict" 61 (.type "dict"),hd.de P "enumerate" 62 (.type "enumerate"),hd.de P "filter" 63 (.type "filter"),hd.de P "float" 64 (.type "float"),hd.de P "frozenset" 65 (.type "frozenset"),hd.de P "property" 66 (.type "property"),hd.de P "int" 67 (.type "int"),hd.de P "list" 68 (.type "list"),hd.de P "map" 69 (.type "map"),hd.de P "object" 70 (.type "object"),hd.de P "range" 71 (.type "range"),hd.de P "reversed" 72 (.type "reversed"),hd.de P "set" 73 (.type "set"),hd.de P "slice" 74 (.type "slice"),hd.de P "staticmethod" 75 (.type "staticmethod"),hd.de P "str" 76 (.type "str"),hd.de P "super" 77 (.type "super"),hd.de P "tuple" 78 (.type "tuple"),hd.de P "type" 79 (.type "type"),hd.de P "zip" 80 (.type "zip"),hd.de P "__debug__" 81 (.bool true),hd.de P "BaseException" 82 (.type "BaseException"),hd.de P "BaseExceptionGroup" 83 (.type "BaseExceptionGroup"),hd.de P "Exception" 84 (.type "Exception"),hd.de P "GeneratorExit" 85 (.type "GeneratorExit"),hd.de P "KeyboardInterrupt" 86 (.type "KeyboardInterrupt"),hd.de P "SystemExit" 87 (.type "SystemExit"),hd.de P "ArithmeticError" 88 (.type "ArithmeticError"),hd.de P "AssertionError" 89 (.type "AssertionError"),hd.de P "AttributeError" 90 (.type "AttributeError"),hd.de P "BufferError" 91 (.type "BufferError"),hd.de P "EOFError" 92 (.type "EOFError"),hd.de P "ImportError" 93 (.type "ImportError"),hd.de P "LookupError" 94 (.type "LookupError"),hd.de P "MemoryError" 95 (.type "MemoryError"),hd.de P "NameError" 96 (.type "NameError"),hd.de P "OSError" 97 (.type "OSError"),hd.de P "ReferenceError" 98 (.type "ReferenceError"),hd.de P "RuntimeError" 99 (.type "RuntimeError"),hd.de P "StopAsyncIteration" 100 (.type "StopAsyncIteration"),hd.de P "StopIteration" 101 (.type "StopIteration"),hd.de P "SyntaxError" 102 (.type "SyntaxError"),hd.de P "SystemError" 103 (.type "SystemError"),hd.de P "TypeError" 104 (.type "TypeError"),hd.de P "ValueError" 105 (.type "ValueError"),hd.de P "Warning" 106 (.type "Warning"),hd.de P "FloatingPointError" 107 (.type "FloatingPointError"),hd.de P "OverflowError" 108 (.type "OverflowError"),hd.de P "ZeroDivisionError" 109 (.type "ZeroDivisionError"),hd.de P "BytesWarning" 110 (.type "BytesWarning"),hd.de P "DeprecationWarning" 111 (.type "DeprecationWarning"),hd.de P "EncodingWarning" 112 (.type "EncodingWarning"),hd.de P "FutureWarning" 113 (.type "FutureWarning"),hd.de P "ImportWarning" 114 (.type "ImportWarning"),hd.de P "PendingDeprecationWarning" 115 (.type "PendingDeprecationWarning"),hd.de P "ResourceWarning" 116 (.type "ResourceWarning"),hd.de P "RuntimeWarning" 117 (.type "RuntimeWarning"),hd.de P "SyntaxWarning" 118 (.type "SyntaxWarning"),hd.de P "UnicodeWarning" 119 (.type "UnicodeWarning"),hd.de P "UserWarning" 120 (.type "UserWarning"),hd.de P "BlockingIOError" 121 (.type "BlockingIOError"),hd.de P "ChildProcessError" 122 (.type "ChildProcessError"),hd.de P "ConnectionError" 123 (.type "ConnectionError"),hd.de P "FileExistsError" 124 (.type "FileExistsError"),hd.de P "FileNotFoundError" 125 (.type "FileNotFoundError"),hd.de P "InterruptedError" 126 (.type "InterruptedError"),hd.de P "IsADirectoryError" 127 (.type "IsADirectoryError"),hd.de P "NotADirectoryError" 128 (.type "NotADirectoryError"),hd.de P "PermissionError" 129 (.type "PermissionError"),hd.de P "ProcessLookupError" 130 (.type "ProcessLookupError"),hd.de P "TimeoutError" 131 (.type "TimeoutError"),hd.de P "IndentationError" 132 (.type "IndentationError"),hd.de P "_IncompleteInputError" 133 (.type "_IncompleteInputError"),hd.de P "IndexError" 134 (.type "IndexError"),hd.de P "KeyError" 135 (.type "KeyError"),hd.de P "ModuleNotFoundError" 136 (.type "ModuleNotFoundError"),hd.de P "NotImplementedError" 137 (.type "NotImplementedError"),hd.de P "PythonFinalizationError" 138 (.type "PythonFinalizationError"),hd.de P "RecursionError" 139 (.type "RecursionError"),hd.de P "UnboundLocalError" 140 (.type "UnboundLocalError"),hd.de P "UnicodeError" 141 (.type "UnicodeError"),hd.de P "BrokenPipeError" 142 (.type "BrokenPipeError"),hd.de P "ConnectionAbortedError" 143 (.type "ConnectionAbortedError"),hd.de P "ConnectionRefusedError" 144 (.type "ConnectionRefusedError"),hd.de P "ConnectionResetError" 145 (.type "ConnectionResetError"),hd.de P "TabError" 146 (.type "TabError"),hd.de P "UnicodeDecodeError" 147 (.type "UnicodeDecodeError"),hd.de P "UnicodeEncodeError" 148 (.type "UnicodeEncodeError"),hd.de P "UnicodeTranslateError" 149 (.type "UnicodeTranslateError"),hd.de P "ExceptionGroup" 150 (.type "ExceptionGroup"),hd.de P "EnvironmentError" 151 (.type "OSError"),hd.de P "IOError" 152 (.type "OSError"),hd.de P "open" 153 (.builtin "open"),hd.de P "quit" 154 (.builtin "builtins.quit#opaque"),hd.de P "exit" 155 (.builtin "builtins.exit#opaque"),hd.de P "copyright" 156 (.builtin "builtins.copyright#opaque"),hd.de P "credits" 157 (.builtin "builtins.credits#opaque"),hd.de P "license" 158 (.builtin "builtins.license#opaque"),hd.de P "help" 159 (.builtin "builtins.help#opaque")] 159,
di #[hd.de P "builtins" 162 (.ref 4),hd.de P "__main__" 163 (.ref 5),hd.de P "_sre" 244 (.ref 12)] 3,
⟨(.type "module"),(some 0),.plain,#[]⟩,
⟨(.type "module"),(some 3),.plain,#[]⟩,
di #[] 0,
tu #[],
hd.nf #[],
⟨(.type "code"),none,(.fields #[(.str "<module>" 176),(.str "<module>" 177),(.str "/claim/cut.py" 178),(.int 1 0),(.int 0 0),(.int 0 0),(.int 0 0),(.int 0 0),(.ref 7),(.bool false),(.int 175 0),(.ref 8),.none,.none,.none,.none,(.int 179 0),(.int 1 0),(.str "/claim/cut.py" 180)]),#[]⟩,
⟨(.type "frame"),none,.plain,#[(some (.ref 9)),(some (.ref 3)),(some (.ref 3)),none,(some (.str "__main__" 164)),none,(some (.ref 0))]⟩,
di #[hd.de P "__name__" 247 (.str "_sre" 246),hd.de P "__doc__" 248 .none,hd.de P "__package__" 250 (.str "" 249),hd.de P "__loader__" 251 (.builtin "off-the-table:_sre.__loader__:shared#opaque"),hd.de P "__spec__" 252 (.builtin "off-the-table:_sre.__spec__:shared#opaque"),hd.de P "compile" 253 (.builtin "_sre.compile"),hd.de P "template" 254 (.builtin "off-the-table:_sre.template:shared#opaque"),hd.de P "getcodesize" 255 (.builtin "off-the-table:_sre.getcodesize:shared#opaque"),hd.de P "ascii_iscased" 256 (.builtin "off-the-table:_sre.ascii_iscased:shared#opaque"),hd.de P "unicode_iscased" 257 (.builtin "off-the-table:_sre.unicode_iscased:shared#opaque"),hd.de P "ascii_tolower" 258 (.builtin "off-the-table:_sre.ascii_tolower:shared#opaque"),hd.de P "unicode_tolower" 259 (.builtin "off-the-table:_sre.unicode_tolower:shared#opaque"),hd.de P "MAGIC" 261 (.int 20230612 260),hd.de P "CODESIZE" 263 (.int 4 262),hd.de P "MAXREPEAT" 265 (.int 4294967295 264),hd.de P "MAXGROUPS" 267 (.int 1073741823 266),hd.de P "copyright" 269 (.str ⟨#[32,83,82,69,32,50,46,50,46,50,32,67,111,112,121,114,105,103,104,116,32,40,99,41,32,49,57,57,55,45,50,48,48,50,32,98,121,32,83,101,99,114,101,116,32,76,97,98,115,32,65,66,32]⟩ 268)] 17,
⟨(.type "module"),(some 11),.plain,#[]⟩,
di #[hd.de P "__module__" 189 (.str "_frozen_importlib" 186),hd.de P "__firstlineno__" 190 (.int 971 187),hd.de P "__doc__" 191 (.builtin "_frozen_importlib.BuiltinImporter.__doc__:str#opaque"),hd.de P "_ORIGIN" 192 (.str "built-in" 188),hd.de P "find_spec" 193 (.builtin "_frozen_importlib.BuiltinImporter.find_spec#opaque"),hd.de P "create_module" 194 (.builtin "_frozen_importlib.BuiltinImporter.create_module#opaque"),hd.de P "exec_module" 195 (.builtin "_frozen_importlib.BuiltinImporter.exec_module#opaque"),hd.de P "get_code" 196 (.builtin "_frozen_importlib.BuiltinImporter.get_code#opaque"),hd.de P "get_source" 197 (.builtin "_frozen_importlib.BuiltinImporter.get_source#opaque"),hd.de P "is_package" 198 (.builtin "_frozen_importlib.BuiltinImporter.is_package#opaque"),hd.de P "load_module" 199 (.builtin "_frozen_importlib.BuiltinImporter.load_module#opaque"),hd.de P "__static_attributes__" 200 (.ref 15),hd.de P "__dict__" 202 (.ref 16),hd.de P "__weakref__" 204 (.ref 17)] 14,
⟨(.type "type"),none,(.cls ⟨"BuiltinImporter",[(.type "object")],[(.ref 14),(.type "object")],13,"BuiltinImporter",true,[],[],false,none,false⟩),#[]⟩,
tu #[],
⟨(.type "getset_descriptor"),none,(.fields #[(.str "__dict__" 201),(.ref 14),(.builtin "function.__dict__"),(.builtin "function.__dict__#set")]),#[]⟩,
⟨(.type "getset_descriptor"),none,(.fields #[(.str "__weakref__" 203),(.ref 14),(.builtin "ExceptionGroup.__weakref__"),.none]),#[]⟩,
⟨.none,none,(.seq #[(.int 13 0),(.str ⟨#[6,189,10,95,95,109,111,100,117,108,101,95,95,6,186,17,95,102,114,111,122,101,110,95,105,109,112,111,114,116,108,105,98,6,190,15,95,95,102,105,114,115,116,108,105,110,101,110,111,95,95,4,187,0,971,6,191,7,95,95,100,111,99,95,95,9,52,95,102,114,111,122,101,110,95,105,109,112,111,114,116,108,105,98,46,66,117,105,108,116,105,110,73,109,112,111,114,116,101,114,46,95,95,100,111,99,95,95,58,115,116,114,35,111,112,97,113,117,101,6,192,7,95,79,82,73,71,73,78,6,188,8,98,117,105,108,116,45,105,110,6,193,9,102,105,110,100,95,115,112,101,99,9,50,95,102,114,111,122,101,110,95,105,109,112,111,114,116,108,105,98,46,66,117,105,108,116,105,110,73,109,112,111,114,116,101,114,46,102,105,110,100,95,115,112,101,99,35,111,112,97,113,117,101,6,194,13,99,114,101,97,116,101,95,109,111,100,117,108,101,9,54,95,102,114,111,122,101,110,95,105,109,112,111,114,116,108,105,98,46,66,117,105,108,116,105,110,73,109,112,111,114,116,101,114,46,99,114,101,97,116,101,95,109,111,100,117,108,101,35,111,112,97,113,117,101,6,195,11,101,120,101,99,95,109,111,100,117,108,101,9,52,95,102,114,111,122,101,110,95,105,109,112,111,114,116,108,105,98,46,66,117,105,108,116,105,110,73,109,112,111,114,116,101,114,46,101,120,101,99,95,109,111,100,117,108,101,35,111,112,97,113,117,101,6,196,8,103,101,116,95,99,111,100,101,9,49,95,102,114,111,122,101,110,95,105,109,112,111,114,116,108,105,98,46,66,117,105,108,116,105,110,73,109,112,111,114,116,101,114,46,103,101,116,95,99,111,100,101,35,111,112,97,113,117,101,6,197,10,103,101,116,95,115,111,117,114,99,101,9,51,95,102,114,111,122,101,110,95,105,109,112,111,114,116,108,105,98,46,66,117,105,108,116,105,110,73,109,112,111,114,116,101,114,46,103,101,116,95,115,111,117,114,99,101,35,111,112,97,113,117,101,6,198,10,105,115,95,112,97,99,107,97,103,101,9,51,95,102,114,111,122,101,110,95,105,109,112,111,114,116,108,105,98,46,66,117,105,108,116,105,110,73,109,112,111,114,116,101,114,46,105,115,95,112,97,99,107,97,103,101,35,111,112,97,113,117,101,6,199,11,108,111,97,100,95,109,111,100,117,108,101,9,52,95,102,114,111,122,101,110,95,105,109,112,111,114,116,108,105,98,46,66,117,105,108,116,105,110,73,109,112,111,114,116,101,114,46,108,111,97,100,95,109,111,100,117,108,101,35,111,112,97,113,117,101,6,200,21,95,95,115,116,97,116,105,99,95,97,116,116,114,105,98,117,116,101,115,95,95,4,0,0,15,6,202,8,95,95,100,105,99,116,95,95,4,0,0,16,6,204,11,95,95,119,101,97,107,114,101,102,95,95,4,0,0,17]⟩ 0),(.bool true),(.bool true),(.str "" 205),(.int 21 0),(.str ⟨#[6,227,10,95,95,109,111,100,117,108,101,95,95,6,217,17,95,102,114,111,122,101,110,95,105,109,112,111,114,116,108,105,98,6,228,15,95,95,102,105,114,115,116,108,105,110,101,110,111,95,95,4,218,0,562,6,229,7,95,95,100,111,99,95,95,9,47,95,102,114,111,122,101,110,95,105,109,112,111,114,116,108,105,98,46,77,111,100,117,108,101,83,112,101,99,46,95,95,100,111,99,95,95,58,115,116,114,35,111,112,97,113,117,101,6,230,8,95,95,105,110,105,116,95,95,9,44,95,102,114,111,122,101,110,95,105,109,112,111,114,116,108,105,98,46,77,111,100,117,108,101,83,112,101,99,46,95,95,105,110,105,116,95,95,35,111,112,97,113,117,101,6,231,8,95,95,114,101,112,114,95,95,9,44,95,102,114,111,122,101,110,95,105,109,112,111,114,116,108,105,98,46,77,111,100,117,108,101,83,112,101,99,46,95,95,114,101,112,114,95,95,35,111,112,97,113,117,101,6,232,6,95,95,101,113,95,95,9,42,95,102,114,111,122,101,110,95,105,109,112,111,114,116,108,105,98,46,77,111,100,117,108,101,83,112,101,99,46,95,95,101,113,95,95,35,111,112,97,113,117,101,6,233,6,99,97,99,104,101,100,9,42,95,102,114,111,122,101,110,95,105,109,112,111,114,116,108,105,98,46,77,111,100,117,108,101,83,112,101,99,46,99,97,99,104,101,100,35,111,112,97,113,117,101,6,234,6,112,97,114,101,110,116,9,42,95,102,114,111,122,101,110,95,105,109,112,111,114,116,108,105,98,46,77,111,100,117,108,101,83,112,101,99,46,112,97,114,101,110,116,35,111,112,97,113,117,101,6,235,12,104,97,115,95,108,111,99,97,116,105,111,110,9,48,95,102,114,111,122,101,110,95,105,109,112,111,114,116,108,105,98,46,77,111,100,117,108,101,83,112,101,99,46,104,97,115,95,108,111,99,97,116,105,111,110,35,111,112,97,113,117,101,6,236,21,95,95,115,116,97,116,105,99,95,97,116,116,114,105,98,117,116,101,115,95,95,4,0,0,23,6,238,8,95,95,100,105,99,116,95,95,4,0,0,24,6,240,11,95,95,119,101,97,107,114,101,102,95,95,4,0,0,25,6,241,8,95,95,104,97,115,104,95,95,0]⟩ 0),(.bool true),(.bool true),(.str "" 242)] 1),#[]⟩,
⟨(.type "list"),none,(.seq #[] 0),#[]⟩,
di #[hd.de P "name" 208 (.str "_sre" 207),hd.de P "loader" 209 (.ref 14),hd.de P "origin" 210 (.str "built-in" 184),hd.de P "loader_state" 211 .none,hd.de P "submodule_search_locations" 212 .none,hd.de P "_uninitialized_submodules" 213 (.ref 19),hd.de P "_set_fileattr" 214 (.bool false),hd.de P "_cached" 215 .none,hd.de P "_initializing" 243 (.bool false)] 9,
di #[hd.de P "__module__" 227 (.str "_frozen_importlib" 217),hd.de P "__firstlineno__" 228 (.int 562 218),hd.de P "__doc__" 229 (.builtin "_frozen_importlib.ModuleSpec.__doc__:str#opaque"),hd.de P "__init__" 230 (.builtin "_frozen_importlib.ModuleSpec.__init__#opaque"),hd.de P "__repr__" 231 (.builtin "_frozen_importlib.ModuleSpec.__repr__#opaque"),hd.de P "__eq__" 232 (.builtin "_frozen_importlib.ModuleSpec.__eq__#opaque"),hd.de P "cached" 233 (.builtin "_frozen_importlib.ModuleSpec.cached#opaque"),hd.de P "parent" 234 (.builtin "_frozen_importlib.ModuleSpec.parent#opaque"),hd.de P "has_location" 235 (.builtin "_frozen_importlib.ModuleSpec.has_location#opaque"),hd.de P "__static_attributes__" 236 (.ref 23),hd.de P "__dict__" 238 (.ref 24),hd.de P "__weakref__" 240 (.ref 25),hd.de P "__hash__" 241 .none] 13,
⟨(.type "type"),none,(.cls ⟨"ModuleSpec",[(.type "object")],[(.ref 22),(.type "object")],21,"ModuleSpec",true,[],[],false,none,false⟩),#[]⟩,
tu #[(.str "_cached" 219),(.str "_set_fileattr" 220),(.str "_uninitialized_submodules" 221),(.str "loader" 222),(.str "loader_state" 223),(.str "name" 224),(.str "origin" 225),(.str "submodule_search_locations" 226)],
⟨(.type "getset_descriptor"),none,(.fields #[(.str "__dict__" 237),(.ref 22),(.builtin "function.__dict__"),(.builtin "function.__dict__#set")]),#[]⟩,
⟨(.type "getset_descriptor"),none,(.fields #[(.str "__weakref__" 239),(.ref 22),(.builtin "ExceptionGroup.__weakref__"),.none]),#[]⟩,
⟨(.ref 22),(some 20),.plain,#[]⟩,
⟨.none,none,(.seq #[(.int 11 0),(.str ⟨#[6,247,8,95,95,110,97,109,101,95,95,6,246,4,95,115,114,101,6,248,7,95,95,100,111,99,95,95,0,6,250,11,95,95,112,97,99,107,97,103,101,95,95,6,249,0,6,251,10,95,95,108,111,97,100,101,114,95,95,4,0,0,14,6,252,8,95,95,115,112,101,99,95,95,4,0,0,26,6,253,7,99,111,109,112,105,108,101,9,12,95,115,114,101,46,99,111,109,112,105,108,101,6,254,8,116,101,109,112,108,97,116,101,9,13,95,115,114,101,46,116,101,109,112,108,97,116,101,6,255,11,103,101,116,99,111,100,101,115,105,122,101,9,16,95,115,114,101,46,103,101,116,99,111,100,101,115,105,122,101,6,256,13,97,115,99,105,105,95,105,115,99,97,115,101,100,9,18,95,115,114,101,46,97,115,99,105,105,95,105,115,99,97,115,101,100,6,257,15,117,110,105,99,111,100,101,95,105,115,99,97,115,101,100,9,20,95,115,114,101,46,117,110,105,99,111,100,101,95,105,115,99,97,115,101,100,6,258,13,97,115,99,105,105,95,116,111,108,111,119,101,114,9,18,95,115,114,101,46,97,115,99,105,105,95,116,111,108,111,119,101,114,6,259,15,117,110,105,99,111,100,101,95,116,111,108,111,119,101,114,9,20,95,115,114,101,46,117,110,105,99,111,100,101,95,116,111,108,111,119,101,114,6,261,5,77,65,71,73,67,4,260,0,20230612,6,263,8,67,79,68,69,83,73,90,69,4,262,0,4,6,265,9,77,65,88,82,69,80,69,65,84,4,264,0,4294967295,6,267,9,77,65,88,71,82,79,85,80,83,4,266,0,1073741823,6,269,9,99,111,112,121,114,105,103,104,116,6,268,53,32,83,82,69,32,50,46,50,46,50,32,67,111,112,121,114,105,103,104,116,32,40,99,41,32,49,57,57,55,45,50,48,48,50,32,98,121,32,83,101,99,114,101,116,32,76,97,98,115,32,65,66,32]⟩ 0),(.bool true),(.bool false),(.str "_sre" 271)] 0),#[]⟩,
tu #[],
hd.nf #[(.int 2 0),(.int 0 0),(.ref 37),(.int 6 0),(.int 0 0),(.ref 44),(.int 22 0),(.int 0 0),(.ref 51),(.int 32 0),(.int 0 0),(.ref 60),(.int 38 0),(.int 0 0),(.ref 69),(.int 58 0),(.int 0 0),(.ref 78),(.int 79 0),(.int 0 0),(.ref 85),(.int 126 0),(.int 0 0),(.ref 143),(.int 135 0),(.int 0 0),(.ref 150),(.int 218 0),(.int 0 0),(.ref 275),(.int 228 0),(.int 0 0),(.ref 280),(.int 231 0),(.int 0 0),(.ref 285),(.int 235 0),(.int 0 0),(.ref 290),(.int 237 0),(.int 0 0),(.ref 295),(.int 239 0),(.int 0 0),(.ref 302),(.int 255 0),(.int 0 0),(.ref 307),(.int 268 0),(.int 0 0),(.ref 312),(.int 283 0),(.int 0 0),(.ref 319),(.int 294 0),(.int 0 0),(.ref 324)],
⟨(.type "code"),none,(.fields #[(.str "<module>" 277),(.str "<module>" 278),(.str "/claim/cut.py" 279),(.int 1 0),(.int 0 0),(.int 0 0),(.int 0 0),(.int 0 0),(.ref 28),(.bool false),(.int 276 0),(.ref 29),.none,.none,.none,.none,(.int 280 0),(.int 1 0),(.str "/claim/cut.py" 281)]),#[]⟩,
⟨(.type "frame"),none,.plain,#[(some (.ref 30)),(some (.ref 3)),(some (.ref 3)),none,(some (.str "__main__" 164)),none,(some (.ref 0))]⟩,
hd.nf #[],
hd.fq (tp 1) "_wall",
hd.nf #[],
hd.fq (tp 3) "_int2digits",
hd.nf #[],
hd.fq (tp 4) "_digits2int",
hd.nf #[],
hd.fq (tp 6) "insort_right",
hd.nf #[],
hd.fq (tp 7) "bisect_right",
hd.nf #[],
hd.fq (tp 8) "bisect_left",
tu #[],
⟨(.type "builtin_function_or_method"),none,(.fields #[(.builtin "type.__prepare__"),(.type "type")]),#[]⟩,
di #[hd.de P "__module__" 365 (.str "cpy313.netrc" 356),hd.de P "__qualname__" 367 (.str "_netrclex" 366),hd.de P "__firstlineno__" 369 (.int 79 368),hd.de P "__init__" 377 (.ref 93),hd.de P "_read_char" 385 (.ref 100),hd.de P "get_token" 395 (.ref 107),hd.de P "push_token" 403 (.ref 114),hd.de P "__static_attributes__" 408 (.ref 115)] 8,
tu #[],
hd.nf #[(.int 81 0),(.int 4 0),(.ref 92),(.int 87 0),(.int 4 0),(.ref 99),(.int 93 0),(.int 4 0),(.ref 106),(.int 120 0),(.int 4 0),(.ref 113)],
⟨(.type "code"),none,(.fields #[(.str "_netrclex" 360),(.str "_netrclex" 361),(.str "/claim/cut.py" 362),(.int 79 0),(.int 0 0),(.int 0 0),(.int 0 0),(.int 0 0),(.ref 83),(.bool false),(.int 276 0),(.ref 84),.none,.none,.none,.none,(.int 363 0),(.int 79 0),(.str "/claim/cut.py" 364)]),#[]⟩,
⟨(.type "frame"),none,.plain,#[(some (.ref 85)),(some (.ref 3)),(some (.ref 82)),none,(some (.str "cpy313.netrc" 356)),none,(some (.ref 0))]⟩,
hd.nf #[],
hd.fq (tm 10 0) "_netrclex.__init__",
hd.nf #[],
hd.fq (tm 10 1) "_netrclex._read_char",
hd.nf #[],
hd.fq (tm 10 2) "_netrclex.get_token",
hd.nf #[],
hd.fq (tm 10 3) "_netrclex.push_token",
⟨(.type "super"),none,(.fields #[(.ref 117),(.ref 117),(.ref 117)]),#[]⟩,
⟨(.type "builtin_function_or_method"),none,(.fields #[(.builtin "object.__init_subclass__"),(.ref 117)]),#[]⟩,
⟨(.type "list"),none,(.seq #[(.int 14 421),(.int 14 422),(.int 4 423),(.int 1 424),(.int 1 425),(.int 9 426),(.int 0 427),(.int 4227896069 428),(.int 939524097 429),(.int 0 430),(.int 0 431),(.int 0 432),(.int 0 433),(.int 0 434),(.int 0 435),(.int 13 436),(.int 11 437),(.int 9 438),(.int 0 439),(.int 4227896069 440),(.int 939524097 441),(.int 0 442),(.int 0 443),(.int 0 444),(.int 0 445),(.int 0 446),(.int 0 447),(.int 1 448)] 0),#[]⟩,
di #[] 0,
tu #[.none],
⟨(.type "list"),none,(.seq #[(.int 14 455),(.int 10 456),(.int 4 457),(.int 1 458),(.int 1 459),(.int 22 460),(.int 0 461),(.int 31 462),(.int 16 463),(.int 127 464),(.int 0 465),(.int 13 466),(.int 7 467),(.int 22 468),(.int 0 469),(.int 31 470),(.int 16 471),(.int 127 472),(.int 0 473),(.int 1 474)] 0),#[]⟩,
di #[] 0,
tu #[.none],
⟨(.type "list"),none,(.seq #[(.int 14 481),(.int 14 482),(.int 4 483),(.int 1 484),(.int 1 485),(.int 9 486),(.int 4294966783 487),(.int 0 488),(.int 0 489),(.int 2147483648 490),(.int 0 491),(.int 0 492),(.int 0 493),(.int 0 494),(.int 0 495),(.int 13 496),(.int 11 497),(.int 9 498),(.int 4294966783 499),(.int 0 500),(.int 0 501),(.int 2147483648 502),(.int 0 503),(.int 0 504),(.int 0 505),(.int 0 506),(.int 0 507),(.int 1 508)] 0),#[]⟩,
di #[] 0,
tu #[.none],
hd.nf #[],
hd.fq (tp 15) "_formatparam",
tu #[],
⟨(.type "builtin_function_or_method"),none,(.fields #[(.builtin "type.__prepare__"),(.type "type")]),#[]⟩,
di #[hd.de P "__module__" 529 (.str "cpy313.wsgiref.headers" 416),hd.de P "__qualname__" 531 (.str "Headers" 530),hd.de P "__firstlineno__" 533 (.int 135 532),hd.de P "__init__" 543 (.ref 159),hd.de P "_convert_string_type" 553 (.ref 166),hd.de P "__len__" 560 (.ref 173),hd.de P "__setitem__" 569 (.ref 180),hd.de P "__delitem__" 575 (.ref 185),hd.de P "__getitem__" 583 (.ref 192),hd.de P "__contains__" 591 (.ref 199),hd.de P "get_all" 597 (.ref 204),hd.de P "get" 608 (.ref 212),hd.de P "keys" 614 (.ref 217),hd.de P "values" 620 (.ref 222),hd.de P "items" 627 (.ref 229),hd.de P "__repr__" 634 (.ref 236),hd.de P "__str__" 640 (.ref 241),hd.de P "__bytes__" 647 (.ref 248),hd.de P "setdefault" 656 (.ref 255),hd.de P "add_header" 669 (.ref 262),hd.de P "__static_attributes__" 671 (.ref 263)] 21,
tu #[],
hd.nf #[(.int 137 0),(.int 4 0),(.ref 158),(.int 147 0),(.int 4 0),(.ref 165),(.int 155 0),(.int 4 0),(.ref 172),(.int 158 0),(.int 4 0),(.ref 179),(.int 162 0),(.int 4 0),(.ref 184),(.int 166 0),(.int 4 0),(.ref 191),(.int 169 0),(.int 4 0),(.ref 198),(.int 172 0),(.int 4 0),(.ref 203),(.int 176 0),(.int 4 0),(.ref 211),(.int 183 0),(.int 4 0),(.ref 216),(.int 186 0),(.int 4 0),(.ref 221),(.int 189 0),(.int 4 0),(.ref 228),(.int 192 0),(.int 4 0),(.ref 235),(.int 195 0),(.int 4 0),(.ref 240),(.int 198 0),(.int 4 0),(.ref 247),(.int 201 0),(.int 4 0),(.ref 254),(.int 204 0),(.int 4 0),(.ref 261)],
⟨(.type "code"),none,(.fields #[(.str "Headers" 524),(.str "Headers" 525),(.str "/claim/cut.py" 526),(.int 135 0),(.int 0 0),(.int 0 0),(.int 0 0),(.int 0 0),(.ref 148),(.bool false),(.int 276 0),(.ref 149),.none,.none,.none,.none,(.int 527 0),(.int 135 0),(.str "/claim/cut.py" 528)]),#[]⟩,
⟨(.type "frame"),none,.plain,#[(some (.ref 150)),(some (.ref 3)),(some (.ref 147)),none,(some (.str "cpy313.wsgiref.headers" 416)),none,(some (.ref 0))]⟩,
hd.nf #[],
hd.fq (tm 16 0) "Headers.__init__",
hd.nf #[],
hd.fq (tm 16 1) "Headers._convert_string_type",
hd.nf #[],
hd.fq (tm 16 2) "Headers.__len__",
hd.nf #[],
hd.fq (tm 16 3) "Headers.__setitem__",
hd.nf #[],
hd.fq (tm 16 4) "Headers.__delitem__",
hd.nf #[],
hd.fq (tm 16 5) "Headers.__getitem__",
hd.nf #[],
hd.fq (tm 16 6) "Headers.__contains__",
hd.nf #[],
hd.fq (tm 16 7) "Headers.get_all",
hd.nf #[],
hd.fq (tm 16 8) "Headers.get",
hd.nf #[],
hd.fq (tm 16 9) "Headers.keys",
hd.nf #[],
hd.fq (tm 16 10) "Headers.values",
hd.nf #[],
hd.fq (tm 16 11) "Headers.items",
hd.nf #[],
hd.fq (tm 16 12) "Headers.__repr__",
hd.nf #[],
hd.fq (tm 16 13) "Headers.__str__",
hd.nf #[],
hd.fq (tm 16 14) "Headers.__bytes__",
hd.nf #[],
hd.fq (tm 16 15) "Headers.setdefault",
hd.nf #[],
hd.fq (tm 16 16) "Headers.add_header",
⟨(.type "super"),none,(.fields #[(.ref 265),(.ref 265),(.ref 265)]),#[]⟩,
⟨(.type "builtin_function_or_method"),none,(.fields #[(.builtin "object.__init_subclass__"),(.ref 265)]),#[]⟩,
hd.nf #[],
hd.fq (tp 18) "_law_machine",
hd.nf #[],
hd.fq (tp 19) "_law_cells",
hd.nf #[],
hd.fq (tp 20) "_law_text",
hd.nf #[],
hd.fq (tp 21) "_law_number",
hd.nf #[],
hd.fq (tp 22) "_law_word",
hd.nf #[],
hd.fq (tp 23) "_law_stops",
hd.nf #[],
hd.fq (tp 24) "_law_taken_out",
hd.nf #[],
hd.fq (tp 25) "_law_shared",
hd.nf #[],
hd.fq (tp 26) "_law_outward",
hd.nf #[],
hd.fq (tp 27) "law"]
noncomputable def hd.mg (n : Nat) : Nat → List (Nat × Obj) → List Obj → List Obj :=
  Nat.rec (fun _ _ _ => []) (fun _ ih i K R => List.rec (motive := fun _ => List Obj) (List.rec (motive := fun _ => List Obj) [] (fun o R' _ => o :: ih (i + 1) [] R') R) (fun p K' _ => bif Nat.beq p.1 i then p.2 :: ih (i + 1) K' R else List.rec (motive := fun _ => List Obj) [] (fun o R' _ => o :: ih (i + 1) K R') R) K) n
noncomputable def hd.hp (P : Params) : Heap := { objs := ⟨hd.mg 326 0 (hd.heap_39 P) (hd.rest P)⟩ }
noncomputable def hd.cut (n : Nat) (a b : Obj) (P : Params) : Heap := { objs := ⟨(((hd.mg 326 0 (hd.heap_39 P) (hd.rest P)).take n).set 3 a).set 29 b⟩ }
noncomputable def hd.h0 (P : Params) : Heap := hd.cut 28 (di #[hd.de P "__name__" 165 (.str "__main__" 164),hd.de P "__doc__" 166 .none,hd.de P "__package__" 167 .none,hd.de P "__loader__" 168 (.builtin "__main__.__loader__#opaque"),hd.de P "__spec__" 169 .none,hd.de P "__annotations__" 170 (.ref 6),hd.de P "__builtins__" 171 (.ref 4),hd.de P "__file__" 173 (.str "/claim/cut.py" 172),hd.de P "__cached__" 174 .none,hd.de P "_sre" 275 (.ref 12)] 10) (hd.nf #[]) P
noncomputable def hd.h1 (P : Params) : Heap := hd.cut 32 (di #[hd.de P "__name__" 165 (.str "__main__" 164),hd.de P "__doc__" 166 .none,hd.de P "__package__" 167 .none,hd.de P "__loader__" 168 (.builtin "__main__.__loader__#opaque"),hd.de P "__spec__" 169 .none,hd.de P "__annotations__" 170 (.ref 6),hd.de P "__builtins__" 171 (.ref 4),hd.de P "__file__" 173 (.str "/claim/cut.py" 172),hd.de P "__cached__" 174 .none,hd.de P "_sre" 275 (.ref 12)] 10) (hd.nf #[]) P
noncomputable def hd.h2 (P : Params) : Heap := hd.cut 145 (di #[hd.de P "__name__" 165 (.str "cpy313.wsgiref.headers" 416),hd.de P "__doc__" 166 .none,hd.de P "__package__" 167 .none,hd.de P "__loader__" 168 (.builtin "__main__.__loader__#opaque"),hd.de P "__spec__" 169 .none,hd.de P "__annotations__" 170 (.ref 6),hd.de P "__builtins__" 171 (.ref 4),hd.de P "__file__" 173 (.str "/claim/cut.py" 172),hd.de P "__cached__" 174 .none,hd.de P "_sre" 275 (.ref 12),hd.de P "_wall" 288 (.ref 38),hd.de P "_int2digits" 301 (.ref 45),hd.de P "_digits2int" 312 (.ref 52),hd.de P "insort_right" 327 (.ref 61),hd.de P "bisect_right" 341 (.ref 70),hd.de P "bisect_left" 355 (.ref 79),hd.de P "_netrclex" 415 (.ref 117),hd.de P "tspecials" 451 (.ref 126),hd.de P "_name_disallowed_re" 477 (.ref 131),hd.de P "_value_disallowed_re" 511 (.ref 136),hd.de P "_formatparam" 521 (.ref 144)] 21) (hd.nf #[(.int 2 0),(.int 0 0),(.ref 37),(.int 6 0),(.int 0 0),(.ref 44),(.int 22 0),(.int 0 0),(.ref 51),(.int 32 0),(.int 0 0),(.ref 60),(.int 38 0),(.int 0 0),(.ref 69),(.int 58 0),(.int 0 0),(.ref 78),(.int 79 0),(.int 0 0),(.ref 85),(.int 126 0),(.int 0 0),(.ref 143)]) P
noncomputable def hd.h3 (P : Params) : Heap := hd.cut 270 (di #[hd.de P "__name__" 165 (.str "cpy313.wsgiref.headers" 416),hd.de P "__doc__" 166 .none,hd.de P "__package__" 167 .none,hd.de P "__loader__" 168 (.builtin "__main__.__loader__#opaque"),hd.de P "__spec__" 169 .none,hd.de P "__annotations__" 170 (.ref 6),hd.de P "__builtins__" 171 (.ref 4),hd.de P "__file__" 173 (.str "/claim/cut.py" 172),hd.de P "__cached__" 174 .none,hd.de P "_sre" 275 (.ref 12),hd.de P "_wall" 288 (.ref 38),hd.de P "_int2digits" 301 (.ref 45),hd.de P "_digits2int" 312 (.ref 52),hd.de P "insort_right" 327 (.ref 61),hd.de P "bisect_right" 341 (.ref 70),hd.de P "bisect_left" 355 (.ref 79),hd.de P "_netrclex" 415 (.ref 117),hd.de P "tspecials" 451 (.ref 126),hd.de P "_name_disallowed_re" 477 (.ref 131),hd.de P "_value_disallowed_re" 511 (.ref 136),hd.de P "_formatparam" 521 (.ref 144),hd.de P "Headers" 678 (.ref 265)] 22) (hd.nf #[(.int 2 0),(.int 0 0),(.ref 37),(.int 6 0),(.int 0 0),(.ref 44),(.int 22 0),(.int 0 0),(.ref 51),(.int 32 0),(.int 0 0),(.ref 60),(.int 38 0),(.int 0 0),(.ref 69),(.int 58 0),(.int 0 0),(.ref 78),(.int 79 0),(.int 0 0),(.ref 85),(.int 126 0),(.int 0 0),(.ref 143),(.int 135 0),(.int 0 0),(.ref 150)]) P
noncomputable abbrev hd.pp : Program := PySem.Challenge.rw_sn0071_01.row.prog
noncomputable abbrev hd.bh : List Stmt := behindTheImports hd.pp
noncomputable abbrev hd.en : Env := { scope := hd.pp.main.scope, locals := mainNs, globals := mainNs, cells := [], code := .ref 30, frame := some 31 }
noncomputable abbrev hd.cd : Code := .body hd.bh hd.en
noncomputable abbrev hd.ps0 : Pos := ⟨0, 0, 0, 0⟩
noncomputable abbrev hd.an : Option Value := some (.ref 6)
theorem hd.e0 : ∀ w : World, (fencedOpening treeTable hd.pp w 3830).map (fun s => (s.heap, s.gens, s.drawn, s.toks)) = some (hd.h0 w.params, #[], {}, 276) := by
  intro w
  unfold fencedOpening
  rw [PySem.W.Fast.te10274390034422433532, PySem.W.Fast.te14364793385576792824, PySem.W.Fast.te1435165496053646825, PySem.W.Fast.te14289696077712309145]
  kernel_rfl
theorem hd.ez : ∀ w : World, ((hd.h0 w.params).isNs mainGlobals && (#[] : Array GenState).size == 0, (hd.h0 w.params).objs.size, (hd.h0 w.params).nsMap mainGlobals "__annotations__") = (true, 28, hd.an) := by
  intro w
  rw [PySem.W.Fast.te8920871248978507458]
  kernel_rfl
theorem hd.e1 : ∀ w os, topGo treeTable hd.pp w 28 hd.an 12 { heap := hd.h0 w.params, toks := 276, os := os } (topStub hd.pp) = some ({ heap := hd.h1 w.params, toks := 282, os := os }, ⟨denote treeTable hd.cd, hd.cd, hd.ps0, [topFrame hd.ps0]⟩) := by
  intro w os
  rw [PySem.W.Fast.te15667345088766844465, PySem.W.Fast.te14364793385576792824, PySem.W.Fast.te11892475500146522536]
  kernel_rfl
theorem hd.e2 : ∀ w os, segRun treeTable hd.pp w 28 hd.an 1 1 { heap := hd.h1 w.params, toks := 282, os := os } (blockOf hd.bh hd.en hd.cd hd.ps0 [topFrame hd.ps0]) = some (.next, { heap := hd.h1 w.params, toks := 282, os := os }, hd.cd, hd.ps0) := by
  intro w os
  rw [PySem.W.Fast.te14374325043358763698, PySem.W.Fast.te14364793385576792824]
  kernel_rfl
theorem hd.e3 : ∀ w os, segRun treeTable hd.pp w 28 hd.an 1 835 { heap := hd.h1 w.params, toks := 282, os := os } (piecesOf (hd.bh.take 15) hd.en hd.cd hd.ps0 [topFrame hd.ps0]) = some (.next, { heap := hd.h2 w.params, toks := 522, os := os }, hd.cd, ⟨126, 0, 134, 20⟩) := by
  intro w os
  rw [PySem.W.Fast.te14374325043358763698, PySem.W.Fast.te14364793385576792824]
  kernel_rfl
theorem hd.e4 : ∀ w os, segRun treeTable hd.pp w 28 hd.an 1 727 { heap := hd.h2 w.params, toks := 522, os := os } (piecesOf ((hd.bh.drop 15).take 1) hd.en hd.cd ⟨126, 0, 134, 20⟩ [topFrame hd.ps0]) = some (.next, { heap := hd.h3 w.params, toks := 679, os := os }, hd.cd, ⟨135, 0, 216, 93⟩) := by
  intro w os
  rw [PySem.W.Fast.te14374325043358763698, PySem.W.Fast.te14364793385576792824]
  kernel_rfl
theorem hd.e5 : ∀ w os, topRun treeTable hd.pp w 28 hd.an 297 { heap := hd.h3 w.params, toks := 679, os := os } (restOf ((hd.bh.drop 15).drop 1) hd.en hd.cd ⟨135, 0, 216, 93⟩ [topFrame hd.ps0]) = some { heap := hd.hp w.params, toks := 760, os := os } := by
  intro w os
  rw [PySem.W.Fast.te14082659384304107361, PySem.W.Fast.te14364793385576792824]
  kernel_rfl
theorem hd.run (w : World) (os : OsState) : topRun treeTable hd.pp w 28 hd.an (12 + (1 + (835 + (727 + 297)))) { heap := hd.h0 w.params, toks := 276, os := os } (topStub hd.pp) = some { heap := hd.hp w.params, toks := 760, os := os } := by
  have a := piece_app (hd.e4 w os) (hd.e5 w os)
  rw [List.take_append_drop] at a
  have b := piece_app (hd.e3 w os) a
  rw [List.take_append_drop] at b
  exact go_top (hd.e1 w os) (piece_block (hd.e2 w os) b)
theorem hd.l1 (w : World) (os : OsState) : (staticsOk (importedModules hd.pp.main.body) (hd.h0 w.params) (hd.hp w.params) && namesBound hd.pp (hd.hp w.params) && gensDone { heap := hd.hp w.params, toks := 760, os := os } && laidKept (hd.h0 w.params) (hd.hp w.params)) = true := by
  rw [PySem.W.Fast.te5923862056798008813]
  kernel_rfl
theorem hd.l2 (w : World) (os : OsState) : openSeen hd.view hd.loose (importedModules hd.pp.main.body) hd.look true { heap := hd.hp w.params, toks := 760, os := os } = openGood hd.view hd.loose := by
  rw [PySem.W.Fast.te4187177175401517315, PySem.W.Fast.te5923862056798008813]
  kernel_rfl
theorem hd.l3 (w : World) (os : OsState) : hd.hook.obs { heap := hd.hp w.params, toks := 760, os := os } = hd.hook.val w := by
  kernel_rfl
theorem hd.left : LeftO hd.pp hd.view hd.loose hd.look hd.hook.obs hd.hook.val 3830 :=
  LeftO.of_pieces (gs₀ := #[]) (gs₁ := #[]) (d₀ := {}) (d₁ := {}) hd.e0 hd.ez hd.run rfl fun w => funext fun os => Prod.ext (hd.l1 w os) (Prod.ext (hd.l2 w os) (hd.l3 w os))
end Mine
end
local macro_rules | `(tactic| omega) => `(tactic| first | assumption | (refine Nat.ne_of_lt ?_; assumption) | (refine Nat.ne_of_gt ?_; assumption) | decide | (refine Nat.ne_of_lt (Nat.lt_succ_of_lt ?_); assumption) | (refine Nat.ne_of_gt (Nat.lt_succ_of_lt ?_); assumption) | (refine Nat.ne_of_lt (Nat.lt_succ_of_lt (Nat.lt_succ_of_lt ?_)); assumption) | (refine Nat.ne_of_gt (Nat.lt_succ_of_lt (Nat.lt_succ_of_lt ?_)); assumption) | (refine Nat.ne_of_lt (Nat.lt_succ_of_lt (Nat.lt_succ_of_lt (Nat.lt_succ_of_lt ?_))); assumption) | (refine Nat.ne_of_gt (Nat.lt_succ_of_lt (Nat.lt_succ_of_lt (Nat.lt_succ_of_lt ?_))); assumption))
section
open PySem PySem.W PyProof.Rows PySem.Calls PySem.Spec
namespace Mine
theorem fill0 : PySem.Challenge.rw_sn0071_01 = PySem.Challenge.rw_sn0071_01 ∧ hd.heap_39 = hd.heap_39 := by k_fill; exact ⟨rfl, rfl⟩
noncomputable def But (as : List Addr) (h h' : Heap) : Prop := ∀ b o, b ∉ as → h.get? b = some o → h'.get? b = some o
theorem But.refl {as h} : But as h h := fun _ _ _ e => e
theorem But.trans {as h h' h''} (x : But as h h') (y : But as h' h'') : But as h h'' := fun b o n e => y b o n (x b o n e)
theorem But.mono {as bs h h'} (x : But as h h') (s : ∀ a ∈ as, a ∈ bs) : But bs h h' := fun b o n e => x b o (fun q => n (s b q)) e
theorem fr_but {h₀ h h' : Heap} {L : Addr} {m : Str → Option Value} {as : List Addr} (F : Fr h₀ L h m) (k : But as h h') (hL : L ∉ as) (h0 : ∀ a ∈ as, h₀.get? a = none) : Fr h₀ L h' m :=
  ⟨F.ns.at' fun o e => k L o hL e, fun b o e => k b o (fun q => by rw [h0 b q] at e; cases e) (F.keep b o e), F.above⟩
theorem fr_keep {h₀ h h' : Heap} {L : Addr} {m : Str → Option Value} (F : Fr h₀ L h m) (k : But [] h h') : Fr h₀ L h' m := fr_but F k (by simp) (by simp)
theorem news_but {h₀ h h' : Heap} {L : Addr} {news : List (Addr × Obj)} {as : List Addr} (N : News h₀ L h news) (k : But as h h') (n : ∀ p ∈ news, p.1 ∉ as) : News h₀ L h' news :=
  fun p hp => ⟨k _ _ (n p hp) (N p hp).1, (N p hp).2⟩
theorem news_keep {h₀ h h' : Heap} {L : Addr} {news : List (Addr × Obj)} (N : News h₀ L h news) (k : But [] h h') : News h₀ L h' news := news_but N k (by simp)
theorem news_sub {h₀ h : Heap} {L : Addr} {news news' : List (Addr × Obj)} (N : News h₀ L h news) (s : ∀ p ∈ news', p ∈ news) : News h₀ L h news' := fun p hp => N p (s p hp)
noncomputable def Has (m : Str → Option Value) : List (Str × Value) → Prop
  | [] => True
  | p :: r => m p.1 = some p.2 ∧ Has m r
noncomputable def updm (m : Str → Option Value) : List (Str × Value) → Str → Option Value
  | [] => m
  | p :: r => fun y => if y = p.1 then some p.2 else updm m r y
theorem updm_eq {m : Str → Option Value} : ∀ {l : List (Str × Value)}, Has m l → updm m l = m := fun {l} => by
  induction l with
  | nil => exact fun _ => rfl
  | cons p r ih =>
    intro h
    funext y
    show (if y = p.1 then some p.2 else updm m r y) = m y
    rw [ih h.2]
    split
    · rename_i e; rw [e]; exact h.1.symm
    · rfl
theorem fr_has {h₀ h : Heap} {L : Addr} {m : Str → Option Value} (F : Fr h₀ L h m) (l : List (Str × Value)) (e : Has m l) : Fr h₀ L h (updm m l) := by rw [updm_eq e]; exact F
theorem noted_false {M : Model} {A : Around} {env : Env} {E : Value → Shared → Prop} : ∀ (e : Value) (s : Shared), False → notedBy M A env E e s := fun _ _ h => h.elim
theorem fnAt_fr {h₀ h : Heap} {L q : Addr} {m : Str → Option Value} (F : Fr h₀ L h m) (X : FnAt q h₀) : FnAt q h := by
  obtain ⟨oc, od, fd, sl, e⟩ := X; exact ⟨oc, od, fd, sl, F.keep _ _ e⟩
theorem isCell_but {h h' : Heap} {c : Addr} {v : Option Value} {as : List Addr} (x : h.IsCell c v) (k : But as h h') (n : c ∉ as) : h'.IsCell c v := x.imp fun _ x => ⟨k _ _ n x.1, x.2⟩
theorem codeRec_but {h h' : Heap} {c : Addr} {q : Str} {as : List Addr} (x : h.CodeRec (.ref c) q) (k : But as h h') (n : c ∉ as) : h'.CodeRec (.ref c) q := by
  obtain ⟨c', o, vs, t, e, e2, r⟩ := x; cases e; exact ⟨c, o, vs, t, rfl, k _ _ n e2, r⟩
theorem isList_but {h h' : Heap} {c : Addr} {v : Array Value} {as : List Addr} (x : h.IsList c v) (k : But as h h') (n : c ∉ as) : h'.IsList c v := x.imp fun _ x => ⟨k _ _ n x.1, x.2⟩
noncomputable def TabOk (ln cl : Nat) (qual : Str) (ps : Array Value) (ex : List (Addr × Obj)) : Prop :=
  (ps = #[] ∧ ex = []) ∨ E4 fun c oc vs t => A4 (ps = #[rawInt ln, rawInt cl, .ref c]) (ex = [(c, oc)]) (oc.data = .fields vs) (vs[1]? = some (.str qual t))
theorem but_tab {P : Addr} {oP : Obj} {ex : List (Addr × Obj)} {g h h' : Heap} (hg : ∀ b o, b ∉ ((P, oP) :: ex).map (·.1) → h.get? b = some o → g.get? b = some o) (k : ∀ b o, g.get? b = some o → h'.get? b = some o)
    (n1 : ∀ p ∈ ex, h.get? p.1 = some p.2) (n2 : ∀ p ∈ ex, h'.get? p.1 = some p.2) : But [P] h h' := fun b o nb e => by
  by_cases hb : b ∈ ex.map (·.1)
  · obtain ⟨p, hp, rfl⟩ := List.mem_map.mp hb
    rw [n1 p hp] at e; cases e
    exact n2 p hp
  · exact k b o (hg b o (fun q => by
      rcases List.mem_cons.mp q with q | q
      · exact nb (by simpa using q)
      · exact hb q) e)
theorem tab_back {P : Addr} {oP : Obj} {ex ex5 : List (Addr × Obj)} {h h1 h5 : Heap} (k : But [P] h h1) (hP : h1.get? P = some oP) (e5 : ∀ p ∈ ex5, h5.get? p.1 = some p.2 ∧ (p ∈ ex ∨ h1.get? p.1 = none)) :
    ∀ p ∈ ex5, h5.get? p.1 = some p.2 ∧ (p ∈ ex ∨ h.get? p.1 = none) := fun p hp => ⟨(e5 p hp).1, (e5 p hp).2.imp id fun q => by
  cases e : h.get? p.1 with
  | none => rfl
  | some o =>
    by_cases hb : p.1 = P
    · rw [hb, hP] at q; cases q
    · rw [k _ _ (by simpa using hb) e] at q; cases q⟩
theorem tab_news {P : Addr} {ps ps5 : Array Value} {ex ex5 : List (Addr × Obj)} {g h h5 : Heap} {L : Addr} {m : Str → Option Value} (F : Fr g L h m) (N : News g L h ((P, tabObj ps) :: ex)) (t5 : h5.get? P = some (tabObj ps5))
    (e5 : ∀ p ∈ ex5, h5.get? p.1 = some p.2 ∧ (p ∈ ex ∨ h.get? p.1 = none)) : News g L h5 ((P, tabObj ps5) :: ex5) := fun p hp => by
  rcases List.mem_cons.mp hp with rfl | hp
  · exact ⟨t5, (N _ (.head _)).2⟩
  · refine ⟨(e5 p hp).1, ?_⟩
    rcases (e5 p hp).2 with q | q
    · exact (N p (.tail _ q)).2
    · refine ⟨fun e => ?_, ?_⟩
      · obtain ⟨o, _, _, ho, _⟩ := F.ns
        rw [← e, q] at ho; cases ho
      · cases e : g.get? p.1 with
        | none => rfl
        | some o => have := F.keep _ _ e; rw [q] at this; cases this
theorem fr_tab {P : Addr} {oP : Obj} {ex : List (Addr × Obj)} {g h h5 : Heap} {L : Addr} {m : Str → Option Value} (F : Fr g L h m) (N : News g L h ((P, oP) :: ex)) (k : But [P] h h5) : Fr g L h5 m :=
  fr_but F k (fun q => (N _ (.head _)).2.1 (List.mem_singleton.mp q).symm) (fun a ha => by rw [List.mem_singleton.mp ha]; exact (N _ (.head _)).2.2)
noncomputable def Halt (P : Prop) : Prop := P
theorem halt {P : Prop} (h : Halt P) : P := h
theorem go {P : Prop} (h : P) : Halt P := h
noncomputable def FPost (Q : Flow → Shared → Prop) (P : Shared → Prop) (f : Flow) (s' : Shared) : Prop := match f with
  | .ret v => Q (.ret v) s'
  | .brk => Q .next s'
  | _ => Halt (P s')
noncomputable def WEnd (n : Nat) (I : Nat → Shared → Prop) (s : Shared) : Prop := ∃ m, m < n ∧ I m s
theorem gen2 {α β : Type} (I : α → β → Prop) {G : Prop} (h : ∀ J : α → β → Prop, (∀ a b, J a b ↔ I a b) → G) : G := h I fun _ _ => Iff.rfl
theorem gen3 {α β γ : Type} (I : α → β → γ → Prop) {G : Prop} (h : ∀ J : α → β → γ → Prop, (∀ a b c, J a b c ↔ I a b c) → G) : G := h I fun _ _ _ => Iff.rfl
theorem wp_gen {α : Type} {M : Model} {A : Around} {t : Sem α} {Q : α → Shared → Prop} {E : Value → Shared → Prop} {s : Shared} (h : ∀ R : α → Shared → Prop, (∀ v s, Q v s → R v s) → wpAny M A t R E s) : wpAny M A t Q E s := h Q fun _ _ x => x
noncomputable abbrev Ar (dp un : Nat) (gd : Option (List Code)) (fr : List Env) : Around := ⟨none, dp, some fr, gd, un⟩
section
variable {prog : Program} {w : World} {A₀ : Around} {dp un : Nat} {gd : Option (List Code)} {s : Shared} {base h₀ : Heap} {outer : List Env} {L : Addr} {m mg mb : Str → Option Value} {env : Env} {mod : List (Addr × Obj)}
  {p : Program} {loose : List Str} {mean : ExcName → Option Value}
  {Q E : Value → Shared → Prop} {name qual : Str} {params : Arguments} {body : List Stmt} {scope : Scope} {dV kV doc pm cdv ct oc : Value} {an od : Option Addr} {osl : Array (Option Value)} {f : Addr} {args : Args} {binds : List (Str × Value)}
theorem enter (B : Below A₀ base outer h₀) (F : Fr h₀ L s.heap m) (X₀ : (hd.heap_39 w.params).In h₀) (T : Top p loose mean mg mb h₀) (N : News h₀ L s.heap mod) (hf : env.frame = some L) (hke : env.scope.kind = .function)
    (hroom : dp < recursionLimit)
    (ho : (hd.heap_39 w.params).lookup f = some ⟨oc, od, .func (fnOf name qual params body scope dV kV doc pm an cdv ct), osl⟩) (hcd : codeIn (hd.heap_39 w.params) cdv qual = true)
    (hbind : BindsTo s (fnOf name qual params body scope dV kV doc pm an cdv ct) ⟨args.pos, args.kw⟩ binds) (hloc : ∀ y ∈ binds, scope.names.lookup y.1 = some .local)
    (h : ∀ g h₁, (∀ b o, b ∉ mod.map (·.1) → s.heap.get? b = some o → g.get? b = some o) → (∀ b o, g.get? b = some o → s.heap.get? b = some o) →
      Fr g s.heap.objs.size h₁ (fun y => binds.reverse.lookup y) → News g s.heap.objs.size h₁ mod → Below (Ar dp un gd (env :: outer)) base (env :: outer) g → (hd.heap_39 w.params).In g → Top p loose mean mg mb g → (∀ p ∈ mod, p.1 < s.heap.objs.size) →
      wpAny (model prog w) (Ar (dp + 1) (un + 3) gd (envOf qual scope s.heap.objs.size f cdv :: env :: outer)) (execs body (envOf qual scope s.heap.objs.size f cdv))
        (fun fl s' => Halt (Q (match fl with | .ret v => v | _ => .none) s')) (fun _ _ => False)
        { s with heap := h₁, toks := s.toks + binds.length })
    (hco : scope.isCoroutine = false) (hgen : scope.isGenerator = false) (hk : scope.kind = .function)
    (hcell : ∀ x ∈ scope.names, x.2 ≠ .cell) : wpAny (model prog w) (Ar dp un gd (env :: outer)) (call (.ref f) args.pos args.kw) Q E s := by
  refine wpAny_call ?_
  obtain ⟨FG, BG, st, lv⟩ := groundX (A := Ar dp un gd (env :: outer)) (R := fun _ _ => True) B F N rfl hf hke
  have XS := X₀.keeps F.keep
  have Xg : (hd.heap_39 w.params).In (hideAll s.heap (mod.map (·.1))) := X₀.keeps st
  have Tg : Top p loose mean mg mb (hideAll s.heap (mod.map (·.1))) := T.keeps st
  refine codeAny_call_def (fd := fnOf name qual params body scope dV kV doc pm an cdv ct) (body := body) (binds := binds) hroom (XS _ _ ho) rfl (T.nolimit.keeps F.keep) (codeRec_of XS hcd) rfl hbind hcell hloc (fun h₁ hns hk₁ => ?_) hco hgen hk
  refine wpAny_mono (h (hideAll s.heap (mod.map (·.1))) h₁ (fun b o n e => hideAll_get _ e n) (fun b o e => of_hideAll _ e) ⟨hns, fun b o e => hk₁ b o (of_hideAll _ e), Nat.le_of_eq (hideAll_size _ _)⟩
    (fun p hp => ⟨hk₁ _ _ (N p hp).1, Nat.ne_of_lt (Heap.lt_size (N p hp).1), hideAll_none _ (List.mem_map_of_mem hp)⟩) BG Xg Tg (fun p hp => Heap.lt_size (N p hp).1)) (fun fl s' hq => hq) (fun _ _ x => x.elim)
theorem enterC (B : Below A₀ base outer h₀) (F : Fr h₀ L s.heap m) (X₀ : (hd.heap_39 w.params).In h₀) (T : Top p loose mean mg mb h₀) (N : News h₀ L s.heap mod) (hf : env.frame = some L) (hke : env.scope.kind = .function)
    (hroom : dp < recursionLimit)
    (ho : (hd.heap_39 w.params).lookup f = some ⟨oc, od, .func (fnOf name qual params body scope dV kV doc pm an cdv ct), osl⟩) (hcd : codeIn (hd.heap_39 w.params) cdv qual = true)
    (hbind : BindsTo s (fnOf name qual params body scope dV kV doc pm an cdv ct) ⟨args.pos, args.kw⟩ binds)
    (hkind : (binds.all fun y => scope.names.lookup y.1 == some .local || scope.names.lookup y.1 == some .cell) = true)
    (hnd : ((cellsFrom 0 scope.names []).map (·.1)).Nodup)
    (h : ∀ g h₁ tk cells, (∀ b o, b ∉ mod.map (·.1) → s.heap.get? b = some o → g.get? b = some o) → (∀ b o, g.get? b = some o → s.heap.get? b = some o) →
      Fr g s.heap.objs.size h₁ (bindL (envOfC qual scope s.heap.objs.size f cdv).kindOf binds fun _ => none) → News g s.heap.objs.size h₁ (cells ++ mod) →
      CellsAre (bindC (envOfC qual scope s.heap.objs.size f cdv).kindOf binds fun _ => none) (cellsFrom (s.heap.objs.size + 1) scope.names []) cells →
      Below (Ar dp un gd (env :: outer)) base (env :: outer) g → (hd.heap_39 w.params).In g → Top p loose mean mg mb g → (∀ p ∈ mod, p.1 < s.heap.objs.size) →
      wpAny (model prog w) (Ar (dp + 1) (un + 3) gd (envOfC qual scope s.heap.objs.size f cdv :: env :: outer)) (execs body (envOfC qual scope s.heap.objs.size f cdv))
        (fun fl s' => Halt (Q (match fl with | .ret v => v | _ => .none) s')) (fun _ _ => False)
        { s with heap := h₁, toks := tk })
    (hco : scope.isCoroutine = false) (hgen : scope.isGenerator = false) (hk : scope.kind = .function) :
    wpAny (model prog w) (Ar dp un gd (env :: outer)) (call (.ref f) args.pos args.kw) Q E s := by
  refine wpAny_call ?_
  obtain ⟨FG, BG, st, lv⟩ := groundX (A := Ar dp un gd (env :: outer)) (R := fun _ _ => True) B F N rfl hf hke
  have XS := X₀.keeps F.keep
  have Xg : (hd.heap_39 w.params).In (hideAll s.heap (mod.map (·.1))) := X₀.keeps st
  have Tg : Top p loose mean mg mb (hideAll s.heap (mod.map (·.1))) := T.keeps st
  refine codeAny_call_function (fd := fnOf name qual params body scope dV kV doc pm an cdv ct) hroom (XS _ _ ho) rfl hco hgen rfl (codeRec_of XS hcd) (hbind _ _ _ _ ?_)
  refine wpAny_newFunctionEnv_cells hk (kindsX hkind _) fun env' he s' x => ?_
  subst he
  refine ⟨(T.nolimit.keeps F.keep).keeps x.toInCall.keep, codeAny_func ?_⟩
  obtain ⟨h₁, tk, rfl, kk⟩ := x.done
  have old : ∀ p ∈ mod, p.1 < s.heap.objs.size := fun p hp => Heap.lt_size (N p hp).1
  obtain ⟨cells, NC, Y⟩ := Cl.news (h₀ := s.heap) (Nat.le_refl _) fun n c hm => ⟨x.cell n c (lookup_of_mem_nodup (cellsFrom_names scope.names 0 (s.heap.objs.size + 1) [] [] rfl ▸ hnd) hm), x.above n c hm⟩
  refine wpAny_mono (h (hideAll s.heap (mod.map (·.1))) h₁ tk cells (fun b o n e => hideAll_get _ e n) (fun b o e => of_hideAll _ e) ⟨x.toInCall.ns, fun b o e => kk b o (of_hideAll _ e), Nat.le_of_eq (hideAll_size _ _)⟩
    (fun p hp => ?_) Y BG Xg Tg old) (fun fl s' hq => hq) (fun _ _ x => x.elim)
  rcases List.mem_append.mp hp with hp | hp
  · refine ⟨(NC p hp).1, (NC p hp).2.1, ?_⟩
    cases q : (hideAll s.heap (mod.map (·.1))).get? p.1 with
    | none => rfl
    | some o => have := of_hideAll _ q; rw [(NC p hp).2.2] at this; cases this
  · exact ⟨kk _ _ (N p hp).1, Nat.ne_of_lt (old p hp), hideAll_none _ (List.mem_map_of_mem hp)⟩
theorem enterN {cl : List (Str × Addr)} {fo : Obj} (B : Below A₀ base outer h₀) (F : Fr h₀ L s.heap m) (X₀ : (hd.heap_39 w.params).In h₀) (T : Top p loose mean mg mb h₀) (N : News h₀ L s.heap mod) (hf : env.frame = some L) (hke : env.scope.kind = .function)
    (hroom : dp < recursionLimit)
    (ho : s.heap.get? f = some fo) (hfd : fo.data = .func (fnX name qual params body scope cl dV kV doc pm an cdv ct)) (hcd : s.heap.CodeRec cdv qual)
    (hbind : BindsTo s (fnX name qual params body scope cl dV kV doc pm an cdv ct) ⟨args.pos, args.kw⟩ binds) (hloc : ∀ y ∈ binds, scope.names.lookup y.1 = some .local)
    (h : ∀ g h₁, (∀ b o, b ∉ mod.map (·.1) → s.heap.get? b = some o → g.get? b = some o) → (∀ b o, g.get? b = some o → s.heap.get? b = some o) →
      Fr g s.heap.objs.size h₁ (fun y => binds.reverse.lookup y) → News g s.heap.objs.size h₁ mod → Below (Ar dp un gd (env :: outer)) base (env :: outer) g → (hd.heap_39 w.params).In g → Top p loose mean mg mb g → (∀ p ∈ mod, p.1 < s.heap.objs.size) →
      wpAny (model prog w) (Ar (dp + 1) (un + 3) gd (envX qual scope s.heap.objs.size f cdv cl :: env :: outer)) (execs body (envX qual scope s.heap.objs.size f cdv cl))
        (fun fl s' => Halt (Q (match fl with | .ret v => v | _ => .none) s')) (fun _ _ => False)
        { s with heap := h₁, toks := s.toks + binds.length })
    (hco : scope.isCoroutine = false) (hgen : scope.isGenerator = false) (hk : scope.kind = .function)
    (hcell : ∀ x ∈ scope.names, x.2 ≠ .cell) : wpAny (model prog w) (Ar dp un gd (env :: outer)) (call (.ref f) args.pos args.kw) Q E s := by
  refine wpAny_call ?_
  obtain ⟨FG, BG, st, lv⟩ := groundX (A := Ar dp un gd (env :: outer)) (R := fun _ _ => True) B F N rfl hf hke
  have Xg : (hd.heap_39 w.params).In (hideAll s.heap (mod.map (·.1))) := X₀.keeps st
  have Tg : Top p loose mean mg mb (hideAll s.heap (mod.map (·.1))) := T.keeps st
  refine codeAny_call_def (fd := fnX name qual params body scope cl dV kV doc pm an cdv ct) (body := body) (binds := binds) hroom ho hfd (T.nolimit.keeps F.keep) hcd rfl hbind hcell hloc (fun h₁ hns hk₁ => ?_) hco hgen hk
  refine wpAny_mono (h (hideAll s.heap (mod.map (·.1))) h₁ (fun b o n e => hideAll_get _ e n) (fun b o e => of_hideAll _ e) ⟨hns, fun b o e => hk₁ b o (of_hideAll _ e), Nat.le_of_eq (hideAll_size _ _)⟩
    (fun p hp => ⟨hk₁ _ _ (N p hp).1, Nat.ne_of_lt (Heap.lt_size (N p hp).1), hideAll_none _ (List.mem_map_of_mem hp)⟩) BG Xg Tg (fun p hp => Heap.lt_size (N p hp).1)) (fun fl s' hq => hq) (fun _ _ x => x.elim)
end
section
variable {M : Model} {A : Around} {E : Value → Shared → Prop} {s : Shared} {h₀ : Heap} {L a : Addr} {m : Str → Option Value} {cn : Str} {cs : Scope} {ccd : Value} {cl : List (Str × Addr)} {x : Str} {pos : Pos} {v : Value} {Q : Value → Shared → Prop} {c : Addr}
theorem nameFree (F : Fr h₀ L s.heap m) (hc : cl.lookup x = some c) (hg : h₀.IsCell c (some v)) (h : Q v s)
    (hk : cs.kind = .function := by rfl) (hx : (envX cn cs L a ccd cl).kindOf x = some .free := by rfl) (hb : (x == ("__debug__" : Str)) = false := by decide) (hn : (x == ("__classdict__" : Str)) = false := by decide) :
    wpAny M A (eval (.Name x pos) (envX cn cs L a ccd cl)) Q E s :=
  wpAny_Name (wpAny_loadName_free hk hx hc (hg.imp fun _ x => ⟨F.keep _ _ x.1, x.2⟩) h hn) hb
end
section
variable {prog : Program} {w : World} {A : Around} {s : Shared} {env : Env} {test : Expr} {body : List Stmt} {Q : Flow → Shared → Prop} {pos : Pos}
theorem while_rule (I : Nat → Shared → Prop)
    (turn : ∀ n s, I n s → ∀ (R : Flow → Shared → Prop) (S : Shared → Prop), (∀ f s', FPost Q (WEnd n I) f s' → R f s') → (∀ s', Q .next s' → S s') → wpAny (model prog w) A (isTrue test env (eval test env)) (fun b s₂ =>
        if b then wpAny (model prog w) A (execs body env) R (fun _ _ => False) s₂
        else S s₂) (fun _ _ => False) s)
    (n : Nat) (h : I n s) : wpAny (model prog w) A (exec (.While test body [] pos) env) Q (fun _ _ => False) s := by
  refine wpAny_While (codeAny_whileLoop I (fun n s hi => ?_) n h)
  refine wpAny_mono (turn n s hi _ _ (fun _ _ x => x) (fun _ x => x)) (fun b s₂ h₂ => ?_) fun _ _ x => x.elim
  cases b with
  | true =>
    rw [if_pos rfl] at h₂ ⊢
    refine wpAny_mono h₂ (fun f s₃ h₃ => ?_) fun _ _ x => x.elim
    cases f <;> exact h₃
  | false =>
    rw [if_neg Bool.false_ne_true] at h₂ ⊢
    exact wpAny_execs_nil h₂
end
end Mine
end
local macro_rules | `(tactic| k_room) => `(tactic| ktr_room)
def Mine.hl (l : List String) (al : List (String × String)) (s : Lean.TSyntax `str) : Lean.MacroM Lean.Syntax := do
  let t := if l.contains s.getString then "@halt" else (al.lookup s.getString).getD ""
  if t == "" then Lean.Macro.throwUnsupported else `(tactic| walk_at $(Lean.quote t))
local macro_rules | `(tactic| walk_at "@halt") => `(tactic| refine Mine.halt ?_)
local macro_rules | `(tactic| walk_at $s:str) => Mine.hl ["call ref"] [] s
local macro_rules | `(tactic| walk_at "@len") => `(tactic| (k_here; (with_reducible show PySem.wpAny _ _ (PySem.call (PySem.Value.builtin "len") [PySem.Value.ref _]) _ _ _); refine PyProof.Rows.len_list (by is_list) (by omega) ?_))
local macro_rules | `(tactic| walk_at "@free") => `(tactic| (k_here; k_dflt (refine' Mine.nameFree ?F ?c ?g ?_ ?a ?b; (case a => rfl); (case b => rfl); (case F => k_asm); (case c => first | assumption | rfl); (case g => assumption); k_whole)))
local macro_rules | `(tactic| walk_at "@fn") => `(tactic| exact Mine.fnAt_fr (by k_asm) (by assumption))
local macro_rules | `(tactic| walk_at "@cw") => `(tactic| (k_here; k_dflt (refine' PySem.W.callWith_F ?k1 ?_; (case k1 => walk_at "@fn"); k_whole)))
section
open PySem PySem.W PyProof.Rows PySem.Calls PySem.Spec
namespace Mine
local macro_rules | `(tactic| walk_at $s:str) => Mine.hl ["exec While Compare cons nil", "subscriptTail Name Name ref int"] [("call builtin:len", "@len")] s
noncomputable def bis (p : Nat → Bool) : Nat → Nat → Nat → Nat
  | 0, lo, _ => lo
  | f + 1, lo, hi => if lo < hi then (if p ((lo + hi) / 2) then bis p f ((lo + hi) / 2 + 1) hi else bis p f lo ((lo + hi) / 2)) else lo
theorem bis_in {p : Nat → Bool} {f lo hi : Nat} (q : lo < hi) : bis p (f + 1) lo hi = if p ((lo + hi) / 2) then bis p f ((lo + hi) / 2 + 1) hi else bis p f lo ((lo + hi) / 2) := if_pos q
theorem bis_out {p : Nat → Bool} {f lo hi : Nat} (q : ¬lo < hi) : bis p (f + 1) lo hi = lo := if_neg q
theorem bis_fuel (p : Nat → Bool) : ∀ (f f' lo hi : Nat), hi - lo ≤ f → hi - lo ≤ f' → bis p f lo hi = bis p f' lo hi := fun f => by
  have h0 : ∀ f lo hi, hi - lo ≤ 0 → bis p f lo hi = lo := fun f lo hi h => by
    cases f with
    | zero => rfl
    | succ f => exact bis_out (by exact (LI2 (.im (.le (.s V0 V1) O0) (.im (.lt V1 V0) .ff))) h)
  induction f with
  | zero => exact fun f' lo hi h _ => (h0 f' lo hi h).symm
  | succ f ih =>
    intro f' lo hi h h'
    cases f' with
    | zero => exact h0 _ lo hi h'
    | succ f' =>
      by_cases q : lo < hi
      · rw [bis_in q, bis_in q, ih f' _ _ (by exact (LI4 (.im (.dv (.a V1 V0) 2 3) (.im (.le (.s V0 V1) (.a V2 O1)) (.le (.s V0 (.a V3 O1)) V2)))) rfl h) (by exact (LI4 (.im (.dv (.a V1 V0) 2 3) (.im (.le (.s V0 V1) (.a V2 O1)) (.le (.s V0 (.a V3 O1)) V2)))) rfl h'), ih f' _ _ (by exact (LI4 (.im (.dv (.a V1 V0) 2 3) (.im (.le (.s V0 V1) (.a V2 O1)) (.le (.s V3 V1) V2)))) rfl h) (by exact (LI4 (.im (.dv (.a V1 V0) 2 3) (.im (.le (.s V0 V1) (.a V2 O1)) (.le (.s V3 V1) V2)))) rfl h')]
      · rw [bis_out q, bis_out q]
theorem bis_true (p : Nat → Bool) {lo hi : Nat} (h : lo < hi) (hp : p ((lo + hi) / 2) = true) : bis p (hi - lo) lo hi = bis p (hi - ((lo + hi) / 2 + 1)) ((lo + hi) / 2 + 1) hi := by
  obtain ⟨k, hk⟩ : ∃ k, hi - lo = k + 1 := ⟨hi - lo - 1, by exact (LI2 (.im (.lt V0 V1) (.eq (.s V1 V0) (.a (.s (.s V1 V0) O1) O1)))) h⟩
  rw [hk, bis_in h, if_pos hp]
  exact bis_fuel p _ _ _ _ (by exact (LI4 (.im (.dv (.a V1 V0) 2 3) (.im (.eq (.s V0 V1) (.a V2 O1)) (.le (.s V0 (.a V3 O1)) V2)))) rfl hk) (by exact (LI3 (.im (.dv (.a V1 V0) 2 2) (.le (.s V0 (.a V2 O1)) (.s V0 (.a V2 O1))))) rfl)
theorem bis_false (p : Nat → Bool) {lo hi : Nat} (h : lo < hi) (hp : p ((lo + hi) / 2) = false) : bis p (hi - lo) lo hi = bis p ((lo + hi) / 2 - lo) lo ((lo + hi) / 2) := by
  obtain ⟨k, hk⟩ : ∃ k, hi - lo = k + 1 := ⟨hi - lo - 1, by exact (LI2 (.im (.lt V0 V1) (.eq (.s V1 V0) (.a (.s (.s V1 V0) O1) O1)))) h⟩
  rw [hk, bis_in h, if_neg (by rw [hp]; exact Bool.false_ne_true)]
  exact bis_fuel p _ _ _ _ (by exact (LI4 (.im (.dv (.a V1 V0) 2 3) (.im (.eq (.s V0 V1) (.a V2 O1)) (.le (.s V3 V1) V2)))) rfl hk) (by exact (LI3 (.im (.dv (.a V0 V1) 2 2) (.le (.s V2 V0) (.s V2 V0)))) rfl)
noncomputable def LtIs (prog : Program) (w : World) (h : Heap) (u v : Value) (b : Bool) : Prop :=
  ∀ (A : Around) (s : Shared) (Q E : Value → Shared → Prop), A.handled = none → A.units < cLine → But [] h s.heap → (∀ h' tk, But [] s.heap h' → Q (.bool b) { s with heap := h', toks := tk }) → wpAny (model prog w) A (compareOp .Lt u v) Q E s
set_option maxHeartbeats 4000000 in
theorem bisect_left_spec {prog : Program} {w : World} {A₀ : Around} {dp un : Nat} {gd : Option (List Code)} {s : Shared} {base h₀ : Heap} {outer : List Env} {L : Addr} {m mg mb : Str → Option Value} {env : Env}
    {p : Program} {loose : List Str} {mean : ExcName → Option Value} {Q E : Value → Shared → Prop}
    (B : Below A₀ base outer h₀) (F : Fr h₀ L s.heap m) (X₀ : (hd.heap_39 w.params).In h₀) (T : Top p loose mean mg mb h₀) (hf : env.frame = some L) (hke : env.scope.kind = .function)
    (hroom : dp + 1 < recursionLimit) (hun : un + 8 < cLine)
    {D : Addr} {its : Array Value} {x : Value} {t : Nat → Bool}
    (hl : s.heap.IsList D its) (hz : its.size < 1000) (hlt : ∀ i v, its[i]? = some v → LtIs prog w s.heap v x (t i))
    (ret : ∀ h' tk tk', But [] s.heap h' → Q (.int (bis t its.size 0 its.size : Nat) tk') { s with heap := h', toks := tk }) :
    wpAny (model prog w) (Ar dp un gd (env :: outer)) (call (.ref 79) [.ref D, x]) Q E s := by
  refine enter (args := ⟨[.ref D, x], []⟩) B F X₀ T News.nil hf hke (by exact (LI2 (.im (.lt (.a V0 O1) V1) (.lt V0 V1))) hroom) (by k_is) (by k_is) (kp_binds (X₀.keeps F.keep) (fun _ => rfl)) (locs rfl) (fun g h₁ hg hg' F' N' B' X' T' _ => ?_) rfl rfl rfl (by decide)
  clear N'
  have N' : News g s.heap.objs.size h₁ [] := News.nil
  dsimp only
  have hlg : g.IsList D its := hl.at fun o e => hg _ _ (by simp) e
  k_steps
  refine go ?_
  rename Fr _ _ _ _ => F2
  refine while_rule (fun k s' => E7 fun h tk m' lo hi t1 t2 => A7 (s' = { s with heap := h, toks := tk }) (Fr g s.heap.objs.size h m') (Has m' [("a", .ref D), ("x", x), ("lo", .int (lo : Nat) t1), ("hi", .int (hi : Nat) t2)]) (lo ≤ hi) (hi ≤ its.size) (hi - lo < k) (bis t (hi - lo) lo hi = bis t its.size 0 its.size)) ?_ (its.size + 1) ⟨_, _, _, 0, its.size, _, _, rfl, F2, ⟨rfl, rfl, rfl, rfl, trivial⟩, by exact (LI1 (.le O0 V0)), by exact (LI1 (.le V0 V0)), by exact (LI1 (.lt (.s V0 O0) (.a V0 O1))), rfl⟩
  · rintro k s' ⟨h, tk, m', lo, hi, t1, t2, rfl, F3, H3, h1, h2, h3, h4⟩ R S hR hS
    have F4 := fr_has F3 _ H3
    dsimp only [updm] at F4
    clear F3 F2
    have N4 : News g s.heap.objs.size h [] := News.nil
    k_steps
    · refine go ?_
      rename Fr _ _ _ _ => F5
      rename News _ _ _ _ => N5
      rename (_ < _) => hlh
      have em : ((lo : Int) + (hi : Int)).fdiv 2 = (((lo + hi) / 2 : Nat) : Int) := by rw [Int.fdiv_eq_ediv_of_nonneg _ (by exact (LI0 (.il O0 O2)))]; rfl
      have hm : (lo + hi) / 2 < its.size := by exact (LI4 (.im (.dv (.a V0 V1) 2 3) (.im (.jl (.ca V0) (.ca V1)) (.im (.le V1 V2) (.lt V3 V2))))) rfl hlh h2
      obtain ⟨v, hv⟩ : ∃ v, its[(lo + hi) / 2]? = some v := ⟨_, Array.getElem?_eq_getElem hm⟩
      refine item_list (F5.lst hlg) (by rw [em]; exact Int.natCast_nonneg _) (by rw [em]; exact (LI2 (.im (.lt V0 V1) (.im (.lt V1 (.n 1000)) (.jl (.ca V0) (.pw 2 63))))) hm hz) (x := v) (by rw [em]; exact hv) ?_
      k_steps
      refine hlt _ _ hv _ _ _ _ rfl (by show un + 3 < cLine; exact (LI2 (.im (.lt (.a V0 (.n 8)) V1) (.lt (.a V0 (.n 3)) V1))) hun) (fun b o _ e => F5.keep b o (hg b o (by simp) e)) (fun h6 tk6 k6 => ?_)
      have F6 := fr_keep F5 k6
      have N6 := news_keep N5 k6
      clear F5 N5
      have hk0 : hi - lo = (hi - lo - 1) + 1 := by exact (LI2 (.im (.jl (.ca V0) (.ca V1)) (.eq (.s V1 V0) (.a (.s (.s V1 V0) O1) O1)))) hlh
      cases ht : t ((lo + hi) / 2) with
      | true =>
        k_steps
        rename Fr _ _ _ _ => F7
        refine hR _ _ ?_
        refine ⟨hi - ((lo + hi) / 2 + 1) + 1, by exact (LI4 (.im (.dv (.a V1 V0) 2 3) (.im (.lt (.s V0 V1) V2) (.im (.eq (.s V0 V1) (.a (.s (.s V0 V1) O1) O1)) (.lt (.a (.s V0 (.a V3 O1)) O1) V2))))) rfl h3 hk0, _, _, _, (lo + hi) / 2 + 1, hi, _, _, rfl, F7, ⟨rfl, rfl, by show some _ = some _; rw [em]; rfl, rfl, trivial⟩, by exact (LI3 (.im (.dv (.a V0 V1) 2 2) (.im (.jl (.ca V0) (.ca V1)) (.le (.a V2 O1) V1)))) rfl hlh, by assumption, by exact (LI3 (.im (.dv (.a V1 V0) 2 2) (.lt (.s V0 (.a V2 O1)) (.a (.s V0 (.a V2 O1)) O1)))) rfl, ?_⟩
        rw [← h4]
        exact (bis_true t (by exact (LI2 (.im (.jl (.ca V0) (.ca V1)) (.lt V0 V1))) hlh) ht).symm
      | false =>
        k_steps
        rename Fr _ _ _ _ => F7
        refine hR _ _ ?_
        refine ⟨(lo + hi) / 2 - lo + 1, by exact (LI4 (.im (.dv (.a V1 V0) 2 3) (.im (.lt (.s V0 V1) V2) (.im (.eq (.s V0 V1) (.a (.s (.s V0 V1) O1) O1)) (.lt (.a (.s V3 V1) O1) V2))))) rfl h3 hk0, _, _, _, lo, (lo + hi) / 2, _, _, rfl, F7, ⟨rfl, rfl, rfl, by show some _ = some _; rw [em], trivial⟩, by exact (LI3 (.im (.dv (.a V0 V1) 2 2) (.im (.jl (.ca V0) (.ca V1)) (.le V0 V2)))) rfl hlh, by exact (LI4 (.im (.dv (.a V0 V1) 2 2) (.im (.lt V2 V3) (.le V2 V3)))) rfl hm, by exact (LI3 (.im (.dv (.a V0 V1) 2 2) (.lt (.s V2 V0) (.a (.s V2 V0) O1)))) rfl, ?_⟩
        rw [← h4]
        exact (bis_false t (by exact (LI2 (.im (.jl (.ca V0) (.ca V1)) (.lt V0 V1))) hlh) ht).symm
    · have e : lo = hi := by exact (LI2 (.im (.le V0 V1) (.im (.im (.jl (.ca V0) (.ca V1)) .ff) (.eq V0 V1)))) h1 (by assumption)
      subst e
      refine hS _ ?_
      k_steps
      dsimp only
      rename Fr _ _ _ _ => F5
      have : bis t its.size 0 its.size = lo := by rw [← h4, Nat.sub_self]; rfl
      have r := ret h tk t1 (fun b o n e => F5.keep b o (hg b o (by simp) e))
      rw [this] at r
      exact r
set_option maxHeartbeats 4000000 in
theorem bisect_right_spec {prog : Program} {w : World} {A₀ : Around} {dp un : Nat} {gd : Option (List Code)} {s : Shared} {base h₀ : Heap} {outer : List Env} {L : Addr} {m mg mb : Str → Option Value} {env : Env}
    {p : Program} {loose : List Str} {mean : ExcName → Option Value} {Q E : Value → Shared → Prop}
    (B : Below A₀ base outer h₀) (F : Fr h₀ L s.heap m) (X₀ : (hd.heap_39 w.params).In h₀) (T : Top p loose mean mg mb h₀) (hf : env.frame = some L) (hke : env.scope.kind = .function)
    (hroom : dp + 1 < recursionLimit) (hun : un + 8 < cLine)
    {D : Addr} {its : Array Value} {x : Value} {t : Nat → Bool} {tl : Tok}
    (hl : s.heap.IsList D its) (hz : its.size < 1000) (hlt : ∀ i v, its[i]? = some v → LtIs prog w s.heap x v (!t i))
    (ret : ∀ h' tk tk', But [] s.heap h' → Q (.int (bis t its.size 0 its.size : Nat) tk') { s with heap := h', toks := tk }) :
    wpAny (model prog w) (Ar dp un gd (env :: outer)) (call (.ref 70) [.ref D, x, .int 0 tl, .none]) Q E s := by
  refine enter (args := ⟨[.ref D, x, .int 0 tl, .none], []⟩) B F X₀ T News.nil hf hke (by exact (LI2 (.im (.lt (.a V0 O1) V1) (.lt V0 V1))) hroom) (by k_is) (by k_is) (kp_binds (X₀.keeps F.keep) (fun _ => rfl)) (locs rfl) (fun g h₁ hg hg' F' N' B' X' T' _ => ?_) rfl rfl rfl (by decide)
  clear N'
  have N' : News g s.heap.objs.size h₁ [] := News.nil
  dsimp only
  have hlg : g.IsList D its := hl.at fun o e => hg _ _ (by simp) e
  k_steps
  refine go ?_
  rename Fr _ _ _ _ => F2
  refine while_rule (fun k s' => E7 fun h tk m' lo hi t1 t2 => A7 (s' = { s with heap := h, toks := tk }) (Fr g s.heap.objs.size h m') (Has m' [("a", .ref D), ("x", x), ("lo", .int (lo : Nat) t1), ("hi", .int (hi : Nat) t2)]) (lo ≤ hi) (hi ≤ its.size) (hi - lo < k) (bis t (hi - lo) lo hi = bis t its.size 0 its.size)) ?_ (its.size + 1) ⟨_, _, _, 0, its.size, _, _, rfl, F2, ⟨rfl, rfl, rfl, rfl, trivial⟩, by exact (LI1 (.le O0 V0)), by exact (LI1 (.le V0 V0)), by exact (LI1 (.lt (.s V0 O0) (.a V0 O1))), rfl⟩
  · rintro k s' ⟨h, tk, m', lo, hi, t1, t2, rfl, F3, H3, h1, h2, h3, h4⟩ R S hR hS
    have F4 := fr_has F3 _ H3
    dsimp only [updm] at F4
    clear F3 F2
    have N4 : News g s.heap.objs.size h [] := News.nil
    k_steps
    · refine go ?_
      rename Fr _ _ _ _ => F5
      rename News _ _ _ _ => N5
      rename (_ < _) => hlh
      have em : ((lo : Int) + (hi : Int)).fdiv 2 = (((lo + hi) / 2 : Nat) : Int) := by rw [Int.fdiv_eq_ediv_of_nonneg _ (by exact (LI0 (.il O0 O2)))]; rfl
      have hm : (lo + hi) / 2 < its.size := by exact (LI4 (.im (.dv (.a V0 V1) 2 3) (.im (.jl (.ca V0) (.ca V1)) (.im (.le V1 V2) (.lt V3 V2))))) rfl hlh h2
      obtain ⟨v, hv⟩ : ∃ v, its[(lo + hi) / 2]? = some v := ⟨_, Array.getElem?_eq_getElem hm⟩
      refine item_list (F5.lst hlg) (by rw [em]; exact Int.natCast_nonneg _) (by rw [em]; exact (LI2 (.im (.lt V0 V1) (.im (.lt V1 (.n 1000)) (.jl (.ca V0) (.pw 2 63))))) hm hz) (x := v) (by rw [em]; exact hv) ?_
      k_steps
      refine hlt _ _ hv _ _ _ _ rfl (by show un + 3 < cLine; exact (LI2 (.im (.lt (.a V0 (.n 8)) V1) (.lt (.a V0 (.n 3)) V1))) hun) (fun b o _ e => F5.keep b o (hg b o (by simp) e)) (fun h6 tk6 k6 => ?_)
      have F6 := fr_keep F5 k6
      have N6 := news_keep N5 k6
      clear F5 N5
      have hk0 : hi - lo = (hi - lo - 1) + 1 := by exact (LI2 (.im (.jl (.ca V0) (.ca V1)) (.eq (.s V1 V0) (.a (.s (.s V1 V0) O1) O1)))) hlh
      cases ht : t ((lo + hi) / 2) with
      | true =>
        k_steps
        rename Fr _ _ _ _ => F7
        refine hR _ _ ?_
        refine ⟨hi - ((lo + hi) / 2 + 1) + 1, by exact (LI4 (.im (.dv (.a V1 V0) 2 3) (.im (.lt (.s V0 V1) V2) (.im (.eq (.s V0 V1) (.a (.s (.s V0 V1) O1) O1)) (.lt (.a (.s V0 (.a V3 O1)) O1) V2))))) rfl h3 hk0, _, _, _, (lo + hi) / 2 + 1, hi, _, _, rfl, F7, ⟨rfl, rfl, by show some _ = some _; rw [em]; rfl, rfl, trivial⟩, by exact (LI3 (.im (.dv (.a V0 V1) 2 2) (.im (.jl (.ca V0) (.ca V1)) (.le (.a V2 O1) V1)))) rfl hlh, by assumption, by exact (LI3 (.im (.dv (.a V1 V0) 2 2) (.lt (.s V0 (.a V2 O1)) (.a (.s V0 (.a V2 O1)) O1)))) rfl, ?_⟩
        rw [← h4]
        exact (bis_true t (by exact (LI2 (.im (.jl (.ca V0) (.ca V1)) (.lt V0 V1))) hlh) ht).symm
      | false =>
        k_steps
        rename Fr _ _ _ _ => F7
        refine hR _ _ ?_
        refine ⟨(lo + hi) / 2 - lo + 1, by exact (LI4 (.im (.dv (.a V1 V0) 2 3) (.im (.lt (.s V0 V1) V2) (.im (.eq (.s V0 V1) (.a (.s (.s V0 V1) O1) O1)) (.lt (.a (.s V3 V1) O1) V2))))) rfl h3 hk0, _, _, _, lo, (lo + hi) / 2, _, _, rfl, F7, ⟨rfl, rfl, rfl, by show some _ = some _; rw [em], trivial⟩, by exact (LI3 (.im (.dv (.a V0 V1) 2 2) (.im (.jl (.ca V0) (.ca V1)) (.le V0 V2)))) rfl hlh, by exact (LI4 (.im (.dv (.a V0 V1) 2 2) (.im (.lt V2 V3) (.le V2 V3)))) rfl hm, by exact (LI3 (.im (.dv (.a V0 V1) 2 2) (.lt (.s V2 V0) (.a (.s V2 V0) O1)))) rfl, ?_⟩
        rw [← h4]
        exact (bis_false t (by exact (LI2 (.im (.jl (.ca V0) (.ca V1)) (.lt V0 V1))) hlh) ht).symm
    · have e : lo = hi := by exact (LI2 (.im (.le V0 V1) (.im (.im (.jl (.ca V0) (.ca V1)) .ff) (.eq V0 V1)))) h1 (by assumption)
      subst e
      refine hS _ ?_
      k_steps
      dsimp only
      rename Fr _ _ _ _ => F5
      have : bis t its.size 0 its.size = lo := by rw [← h4, Nat.sub_self]; rfl
      have r := ret h tk t1 (fun b o n e => F5.keep b o (hg b o (by simp) e))
      rw [this] at r
      exact r
end Mine
end
section
open PySem PySem.W PyProof.Rows PySem.Calls PySem.Spec
namespace Mine
local macro_rules | `(tactic| walk_at $s:str) => Mine.hl [] [] s
local macro_rules | `(tactic| walk_at $s:str) => Mine.hl ["call builtin:list.insert"] [] s
theorem bis_le (p : Nat → Bool) : ∀ (f lo hi : Nat), lo ≤ hi → bis p f lo hi ≤ hi := fun f => by
  induction f with
  | zero => exact fun _ _ h => h
  | succ f ih =>
    intro lo hi h
    by_cases q : lo < hi
    · rw [bis_in q]
      split
      · exact ih _ _ (by exact (LI3 (.im (.dv (.a V0 V1) 2 2) (.im (.lt V0 V1) (.le (.a V2 O1) V1)))) rfl q)
      · exact Nat.le_trans (ih _ _ (by exact (LI3 (.im (.dv (.a V0 V1) 2 2) (.im (.lt V0 V1) (.le V0 V2)))) rfl q)) (by exact (LI3 (.im (.dv (.a V0 V1) 2 2) (.im (.lt V0 V1) (.le V2 V1)))) rfl q)
    · rw [bis_out q]; exact h
theorem kl_ins_nat (l : List Value) (k : Nat) (y : Value) (h : k ≤ l.length) : kl_ins l (k : Int) y = l.take k ++ y :: l.drop k := by
  unfold kl_ins
  rw [if_neg (by exact (LI1 (.im (.jl (.ca V0) O0) .ff))), Int.toNat_natCast, Nat.min_eq_left h]
theorem ltIs_int {prog : Program} {w : World} {h : Heap} {a b : Int} {t u : Tok} : LtIs prog w h (.int a t) (.int b u) (decide (a < b)) :=
  fun _ s _ _ _ _ _ q => lt_int (q s.heap s.toks But.refl)
set_option maxHeartbeats 4000000 in
theorem insort_right_spec {prog : Program} {w : World} {A₀ : Around} {dp un : Nat} {gd : Option (List Code)} {s : Shared} {base h₀ : Heap} {outer : List Env} {L : Addr} {m mg mb : Str → Option Value} {env : Env}
    {p : Program} {loose : List Str} {mean : ExcName → Option Value} {Q E : Value → Shared → Prop}
    {D : Addr} {its : Array Value} {n : Nat} {x : Value} {t : Nat → Bool}
    (B : Below A₀ base outer h₀) (F : Fr h₀ L s.heap m) (X₀ : (hd.heap_39 w.params).In h₀) (T : Top p loose mean mg mb h₀) (hf : env.frame = some L) (hke : env.scope.kind = .function)
    (hroom : dp + 2 < recursionLimit) (hun : un + 16 < cLine)
    (N : News h₀ L s.heap [(D, listOf its n)])
    (hz : its.size < 1000) (hlt : ∀ i v, its[i]? = some v → LtIs prog w s.heap x v (!t i))
    (ret : ∀ h' tk, But [D] s.heap h' → h'.get? D = some (listOf (its.toList.take (bis t its.size 0 its.size) ++ x :: its.toList.drop (bis t its.size 0 its.size)).toArray (n + 1)) → Q .none { s with heap := h', toks := tk }) :
    wpAny (model prog w) (Ar dp un gd (env :: outer)) (call (.ref 61) [.ref D, x]) Q E s := by
  refine enter (args := ⟨[.ref D, x], []⟩) B F X₀ T N hf hke (by exact (LI2 (.im (.lt (.a V0 O2) V1) (.lt V0 V1))) hroom) (by k_is) (by k_is) (kp_binds (X₀.keeps F.keep) (fun _ => rfl)) (locs rfl) (fun g h₁ hg hg' F' N' B' X' T' hlow => ?_) rfl rfl rfl (by decide)
  dsimp only
  k_steps
  refine go ?_
  rename Fr _ _ _ _ => F2
  rename News _ _ _ _ => N2
  refine bisect_right_spec B' F2 X' T' rfl rfl (by assumption) (by exact (LI2 (.im (.lt (.a V0 (.n 16)) V1) (.lt (.a (.a V0 (.n 3)) (.n 8)) V1))) hun) (News.isList N2 (.head _)) hz (fun i v e A s' Q E a1 a2 a3 a4 => hlt i v e A s' Q E a1 a2 (fun b o _ q => ?_) a4) (fun h3 tk3 t3 k3 => ?_)
  · by_cases hb : b = D
    · subst hb
      rw [(N _ (.head _)).1] at q
      cases q
      exact a3 _ _ (by simp) (N2 _ (.head _)).1
    · exact a3 _ _ (by simp) (F2.keep b o (hg b o (by simpa using hb) q))
  have F3 := fr_keep F2 k3
  have N3 := news_keep N2 k3
  clear F2 N2
  k_steps
  refine go ?_
  rename Fr _ _ _ _ => F4
  rename News _ _ _ _ => N4
  have hb := bis_le t its.size 0 its.size (by exact (LI1 (.le O0 V0)))
  refine kl_insert (news' := [(D, listOf (its.toList.take (bis t its.size 0 its.size) ++ x :: its.toList.drop (bis t its.size 0 its.size)).toArray (n + 1))]) F4 N4 (by unfold Builtin.List.listFitsIndex; simp; exact (LI2 (.im (.lt V0 (.n 1000)) (.im (.le V1 V0) (.jl (.ca V1) (.n 9223372036854775808))))) hz hb) (kl_ins_nat _ _ _ (by simpa using hb)) (.head (by simp)) (by rw [Array.length_toList, sizeLine_eq]; exact (LI1 (.im (.lt V0 (.n 1000)) (.le V0 (.n 16777216)))) hz) (fun h5 F5 N5 => ?_)
  k_steps
  refine ret _ _ (fun b o nb e => F5.keep b o (hg b o nb e)) (N5 _ (.head _)).1
end Mine
end
section
open PySem PySem.W PyProof.Rows PySem.Calls PySem.Spec
namespace Mine
theorem truthy_ne {prog : Program} {w : World} {A : Around} {E : Value → Shared → Prop} {s : Shared} {l : Addr} {items : Array Value} {Q : Bool → Shared → Prop} (hl : s.heap.IsList l items) (hfit : (items.size : Int) < 2 ^ 63) (h0 : 0 < items.size)
    (h : Q true { s with toks := s.toks + 1 + 1 }) : wpAny (model prog w) A (truthy (.ref l)) Q E s :=
  wpAny_truthy_list hl hfit (by rw [show (!items.isEmpty) = true by simp; exact fun e => by simp [e] at h0]; exact h)
local macro_rules | `(tactic| walk_at "truthy ref") => `(tactic| (k_here; refine truthy_ne (by is_list) (by omega) (by omega) ?_))
local macro_rules | `(tactic| walk_at $s:str) => Mine.hl ["subscriptTail Name Name ref int"] [("call builtin:len", "@len"), ("callWith ref", "@cw"), ("FnAt", "@fn"), ("eval Name", "@free")] s
theorem isCell_of {h₀ h : Heap} {L c : Addr} {o : Obj} {v : Option Value} {news : List (Addr × Obj)} (N : News h₀ L h news) (hm : (c, o) ∈ news) (hd : o.data = .cell v) : h.IsCell c v := ⟨o, (N _ hm).1, hd⟩
noncomputable def num : List Nat → Nat
  | [] => 0
  | d :: r => d + 4 * num r
theorem num_append : ∀ a b : List Nat, num (a ++ b) = num a + 4 ^ a.length * num b := fun a b => by
  induction a with
  | nil => show num b = 0 + 1 * num b; rw [Nat.one_mul, Nat.zero_add]
  | cons d r ih =>
    show d + 4 * num (r ++ b) = d + 4 * num r + _
    rw [ih, List.length_cons, Nat.pow_succ, Nat.mul_add, Nat.mul_comm (4 ^ r.length) 4, Nat.mul_assoc]; exact (LI3 (.eq (.a V0 (.a (.m 4 V1) (.m 4 V2))) (.a (.a V0 (.m 4 V1)) (.m 4 V2))))
theorem num_lt : ∀ ds : List Nat, (∀ d ∈ ds, d ≤ 3) → num ds < 4 ^ ds.length := fun ds => by
  induction ds with
  | nil => exact fun _ => Nat.zero_lt_one
  | cons d r ih =>
    intro h
    have h1 := h d (.head _)
    have h2 := ih fun x hx => h x (.tail _ hx)
    show d + 4 * num r < _
    rw [List.length_cons, Nat.pow_succ]; exact (LI3 (.im (.lt V0 V1) (.im (.le V2 (.n 3)) (.lt (.a V2 (.m 4 V0)) (.w V1 4))))) h2 h1
noncomputable def seg (ds : List Nat) (lo hi : Nat) : List Nat := (ds.drop lo).take (hi - lo)
theorem seg_split (ds : List Nat) {lo mid hi : Nat} (h1 : lo ≤ mid) (h2 : mid ≤ hi) : seg ds lo hi = seg ds lo mid ++ seg ds mid hi := by
  unfold seg
  rw [show hi - lo = (mid - lo) + (hi - mid) by exact (LI3 (.im (.le V0 V1) (.im (.le V2 V0) (.eq (.s V1 V2) (.a (.s V0 V2) (.s V1 V0)))))) h2 h1, List.take_add, List.drop_drop, show lo + (mid - lo) = mid by exact (LI2 (.im (.le V0 V1) (.eq (.a V0 (.s V1 V0)) V1))) h1]
theorem seg_one (ds : List Nat) {lo : Nat} (h : lo < ds.length) : seg ds lo (lo + 1) = [ds[lo]] := by
  unfold seg
  rw [show lo + 1 - lo = 1 by exact (LI1 (.eq (.s (.a V0 O1) V0) O1)), List.drop_eq_getElem_cons h]; rfl
theorem seg_length (ds : List Nat) {lo hi : Nat} (h : hi ≤ ds.length) : (seg ds lo hi).length = hi - lo := by
  unfold seg; simp; exact (LI3 (.im (.le V0 V1) (.eq (.mi (.s V0 V2) (.s V1 V2)) (.s V0 V2)))) h
theorem seg_all (ds : List Nat) : seg ds 0 ds.length = ds := by unfold seg; simp
theorem seg_mem {ds : List Nat} {lo hi x : Nat} (h : x ∈ seg ds lo hi) : x ∈ ds := List.mem_of_mem_drop (List.mem_of_mem_take h)
theorem half (lo hi : Nat) : ((lo : Int) + (hi : Int)).fdiv (2 ^ (1 : Int).toNat) = (((lo + hi) / 2 : Nat) : Int) := by
  show ((lo : Int) + (hi : Int)).fdiv 2 = _
  rw [Int.fdiv_eq_ediv_of_nonneg _ (by exact (LI0 (.il O0 O2)))]; rfl
theorem ints_at {vs : List Value} {ds : List Nat} (h : IntsAre vs (ds.map Int.ofNat)) {i : Nat} (hi : i < ds.length) : ∃ t, vs[i]? = some (.int (ds[i] : Nat) t) :=
  h.get i _ (by simp [hi])
local macro_rules | `(tactic| walk_at $s:str) => Mine.hl ["binaryOp LShift int int"] [] s
noncomputable def stmtAt (i : Nat) : Stmt := (PySem.Challenge.pw_sn0071_01.main.body)[i]!
noncomputable def bodyOf : Stmt → List Stmt | .FunctionDef _ _ b _ _ _ _ _ _ _ => b | _ => []
noncomputable def parsOf : Stmt → Arguments | .FunctionDef _ a _ _ _ _ _ _ _ _ => a | _ => ⟨[], [], none, [], [], none, []⟩
noncomputable def scopeOf : Stmt → Scope | .FunctionDef _ _ _ _ _ _ sc _ _ _ => sc | _ => ⟨.function, [], false, false, []⟩
noncomputable def d2iIn : Stmt := (bodyOf (stmtAt 4))[0]!
set_option maxHeartbeats 4000000 in
theorem d2i_inner {prog : Program} {w : World} {hA : Heap} {f c cN cI cD D : Addr} {fo : Obj} {qual : Str} {cl : List (Str × Addr)} {doc pm ctv : Value} {t2 : Tok} {its : Array Value} {ds : List Nat}
    (hfo : hA.get? f = some fo) (hfd : fo.data = .func (fnX "inner" qual (parsOf d2iIn) (bodyOf d2iIn) (scopeOf d2iIn) cl .none .none doc pm none (.ref c) ctv)) (hcr : hA.CodeRec (.ref c) qual)
    (hcN : cl.lookup (Str.ofString "n") = some cN) (hcI : cl.lookup (Str.ofString "inner") = some cI) (hcD : cl.lookup (Str.ofString "digits") = some cD)
    (hN : hA.IsCell cN (some (.int 2 t2))) (hI : hA.IsCell cI (some (.ref f))) (hD : hA.IsCell cD (some (.ref D)))
    (hl : hA.IsList D its) (hi : IntsAre its.toList (ds.map Int.ofNat)) (h3 : ∀ d ∈ ds, d ≤ 3) (hz : ds.length ≤ 10)
    {p : Program} {loose : List Str} {mean : ExcName → Option Value} {mg mb : Str → Option Value} {base : Heap} :
    ∀ (k : Nat) {A₀ : Around} {dp un : Nat} {gd : Option (List Code)} {s : Shared} {h₀ : Heap} {outer : List Env} {L : Addr} {m : Str → Option Value} {env : Env} {Q E : Value → Shared → Prop} (lo hi : Nat) (tl th : Tok),
    Below A₀ base outer h₀ → Fr h₀ L s.heap m → (hd.heap_39 w.params).In h₀ → Top p loose mean mg mb h₀ → env.frame = some L → env.scope.kind = .function →
    hi - lo ≤ k → lo < hi → hi ≤ ds.length → dp + k + 1 < recursionLimit → But [] hA s.heap →
    (∀ h' tk t', But [] s.heap h' → Q (.int (num (seg ds lo hi) : Nat) t') { s with heap := h', toks := tk }) →
    wpAny (model prog w) (Ar dp un gd (env :: outer)) (call (.ref f) [.int (lo : Nat) tl, .int (hi : Nat) th]) Q E s := by
  have hsz : its.size = ds.length := by have := hi.length; simp at this; exact this
  intro k
  induction k with
  | zero => intros; exact ((LI2 (.im (.le (.s V0 V1) O0) (.im (.lt V1 V0) .ff))) (by assumption) (by assumption)).elim
  | succ k ih =>
    intro A₀ dp un gd s h₀ outer L m env Q E lo hi' tl th B F X₀ T hf hke hk hlt hle hroom hAs ret
    refine enterN (args := ⟨[.int (lo : Nat) tl, .int (hi' : Nat) th], []⟩) B F X₀ T News.nil hf hke (by exact (LI3 (.im (.lt (.a (.a V0 (.a V1 O1)) O1) V2) (.lt V0 V2))) hroom) (hAs _ _ (by simp) hfo) hfd (codeRec_but hcr hAs (by simp)) (BindsTo.of_eq rfl) (locs rfl) (fun g h₁ hg hg' F' N' B' X' T' _ => ?_) rfl rfl rfl (by decide)
    have hAg : But [] hA g := fun b o n e => hg b o n (hAs b o n e)
    have gN := isCell_but hN hAg (by simp)
    have gI := isCell_but hI hAg (by simp)
    have gD := isCell_but hD hAg (by simp)
    have gl := isList_but hl hAg (by simp)
    have gF : FnAt f g := ⟨fo.cls, fo.dict, _, fo.slots, by rw [hAg _ _ (by simp) hfo]; obtain ⟨a, b, c, d⟩ := fo; cases hfd; rfl⟩
    refine wpAny_execs_cons ?_
    k_steps
    · refine go ?_
      have e1 : hi' = lo + 1 := by exact (LI2 (.im (.je (.a (.ca V0) O1) (.ca V1)) (.eq V1 (.a V0 O1)))) (by assumption)
      subst e1
      obtain ⟨t, ht⟩ := ints_at hi (i := lo) (by omega)
      rename Fr _ _ _ _ => F2
      refine item_list (F2.lst gl) (by exact (LI1 (.il O0 (.ca V0)))) (by exact (LI2 (.im (.le (.a V0 O1) V1) (.im (.le V1 OX) (.jl (.ca V0) (.pw 2 63))))) hle hz) (x := .int (ds[lo] : Nat) t) (by simpa using ht) ?_
      k_steps
      have e : ((ds[lo] : Nat) : Int) = (num (seg ds lo (lo + 1)) : Nat) := by rw [seg_one ds (by exact (LI2 (.im (.le (.a V0 O1) V1) (.lt V0 V1))) hle)]; rfl
      rw [e]
      exact ret _ _ _ (fun b o _ e => F2.keep b o (hg b o (by simp) e))
    · refine go ?_
      rename Fr _ _ _ _ => F2
      have hq' : lo + 1 ≠ hi' := by exact (LI2 (.im (.im (.je (.a (.ca V0) O1) (.ca V1)) .ff) (.im (.eq (.a V0 O1) V1) .ff))) (by assumption)
      rw [half] at F2 ⊢
      have k2 : But [] s.heap _ := fun b o _ e => F2.keep b o (hg b o (by simp) e)
      refine ih ((lo + hi') / 2) hi' _ _ B' F2 X' T' rfl rfl (by exact (LI4 (.im (.dv (.a V0 V1) 2 3) (.im (.im (.eq (.a V0 O1) V1) .ff) (.im (.le (.s V1 V0) (.a V2 O1)) (.le (.s V1 V3) V2))))) rfl hq' hk) (by exact (LI3 (.im (.dv (.a V0 V1) 2 2) (.im (.lt V0 V1) (.lt V2 V1)))) rfl hlt) hle (by exact (LI3 (.im (.lt (.a (.a V0 (.a V1 O1)) O1) V2) (.lt (.a (.a (.a V0 O1) V1) O1) V2))) hroom) (hAs.trans k2) (fun h3' tk3 t3 k3 => ?_)
      have F3 := fr_keep F2 k3
      have N3 : News g s.heap.objs.size h3' [] := News.nil
      k_steps
      refine go ?_
      have hb : num (seg ds ((lo + hi') / 2) hi') < 4 ^ 10 := Nat.lt_of_lt_of_le (num_lt _ fun x hx => h3 x (seg_mem hx)) (Nat.pow_le_pow_right (by exact (LI0 (.lt O0 (.n 4)))) (by rw [seg_length ds hle]; exact (LI4 (.im (.dv (.a V2 V1) 2 3) (.im (.le V0 OX) (.im (.le V1 V0) (.le (.s V1 V3) OX))))) rfl hz hle))
      refine lshift_int_small (by exact (LI3 (.im (.dv (.a V0 V1) 2 2) (.im (.lt V0 V1) (.il O0 (.w (.s (.ca V2) (.ca V0)) 2))))) rfl hlt) (by exact (LI4 (.im (.dv (.a V2 V1) 2 3) (.im (.le V0 OX) (.im (.le V1 V0) (.il (.w (.s (.ca V3) (.ca V2)) 2) (.n 1000000)))))) rfl hz hle) (by omega) ?_
      k_steps
      refine go ?_
      rename Fr _ _ _ _ => F5
      have k5 : But [] s.heap _ := fun b o _ e => F5.keep b o (hg b o (by simp) e)
      refine ih lo ((lo + hi') / 2) _ _ B' F5 X' T' rfl rfl (by exact (LI4 (.im (.dv (.a V1 V0) 2 3) (.im (.le (.s V0 V1) (.a V2 O1)) (.le (.s V3 V1) V2)))) rfl hk) (by exact (LI3 (.im (.dv (.a V0 V1) 2 2) (.im (.im (.eq (.a V0 O1) V1) .ff) (.im (.lt V0 V1) (.lt V0 V2))))) rfl hq' hlt) (by exact (LI4 (.im (.dv (.a V0 V1) 2 3) (.im (.lt V0 V1) (.im (.le V1 V2) (.le V3 V2))))) rfl hlt hle) (by exact (LI3 (.im (.lt (.a (.a V0 (.a V1 O1)) O1) V2) (.lt (.a (.a (.a V0 O1) V1) O1) V2))) hroom) (hAs.trans k5) (fun h6 tk6 t6 k6 => ?_)
      have F6 := fr_keep F5 k6
      have N6 : News g s.heap.objs.size h6 [] := News.nil
      k_steps
      have r := ret h6 (tk6 + 1) tk6 (fun b o _ e => F6.keep b o (hg b o (by simp) e))
      have e9 : ((num (seg ds lo hi') : Nat) : Int) = (num (seg ds ((lo + hi') / 2) hi') : Nat) * 2 ^ (((((lo + hi') / 2 : Nat) : Int) - lo) * 2).toNat + (num (seg ds lo ((lo + hi') / 2)) : Nat) := by
        rw [seg_split ds (lo := lo) (mid := (lo + hi') / 2) (hi := hi') (by exact (LI3 (.im (.dv (.a V0 V1) 2 2) (.im (.lt V0 V1) (.le V0 V2)))) rfl hlt) (by exact (LI3 (.im (.dv (.a V0 V1) 2 2) (.im (.lt V0 V1) (.le V2 V1)))) rfl hlt), num_append, seg_length ds (by exact (LI4 (.im (.dv (.a V0 V1) 2 3) (.im (.lt V0 V1) (.im (.le V1 V2) (.le V3 V2))))) rfl hlt hle)]
        rw [show (((((lo + hi') / 2 : Nat) : Int) - lo) * 2).toNat = 2 * ((lo + hi') / 2 - lo) by exact (LI3 (.im (.dv (.a V0 V1) 2 2) (.eq (.tn (.w (.s (.ca V2) (.ca V0)) 2)) (.m 2 (.s V2 V0))))) rfl, Int.pow_mul]
        push_cast
        rw [Int.mul_comm, Int.add_comm]
      rw [e9] at r
      exact r
set_option maxHeartbeats 4000000 in
theorem digits2int_spec {prog : Program} {w : World} {A₀ : Around} {dp un : Nat} {gd : Option (List Code)} {s : Shared} {base h₀ : Heap} {outer : List Env} {L : Addr} {m mg mb : Str → Option Value} {env : Env}
    {p : Program} {loose : List Str} {mean : ExcName → Option Value} {Q E : Value → Shared → Prop}
    {D : Addr} {its : Array Value} {ds : List Nat} {ps : Array Value} {ex : List (Addr × Obj)} {t2 : Tok}
    (B : Below A₀ base outer h₀) (F : Fr h₀ L s.heap m) (X₀ : (hd.heap_39 w.params).In h₀) (T : Top p loose mean mg mb h₀) (hf : env.frame = some L) (hke : env.scope.kind = .function)
    (hroom : dp + 20 < recursionLimit) (hun : un + 100 < cLine)
    (N : News h₀ L s.heap ((47, tabObj ps) :: ex)) (ok : TabOk 24 4 "_digits2int.<locals>.inner" ps ex)
    (hl : s.heap.IsList D its) (hD : D ∉ ex.map (·.1)) (hi : IntsAre its.toList (ds.map Int.ofNat)) (h3 : ∀ d ∈ ds, d ≤ 3) (hz : ds.length ≤ 10) (hne : 0 < ds.length)
    (ret : ∀ h' tk t' ps' ex', But [47] s.heap h' → TabOk 24 4 "_digits2int.<locals>.inner" ps' ex' → h'.get? 47 = some (tabObj ps') → (∀ p ∈ ex', h'.get? p.1 = some p.2 ∧ (p ∈ ex ∨ s.heap.get? p.1 = none)) → (∀ p ∈ ex, p ∈ ex') → Q (.int (num ds : Nat) t') { s with heap := h', toks := tk }) :
    wpAny (model prog w) (Ar dp un gd (env :: outer)) (call (.ref 52) [.ref D, .int 2 t2]) Q E s := by
  refine enterC (args := ⟨[.ref D, .int 2 t2], []⟩) B F X₀ T N hf hke (by exact (LI2 (.im (.lt (.a V0 (.n 20)) V1) (.lt V0 V1))) hroom) (by k_is) (by k_is) (BindsTo.of_eq rfl) rfl (by decide +kernel) (fun g h₁ tk cells hg hg' F' N' Y' B' X' T' hlow => ?_) rfl rfl rfl
  have hDD : D ∉ ((47, tabObj ps) :: ex).map (·.1) := by
    intro q
    rcases List.mem_cons.mp q with q | q
    · obtain ⟨o, e, hc, _⟩ := hl
      rw [q, (N _ (.head _)).1] at e; cases e; cases hc
    · exact hD q
  have C' : CodeHd g 51 47 := codeHd_of_K X' (by kernel_rfl)
  have hlg : g.IsList D its := isList_but hl hg hDD
  have hsz : its.size = ds.length := by have := hi.length; simp at this; exact this
  k_cells Y'
  rcases ok with ⟨rfl, rfl⟩ | ⟨c₀, oc₀, vs₀, t₀, rfl, rfl, hd₀, hv₀⟩
  all_goals
    simp only [List.cons_append, List.nil_append] at N'
    have l1 := hlow
    k_lt l1
    k_steps
    refine go ?_
    rename Fr _ _ _ _ => F2
    rename News _ _ _ _ => N2
    have hf1 := N2.get (.head _)
    have hlA := F2.lst hlg
  case' inl =>
    have hcr := codeRec_news N2 (.tail _ (.head _)) (by assumption) (by assumption)
    have hcI := isCell_of N2 (.tail _ (.tail _ (.head _))) (by assumption)
    have hcN := isCell_of N2 (.tail _ (.tail _ (.tail _ (.head _)))) (by assumption)
    have hcD := isCell_of N2 (.tail _ (.tail _ (.tail _ (.tail _ (.head _))))) (by assumption)
  case' inr =>
    have hcr := codeRec_news N2 (.tail _ (.tail _ (.tail _ (.tail _ (.tail _ (.head _)))))) (by assumption) (by assumption)
    have hcI := isCell_of N2 (.tail _ (.head _)) (by assumption)
    have hcN := isCell_of N2 (.tail _ (.tail _ (.head _))) (by assumption)
    have hcD := isCell_of N2 (.tail _ (.tail _ (.tail _ (.head _)))) (by assumption)
  all_goals
    have e0 : ((its.size : Nat) : Int) = (ds.length : Nat) := by rw [hsz]
    rw [e0]
    refine d2i_inner hf1 rfl hcr rfl rfl rfl hcN hcI hcD hlA hi h3 hz 10 0 ds.length _ _ B' F2 X' T' rfl rfl (by assumption) (by assumption) (Nat.le_refl _) (by exact (LI2 (.im (.lt (.a V0 (.n 20)) V1) (.lt (.a (.a (.a V0 O1) OX) O1) V1))) hroom) But.refl (fun h6 tk6 t6 k6 => ?_)
    rw [seg_all]
  case' inl =>
    refine ret _ _ _ _ _ (fun b o nb e => k6 b o (by simp) (F2.keep b o (hg b o (by simpa using nb) e))) (.inr ⟨_, _, _, _, rfl, rfl, by assumption, by assumption⟩) (k6 _ _ (by simp) (N2.get (by k_mem))) (fun q hq => ?_) (fun _ h => by cases h)
    obtain rfl := List.mem_singleton.mp hq
    have hm := N2 _ (.tail _ (.head _))
    refine ⟨k6 _ _ (by simp) hm.1, .inr ?_⟩
    cases e : s.heap.get? _ with
    | none => rfl
    | some o =>
      have := hg _ _ (by simp; exact neN (by omega)) e
      rw [hm.2.2] at this; cases this
  case' inr =>
    refine ret _ _ _ _ _ (fun b o nb e => ?_) (.inr ⟨_, _, _, _, rfl, rfl, hd₀, hv₀⟩) (k6 _ _ (by simp) (N2.get (by k_mem))) (fun q hq => ?_) (fun _ h => h)
    · by_cases hb : b = c₀
      · subst hb
        rw [N.get (.tail _ (.head _))] at e
        cases e
        exact k6 _ _ (by simp) (N2.get (by k_mem))
      · exact k6 b o (by simp) (F2.keep b o (hg b o (by simp at nb ⊢; exact ⟨nb, hb⟩) e))
    · obtain rfl := List.mem_singleton.mp hq
      exact ⟨k6 _ _ (by simp) (N2.get (by k_mem)), .inl hq⟩
end Mine
end
section
open PySem PySem.W PyProof.Rows PySem.Calls PySem.Spec
namespace Mine
noncomputable def FEnd (g : Heap) (L : Addr) (own : List (Addr × Obj)) (I : Addr) (J : (Str → Option Value) → List (Addr × Obj) → Prop) (s s' : Shared) : Prop :=
  E4 fun h' tk' m' led' => A5 (s' = { s with heap := h', toks := tk' }) (Fr g L h' m') (News g L h' (led' ++ own)) (∀ p ∈ led', p.1 ≠ I) (J m' led')
section
variable {prog : Program} {w : World} {A : Around} {env : Env} {g : Heap} {s s₂ : Shared}
noncomputable abbrev cEnv (env : Env) (scope : Scope) (C : Addr) (cl : List (Str × Addr)) : Env := compEnvC scope cl C env
theorem nmLocal {env : Env} {x : Str} {pos : Pos} {v : Value} {m : Str → Option Value} {Q : Value → Shared → Prop} {E : Value → Shared → Prop} {M : Model} (hk : env.scope.kind = .function) (hx : env.kindOf x = some .local) (F : Fr g env.locals s.heap m) (hv : m x = some v) (h : Q v s)
    (hd : (x == ("__debug__" : Str)) = false := by decide) : wpAny M A (eval (.Name x pos) env) Q E s := wpAny_Name (wpAny_loadName_local hk hx F.ns hv h) hd
theorem nmCell {env : Env} {x : Str} {pos : Pos} {v : Value} {c : Addr} {m : Str → Option Value} {Q : Value → Shared → Prop} {E : Value → Shared → Prop} {M : Model} (hk : env.scope.kind = .function) (hx : env.kindOf x = some .cell) (F : Fr g env.locals s.heap m) (hc : env.cells.lookup x = some c) (hv : g.IsCell c (some v)) (h : Q v s)
    (hd : (x == ("__debug__" : Str)) = false := by decide) : wpAny M A (eval (.Name x pos) env) Q E s := wpAny_Name (wpAny_loadName_cell hk hx hc (hv.imp fun _ x => ⟨F.keep _ _ x.1, x.2⟩) h) hd
theorem nmGlobal {env : Env} {x : Str} {pos : Pos} {v : Value} {mg mb m : Str → Option Value} {p : Program} {loose : List Str} {mean : ExcName → Option Value} {K : Frag} {L : Addr} {Q : Value → Shared → Prop} {E : Value → Shared → Prop} {M : Model} (hk : env.scope.kind = .function) (hx : env.kindOf x = some .globalImplicit) (hg : env.globals = mainGlobals)
    (F : Fr g L s.heap m) (X : K.In g) (T : Top p loose mean mg mb g) (e : nsIn K mainGlobals x = some (some v)) (h : Q v s)
    (hd : (x == ("__debug__" : Str)) = false := by decide) : wpAny M A (eval (.Name x pos) env) Q E s :=
  Name_function_global hk hx (loadGlobal_global (env := env) (by rw [hg]; exact T.g.keeps F.keep) (mg_of X T.g e) h) hd
theorem nmBuiltin {env : Env} {x : Str} {pos : Pos} {v : Value} {mg mb m : Str → Option Value} {p : Program} {loose : List Str} {mean : ExcName → Option Value} {K : Frag} {L : Addr} {Q : Value → Shared → Prop} {E : Value → Shared → Prop} {M : Model} (hk : env.scope.kind = .function) (hx : env.kindOf x = some .globalImplicit) (hg : env.globals = mainGlobals) (hb : env.builtins = builtinsNs)
    (F : Fr g L s.heap m) (X : K.In g) (T : Top p loose mean mg mb g) (e : nsIn K mainGlobals x = some none) (hv : bootBuiltins x = some v) (hn : x ≠ "__name__") (h : Q v s)
    (hd : (x == ("__debug__" : Str)) = false := by decide) : wpAny M A (eval (.Name x pos) env) Q E s :=
  Name_function_global hk hx (loadGlobal_builtin (env := env) (by rw [hg]; exact T.g.keeps F.keep) (mg_none_of X T.g e) (by rw [hb]; exact T.b.keeps F.keep) ((T.builtins x hn).trans hv) h) hd
end
end Mine
end
local macro_rules | `(tactic| walk_at "@loc") => `(tactic| (k_here; k_dflt (refine' Mine.nmLocal ?k ?x ?F ?v ?_; (case k => rfl); (case x => rfl); (case F => k_asm); (case v => rfl); k_whole)))
section
open PySem PySem.W PyProof.Rows PySem.Calls PySem.Spec
namespace Mine
section
variable {prog : Program} {w : World} {A : Around} {env : Env} {g : Heap} {s s₂ : Shared}
theorem compLoop_T {elt target iter : Expr} {tst : Option Expr} {scope : Scope} {pos : Pos} {it acc : Value} {env : Env} {R : Result → Shared → Prop} (I : Nat → Shared → Prop)
    (turn : ∀ n s, I n s → wpAny (model prog w) A (pyNext it) (fun r s₁ => match r with
      | none => R (.ok .next) s₁
      | some v => wpAny (model prog w) A (letOwnedTupleGo target it v) (fun _ s₁' => wpAny (model prog w) A (assign target env v) (fun _ s₂ => wpAny (model prog w) A (match tst with | none => pure true | some c => isTrue c env (eval c env)) (fun b s₂ =>
          if b = true then wpAny (model prog w) A (eval elt env) (fun x s₃ =>
            wpAny (model prog w) A (call (.builtin "list.append") [acc, x]) (fun _ s₄ => ∃ m, m < n ∧ I m s₄) (fun _ _ => False) s₃) (fun _ _ => False) s₂
          else ∃ m, m < n ∧ I m s₂)
          (fun _ _ => False) s₂) (fun _ _ => False) s₁') (fun _ _ => False) s₁) (fun _ _ => False) s)
    (n : Nat) (h : I n s) :
    codeAny (model prog w) A (.compLoop (.ListComp elt [⟨target, iter, tst.toList, 0⟩] scope pos) 0 it acc env) R s := by
  refine codeAny_loop rfl I (fun n s hI => ?_) n h
  show wpAny _ _ ((compTurn (.ListComp elt [⟨target, iter, tst.toList, 0⟩] scope pos) 0 it acc env).onRaise (fun x => do noteFrame x env; theTreesLotGoes x)) _ _ s
  refine wpAny_noted ?_
  refine wpAny_mono (Q := fun fin s' => match fin with | .done f => R (.ok f) s' | .again c' => c' = Code.compLoop (.ListComp elt [⟨target, iter, tst.toList, 0⟩] scope pos) 0 it acc env ∧ ∃ m, m < n ∧ I m s') ?_ (fun _ _ h => h) (fun _ _ (h : False) => h.elim)
  show wpAny _ _ (standAt iter.pos >>= fun _ => pyNext it >>= _) _ _ s
  refine wpAny_bind (wpAny_standAt (wpAny_bind (wpAny_mono (turn n s hI) (fun r s₁ h₁ => ?_) fun _ _ h' => h')))
  cases r with
  | none => exact wpAny_pure h₁
  | some v =>
    refine wpAny_bind (wpAny_mono h₁ (fun _ s₁' h₁' => ?_) fun _ _ h' => h')
    refine wpAny_bind (wpAny_mono h₁' (fun _ s₂ h₂ => ?_) fun _ _ h' => h')
    show wpAny _ A (_ >>= _) _ _ _
    refine wpAny_bind ?_
    refine wpAny_mono (Q := fun (b : Bool) s₃ => if b = true then wpAny (model prog w) A (eval elt env) (fun x s₃ =>
            wpAny (model prog w) A (call (.builtin "list.append") [acc, x]) (fun _ s₄ => ∃ m, m < n ∧ I m s₄) (fun _ _ => False) s₃) (fun _ _ => False) s₃
          else ∃ m, m < n ∧ I m s₃) ?_ (fun b s₃ h₃ => ?_) fun _ _ h' => h'
    · cases tst with
      | none =>
        show wpAny _ A (forIn [] true _) _ _ _
        rw [List.forIn_nil]
        exact h₂
      | some c =>
        show wpAny _ A (forIn [c] true _) _ _ _
        rw [List.forIn_cons]
        refine wpAny_bind ?_
        rw [if_pos rfl]
        refine wpAny_bind (wpAny_mono h₂ (fun b s₃ h₃ => wpAny_pure ?_) fun _ _ h' => h')
        dsimp only
        rw [List.forIn_nil]
        exact wpAny_pure h₃
    cases b with
    | true =>
      rw [if_pos rfl] at h₃ ⊢
      exact wpAny_bind (wpAny_bind (wpAny_mono h₃ (fun x s₄ h₄ => wpAny_bind (wpAny_mono h₄ (fun _ s₅ h₅ => wpAny_pure (wpAny_pure ⟨rfl, h₅⟩)) fun _ _ h' => h')) fun _ _ h' => h'))
    | false =>
      rw [if_neg Bool.false_ne_true] at h₃ ⊢
      exact wpAny_bind (wpAny_pure (wpAny_pure ⟨rfl, h₃⟩))
noncomputable def CompEnd (g' : Heap) (C D I : Addr) (J : List Value → List (Addr × Obj) → Prop) (out : List Value) (k : Nat) (own : List (Addr × Obj)) (s₂ s' : Shared) : Prop :=
  E4 fun h' tk' m' led' => A5 (s' = { s₂ with heap := h', toks := tk' }) (Fr g' C h' m') (News g' C h' ((D, listOf out.toArray k) :: (led' ++ own))) (∀ p ∈ led', p.1 ≠ I ∧ p.1 ≠ D ∧ p.1 ≠ C) (J out led')
noncomputable def CompAtG (prog : Program) (w : World) (A : Around) (env : Env) (scope : Scope) (cl : List (Str × Addr)) (T : Expr) (U : Value → (Str → Option Value) → (Str → Option Value) → Prop) (tst : Option Expr) (elt : Expr) (use : Option (Value → Sem Unit)) (Q : Value → Shared → Prop) (it : Value) (s₂ : Shared) : Prop :=
  E10 fun (I : Addr) (fp : List Addr) (n : Nat) (P : Nat → Value → Prop) (St : Nat → Heap → Prop) (g : Heap) (L : Addr) (m : Str → Option Value) (led : List (Addr × Obj)) (J : Nat → List Value → List (Addr × Obj) → Prop) => A15 (it = .ref I) (Walks prog w A I fp [I] n P St) (St 0 s₂.heap) (Fr g L s₂.heap m) (News g L s₂.heap led) (∀ p ∈ led, p.1 ≠ I) (g.get? I = none) (L ≠ I) (I < s₂.heap.objs.size) (∀ b ∈ fp, b < s₂.heap.objs.size) (n < sizeLine) (J 0 [] led) (∀ (g' : Heap) (i : Nat) (v : Value) (h : Heap) (tk : Nat) (mC : Str → Option Value) (Q' : Unit → Shared → Prop), (∀ b o, g.get? b = some o → g'.get? b = some o) → (∀ b o, b ≠ I → b ∉ led.map (·.1) → s₂.heap.get? b = some o → g'.get? b = some o) → i < n → P i v → St (i + 1) h → Fr g' (s₂.heap.objs.size + 1) h mC →
      (∀ h' tk' m', U v mC m' → Fr g' (s₂.heap.objs.size + 1) h' m' → (∀ b o, b ≠ s₂.heap.objs.size + 1 → h.get? b = some o → h'.get? b = some o) → Q' () { s₂ with heap := h', toks := tk' }) →
      wpAny (model prog w) A (letOwnedTupleGo T (.ref I) v) (fun _ s' => wpAny (model prog w) A (assign T (cEnv env scope (s₂.heap.objs.size + 1) cl) v) Q' (fun _ _ => False) s') (fun _ _ => False) { s₂ with heap := h, toks := tk }) (∀ (g' : Heap) (i : Nat) (v : Value) (out : List Value) (k : Nat) (led₁ : List (Addr × Obj)) (h : Heap) (tk : Nat) (mC m' : Str → Option Value) (own : List (Addr × Obj)), U v mC m' → (∀ b o, g.get? b = some o → g'.get? b = some o) → g'.Ns L m → (∀ b o, b ≠ I → b ∉ led.map (·.1) → s₂.heap.get? b = some o → g'.get? b = some o) →
      i < n → P i v → out.length ≤ i → J i out led₁ → (∀ p ∈ led₁, p.1 ≠ I ∧ p.1 ≠ s₂.heap.objs.size ∧ p.1 ≠ s₂.heap.objs.size + 1) →
      Fr g' (s₂.heap.objs.size + 1) h m' → News g' (s₂.heap.objs.size + 1) h ((s₂.heap.objs.size, listOf out.toArray k) :: (led₁ ++ own)) → (∀ p ∈ own, p.1 ∈ fp) → St (i + 1) h →
      wpAny (model prog w) A (match tst with | none => pure true | some c => isTrue c (cEnv env scope (s₂.heap.objs.size + 1) cl) (eval c (cEnv env scope (s₂.heap.objs.size + 1) cl)))
        (fun b s' => if b = true then wpAny (model prog w) A (eval elt (cEnv env scope (s₂.heap.objs.size + 1) cl)) (fun r s' => Halt (CompEnd g' (s₂.heap.objs.size + 1) s₂.heap.objs.size I (fun o l => J (i + 1) (o ++ [r]) l) out k own s₂ s')) (fun _ _ => False) s'
          else Halt (CompEnd g' (s₂.heap.objs.size + 1) s₂.heap.objs.size I (J (i + 1)) out k own s₂ s'))
        (fun _ _ => False) { s₂ with heap := h, toks := tk }) (∀ (g' : Heap) (led' : List (Addr × Obj)) (out : List Value) (k : Nat) (h : Heap) (tk : Nat) (m' : Str → Option Value), (∀ b o, g.get? b = some o → g'.get? b = some o) → g'.Ns L m → (∀ b o, b ≠ I → b ∉ led.map (·.1) → s₂.heap.get? b = some o → g'.get? b = some o) → (∀ b o, g'.get? b = some o → s₂.heap.get? b = some o) → J n out led' → Fr g' (s₂.heap.objs.size + 1) h m' → News g' (s₂.heap.objs.size + 1) h ((s₂.heap.objs.size, listOf out.toArray k) :: led') → (∀ p ∈ led', p.1 ≠ s₂.heap.objs.size + 1) → compPost (model prog w) A (fun _ _ => False) use Q (.ref s₂.heap.objs.size) (s₂.heap.objs.size + 1) (.ok .next) { s₂ with heap := h, toks := tk })
theorem comp_all {elt iter T : Expr} {U : Value → (Str → Option Value) → (Str → Option Value) → Prop} {tst : Option Expr} {scope : Scope} {pos : Pos} {cl : List (Str × Addr)} {use : Option (Value → Sem Unit)} {p0 : Pos} {Q : Value → Shared → Prop}
    (hh : A.handled = none) (hclos : closureFor scope env = pure cl) (hkind : scope.kind = .function) (hcell : ∀ y ∈ scope.names, y.2 ≠ .cell) (hnames : ∀ y ∈ scope.names, y.2 = .local → scope.names.lookup y.1 = some .local)
    (h : wpAny (model prog w) A (eval iter env) (fun xv s₁ => wpAny (model prog w) A (pyIter xv) (fun it s₂ => CompAtG prog w A env scope cl T U tst elt use Q it s₂) (fun _ _ => False) s₁) (fun _ _ => False) s)
    (hs : ∀ x, foldedSetIterable iter env x = pure x := by intro _; rfl) :
    wpAny (model prog w) A (comprehension (.ListComp elt [⟨T, iter, tst.toList, 0⟩] scope pos) scope env p0 (newList []) false (eval iter env) use) Q (fun _ _ => False) s := by
  refine wpAny_comprehension_free (use := use) rfl hs hclos hkind hnames (wpAny_mono h (fun xv s₁ h₁ => wpAny_mono h₁ (fun it s₂ h₂ => ?_) fun _ _ e => e) fun _ _ e => e)
  obtain ⟨I, fp, n, P, St, g, L, m, led, J, rfl, W, st, F, N, hoff, hI0, hLI, hIs, hfp, hn, hJ, asg, turn, fin0⟩ := h₂
  refine wpAny_newObj_type ?_ (by size_fits)
  refine wpAny_newFunctionEnv hcell (by simp) (fun h₄ hns hsb => ?_) hkind
  have hC : (s₂.heap.push ({ cls := .type "list", data := .seq #[] } : Obj)).objs.size = s₂.heap.objs.size + 1 := Heap.size_push ..
  have nm : ∀ b o, g.get? b = some o → b ∉ I :: led.map (·.1) := fun b o e q => by
    rcases List.mem_cons.mp q with rfl | q
    · rw [hI0] at e; cases e
    · obtain ⟨p, hp, rfl⟩ := List.mem_map.mp q
      rw [(N p hp).2.2] at e; cases e
  have nL : L ∉ I :: led.map (·.1) := fun q => by
    rcases List.mem_cons.mp q with q | q
    · exact hLI q
    · obtain ⟨p, hp, e⟩ := List.mem_map.mp q
      exact (N p hp).2.1 e
  generalize hg' : hideAll s₂.heap (I :: led.map (·.1)) = g'
  have hin : ∀ b o, b ≠ I → b ∉ led.map (·.1) → s₂.heap.get? b = some o → g'.get? b = some o := fun b o h1 h2 e => by
    rw [← hg']; exact hideAll_get _ e (fun q => (List.mem_cons.mp q).elim h1 h2)
  have hout : ∀ b o, g'.get? b = some o → s₂.heap.get? b = some o := fun b o e => by rw [← hg'] at e; exact of_hideAll _ e
  have hhid : ∀ b, b ∈ I :: led.map (·.1) → g'.get? b = none := fun b hb => by rw [← hg']; exact hideAll_none _ hb
  have hsz' : g'.objs.size = s₂.heap.objs.size := by rw [← hg']; exact hideAll_size _ _
  clear hg'
  have hgg : ∀ b o, g.get? b = some o → g'.get? b = some o := fun b o e => hin b o (fun q => nm b o e (q ▸ .head _)) (fun q => nm b o e (.tail _ q)) (F.keep b o e)
  have hLg : g'.Ns L m := F.ns.at' fun o e => hin L o (fun q => nL (q ▸ .head _)) (fun q => nL (.tail _ q)) e
  have old4 : ∀ b o, s₂.heap.get? b = some o → h₄.get? b = some o := fun b o e => by
    rw [hsb.2 b (by rw [hC]; exact Nat.ne_of_lt (Nat.lt_succ_of_lt (Heap.lt_size e)))]
    exact Heap.get?_push_of_some _ (Heap.get?_push_of_some _ e)
  have hD4 : h₄.get? s₂.heap.objs.size = some (listOf #[] 0) := by
    rw [hsb.2 _ (by rw [hC]; exact neN (by exact (LI1 (.im (.eq V0 (.a V0 O1)) .ff))))]
    exact Heap.get?_push_of_some _ (Heap.get?_push_size _ rfl)
  rw [hC] at hns
  have F4 : Fr g' (s₂.heap.objs.size + 1) h₄ (fun x => ([] : List (Str × Value)).reverse.lookup x) := ⟨hns, fun b o e => old4 b o (hout b o e), by rw [hsz']; exact (LI1 (.le V0 (.a V0 O1)))⟩
  have fresh : ∀ b, s₂.heap.objs.size ≤ b → g'.get? b = none := fun b hb => by
    cases e : g'.get? b with
    | none => rfl
    | some o => exact absurd (Heap.lt_size (hout b o e)) (Nat.not_lt.mpr hb)
  have ledlt : ∀ p ∈ led, p.1 < s₂.heap.objs.size := fun p hp => Heap.lt_size (N p hp).1
  show codeAny (model prog w) A (.compStart _ 0 (.ref I) (.ref s₂.heap.objs.size) (cEnv env scope (s₂.heap.push ({ cls := .type "list", data := .seq #[] } : Obj)).objs.size cl)) (compPost (model prog w) A (fun _ _ => False) use Q (.ref s₂.heap.objs.size) (s₂.heap.push ({ cls := .type "list", data := .seq #[] } : Obj)).objs.size) _
  rw [hC]
  dsimp only
  generalize hR : compPost (model prog w) A (fun _ _ => False) use Q (.ref s₂.heap.objs.size) (s₂.heap.objs.size + 1) = R
  have fin : ∀ led' out k h tk m', J n out led' → Fr g' (s₂.heap.objs.size + 1) h m' → News g' (s₂.heap.objs.size + 1) h ((s₂.heap.objs.size, listOf out.toArray k) :: led') → (∀ p ∈ led', p.1 ≠ s₂.heap.objs.size + 1) → R (.ok .next) { s₂ with heap := h, toks := tk } := by
    intro led' out k h tk m' hj F' N' hne
    rw [← hR]
    exact fin0 g' led' out k h tk m' hgg hLg hin hout hj F' N' hne
  clear hR fin0
  have hCf : s₂.heap.objs.size + 1 ∉ fp := fun q => Nat.lt_irrefl _ (Nat.lt_of_succ_lt (hfp _ q))
  have hDf : s₂.heap.objs.size ∉ fp := fun q => Nat.lt_irrefl _ (hfp _ q)
  have main : ∀ tk₄, codeAny (model prog w) A (.compLoop (.ListComp elt [⟨T, iter, tst.toList, 0⟩] scope pos) 0 (.ref I) (.ref s₂.heap.objs.size) (cEnv env scope (s₂.heap.objs.size + 1) cl)) R { s₂ with heap := h₄, toks := tk₄ } := by
    intro tk₄
    let Inv : Nat → Shared → Prop := fun k s' => E7 fun h tk mC led' out e i => A9 (s' = { s₂ with heap := h, toks := tk }) (St i h) (Fr g' (s₂.heap.objs.size + 1) h mC) (News g' (s₂.heap.objs.size + 1) h ((s₂.heap.objs.size, listOf out.toArray e) :: led')) (∀ p ∈ led', p.1 ≠ I ∧ p.1 ≠ s₂.heap.objs.size ∧ p.1 ≠ s₂.heap.objs.size + 1) (J i out led') (out.length ≤ i) (i ≤ n) (k = n + 1 - i)
    have inv0 : Inv (n + 1) { s₂ with heap := h₄, toks := tk₄ } := by
      refine ⟨h₄, tk₄, _, led, [], 0, 0, rfl, W.frame _ _ _ st fun b hb o e => old4 b o e, F4, fun p hp => ?_, fun p hp => ⟨hoff p hp, Nat.ne_of_lt (ledlt p hp), Nat.ne_of_lt (Nat.lt_succ_of_lt (ledlt p hp))⟩, hJ, Nat.le_refl _, Nat.zero_le _, rfl⟩
      rcases List.mem_cons.mp hp with rfl | hp
      · exact ⟨hD4, Nat.ne_of_lt (Nat.lt_succ_self _), fresh _ (Nat.le_refl _)⟩
      · exact ⟨old4 _ _ (N p hp).1, Nat.ne_of_lt (Nat.lt_succ_of_lt (ledlt p hp)), hhid _ (.tail _ (List.mem_map_of_mem hp))⟩
    have hDI : s₂.heap.objs.size ≠ I := fun q => Nat.lt_irrefl _ (q ▸ hIs)
    have hCI : s₂.heap.objs.size + 1 ≠ I := fun q => Nat.lt_irrefl _ (Nat.lt_of_succ_lt (q ▸ hIs))
    have hwI : ∀ b, b ≠ I → b ∉ [I] := fun b h q => h (List.mem_singleton.mp q)
    have hgI : g'.get? I = none := hhid _ (.head _)
    have pre : ∀ (k : Nat) (s' : Shared) (R2 : Option Value → Shared → Prop), Inv k s' →
        (∀ (h : Heap) (led' : List (Addr × Obj)) (out : List Value) (e : Nat) (mC : Str → Option Value), Fr g' (s₂.heap.objs.size + 1) h mC → News g' (s₂.heap.objs.size + 1) h ((s₂.heap.objs.size, listOf out.toArray e) :: led') → (∀ p ∈ led', p.1 ≠ I ∧ p.1 ≠ s₂.heap.objs.size + 1) → J n out led' → ∀ h' tk', (∀ b o, b ∉ [I] → h.get? b = some o → h'.get? b = some o) → R2 none { s₂ with heap := h', toks := tk' }) →
        (∀ h tk led' out e i mC v, i < n → k = n + 1 - i → P i v → out.length ≤ i → J i out led' → St (i + 1) h → Fr g' (s₂.heap.objs.size + 1) h mC → News g' (s₂.heap.objs.size + 1) h ((s₂.heap.objs.size, listOf out.toArray e) :: led') → (∀ p ∈ led', p.1 ≠ I ∧ p.1 ≠ s₂.heap.objs.size ∧ p.1 ≠ s₂.heap.objs.size + 1) → R2 (some v) { s₂ with heap := h, toks := tk }) →
        wpAny (model prog w) A (pyNext (.ref I)) R2 (fun _ _ => False) s' := by
      rintro k s' R2 ⟨h, tk, mC, led', out, e, i, rfl, st', F', N', ho, hj, hle, hi, rfl⟩ hnone hsome
      by_cases hlt : i < n
      · refine W.item i _ _ _ hlt st' fun v h₁ tk₁ hP st₁ k₁ => ?_
        have kg : ∀ b o, g'.get? b = some o → h₁.get? b = some o := fun b o e => k₁ b o (hwI b fun q => by rw [q, hgI] at e; cases e) (F'.keep b o e)
        refine hsome h₁ tk₁ led' out e i mC v hlt rfl hP hle hj st₁ ⟨F'.ns.at' fun o e => k₁ _ o (hwI _ hCI) e, kg, F'.above⟩ (fun p hp => ⟨k₁ _ _ (hwI _ ?_) (N' p hp).1, (N' p hp).2⟩) ho
        rcases List.mem_cons.mp hp with rfl | hp
        · exact hDI
        · exact (ho p hp).1
      · have hin' : i = n := Nat.le_antisymm hi (Nat.not_lt.mp hlt)
        subst hin'
        refine W.done _ _ _ st' fun h₁ tk₁ k₁ => ?_
        exact hnone h led' out e mC F' N' (fun p hp => ⟨(ho p hp).1, (ho p hp).2.2⟩) hj h₁ tk₁ k₁
    have post : ∀ (k i : Nat) (s' : Shared) (out : List Value) (e : Nat) (own : List (Addr × Obj)) (tk₀ : Nat) (h₀ : Heap), i < n → k = n + 1 - i → out.length ≤ i → (∀ b ∈ fp, ∀ o, g'.get? b = none → h₀.get? b = some o → (b, o) ∈ own) → St (i + 1) h₀ → (∀ b o, g'.get? b = some o → h₀.get? b = some o) →
        CompEnd g' (s₂.heap.objs.size + 1) s₂.heap.objs.size I (J (i + 1)) out e own { s₂ with heap := h₀, toks := tk₀ } s' → ∃ m, m < k ∧ Inv m s' := by
      rintro k i s' out e own tk₀ h₀ hi rfl hle hown st' hk0 ⟨h', tk', m', led', rfl, F', N', ho', hj'⟩
      refine ⟨n + 1 - (i + 1), by exact (LI2 (.im (.lt V0 V1) (.lt (.s (.a V1 O1) (.a V0 O1)) (.s (.a V1 O1) V0)))) hi, h', tk', m', led', out, e, i + 1, rfl, W.frame _ _ _ st' fun b hb o q => ?_, F', news_sub N' fun p hp => ?_, ho', hj', Nat.le_succ_of_le hle, hi, rfl⟩
      · cases hq : g'.get? b with
        | some o' =>
          have := hk0 b o' hq
          rw [q] at this; cases this
          exact F'.keep b _ hq
        | none => exact (N' _ (.tail _ (List.mem_append_right _ (hown b hb o hq q)))).1
      · rcases List.mem_cons.mp hp with rfl | hp
        · exact .head _
        · exact .tail _ (List.mem_append_left _ hp)
    have app : ∀ (k i : Nat) (s' : Shared) (r : Value) (out : List Value) (e : Nat) (own : List (Addr × Obj)) (tk₀ : Nat) (h₀ : Heap), i < n → k = n + 1 - i → out.length ≤ i → (∀ b ∈ fp, ∀ o, g'.get? b = none → h₀.get? b = some o → (b, o) ∈ own) → (∀ p ∈ own, p.1 ∈ fp) → St (i + 1) h₀ → (∀ b o, g'.get? b = some o → h₀.get? b = some o) →
        CompEnd g' (s₂.heap.objs.size + 1) s₂.heap.objs.size I (fun o l => J (i + 1) (o ++ [r]) l) out e own { s₂ with heap := h₀, toks := tk₀ } s' → wpAny (model prog w) A (call (.builtin "list.append") [.ref s₂.heap.objs.size, r]) (fun _ s₄ => ∃ m, m < k ∧ Inv m s₄) (fun _ _ => False) s' := by
      rintro k i s' r out e own tk₀ h₀ hi rfl hle hown hof st' hk0 ⟨h', tk', m', led', rfl, F', N', ho', hj'⟩
      refine append_K (D := s₂.heap.objs.size) (its := out.toArray) (n := e) (news' := (s₂.heap.objs.size, listOf (out.toArray.push r) (e + 1)) :: (led' ++ own)) F' N' (.head fun p hp => ?_) (fun h'' F'' N'' => ?_) (by rw [List.size_toArray]; exact (LI4 (.im (.lt V0 V1) (.im (.lt V1 V2) (.im (.le V3 V0) (.le V3 V2))))) hi hn hle)
      · rcases List.mem_append.mp hp with hp | hp
        · exact (ho' p hp).2.1
        · exact fun q => hDf (q ▸ hof p hp)
      · refine ⟨n + 1 - (i + 1), by exact (LI2 (.im (.lt V0 V1) (.lt (.s (.a V1 O1) (.a V0 O1)) (.s (.a V1 O1) V0)))) hi, h'', _, m', led', out ++ [r], e + 1, i + 1, rfl, W.frame _ _ _ st' fun b hb o q => ?_, F'', news_sub N'' fun p hp => ?_, ho', hj', by rw [List.length_append]; exact Nat.succ_le_succ hle, hi, rfl⟩
        · cases hq : g'.get? b with
          | some o' =>
            have := hk0 b o' hq
            rw [q] at this; cases this
            exact F''.keep b _ hq
          | none => exact (N'' _ (.tail _ (List.mem_append_right _ (hown b hb o hq q)))).1
        · rcases List.mem_cons.mp hp with rfl | hp
          · rw [List.push_toArray]; exact .head _
          · exact .tail _ (List.mem_append_left _ hp)
    have fin' : ∀ (h : Heap) (led' : List (Addr × Obj)) (out : List Value) (e : Nat) (mC : Str → Option Value) (h' : Heap) (tk' : Nat), Fr g' (s₂.heap.objs.size + 1) h mC → News g' (s₂.heap.objs.size + 1) h ((s₂.heap.objs.size, listOf out.toArray e) :: led') → (∀ p ∈ led', p.1 ≠ I ∧ p.1 ≠ s₂.heap.objs.size + 1) → J n out led' → (∀ b o, b ∉ [I] → h.get? b = some o → h'.get? b = some o) → R (.ok .next) { s₂ with heap := h', toks := tk' } := by
      intro h led' out e mC h' tk' F' N' ho hj k₁
      refine fin led' out e h' tk' mC hj ⟨F'.ns.at' fun o e => k₁ _ o (hwI _ hCI) e, fun b o e => k₁ b o (hwI b fun q => by rw [q, hgI] at e; cases e) (F'.keep b o e), F'.above⟩ (fun p hp => ⟨k₁ _ _ (hwI _ ?_) (N' p hp).1, (N' p hp).2⟩) fun p hp => (ho p hp).2
      rcases List.mem_cons.mp hp with rfl | hp
      · exact hDI
      · exact (ho p hp).1
    have one : ∀ (k : Nat) (s' : Shared), Inv k s' → wpAny (model prog w) A (pyNext (.ref I)) (fun r s₁ => match r with
        | none => R (.ok .next) s₁
        | some v => wpAny (model prog w) A (letOwnedTupleGo T (.ref I) v) (fun _ s₁' => wpAny (model prog w) A (assign T (cEnv env scope (s₂.heap.objs.size + 1) cl) v) (fun _ s₂' => wpAny (model prog w) A (match tst with | none => pure true | some c => isTrue c (cEnv env scope (s₂.heap.objs.size + 1) cl) (eval c (cEnv env scope (s₂.heap.objs.size + 1) cl)))
          (fun b s' => if b = true then wpAny (model prog w) A (eval elt (cEnv env scope (s₂.heap.objs.size + 1) cl)) (fun r s' => wpAny (model prog w) A (call (.builtin "list.append") [.ref s₂.heap.objs.size, r]) (fun _ s₄ => ∃ m, m < k ∧ Inv m s₄) (fun _ _ => False) s') (fun _ _ => False) s'
            else ∃ m, m < k ∧ Inv m s') (fun _ _ => False) s₂') (fun _ _ => False) s₁') (fun _ _ => False) s₁) (fun _ _ => False) s' := by
      rintro k s' ⟨h, tk, mC, led', out, e, i, rfl, st', F', N', ho, hj, hle, hi, rfl⟩
      refine pre _ _ _ ⟨h, tk, mC, led', out, e, i, rfl, st', F', N', ho, hj, hle, hi, rfl⟩ ?_ ?_
      · intro h led' out e mC F' N' ho hj h' tk' k₁
        exact fin' h led' out e mC h' tk' F' N' ho hj k₁
      · intro h₁ tk₁ led₁ out₁ e₁ i₁ mC₁ v hlt hk hP hle₁ hj₁ st₁ F₁ N₁ ho₁
        refine asg g' i₁ v h₁ tk₁ mC₁ _ hgg hin hlt hP st₁ F₁ fun h₂ tk₂ m₂ hU F₂ k₂ => ?_
        have Nown : News g' (s₂.heap.objs.size + 1) h₂ (ownOf g' fp h₂) := news_ownOf hCf
        have st₂ : St (i₁ + 1) h₂ := W.frame _ _ _ st₁ fun b hb o e => k₂ b o (fun (q : b = s₂.heap.objs.size + 1) => hCf (q ▸ hb)) e
        have N₂ : News g' (s₂.heap.objs.size + 1) h₂ ((s₂.heap.objs.size, listOf out₁.toArray e₁) :: (led₁ ++ ownOf g' fp h₂)) := fun p hp => by
          have up : ∀ p ∈ (s₂.heap.objs.size, listOf out₁.toArray e₁) :: led₁, h₂.get? p.1 = some p.2 ∧ p.1 ≠ s₂.heap.objs.size + 1 ∧ g'.get? p.1 = none := fun p hp => ⟨k₂ _ _ (fun q => (N₁ p hp).2.1 q) (N₁ p hp).1, (N₁ p hp).2⟩
          rcases List.mem_cons.mp hp with rfl | hp
          · exact up _ (.head _)
          · rcases List.mem_append.mp hp with hp | hp
            · exact up _ (.tail _ hp)
            · exact Nown p hp
        refine wpAny_mono (turn g' i₁ v out₁ e₁ led₁ h₂ _ mC₁ m₂ (ownOf g' fp h₂) hU hgg hLg hin hlt hP hle₁ hj₁ ho₁ F₂ N₂ ownOf_sub st₂) (fun b s' hb => ?_) fun _ _ h => h
        cases b with
        | true =>
          rw [if_pos rfl] at hb ⊢
          exact wpAny_mono hb (fun r s' hr => app _ i₁ s' r out₁ e₁ _ tk₂ h₂ hlt hk hle₁ (fun b hb o hn e => mem_ownOf hb hn e) ownOf_sub st₂ F₂.keep hr) fun _ _ h => h
        | false =>
          rw [if_neg Bool.false_ne_true] at hb ⊢
          exact post _ i₁ s' out₁ e₁ _ tk₂ h₂ hlt hk hle₁ (fun b hb o hn e => mem_ownOf hb hn e) st₂ F₂.keep hb
    exact compLoop_T Inv (fun k s' hi => one k s' hi) (n + 1) inv0
  exact codeAny_compStart_list (main _) (W.self 0 _ _ _ (W.frame _ _ _ st fun b hb o e => old4 b o e) (main _))
noncomputable def CompAtT (prog : Program) (w : World) (A : Around) (env : Env) (scope : Scope) (cl : List (Str × Addr)) (T : Expr) (U : Value → (Str → Option Value) → (Str → Option Value) → Prop) (tst : Option Expr) (elt : Expr) (Q : Value → Shared → Prop) (it : Value) (s₂ : Shared) : Prop :=
  E10 fun (I : Addr) (fp : List Addr) (n : Nat) (P : Nat → Value → Prop) (St : Nat → Heap → Prop) (g : Heap) (L : Addr) (m : Str → Option Value) (led : List (Addr × Obj)) (J : Nat → List Value → List (Addr × Obj) → Prop) => A15 (it = .ref I) (Walks prog w A I fp [I] n P St) (St 0 s₂.heap) (Fr g L s₂.heap m) (News g L s₂.heap led) (∀ p ∈ led, p.1 ≠ I) (g.get? I = none) (L ≠ I) (I < s₂.heap.objs.size) (∀ b ∈ fp, b < s₂.heap.objs.size) (n < sizeLine) (J 0 [] led) (∀ (g' : Heap) (i : Nat) (v : Value) (h : Heap) (tk : Nat) (mC : Str → Option Value) (Q' : Unit → Shared → Prop), (∀ b o, g.get? b = some o → g'.get? b = some o) → (∀ b o, b ≠ I → b ∉ led.map (·.1) → s₂.heap.get? b = some o → g'.get? b = some o) → i < n → P i v → St (i + 1) h → Fr g' (s₂.heap.objs.size + 1) h mC →
      (∀ h' tk' m', U v mC m' → Fr g' (s₂.heap.objs.size + 1) h' m' → (∀ b o, b ≠ s₂.heap.objs.size + 1 → h.get? b = some o → h'.get? b = some o) → Q' () { s₂ with heap := h', toks := tk' }) →
      wpAny (model prog w) A (letOwnedTupleGo T (.ref I) v) (fun _ s' => wpAny (model prog w) A (assign T (cEnv env scope (s₂.heap.objs.size + 1) cl) v) Q' (fun _ _ => False) s') (fun _ _ => False) { s₂ with heap := h, toks := tk }) (∀ (g' : Heap) (i : Nat) (v : Value) (out : List Value) (k : Nat) (led₁ : List (Addr × Obj)) (h : Heap) (tk : Nat) (mC m' : Str → Option Value) (own : List (Addr × Obj)), U v mC m' → (∀ b o, g.get? b = some o → g'.get? b = some o) → g'.Ns L m → (∀ b o, b ≠ I → b ∉ led.map (·.1) → s₂.heap.get? b = some o → g'.get? b = some o) →
      i < n → P i v → out.length ≤ i → J i out led₁ → (∀ p ∈ led₁, p.1 ≠ I ∧ p.1 ≠ s₂.heap.objs.size ∧ p.1 ≠ s₂.heap.objs.size + 1) →
      Fr g' (s₂.heap.objs.size + 1) h m' → News g' (s₂.heap.objs.size + 1) h ((s₂.heap.objs.size, listOf out.toArray k) :: (led₁ ++ own)) → (∀ p ∈ own, p.1 ∈ fp) → St (i + 1) h →
      wpAny (model prog w) A (match tst with | none => pure true | some c => isTrue c (cEnv env scope (s₂.heap.objs.size + 1) cl) (eval c (cEnv env scope (s₂.heap.objs.size + 1) cl)))
        (fun b s' => if b = true then wpAny (model prog w) A (eval elt (cEnv env scope (s₂.heap.objs.size + 1) cl)) (fun r s' => Halt (CompEnd g' (s₂.heap.objs.size + 1) s₂.heap.objs.size I (fun o l => J (i + 1) (o ++ [r]) l) out k own s₂ s')) (fun _ _ => False) s'
          else Halt (CompEnd g' (s₂.heap.objs.size + 1) s₂.heap.objs.size I (J (i + 1)) out k own s₂ s'))
        (fun _ _ => False) { s₂ with heap := h, toks := tk }) (∀ (led' : List (Addr × Obj)) (out : List Value) (k : Nat) (h : Heap) (tk : Nat), J n out led' → Fr g L h m → News g L h ((s₂.heap.objs.size, listOf out.toArray k) :: led') → (∀ b o, b ≠ I → b ∉ led.map (·.1) → s₂.heap.get? b = some o → h.get? b = some o) → Q (.ref s₂.heap.objs.size) { s₂ with heap := h, toks := tk })
theorem comp_ruleT {elt iter T : Expr} {U : Value → (Str → Option Value) → (Str → Option Value) → Prop} {tst : Option Expr} {scope : Scope} {pos : Pos} {cl : List (Str × Addr)} {Q : Value → Shared → Prop}
    (hh : A.handled = none) (hclos : closureFor scope env = pure cl) (hkind : scope.kind = .function) (hcell : ∀ y ∈ scope.names, y.2 ≠ .cell) (hnames : ∀ y ∈ scope.names, y.2 = .local → scope.names.lookup y.1 = some .local)
    (h : wpAny (model prog w) A (eval iter env) (fun xv s₁ => wpAny (model prog w) A (pyIter xv) (fun it s₂ => CompAtT prog w A env scope cl T U tst elt Q it s₂) (fun _ _ => False) s₁) (fun _ _ => False) s)
    (hs : ∀ x, foldedSetIterable iter env x = pure x := by intro _; rfl) :
    wpAny (model prog w) A (eval (.ListComp elt [⟨T, iter, tst.toList, 0⟩] scope pos) env) Q (fun _ _ => False) s := by
  rw [eval_ListComp]
  refine comp_all (U := U) hh hclos hkind hcell hnames (wpAny_mono h (fun xv s₁ h₁ => wpAny_mono h₁ (fun it s₂ h₂ => ?_) fun _ _ e => e) fun _ _ e => e) hs
  obtain ⟨I, fp, n, P, St, g, L, m, led, J, hI, W, st, F, N, hoff, hI0, hLI, hIs, hfp, hn, hJ, asg, turn, done⟩ := h₂
  refine ⟨I, fp, n, P, St, g, L, m, led, J, hI, W, st, F, N, hoff, hI0, hLI, hIs, hfp, hn, hJ, asg, turn, fun g' led' out k h tk m' hgg hLg hin hout hj F' N' hne => ?_⟩
  refine ⟨m', F'.ns, fun h'' hs'' => ?_⟩
  have keep : ∀ b o, g'.get? b = some o → h''.get? b = some o := fun b o e => by
    rw [hs''.2 b (Nat.ne_of_lt (Nat.lt_succ_of_lt (Heap.lt_size (hout b o e))))]
    exact F'.keep b o e
  refine done led' out k h'' tk hj ⟨hLg.at' fun o e => keep L o e, fun b o e => keep b o (hgg b o e), F.above⟩ (fun p hp => ?_) fun b o h1 h2 e => keep b o (hin b o h1 h2 e)
  have hp1 : p.1 ≠ s₂.heap.objs.size + 1 := by
    rcases List.mem_cons.mp hp with rfl | hp
    · exact Nat.ne_of_lt (Nat.lt_succ_self _)
    · exact hne p hp
  refine ⟨(hs''.2 p.1 hp1).trans (N' p hp).1, fun q => ?_, ?_⟩
  · obtain ⟨o, _, _, e, _⟩ := hLg
    have := (N' p hp).2.2
    rw [q, e] at this; cases this
  · cases q : g.get? p.1 with
    | none => rfl
    | some o => have := (N' p hp).2.2; rw [hgg _ _ q] at this; cases this
theorem name_asg {x : Str} {px : Pos} {scope : Scope} {cl : List (Str × Addr)} {C I : Addr} {v : Value} {g' h : Heap} {tk : Nat} {mC : Str → Option Value} {Q' : Unit → Shared → Prop} (hkind : scope.kind = .function) (hx : scope.names.lookup x = some .local) (FC : Fr g' C h mC)
    (hq : ∀ h' tk' m', (m' = fun y => if y = x then some v else mC y) → Fr g' C h' m' → (∀ b o, b ≠ C → h.get? b = some o → h'.get? b = some o) → Q' () { s₂ with heap := h', toks := tk' }) :
    wpAny (model prog w) A (letOwnedTupleGo (.Name x px) (.ref I) v) (fun _ s' => wpAny (model prog w) A (assign (.Name x px) (cEnv env scope C cl) v) Q' (fun _ _ => False) s') (fun _ _ => False) { s₂ with heap := h, toks := tk } := by
  refine wpAny_pure ?_
  refine wpAny_assign_Name (wpAny_storeName_local (lookup_relabel_local hx) FC.ns (fun h₂ hn₂ hs₂ => hq h₂ _ _ rfl (FC.set hn₂ hs₂) fun b o hb e => (hs₂.2 b hb).trans e) ?_)
  show (scope.kind == .class || (scope.kind == .module && _)) = false
  rw [hkind]; rfl
noncomputable def CompAt (prog : Program) (w : World) (A : Around) (env : Env) (scope : Scope) (cl : List (Str × Addr)) (x : Str) (tst : Option Expr) (elt : Expr) (Q : Value → Shared → Prop) (it : Value) (s₂ : Shared) : Prop :=
  E10 fun (I : Addr) (fp : List Addr) (n : Nat) (P : Nat → Value → Prop) (St : Nat → Heap → Prop) (g : Heap) (L : Addr) (m : Str → Option Value) (led : List (Addr × Obj)) (J : Nat → List Value → List (Addr × Obj) → Prop) => A14 (it = .ref I) (Walks prog w A I fp [I] n P St) (St 0 s₂.heap) (Fr g L s₂.heap m) (News g L s₂.heap led) (∀ p ∈ led, p.1 ≠ I) (g.get? I = none) (L ≠ I) (I < s₂.heap.objs.size) (∀ b ∈ fp, b < s₂.heap.objs.size) (n < sizeLine) (J 0 [] led) (∀ (g' : Heap) (i : Nat) (v : Value) (out : List Value) (k : Nat) (led₁ : List (Addr × Obj)) (h : Heap) (tk : Nat) (mC : Str → Option Value) (own : List (Addr × Obj)), (∀ b o, g.get? b = some o → g'.get? b = some o) → g'.Ns L m → (∀ b o, b ≠ I → b ∉ led.map (·.1) → s₂.heap.get? b = some o → g'.get? b = some o) →
      i < n → P i v → out.length ≤ i → J i out led₁ → (∀ p ∈ led₁, p.1 ≠ I ∧ p.1 ≠ s₂.heap.objs.size ∧ p.1 ≠ s₂.heap.objs.size + 1) →
      Fr g' (s₂.heap.objs.size + 1) h (fun y => if y = x then some v else mC y) → News g' (s₂.heap.objs.size + 1) h ((s₂.heap.objs.size, listOf out.toArray k) :: (led₁ ++ own)) → (∀ p ∈ own, p.1 ∈ fp) → St (i + 1) h →
      wpAny (model prog w) A (match tst with | none => pure true | some c => isTrue c (cEnv env scope (s₂.heap.objs.size + 1) cl) (eval c (cEnv env scope (s₂.heap.objs.size + 1) cl)))
        (fun b s' => if b = true then wpAny (model prog w) A (eval elt (cEnv env scope (s₂.heap.objs.size + 1) cl)) (fun r s' => Halt (CompEnd g' (s₂.heap.objs.size + 1) s₂.heap.objs.size I (fun o l => J (i + 1) (o ++ [r]) l) out k own s₂ s')) (fun _ _ => False) s'
          else Halt (CompEnd g' (s₂.heap.objs.size + 1) s₂.heap.objs.size I (J (i + 1)) out k own s₂ s'))
        (fun _ _ => False) { s₂ with heap := h, toks := tk }) (∀ (led' : List (Addr × Obj)) (out : List Value) (k : Nat) (h : Heap) (tk : Nat), J n out led' → Fr g L h m → News g L h ((s₂.heap.objs.size, listOf out.toArray k) :: led') → (∀ b o, b ≠ I → b ∉ led.map (·.1) → s₂.heap.get? b = some o → h.get? b = some o) → Q (.ref s₂.heap.objs.size) { s₂ with heap := h, toks := tk })
theorem comp_rule {elt iter : Expr} {x : Str} {px : Pos} {tst : Option Expr} {scope : Scope} {pos : Pos} {cl : List (Str × Addr)} {Q : Value → Shared → Prop}
    (hh : A.handled = none) (hclos : closureFor scope env = pure cl) (hkind : scope.kind = .function) (hcell : ∀ y ∈ scope.names, y.2 ≠ .cell) (hnames : ∀ y ∈ scope.names, y.2 = .local → scope.names.lookup y.1 = some .local) (hx : scope.names.lookup x = some .local)
    (h : wpAny (model prog w) A (eval iter env) (fun xv s₁ => wpAny (model prog w) A (pyIter xv) (fun it s₂ => CompAt prog w A env scope cl x tst elt Q it s₂) (fun _ _ => False) s₁) (fun _ _ => False) s)
    (hs : ∀ x, foldedSetIterable iter env x = pure x := by intro _; rfl) :
    wpAny (model prog w) A (eval (.ListComp elt [⟨.Name x px, iter, tst.toList, 0⟩] scope pos) env) Q (fun _ _ => False) s := by
  refine comp_ruleT (U := fun v mC m' => m' = fun y => if y = x then some v else mC y) hh hclos hkind hcell hnames (wpAny_mono h (fun xv s₁ h₁ => wpAny_mono h₁ (fun it s₂ h₂ => ?_) fun _ _ e => e) fun _ _ e => e) hs
  obtain ⟨I, fp, n, P, St, g, L, m, led, J, hI, W, st, F, N, hoff, hI0, hLI, hIs, hfp, hn, hJ, turn, done⟩ := h₂
  exact ⟨I, fp, n, P, St, g, L, m, led, J, hI, W, st, F, N, hoff, hI0, hLI, hIs, hfp, hn, hJ, fun _ _ _ _ _ _ _ _ _ _ _ _ FC hq => name_asg hkind hx FC hq, fun g' i v out k led₁ h tk mC m' own hU => by rw [show m' = _ from hU]; exact turn g' i v out k led₁ h tk mC own, done⟩
noncomputable def CompTurn (prog : Program) (w : World) (A : Around) (env : Env) (scope : Scope) (cl : List (Str × Addr)) (x : Str) (tst : Option Expr) (elt : Expr) (g : Heap) (L : Addr) (m : Str → Option Value) (led : List (Addr × Obj)) (n : Nat) (P : Nat → Value → Prop) (J : Nat → List Value → List (Addr × Obj) → Prop) (s : Shared) : Prop :=
  ∀ (D I : Addr) (s₂ : Shared) (g' : Heap) (i : Nat) (v : Value) (out : List Value) (k : Nat) (led₁ : List (Addr × Obj)) (h : Heap) (tk : Nat) (mC : Str → Option Value) (own : List (Addr × Obj)), s.heap.objs.size ≤ I → I < D → (∃ h' tk', s₂ = { s with heap := h', toks := tk' }) → (∀ b o, g.get? b = some o → g'.get? b = some o) → g'.Ns L m → (∀ b o, b ∉ led.map (·.1) → s.heap.get? b = some o → g'.get? b = some o) →
      i < n → P i v → out.length ≤ i → J i out led₁ → (∀ p ∈ led₁, p.1 ≠ I ∧ p.1 ≠ D ∧ p.1 ≠ D + 1) →
      Fr g' (D + 1) h (fun y => if y = x then some v else mC y) → News g' (D + 1) h ((D, listOf out.toArray k) :: (led₁ ++ own)) →
      wpAny (model prog w) A (match tst with | none => pure true | some c => isTrue c (cEnv env scope (D + 1) cl) (eval c (cEnv env scope (D + 1) cl)))
        (fun b s' => if b = true then wpAny (model prog w) A (eval elt (cEnv env scope (D + 1) cl)) (fun r s' => Halt (CompEnd g' (D + 1) D I (fun o l => J (i + 1) (o ++ [r]) l) out k own s₂ s')) (fun _ _ => False) s'
          else Halt (CompEnd g' (D + 1) D I (J (i + 1)) out k own s₂ s'))
        (fun _ _ => False) { s with heap := h, toks := tk }
noncomputable def CompDone (g : Heap) (L : Addr) (m : Str → Option Value) (led : List (Addr × Obj)) (n : Nat) (J : Nat → List Value → List (Addr × Obj) → Prop) (Q : Value → Shared → Prop) (s : Shared) : Prop :=
  ∀ (D : Addr) (led' : List (Addr × Obj)) (out : List Value) (k : Nat) (h : Heap) (tk : Nat), s.heap.objs.size ≤ D → J n out led' → Fr g L h m → News g L h ((D, listOf out.toArray k) :: led') → (∀ b o, b ∉ led.map (·.1) → s.heap.get? b = some o → h.get? b = some o) → Q (.ref D) { s with heap := h, toks := tk }
theorem comp_push {o : Obj} {scope : Scope} {cl : List (Str × Addr)} {x : Str} {tst : Option Expr} {elt : Expr} {Q : Value → Shared → Prop} {fp : List Addr} {n : Nat} {P : Nat → Value → Prop} {St : Nat → Heap → Prop} {L : Addr} {m : Str → Option Value} {led : List (Addr × Obj)}
    (J : Nat → List Value → List (Addr × Obj) → Prop)
    (W : Walks prog w A s.heap.objs.size fp [s.heap.objs.size] n P St) (st : St 0 (s.heap.push o)) (F : Fr g L s.heap m) (N : News g L s.heap led) (hfp : ∀ b ∈ fp, b ≤ s.heap.objs.size) (hn : n < sizeLine) (hJ : J 0 [] led)
    (turn : CompTurn prog w A env scope cl x tst elt g L m led n P J s) (done : CompDone g L m led n J Q s) :
    CompAt prog w A env scope cl x tst elt Q (.ref s.heap.objs.size) { s with heap := s.heap.push o } := by
  have hL : L < s.heap.objs.size := F.ns.lt
  have hlt : ∀ p ∈ led, p.1 < s.heap.objs.size := fun p hp => Heap.lt_size (N p hp).1
  have hsz : (s.heap.push o).objs.size = s.heap.objs.size + 1 := Heap.size_push ..
  have gI : g.get? s.heap.objs.size = none := by
    cases e : g.get? s.heap.objs.size with
    | none => rfl
    | some o => exact absurd (Heap.lt_size (F.keep _ _ e)) (Nat.lt_irrefl _)
  have keep : ∀ b o', s.heap.get? b = some o' → (s.heap.push o).get? b = some o' := fun b o' e => Heap.get?_push_of_some _ e
  have ne : ∀ b o', s.heap.get? b = some o' → b ≠ s.heap.objs.size := fun b o' e => Nat.ne_of_lt (Heap.lt_size e)
  refine ⟨s.heap.objs.size, fp, n, P, St, g, L, m, led, J, rfl, W, st, F.push o, fun p hp => ⟨keep _ _ (N p hp).1, (N p hp).2⟩, fun p hp => Nat.ne_of_lt (hlt p hp), gI, Nat.ne_of_lt hL, by rw [hsz]; exact Nat.lt_succ_self _, fun b hb => by rw [hsz]; exact Nat.lt_succ_of_le (hfp b hb), hn, hJ, ?_, ?_⟩
  · intro g' i v out k led₁ h tk mC own a1 a2 a3 a4 a5 a6 a7 a8 a9 a10 _ _
    exact turn (s.heap.push o).objs.size s.heap.objs.size { s with heap := s.heap.push o } g' i v out k led₁ h tk mC own (Nat.le_refl _) (by rw [hsz]; exact Nat.lt_succ_self _) ⟨_, _, rfl⟩ a1 a2 (fun b o' hb e => a3 b o' (ne b o' e) hb (keep _ _ e)) a4 a5 a6 a7 a8 a9 a10
  · intro led' out k h tk a1 a2 a3 a4
    exact done (s.heap.push o).objs.size led' out k h tk (by rw [hsz]; exact Nat.le_succ _) a1 a2 a3 fun b o' hb e => a4 b o' (ne b o' e) hb (keep _ _ e)
section
variable {scope : Scope} {cl : List (Str × Addr)} {x : Str} {tst : Option Expr} {elt : Expr} {Q : Value → Shared → Prop} {L : Addr} {m : Str → Option Value} {led : List (Addr × Obj)} (J : Nat → List Value → List (Addr × Obj) → Prop)
theorem comp_str {y : Str} {t : Tok} (hh : A.handled = none) (F : Fr g L s.heap m) (N : News g L s.heap led) (hn : y.cps.size < sizeLine) (hJ : J 0 [] led)
    (turn : CompTurn prog w A env scope cl x tst elt g L m led y.cps.size (SignAt y) J s) (done : CompDone g L m led y.cps.size J Q s) :
    wpAny (model prog w) A (pyIter (.str y t)) (fun it s₂ => CompAt prog w A env scope cl x tst elt Q it s₂) (fun _ _ => False) s :=
  wpAny_pyIter_str fun o St W st => comp_push J (W A hh) st F N (fun b hb => by rw [List.mem_singleton.mp hb]; exact Nat.le_refl _) hn hJ turn done
theorem comp_list {l : Addr} {items : Array Value} (hh : A.handled = none) (hl : s.heap.IsList l items) (F : Fr g L s.heap m) (N : News g L s.heap led) (hn : items.size < sizeLine) (hJ : J 0 [] led)
    (turn : CompTurn prog w A env scope cl x tst elt g L m led items.size (fun i v => items[i]? = some v) J s) (done : CompDone g L m led items.size J Q s) :
    wpAny (model prog w) A (pyIter (.ref l)) (fun it s₂ => CompAt prog w A env scope cl x tst elt Q it s₂) (fun _ _ => False) s := by
  have hlt : l < s.heap.objs.size := hl.elim fun _ e => Heap.lt_size e.1
  refine wpAny_pyIter_list hl (comp_push J (Walks.list hh _ l (Nat.ne_of_lt hlt) items) ⟨⟨_, Heap.get?_push_size _ rfl, rfl, rfl⟩, hl.at fun o e => Heap.get?_push_of_some _ e⟩ F N (fun b hb => ?_) hn hJ turn done)
  rcases List.mem_cons.mp hb with rfl | hb
  · exact Nat.le_refl _
  · rw [List.mem_singleton.mp hb]; exact Nat.le_of_lt hlt
theorem comp_range {r : Addr} {a b : Int} {c : Int} {t u v : Tok} (hh : A.handled = none) (hr : IsRange s.heap r a b c t u v) (hsmall : Builtin.Range.small a b c = true) {n : Nat} (hn0 : Builtin.Range.rangeSize a b c = (n : Int)) (F : Fr g L s.heap m) (N : News g L s.heap led) (hn : n < sizeLine) (hJ : J 0 [] led)
    (turn : CompTurn prog w A env scope cl x tst elt g L m led n (fun i v => ∃ t, v = .int (a + i * c) t) J s) (done : CompDone g L m led n J Q s) :
    wpAny (model prog w) A (pyIter (.ref r)) (fun it s₂ => CompAt prog w A env scope cl x tst elt Q it s₂) (fun _ _ => False) s := by
  refine wpAny_pyIter_range hr hsmall (comp_push J (Walks.range hh _ a c n) ?_ F N (fun b hb => by rw [List.mem_singleton.mp hb]; exact Nat.le_refl _) hn hJ turn done)
  have e := Heap.get?_push_size s.heap (o := ({ cls := .type "range_iterator", data := .fields #[rawInt a, rawInt (Builtin.Range.rangeSize a b c), rawInt c] } : Obj)) rfl
  show IsRangeIter _ _ (a + (0 : Nat) * c) ((n : Int) - (0 : Nat)) c
  rw [hn0] at e ⊢
  rw [show a + ((0 : Nat) : Int) * c = a by simp, show (n : Int) - ((0 : Nat) : Int) = n by simp]
  exact e
end
end
end Mine
end
section
open PySem PySem.W PyProof.Rows PySem.Calls PySem.Spec
namespace Mine
local macro_rules | `(tactic| walk_at $s:str) => Mine.hl ["eval ListComp BinOp", "call builtin:str.index", "pyIter str"] [("eval Name", "@loc")] s
noncomputable def Sg (c : Nat) : Prop := c = 97 ∨ c = 34 ∨ c = 92
theorem intsAre_snoc : ∀ {vs : List Value} {ns : List Int}, IntsAre vs ns → ∀ (n : Int) (t : Tok), IntsAre (vs ++ [.int n t]) (ns ++ [n]) := fun h n t => by
  induction h with
  | nil => exact .cons n t .nil
  | cons a u _ ih => exact .cons a u ih
noncomputable def dig (c : Nat) : Nat := if c = 97 then 1 else if c = 34 then 2 else 3
set_option maxHeartbeats 4000000 in
theorem law_number_spec {prog : Program} {w : World} {A₀ : Around} {dp un : Nat} {gd : Option (List Code)} {s : Shared} {base h₀ : Heap} {outer : List Env} {L : Addr} {m mg mb : Str → Option Value} {env : Env}
    {p : Program} {loose : List Str} {mean : ExcName → Option Value} {Q E : Value → Shared → Prop}
    {x : Str} {tx : Tok} {ps : Array Value} {ex : List (Addr × Obj)}
    (B : Below A₀ base outer h₀) (F : Fr h₀ L s.heap m) (X₀ : (hd.heap_39 w.params).In h₀) (T : Top p loose mean mg mb h₀) (hf : env.frame = some L) (hke : env.scope.kind = .function)
    (hroom : dp + 30 < recursionLimit) (hun : un + 200 < cLine)
    (N : News h₀ L s.heap ((47, tabObj ps) :: ex)) (ok : TabOk 24 4 "_digits2int.<locals>.inner" ps ex)
    (hs : ∀ c ∈ x.cps.toList, Sg c) (hz : x.cps.size ≤ 10) (hne : 0 < x.cps.size)
    (ret : ∀ h' tk t' ps' ex', But [47] s.heap h' → TabOk 24 4 "_digits2int.<locals>.inner" ps' ex' → h'.get? 47 = some (tabObj ps') → (∀ p ∈ ex', h'.get? p.1 = some p.2 ∧ (p ∈ ex ∨ s.heap.get? p.1 = none)) → (∀ p ∈ ex, p ∈ ex') → Q (.int (num (x.cps.toList.map dig) : Nat) t') { s with heap := h', toks := tk }) :
    wpAny (model prog w) (Ar dp un gd (env :: outer)) (call (.ref 291) [.str x tx]) Q E s := by
  refine enter (args := ⟨[.str x tx], []⟩) B F X₀ T N hf hke (by exact (LI2 (.im (.lt (.a V0 (.n 30)) V1) (.lt V0 V1))) hroom) (by k_is) (by k_is) (BindsTo.of_eq rfl) (locs rfl) (fun g h₁ hg hg' F' N' B' X' T' hlow => ?_) rfl rfl rfl (by decide)
  try dsimp only
  k_steps
  refine go ?_
  rename Fr _ _ _ _ => F2
  rename News _ _ _ _ => N2
  refine comp_rule (tst := none) (cl := []) rfl rfl rfl (by decide) (by decide) rfl ?_
  k_steps
  refine go ?_
  refine comp_str (fun i out led => led = (47, tabObj ps) :: ex ∧ IntsAre out (((x.cps.toList.take i).map dig).map Int.ofNat)) rfl F2 N2 (by rw [sizeLine_eq]; exact (LI1 (.im (.le V0 OX) (.lt V0 (.n 16777216)))) hz) ⟨rfl, .nil⟩ ?_ ?_
  · rintro D I s₂ g' i v out e0 led₁ h tk mC own hsI hID ⟨hh, tt, rfl⟩ hgg hL hk hi ⟨c, u, hc, rfl⟩ hle ⟨rfl, hI⟩ ho F3 N3
    refine wpAny_pure ?_
    rw [if_pos rfl]
    have hc' : c ∈ x.cps.toList := List.mem_of_getElem? (by rw [Array.getElem?_toList]; exact hc)
    have ht : ((x.cps.toList.take (i + 1)).map dig).map Int.ofNat = ((x.cps.toList.take i).map dig).map Int.ofNat ++ [Int.ofNat (dig c)] := by
      rw [List.take_add_one, Array.getElem?_toList, hc]; simp
    have go1 : ∀ (k : Int) (t : Tok) (tk' : Nat), k = Int.ofNat (dig c) → Halt (CompEnd g' (D + 1) D I (fun o l => (l = (47, tabObj ps) :: ex) ∧ IntsAre (o ++ [Value.int k t]) (((x.cps.toList.take (i + 1)).map dig).map Int.ofNat)) out e0 own { s with heap := hh, toks := tt } { s with heap := h, toks := tk' }) := by
      intro k t tk' e
      refine ⟨h, tk', _, _, rfl, F3, N3, ho, rfl, ?_⟩
      rw [ht, e]
      exact intsAre_snoc hI _ _
    rcases hs c hc' with rfl | rfl | rfl
    all_goals
      k_steps
      refine go ?_
    · have e : Txt.find (Str.ofString "a\"\\") ⟨#[97]⟩ = 0 := by decide +kernel
      refine index_or rfl (fun h => absurd h (by rw [e]; decide)) (fun _ _ => ?_)
      rw [e]
      k_steps
      exact go1 _ _ _ rfl
    · have e : Txt.find (Str.ofString "a\"\\") ⟨#[34]⟩ = 1 := by decide +kernel
      refine index_or rfl (fun h => absurd h (by rw [e]; decide)) (fun _ _ => ?_)
      rw [e]
      k_steps
      exact go1 _ _ _ rfl
    · have e : Txt.find (Str.ofString "a\"\\") ⟨#[92]⟩ = 2 := by decide +kernel
      refine index_or rfl (fun h => absurd h (by rw [e]; decide)) (fun _ _ => ?_)
      rw [e]
      k_steps
      exact go1 _ _ _ rfl
  · rintro D led' out k h tk hD ⟨rfl, hI⟩ F3 N3 hk
    k_steps
    refine go ?_
    rw [List.take_of_length_le (by simp)] at hI
    have hDex : ¬D ∈ ex.map (fun x => x.1) := fun q => by
      obtain ⟨p, hp, e⟩ := List.mem_map.mp q
      exact absurd (e ▸ Nat.lt_of_lt_of_le (Heap.lt_size (N2 p (.tail _ hp)).1) hD) (Nat.lt_irrefl _)
    refine digits2int_spec (s := { s with heap := h, toks := tk + 1 }) (ds := x.cps.toList.map dig) B' F3 X' T' rfl rfl (by exact (LI2 (.im (.lt (.a V0 (.n 30)) V1) (.lt (.a (.a V0 O1) (.n 20)) V1))) hroom) (by exact (LI2 (.im (.lt (.a V0 (.n 200)) V1) (.lt (.a (.a V0 (.n 3)) (.n 100)) V1))) hun) (news_sub N3 fun q hq => .tail _ hq) ok (News.isList N3 (.head _)) hDex (by simpa using hI) (fun d hd => ?_) (by simpa using hz) (by simpa using hne) (fun h' tk' t' ps' ex' k1 k2 k3 k4 k5 => ?_)
    · obtain ⟨c, _, rfl⟩ := List.mem_map.mp hd
      unfold dig; split <;> (try split) <;> (first | exact (LI0 (.le O1 (.n 3))) | exact (LI0 (.le O2 (.n 3))) | exact (LI0 (.le (.n 3) (.n 3))))
    have kA : But [47] s.heap h := but_tab hg F3.keep (fun p hp => (N p (.tail _ hp)).1) (fun p hp => (N3 p (.tail _ (.tail _ hp))).1)
    refine ret _ _ _ ps' ex' (kA.trans k1) k2 k3 (fun p hp => ⟨(k4 p hp).1, (k4 p hp).2.imp id fun e => ?_⟩) k5
    cases q : s.heap.get? p.1 with
    | none => rfl
    | some o =>
      by_cases h47 : p.1 = 47
      · rw [h47, (N3 _ (.tail _ (.head _))).1] at e; cases e
      · have := kA p.1 o (by simpa using h47) q
        rw [this] at e; cases e
end Mine
end
section
open PySem PySem.W PyProof.Rows PySem.Calls PySem.Spec
namespace Mine
local macro_rules | `(tactic| walk_at $s:str) => Mine.hl [] [] s
local macro_rules | `(tactic| walk_at $s:str) => Mine.hl ["setItem ref int int", "binaryOp LShift int int", "binaryOp RShift int int"] [("callWith ref", "@cw"), ("FnAt", "@fn"), ("eval Name", "@free")] s
noncomputable def i2dIn : Stmt := (bodyOf (stmtAt 3))[1]!
theorem and_low (a k l : Nat) (h : l < 2 ^ k) : (2 ^ k * a + l) &&& (2 ^ k * a) = 2 ^ k * a := by
  rw [Nat.two_pow_add_eq_or_of_lt h]
  apply Nat.eq_of_testBit_eq
  intro i
  simp only [Nat.testBit_and, Nat.testBit_or]
  cases (2 ^ k * a).testBit i <;> simp
theorem xor_low (a k l : Nat) (h : l < 2 ^ k) : Builtin.bitXor (((2 ^ k * a + l : Nat) : Int)) ((2 ^ k * a : Nat) : Int) = (l : Nat) := by
  rw [bitXor_and]
  have e : Builtin.bitAnd (((2 ^ k * a + l : Nat) : Int)) ((2 ^ k * a : Nat) : Int) = ((2 ^ k * a : Nat) : Int) := by
    unfold Builtin.bitAnd
    simp only [Int.natCast_nonneg, decide_true, Int.toNat_natCast, and_low a k l h]
  rw [e]; exact (LI2 (.je (.s (.a (.ca (.a V0 V1)) (.ca V0)) (.m 2 (.ca V0))) (.ca V1)))
theorem pow24 (j : Nat) : 4 ^ j = 2 ^ (2 * j) := by rw [Nat.pow_mul]
theorem num_cut (ds : List Nat) (j : Nat) : num ds = num (ds.take j) + 4 ^ (min j ds.length) * num (ds.drop j) := by
  have h := num_append (ds.take j) (ds.drop j)
  rw [List.take_append_drop, List.length_take] at h
  exact h
theorem num_hi (ds : List Nat) (j : Nat) (hj : j ≤ ds.length) (h3 : ∀ d ∈ ds, d ≤ 3) : ((num ds : Nat) : Int).fdiv (2 ^ (2 * j)) = (num (ds.drop j) : Nat) := by
  have h := num_cut ds j
  have hl := num_lt (ds.take j) fun x hx => h3 x (List.mem_of_mem_take hx)
  rw [List.length_take] at hl
  rw [Nat.min_eq_left hj] at h hl
  rw [Int.fdiv_eq_ediv_of_nonneg _ (Int.le_of_lt (Int.pow_pos (by decide)))]
  have : num ds / 2 ^ (2 * j) = num (ds.drop j) := by
    rw [← pow24, h, Nat.add_mul_div_left _ _ (Nat.pow_pos (by decide)), Nat.div_eq_of_lt hl, Nat.zero_add]
  rw [← this]; rfl
theorem num_lo (ds : List Nat) (j : Nat) (hj : j ≤ ds.length) (h3 : ∀ d ∈ ds, d ≤ 3) : Builtin.bitXor ((num ds : Nat) : Int) (((num (ds.drop j) : Nat) : Int) * 2 ^ (2 * j)) = (num (ds.take j) : Nat) := by
  have h := num_cut ds j
  have hl := num_lt (ds.take j) fun x hx => h3 x (List.mem_of_mem_take hx)
  rw [List.length_take] at hl
  rw [Nat.min_eq_left hj, pow24] at h hl
  have h1 : num ds = 2 ^ (2 * j) * num (ds.drop j) + num (ds.take j) := by exact (LI3 (.im (.eq V0 (.a V1 V2)) (.eq V0 (.a V2 V1)))) h
  have h2 : ((num (ds.drop j) : Nat) : Int) * 2 ^ (2 * j) = ((2 ^ (2 * j) * num (ds.drop j) : Nat) : Int) := by push_cast; rw [Int.mul_comm]
  rw [h2, h1]
  exact xor_low _ _ _ hl
theorem patch2 (ns : List Int) (ds : List Nat) (lo j hi : Nat) (h1 : lo + j ≤ hi) (h2 : hi ≤ ns.length) (h3 : ds.length = hi - lo) (hl : lo ≤ hi) :
    (ns.take lo ++ (ds.take j).map Int.ofNat ++ ns.drop (lo + j)).take (lo + j) ++ (ds.drop j).map Int.ofNat ++ (ns.take lo ++ (ds.take j).map Int.ofNat ++ ns.drop (lo + j)).drop hi = ns.take lo ++ ds.map Int.ofNat ++ ns.drop hi := by
  have hA : (ns.take lo ++ (ds.take j).map Int.ofNat).length = lo + j := by simp; exact (LI5 (.im (.le (.a V0 V1) V2) (.im (.eq V3 (.s V2 V0)) (.im (.le V2 V4) (.eq (.a (.mi V0 V4) (.mi V1 V3)) (.a V0 V1)))))) h1 h3 h2
  rw [List.take_append_of_le_length (by exact (LI3 (.im (.eq V0 (.a V1 V2)) (.le (.a V1 V2) V0))) hA), List.take_of_length_le (by exact (LI3 (.im (.eq V0 (.a V1 V2)) (.le V0 (.a V1 V2)))) hA), List.drop_append, hA, show (ns.take lo ++ (ds.take j).map Int.ofNat).drop hi = [] from List.drop_eq_nil_of_le (by exact (LI4 (.im (.le (.a V0 V1) V2) (.im (.eq V3 (.a V0 V1)) (.le V3 V2)))) h1 hA), List.nil_append, List.drop_drop, show lo + j + (hi - (lo + j)) = hi by exact (LI3 (.im (.le (.a V0 V1) V2) (.eq (.a (.a V0 V1) (.s V2 (.a V0 V1))) V2))) h1]
  rw [List.append_assoc (ns.take lo), ← List.map_append, List.take_append_drop]
set_option maxHeartbeats 4000000 in
theorem i2d_inner {prog : Program} {w : World} {hA : Heap} {f c cN cI cD D : Addr} {fo : Obj} {qual : Str} {cl : List (Str × Addr)} {doc pm ctv : Value} {t2 : Tok}
    (hfo : hA.get? f = some fo) (hfd : fo.data = .func (fnX "inner" qual (parsOf i2dIn) (bodyOf i2dIn) (scopeOf i2dIn) cl .none .none doc pm none (.ref c) ctv)) (hcr : hA.CodeRec (.ref c) qual)
    (hcN : cl.lookup (Str.ofString "n") = some cN) (hcI : cl.lookup (Str.ofString "inner") = some cI) (hcD : cl.lookup (Str.ofString "a_digits") = some cD)
    (hN : hA.IsCell cN (some (.int 2 t2))) (hI : hA.IsCell cI (some (.ref f))) (hD : hA.IsCell cD (some (.ref D))) (hDn : D ≠ f ∧ D ≠ c ∧ D ≠ cN ∧ D ≠ cI ∧ D ≠ cD)
    {p : Program} {loose : List Str} {mean : ExcName → Option Value} {mg mb : Str → Option Value} {base : Heap} :
    ∀ (k : Nat) {A₀ : Around} {dp un : Nat} {gd : Option (List Code)} {s : Shared} {h₀ : Heap} {outer : List Env} {L : Addr} {m : Str → Option Value} {env : Env} {Q E : Value → Shared → Prop} (ds : List Nat) (lo hi : Nat) (tx tl th : Tok) {vs : List Value} {ns : List Int} {n : Nat},
    Below A₀ base outer h₀ → Fr h₀ L s.heap m → (hd.heap_39 w.params).In h₀ → Top p loose mean mg mb h₀ → News h₀ L s.heap [(D, listOf vs.toArray n)] → env.frame = some L → env.scope.kind = .function →
    hi - lo ≤ k → lo < hi → hi ≤ ns.length → ns.length ≤ 100 → IntsAre vs ns → ds.length = hi - lo → (∀ d ∈ ds, d ≤ 3) → ds.length ≤ 10 → dp + k + 1 < recursionLimit → But [D] hA s.heap →
    (∀ h' tk vs', But [D] s.heap h' → h'.get? D = some (listOf vs'.toArray n) → IntsAre vs' (ns.take lo ++ ds.map Int.ofNat ++ ns.drop hi) → Q .none { s with heap := h', toks := tk }) →
    wpAny (model prog w) (Ar dp un gd (env :: outer)) (call (.ref f) [.int (num ds : Nat) tx, .int (lo : Nat) tl, .int (hi : Nat) th]) Q E s := by
  intro k
  induction k with
  | zero => intros; exact ((LI2 (.im (.le (.s V0 V1) O0) (.im (.lt V1 V0) .ff))) (by assumption) (by assumption)).elim
  | succ k ih =>
    intro A₀ dp un gd s h₀ outer L m env Q E ds lo hi tx tl th vs ns n B F X₀ T N hf hke hk hlt hle hsm hI' hlen h3 hz hroom hAs ret
    refine enterN (args := ⟨[.int (num ds : Nat) tx, .int (lo : Nat) tl, .int (hi : Nat) th], []⟩) B F X₀ T N hf hke (by exact (LI3 (.im (.lt (.a (.a V0 (.a V1 O1)) O1) V2) (.lt V0 V2))) hroom) (hAs _ _ (by simp; exact hDn.1.symm) hfo) hfd (codeRec_but hcr hAs (by simp; exact hDn.2.1.symm)) (BindsTo.of_eq rfl) (locs rfl) (fun g h₁ hg hg' F' N' B' X' T' _ => ?_) rfl rfl rfl (by decide)
    have hAg : But [D] hA g := fun b o n e => hg b o (by simpa using n) (hAs b o n e)
    have gN := isCell_but hN hAg (by simp; exact hDn.2.2.1.symm)
    have gI := isCell_but hI hAg (by simp; exact hDn.2.2.2.1.symm)
    have gD := isCell_but hD hAg (by simp; exact hDn.2.2.2.2.symm)
    have gF : FnAt f g := ⟨fo.cls, fo.dict, _, fo.slots, by rw [hAg _ _ (by simp; exact hDn.1.symm) hfo]; obtain ⟨a, b, c, d⟩ := fo; cases hfd; rfl⟩
    refine wpAny_execs_cons ?_
    k_steps
    · refine go ?_
      have e1 : hi = lo + 1 := by exact (LI2 (.im (.je (.a (.ca V0) O1) (.ca V1)) (.eq V1 (.a V0 O1)))) (by assumption)
      subst e1
      obtain ⟨dd, rfl⟩ := List.length_eq_one_iff.mp (hlen.trans (Nat.add_sub_cancel_left lo 1))
      rename Fr _ _ _ _ => F2
      rename News _ _ _ _ => N2
      refine ksa_set (news' := [(D, listOf (vs.set (lo : Int).toNat (.int (num [dd] : Nat) tx)).toArray n)]) F2 N2 (.head (by simp)) hI' (by exact (LI1 (.il O0 (.ca V0)))) (by exact (LI2 (.im (.le (.a V0 O1) V1) (.jl (.ca V0) (.ca V1)))) hle) (by exact (LI2 (.im (.le (.a V0 O1) V1) (.im (.le V1 (.n 100)) (.jl (.ca V0) (.pw 2 63))))) hle hsm) (fun h5 F5 N5 hI5 _ _ => ?_)
      k_steps
      refine ret _ _ _ (fun b o nb e => F5.keep b o (hg b o (by simpa using nb) e)) (N5 _ (.head _)).1 ?_
      rw [Int.toNat_natCast] at hI5
      have e2 : ns.set lo ((num [dd] : Nat) : Int) = ns.take lo ++ [dd].map Int.ofNat ++ ns.drop (lo + 1) := by
        rw [List.set_eq_take_append_cons_drop, if_pos (by exact (LI2 (.im (.le (.a V0 O1) V1) (.lt V0 V1))) hle)]; simp [num]
      rw [← e2]; exact hI5
    · refine go ?_
      have hq' : lo + 1 ≠ hi := by exact (LI2 (.im (.im (.je (.a (.ca V0) O1) (.ca V1)) .ff) (.im (.eq (.a V0 O1) V1) .ff))) (by assumption)
      obtain ⟨j, hj⟩ : ∃ j, (lo + hi) / 2 = lo + j := ⟨(lo + hi) / 2 - lo, by exact (LI3 (.im (.dv (.a V0 V1) 2 2) (.im (.lt V0 V1) (.eq V2 (.a V0 (.s V2 V0)))))) rfl hlt⟩
      have hjl : j ≤ ds.length := by exact (LI5 (.im (.dv (.a V0 V1) 2 2) (.im (.eq V2 (.a V0 V3)) (.im (.eq V4 (.s V1 V0)) (.le V3 V4))))) rfl hj hlen
      refine rshift_int (by exact (LI0 (.il O0 O1))) ?_
      rw [half, hj]
      k_steps
      refine go ?_
      have e3 : ((((lo + j : Nat) : Int) - (lo : Int)) * 2).toNat = 2 * j := by exact (LI2 (.eq (.tn (.w (.s (.ca (.a V0 V1)) (.ca V0)) 2)) (.m 2 V1)))
      refine rshift_int (by exact (LI2 (.il O0 (.w (.s (.ca (.a V0 V1)) (.ca V0)) 2)))) ?_
      rw [e3, num_hi ds j hjl h3]
      k_steps
      refine go ?_
      have hb : num (ds.drop j) < 4 ^ 10 := Nat.lt_of_lt_of_le (num_lt _ fun x hx => h3 x (List.mem_of_mem_drop hx)) (Nat.pow_le_pow_right (by exact (LI0 (.lt O0 (.n 4)))) (by simp; exact (LI2 (.im (.le V0 OX) (.le V0 (.a OX V1)))) hz))
      refine lshift_int_small (by exact (LI2 (.il O0 (.w (.s (.ca (.a V0 V1)) (.ca V0)) 2)))) (by exact (LI3 (.im (.le V0 OX) (.im (.le V1 V0) (.il (.w (.s (.ca (.a V2 V1)) (.ca V2)) 2) (.n 1000000))))) hz hjl) (by omega) ?_
      rw [e3]
      k_steps
      refine go ?_
      rw [num_lo ds j hjl h3]
      rename Fr _ _ _ _ => F2
      rename News _ _ _ _ => N2
      have k2 : But [D] s.heap _ := fun b o nb e => F2.keep b o (hg b o (by simpa using nb) e)
      refine ih (ds.take j) lo (lo + j) _ _ _ B' F2 X' T' N2 rfl rfl (by exact (LI5 (.im (.dv (.a V0 V1) 2 2) (.im (.eq V2 (.a V0 V3)) (.im (.le (.s V1 V0) (.a V4 O1)) (.le (.s (.a V0 V3) V0) V4))))) rfl hj hk) (by exact (LI4 (.im (.dv (.a V0 V1) 2 2) (.im (.eq V2 (.a V0 V3)) (.im (.im (.eq (.a V0 O1) V1) .ff) (.im (.lt V0 V1) (.lt V0 (.a V0 V3))))))) rfl hj hq' hlt) (by exact (LI5 (.im (.lt V0 V1) (.im (.eq V2 (.s V1 V0)) (.im (.le V3 V2) (.im (.le V1 V4) (.le (.a V0 V3) V4)))))) hlt hlen hjl hle) hsm hI' (by rw [List.length_take]; exact (LI3 (.im (.le V0 V1) (.eq (.mi V0 V1) (.s (.a V2 V0) V2)))) hjl) (fun d hd => h3 d (List.mem_of_mem_take hd)) (by rw [List.length_take]; exact (LI2 (.im (.le V0 OX) (.le (.mi V1 V0) OX))) hz) (by exact (LI3 (.im (.lt (.a (.a V0 (.a V1 O1)) O1) V2) (.lt (.a (.a (.a V0 O1) V1) O1) V2))) hroom) (hAs.trans k2) (fun h6 tk6 vs6 k6 g6 i6 => ?_)
      have F6 := fr_but F2 k6 (by simp; exact (N2 _ (.head _)).2.1.symm) (by simp; exact (N2 _ (.head _)).2.2)
      have N6 : News g s.heap.objs.size h6 [(D, listOf vs6.toArray n)] := fun p hp => by
        obtain rfl := List.mem_singleton.mp hp
        exact ⟨g6, (N2 _ (.head _)).2⟩
      clear F2 N2
      k_steps
      refine go ?_
      rename Fr _ _ _ _ => F7
      rename News _ _ _ _ => N7
      have k7 : But [D] s.heap _ := fun b o nb e => F7.keep b o (hg b o (by simpa using nb) e)
      have l6 : (ns.take lo ++ (ds.take j).map Int.ofNat ++ ns.drop (lo + j)).length = ns.length := by simp; exact (LI5 (.im (.eq V0 (.s V1 V2)) (.im (.le V3 V0) (.im (.le V1 V4) (.eq (.a (.mi V2 V4) (.a (.mi V3 V0) (.s V4 (.a V2 V3)))) V4))))) hlen hjl hle
      refine ih (ds.drop j) (lo + j) hi _ _ _ B' F7 X' T' N7 rfl rfl (by exact (LI5 (.im (.dv (.a V0 V1) 2 2) (.im (.eq V2 (.a V0 V3)) (.im (.im (.eq (.a V0 O1) V1) .ff) (.im (.le (.s V1 V0) (.a V4 O1)) (.le (.s V1 (.a V0 V3)) V4)))))) rfl hj hq' hk) (by exact (LI4 (.im (.dv (.a V0 V1) 2 2) (.im (.eq V2 (.a V0 V3)) (.im (.lt V0 V1) (.lt (.a V0 V3) V1))))) rfl hj hlt) (by exact (LI3 (.im (.eq V0 V1) (.im (.le V2 V1) (.le V2 V0)))) l6 hle) (by exact (LI2 (.im (.eq V0 V1) (.im (.le V1 (.n 100)) (.le V0 (.n 100))))) l6 hsm) i6 (by rw [List.length_drop]; exact (LI4 (.im (.eq V0 (.s V1 V2)) (.eq (.s V0 V3) (.s V1 (.a V2 V3))))) hlen) (fun d hd => h3 d (List.mem_of_mem_drop hd)) (by rw [List.length_drop]; exact (LI2 (.im (.le V0 OX) (.le (.s V0 V1) OX))) hz) (by exact (LI3 (.im (.lt (.a (.a V0 (.a V1 O1)) O1) V2) (.lt (.a (.a (.a V0 O1) V1) O1) V2))) hroom) (hAs.trans k7) (fun h8 tk8 vs8 k8 g8 i8 => ?_)
      have F8 := fr_but F7 k8 (by simp; exact (N7 _ (.head _)).2.1.symm) (by simp; exact (N7 _ (.head _)).2.2)
      k_steps
      rw [patch2 ns ds lo j hi (by exact (LI4 (.im (.lt V0 V1) (.im (.eq V2 (.s V1 V0)) (.im (.le V3 V2) (.le (.a V0 V3) V1))))) hlt hlen hjl) hle hlen (by exact (LI2 (.im (.lt V0 V1) (.le V0 V1))) hlt)] at i8
      exact ret _ _ _ (fun b o nb e => F8.keep b o (hg b o (by simpa using nb) e)) g8 i8
local macro_rules | `(tactic| walk_at "call builtin:len") => `(tactic| (k_here; (with_reducible show wpAny _ _ (call (Value.builtin "len") [Value.ref _]) _ _ _); refine halt ?_))
local macro_rules | `(tactic| walk_at $s:str) => Mine.hl ["binaryOp Mult ref int"] [] s
theorem num_ge : ∀ ds : List Nat, (∀ d ∈ ds, 1 ≤ d) → ds ≠ [] → 4 ^ (ds.length - 1) ≤ num ds := fun ds => by
  induction ds with
  | nil => exact fun _ h => absurd rfl h
  | cons d r ih =>
   intro h _
   cases r with
   | nil => exact h d (.head _)
   | cons e r =>
    have : 4 ^ r.length ≤ num (e :: r) := ih (fun x hx => h x (.tail _ hx)) (List.cons_ne_nil _ _)
    show 4 ^ (r.length + 1) ≤ d + 4 * num (e :: r)
    rw [Nat.pow_succ]; exact (LI3 (.im (.le V0 V1) (.le (.w V0 4) (.a V2 (.m 4 V1))))) this
theorem bits_num (ds : List Nat) (h1 : ∀ d ∈ ds, 1 ≤ d) (h3 : ∀ d ∈ ds, d ≤ 3) (hne : ds ≠ []) : (((Builtin.Int.intBits ((num ds : Nat) : Int) : Nat) : Int) + 2 - 1).fdiv 2 = (ds.length : Nat) := by
  have hg := num_ge ds h1 hne
  have hl := num_lt ds h3
  have hp : 0 < ds.length := List.length_pos_iff.mpr hne
  have hz : num ds ≠ 0 := by have := Nat.pow_pos (n := ds.length - 1) (show 0 < 4 by decide); exact (LI2 (.im (.lt O0 V0) (.im (.le V0 V1) (.im (.eq V1 O0) .ff)))) this hg
  unfold Builtin.Int.intBits
  rw [if_neg (by simp; exact hz), Int.natAbs_natCast]
  have a1 : 2 * (ds.length - 1) ≤ (num ds).log2 := (Nat.le_log2 hz).mpr (by rw [← pow24]; exact hg)
  have a2 : (num ds).log2 < 2 * ds.length := (Nat.log2_lt hz).mpr (by rw [← pow24]; exact hl)
  rw [Int.fdiv_eq_ediv_of_nonneg _ (by decide), show (((num ds).log2 + 1 : Nat) : Int) + 2 - 1 = (((num ds).log2 + 2 : Nat) : Int) by exact (LI1 (.je (.s (.a (.ca (.a V0 O1)) O2) O1) (.ca (.a V0 O2))))]
  exact congrArg (fun n : Nat => (n : Int)) ((LI3 (.im (.dv (.a V0 O2) 2 1) (.im (.le (.m 2 (.s V2 O1)) V0) (.im (.lt V0 (.m 2 V2)) (.im (.lt O0 V2) (.eq V1 V2)))))) rfl a1 a2 hp)
theorem news_lt {h₀ h : Heap} {L : Addr} {news : List (Addr × Obj)} (N : News h₀ L h news) : ∀ p ∈ news, p.1 < h.objs.size := fun p hp => Heap.lt_size (N p hp).1
theorem rep_items (v : Value) (n : Nat) : List.foldl (fun x1 x2 => x1 ++ x2) #[] (List.replicate (if (#[v] : Array Value).isEmpty = true then 0 else n) #[v]) = (List.replicate n v).toArray := by
  have h : ∀ (k : Nat) (a : Array Value), List.foldl (fun x1 x2 => x1 ++ x2) a (List.replicate k #[v]) = a ++ (List.replicate k v).toArray := by
    intro k
    induction k with
    | zero => intro a; simp
    | succ k ih => intro a; rw [List.replicate_succ, List.foldl_cons, ih, List.replicate_succ]; apply Array.toList_inj.mp; simp
  rw [if_neg (by simp), h]; simp
theorem news_one {h₀ h : Heap} {L : Addr} {p : Addr × Obj} (x : h.get? p.1 = some p.2 ∧ p.1 ≠ L ∧ h₀.get? p.1 = none) : News h₀ L h [p] := fun q hq => by
  obtain rfl := List.mem_singleton.mp hq
  exact x
theorem mulD {prog : Program} {w : World} {A : Around} {E : Value → Shared → Prop} {s : Shared} {h₀ : Heap} {L : Addr} {m : Str → Option Value} {news : List (Addr × Obj)} {l : Addr} {v : Value} {k : Nat} {n : Nat} {u : Tok} {Q : Value → Shared → Prop}
    (F : Fr h₀ L s.heap m) (N : News h₀ L s.heap news) (hm : (l, listOf #[v] k) ∈ news) (hn : n < 1000)
    (h : ∀ D h', Fr h₀ L h' m → News h₀ L h' ((D, listOf (List.replicate n v).toArray 0) :: news) → (∀ p ∈ news, p.1 < D) → Q (.ref D) { s with heap := h' }) :
    wpAny (model prog w) A (binaryOp .Mult (.ref l) (.int (n : Nat) u)) Q E s := by
  refine mul_list F N (N.get hm) (by exact (LI1 (.il (.ng (.pw 2 63)) (.ca V0)))) (by exact (LI1 (.im (.lt V0 (.n 1000)) (.jl (.ca V0) (.pw 2 63)))) hn) (by simp; exact (LI1 (.im (.lt V0 (.n 1000)) (.le V0 (.n 16777216)))) hn) (fun h5 F5 N5 => ?_)
  rw [Int.toNat_natCast, rep_items] at N5
  exact h _ h5 F5 N5 (news_lt N)
theorem truthy_int_ne {prog : Program} {w : World} {A : Around} {E : Value → Shared → Prop} {s : Shared} {a : Int} {t : Tok} {Q : Bool → Shared → Prop} (h0 : a ≠ 0) (h : Q true s) : wpAny (model prog w) A (truthy (.int a t)) Q E s :=
  truthy_int (by rw [show (a != 0) = true by simpa using h0]; exact h)
local macro_rules | `(tactic| walk_at "truthy int") => `(tactic| (k_here; refine truthy_int_ne (by omega) ?_))
theorem ints_rep (t : Tok) : ∀ n : Nat, IntsAre (List.replicate n (.int 0 t)) (List.replicate n 0)
  | 0 => .nil
  | n + 1 => .cons 0 t (ints_rep t n)
set_option maxHeartbeats 4000000 in
theorem int2digits_spec {prog : Program} {w : World} {A₀ : Around} {dp un : Nat} {gd : Option (List Code)} {s : Shared} {base h₀ : Heap} {outer : List Env} {L : Addr} {m mg mb : Str → Option Value} {env : Env}
    {p : Program} {loose : List Str} {mean : ExcName → Option Value} {Q E : Value → Shared → Prop}
    {ds : List Nat} {ps : Array Value} {ex : List (Addr × Obj)} {tx t2 : Tok}
    (B : Below A₀ base outer h₀) (F : Fr h₀ L s.heap m) (X₀ : (hd.heap_39 w.params).In h₀) (T : Top p loose mean mg mb h₀) (hf : env.frame = some L) (hke : env.scope.kind = .function)
    (hroom : dp + 20 < recursionLimit)
    (N : News h₀ L s.heap ((40, tabObj ps) :: ex)) (ok : TabOk 9 4 "_int2digits.<locals>.inner" ps ex)
    (h1 : ∀ d ∈ ds, 1 ≤ d) (h3 : ∀ d ∈ ds, d ≤ 3) (hz : ds.length ≤ 10) (hne : ds ≠ [])
    (ret : ∀ h' tk D vs k ps' ex', But [40] s.heap h' → s.heap.objs.size ≤ D → h'.get? D = some (listOf vs k) → IntsAre vs.toList (ds.map Int.ofNat) → TabOk 9 4 "_int2digits.<locals>.inner" ps' ex' → h'.get? 40 = some (tabObj ps') → (∀ p ∈ ex', h'.get? p.1 = some p.2 ∧ (p ∈ ex ∨ s.heap.get? p.1 = none)) → (∀ p ∈ ex, p ∈ ex') → Q (.ref D) { s with heap := h', toks := tk }) :
    wpAny (model prog w) (Ar dp un gd (env :: outer)) (call (.ref 45) [.int (num ds : Nat) tx, .int 2 t2]) Q E s := by
  refine enterC (args := ⟨[.int (num ds : Nat) tx, .int 2 t2], []⟩) B F X₀ T N hf hke (by exact (LI2 (.im (.lt (.a V0 (.n 20)) V1) (.lt V0 V1))) hroom) (by k_is) (by k_is) (BindsTo.of_eq rfl) rfl (by decide +kernel) (fun g h₁ tk cells hg hg' F' N' Y' B' X' T' hlow => ?_) rfl rfl rfl
  have hz0 : num ds ≠ 0 := by have := num_ge ds h1 hne; have := Nat.pow_pos (n := ds.length - 1) (show 0 < 4 by decide); exact (LI2 (.im (.lt O0 V0) (.im (.le V0 V1) (.im (.eq V1 O0) .ff)))) this (by assumption)
  have hp : 0 < ds.length := List.length_pos_iff.mpr hne
  have C' : CodeHd g 44 40 := codeHd_of_K X' (by kernel_rfl)
  k_cells Y'
  rcases ok with ⟨rfl, rfl⟩ | ⟨c₀, oc₀, vs₀, t₀, rfl, rfl, hd₀, hv₀⟩
  all_goals
    simp only [List.cons_append, List.nil_append] at N'
    have l1 := hlow
    k_lt l1
    k_steps
  all_goals
    refine go ?_
    rw [bits_num ds h1 h3 hne]
    rename Fr _ _ _ _ => F2
    rename News _ _ _ _ => N2
    refine mulD F2 N2 (.head _) (by exact (LI1 (.im (.le V0 OX) (.lt V0 (.n 1000)))) hz) (fun D h5 F5 N5 l2 => ?_)
    clear F2 N2
    k_lt l2
    k_steps
    refine go ?_
    rename Fr _ _ _ _ => F2
    rename News _ _ _ _ => N2
    have hf1 := N2.get (.head _)
  case' inl =>
    have hcr := codeRec_news N2 (.tail _ (.head _)) (by assumption) (by assumption)
    have hc1 := isCell_of N2 (.tail _ (.tail _ (.tail _ (.tail _ (.head _))))) (by assumption)
    have hc2 := isCell_of N2 (.tail _ (.tail _ (.tail _ (.tail _ (.tail _ (.head _)))))) (by assumption)
    have hc3 := isCell_of N2 (.tail _ (.tail _ (.tail _ (.tail _ (.tail _ (.tail _ (.head _))))))) (by assumption)
    have hDD := N2.get (.tail _ (.tail _ (.head _)))
    have hDN := N2 _ (.tail _ (.tail _ (.head _)))
  case' inr =>
    have hcr := codeRec_news N2 (.tail _ (.tail _ (.tail _ (.tail _ (.tail _ (.tail _ (.tail _ (.head _)))))))) (by assumption) (by assumption)
    have hc1 := isCell_of N2 (.tail _ (.tail _ (.tail _ (.head _)))) (by assumption)
    have hc2 := isCell_of N2 (.tail _ (.tail _ (.tail _ (.tail _ (.head _))))) (by assumption)
    have hc3 := isCell_of N2 (.tail _ (.tail _ (.tail _ (.tail _ (.tail _ (.head _)))))) (by assumption)
    have hDD := N2.get (.tail _ (.head _))
    have hDN := N2 _ (.tail _ (.head _))
  case' inl =>
    have hm2 := N2 _ (.tail _ (.tail _ (.tail _ (.tail _ (.tail _ (.head _))))))
  case' inr =>
    have hm2 := N2 _ (.tail _ (.tail _ (.tail _ (.tail _ (.head _)))))
  all_goals
    refine len_list ⟨_, hDD, rfl, _, rfl⟩ (by simp; exact (LI1 (.im (.le V0 OX) (.jl (.ca V0) (.n 9223372036854775808)))) hz) ?_
    k_steps
    refine go ?_
    rename Fr _ _ _ _ => F3
    simp only [List.size_toArray, List.length_replicate]
    have hDS := news_one hDN
    refine i2d_inner (ns := List.replicate ds.length 0) hf1 rfl hcr rfl rfl rfl hc3 hc1 hc2 ⟨neN (by omega), neN (by omega), neN (by omega), neN (by omega), neN (by omega)⟩ 10 ds 0 ds.length _ _ _ B' F3 X' T' hDS rfl rfl (by assumption) hp (by simp) (by simp; exact (LI1 (.im (.le V0 OX) (.le V0 (.n 100)))) hz) (ints_rep _ _) (by exact (LI1 (.eq V0 (.s V0 O0)))) h3 hz (by exact (LI2 (.im (.lt (.a V0 (.n 20)) V1) (.lt (.a (.a (.a V0 O1) OX) O1) V1))) hroom) But.refl (fun h6 tk6 vs6 k6 g6 i6 => ?_)
    have F6 := fr_but F3 k6 (by simp; exact neN (by exact (LI2 (.im (.lt (.a V0 O1) V1) (.im (.eq V0 V1) .ff))) l2.2.2.2.1)) (by simp; exact hDN.2.2)
    have N6 : News g s.heap.objs.size h6 [(s.heap.objs.size + 1 + 1, _), (D, listOf vs6.toArray 0)] := fun p hp => by
      rcases List.mem_cons.mp hp with rfl | hp
      · exact ⟨k6 _ _ (by simp; exact neN (by exact (LI2 (.im (.lt (.a (.a V0 O1) O1) V1) (.im (.eq (.a (.a V0 O1) O1) V1) .ff))) l2.2.2.1)) hm2.1, hm2.2⟩
      · obtain rfl := List.mem_singleton.mp hp
        exact ⟨g6, hDN.2⟩
    clear F3
    k_steps
    have i7 : IntsAre vs6.toArray.toList (ds.map Int.ofNat) := by simpa using i6
  case' inl =>
    refine ret _ _ _ _ _ _ _ (fun b o nb e => F6.keep b o (hg b o (by simpa using nb) e)) (by exact (LI2 (.im (.lt (.a V0 O1) V1) (.le V0 V1))) l2.2.2.2.1) g6 i7 (.inr ⟨_, _, _, _, rfl, rfl, by assumption, by assumption⟩) (k6 _ _ (by simp; exact neN (by exact (LI1 (.im (.lt (.n 40) V0) (.im (.eq (.n 40) V0) .ff))) l2.2.2.2.2)) (N2.get (by k_mem))) (fun q hq => ?_) (fun _ h => by cases h)
    obtain rfl := List.mem_singleton.mp hq
    have hm := N2 _ (.tail _ (.head _))
    refine ⟨k6 _ _ (by simp; exact neN (by omega)) hm.1, .inr ?_⟩
    cases e : s.heap.get? _ with
    | none => rfl
    | some o =>
      have := hg _ _ (by simp; exact neN (by omega)) e
      rw [hm.2.2] at this; cases this
  case' inr =>
    have hc0 := N2.get (.tail _ (.tail _ (.tail _ (.tail _ (.tail _ (.tail _ (.tail _ (.head _))))))))
    refine ret _ _ _ _ _ _ _ (fun b o nb e => ?_) (by exact (LI2 (.im (.lt (.a V0 O1) V1) (.le V0 V1))) l2.2.2.2.1) g6 i7 (.inr ⟨_, _, _, _, rfl, rfl, hd₀, hv₀⟩) (k6 _ _ (by simp; exact neN (by exact (LI1 (.im (.lt (.n 40) V0) (.im (.eq (.n 40) V0) .ff))) l2.2.2.2.2.1)) (N2.get (by k_mem))) (fun q hq => ?_) (fun _ h => h)
    · by_cases hb : b = c₀
      · subst hb
        rw [N.get (.tail _ (.head _))] at e
        cases e
        exact k6 _ _ (by simp; exact neN (by exact (LI2 (.im (.lt V0 V1) (.im (.eq V0 V1) .ff))) l2.2.2.2.2.2)) hc0
      · exact F6.keep b o (hg b o (by simp at nb ⊢; exact ⟨nb, hb⟩) e)
    · obtain rfl := List.mem_singleton.mp hq
      exact ⟨k6 _ _ (by simp; exact neN (by exact (LI2 (.im (.lt V0 V1) (.im (.eq V0 V1) .ff))) l2.2.2.2.2.2)) hc0, .inl hq⟩
end Mine
end
section
open PySem PySem.W PyProof.Rows PySem.Calls PySem.Spec
namespace Mine
local macro_rules | `(tactic| walk_at $s:str) => Mine.hl ["eval ListComp Subscript", "call builtin:str.join", "pyIter ref"] [("eval Name", "@loc")] s
noncomputable def chr (d : Nat) : Nat := if d = 1 then 97 else if d = 2 then 34 else 92
theorem strsAre_snoc : ∀ {vs : List Value} {ns : List Str}, StrsAre vs ns → ∀ (n : Str) (t : Tok), StrsAre (vs ++ [.str n t]) (ns ++ [n]) := fun h n t => by
  induction h with
  | nil => exact .cons n t .nil
  | cons a u _ ih => exact .cons a u ih
theorem glue_none : ∀ (ps : List Str) (a : Array Nat), ps.foldl (fun acc p => acc ++ (Str.ofString "").cps ++ p.cps) a = a ++ (ps.flatMap fun p => p.cps.toList).toArray := fun ps => by
  induction ps with
  | nil => exact fun a => Array.append_empty.symm
  | cons p r ih =>
    intro a
    rw [List.foldl_cons, ih, List.flatMap_cons, show (Str.ofString "").cps = #[] by decide +kernel]
    apply Array.toList_inj.mp; simp
theorem join_nil (ps : List Str) : Txt.join (Str.ofString "") ps = ⟨(ps.flatMap fun p => p.cps.toList).toArray⟩ := by
  unfold Txt.join Builtin.Str.glued
  cases ps with
  | nil => rfl
  | cons p r =>
    rw [List.drop_one, List.tail_cons, glue_none, List.flatMap_cons, List.headD_cons]
    congr 1
    apply Array.toList_inj.mp; simp
theorem join_one (cs : List Nat) : Txt.join (Str.ofString "") (cs.map fun c => (⟨#[c]⟩ : Str)) = ⟨cs.toArray⟩ := by
  rw [join_nil]; congr 2
  induction cs with
  | nil => rfl
  | cons c r ih => rw [List.map_cons, List.flatMap_cons, ih]; rfl
theorem sum_one (cs : List Nat) : ((cs.map fun c => (⟨#[c]⟩ : Str)).map (·.length)).sum = cs.length := by
  induction cs with
  | nil => rfl
  | cons c r ih => rw [List.map_cons, List.map_cons, List.sum_cons, ih, List.length_cons, Nat.add_comm]; rfl
set_option maxHeartbeats 4000000 in
theorem law_word_spec {prog : Program} {w : World} {A₀ : Around} {dp un : Nat} {gd : Option (List Code)} {s : Shared} {base h₀ : Heap} {outer : List Env} {L : Addr} {m mg mb : Str → Option Value} {env : Env}
    {p : Program} {loose : List Str} {mean : ExcName → Option Value} {Q E : Value → Shared → Prop}
    {ds : List Nat} {tx : Tok} {ps : Array Value} {ex : List (Addr × Obj)}
    (B : Below A₀ base outer h₀) (F : Fr h₀ L s.heap m) (X₀ : (hd.heap_39 w.params).In h₀) (T : Top p loose mean mg mb h₀) (hf : env.frame = some L) (hke : env.scope.kind = .function)
    (hroom : dp + 30 < recursionLimit)
    (N : News h₀ L s.heap ((40, tabObj ps) :: ex)) (ok : TabOk 9 4 "_int2digits.<locals>.inner" ps ex)
    (h1 : ∀ d ∈ ds, 1 ≤ d) (h3 : ∀ d ∈ ds, d ≤ 3) (hz : ds.length ≤ 10) (hne : ds ≠ [])
    (ret : ∀ h' tk t' ps' ex', But [40] s.heap h' → TabOk 9 4 "_int2digits.<locals>.inner" ps' ex' → h'.get? 40 = some (tabObj ps') → (∀ p ∈ ex', h'.get? p.1 = some p.2 ∧ (p ∈ ex ∨ s.heap.get? p.1 = none)) → (∀ p ∈ ex, p ∈ ex') → Q (.str ⟨(ds.map chr).toArray⟩ t') { s with heap := h', toks := tk }) :
    wpAny (model prog w) (Ar dp un gd (env :: outer)) (call (.ref 296) [.int (num ds : Nat) tx]) Q E s := by
  refine enter (args := ⟨[.int (num ds : Nat) tx], []⟩) B F X₀ T N hf hke (by exact (LI2 (.im (.lt (.a V0 (.n 30)) V1) (.lt V0 V1))) hroom) (by k_is) (by k_is) (BindsTo.of_eq rfl) (locs rfl) (fun g h₁ hg hg' F' N' B' X' T' hlow => ?_) rfl rfl rfl (by decide)
  try dsimp only
  k_steps
  refine go ?_
  rename Fr _ _ _ _ => F2
  rename News _ _ _ _ => N2
  refine comp_rule (tst := none) (cl := []) rfl rfl rfl (by decide) (by decide) rfl ?_
  k_steps
  refine go ?_
  refine int2digits_spec B' F2 X' T' rfl rfl (by exact (LI2 (.im (.lt (.a V0 (.n 30)) V1) (.lt (.a (.a V0 O1) (.n 20)) V1))) hroom) N2 ok h1 h3 hz hne (fun h5 tk5 D5 vs5 k5 ps5 ex5 b5 d5 g5 i5 ok5 t5 e5 x5 => ?_)
  have F5 := fr_tab F2 N2 b5
  have N5 := tab_news F2 N2 t5 e5
  have hl5 : h5.IsList D5 vs5 := ⟨_, g5, rfl, _, rfl⟩
  have hsz5 : vs5.size = ds.length := by have := i5.length; simp at this; exact this
  refine comp_list (fun i out led => led = (40, tabObj ps5) :: ex5 ∧ StrsAre out ((ds.take i).map fun d => (⟨#[chr d]⟩ : Str))) rfl hl5 F5 N5 (by rw [sizeLine_eq]; exact (LI2 (.im (.eq V0 V1) (.im (.le V1 OX) (.lt V0 (.n 16777216))))) hsz5 hz) ⟨rfl, .nil⟩ ?_ ?_
  · rintro D I s₂ g' i v out e0 led₁ h tk mC own hsI hID ⟨hh, tt, rfl⟩ hgg hL hk hi hv hle ⟨rfl, hI⟩ ho F3 N3
    refine wpAny_pure ?_
    rw [if_pos rfl]
    have hi' : i < ds.length := by exact (LI3 (.im (.lt V0 V1) (.im (.eq V1 V2) (.lt V0 V2)))) hi hsz5
    obtain ⟨t, ht⟩ := ints_at i5 hi'
    rw [Array.getElem?_toList, hv] at ht
    cases ht
    have hm : ds[i] ∈ ds := List.getElem_mem hi'
    have ha := h1 _ hm
    have hb := h3 _ hm
    have go1 : ∀ (t : Tok) (tk' : Nat), Halt (CompEnd g' (D + 1) D I (fun o l => l = (40, tabObj ps5) :: ex5 ∧ StrsAre (o ++ [.str ⟨#[chr ds[i]]⟩ t]) ((ds.take (i + 1)).map fun d => (⟨#[chr d]⟩ : Str))) out e0 own { s with heap := hh, toks := tt } { s with heap := h, toks := tk' }) := by
      intro t tk'
      refine ⟨h, tk', _, _, rfl, F3, N3, ho, rfl, ?_⟩
      rw [List.take_add_one, List.getElem?_eq_getElem hi', List.map_append]
      exact strsAre_snoc hI _ _
    have h123 : ds[i] = 1 ∨ ds[i] = 2 ∨ ds[i] = 3 := by exact (LI1 (.im (.le O1 V0) (.im (.le V0 (.n 3)) (.or (.eq V0 O1) (.or (.eq V0 O2) (.eq V0 (.n 3))))))) ha hb
    generalize ds[i] = d at *
    rcases h123 with rfl | rfl | rfl
    all_goals
      k_steps
      exact go1 _ _
  · rintro D led' out k h tk hD ⟨rfl, hI⟩ F3 N3 hk
    k_steps
    refine go ?_
    rw [List.take_of_length_le (by exact (LI2 (.im (.eq V0 V1) (.le V1 V0))) hsz5)] at hI
    have e1 : (ds.map fun d => (⟨#[chr d]⟩ : Str)) = (ds.map chr).map fun c => (⟨#[c]⟩ : Str) := by rw [List.map_map]; rfl
    rw [e1] at hI
    refine join_list (News.isList N3 (.head _)) (ys := (ds.map chr).map fun c => (⟨#[c]⟩ : Str)) hI (by rw [sum_one, List.length_map, List.length_map, show (Str.ofString "").length = 0 by decide +kernel]; exact (LI2 (.im (.le V0 OX) (.le (.a V0 (.w V1 0)) (.n 16777216)))) hz) (fun t' k' => ?_)
    rw [join_one]
    have k1 : But [40] s.heap _ := but_tab hg F2.keep (fun p hp => (N p (.tail _ hp)).1) (fun p hp => (N2 p (.tail _ hp)).1)
    have k6 : But [40] h5 h := but_tab hk (fun _ _ e => e) (fun p hp => (e5 p hp).1) (fun p hp => (N3 _ (.tail _ (.tail _ hp))).1)
    have e6 := tab_back (h5 := h5) k1 (N2 _ (.head _)).1 e5
    exact ret _ _ _ ps5 ex5 ((k1.trans b5).trans k6) ok5 (N3 _ (.tail _ (.head _))).1 (fun p hp => ⟨(N3 _ (.tail _ (.tail _ hp))).1, (e6 p hp).2⟩) x5
end Mine
end
section
open PySem PySem.W PyProof.Rows PySem.Calls PySem.Spec
namespace Mine
namespace R
theorem plainAttrs_pat : PlainAttrs "re.Pattern" :=
  ⟨⟨"object.__getattribute__", by rw [typeLookup_type, builtinLookup_eq_fast]; kernel_rfl, by decide +kernel⟩, by rw [typeLookup_type, builtinLookup_eq_fast]; kernel_rfl⟩
theorem slot_search : Slot "re.Pattern" "search" "re.Pattern.search" :=
  .of (owner := "re.Pattern") (n := "search") (by rw [typeLookup_type, builtinLookup_eq_fast]; kernel_rfl) (by decide +kernel) (by decide +kernel) (by decide +kernel)
    (by first | exact .inl (by decide +kernel) | exact .inr (by decide +kernel)) (by rw [isSubtype_type]; kernel_rfl)
theorem type_search : typeOf (.builtin "re.Pattern.search") = pure (.type "method_descriptor") := by show builtinType _ = _; rw [builtinType_eq_fast]; kernel_rfl
theorem entry_search : entryFor table "re.Pattern.search" = some Builtin.«re.Pattern.search» := entryFor_of_tree (by kernel_rfl)
theorem args_search (a b : Value) : argsOk "re.Pattern.search" ⟨[a, b], []⟩ := by unfold argsOk; kernel_rfl
open PySem.Builtin.Re
theorem named (v : Value) : reNamed "re.Pattern.search" "search" ["string", "pos", "endpos"] 1 [v] [] = pure [some v, none, none] := by rfl
variable {M : Model} {prog : Program} {w : World} {A : Around} {E : Value → Shared → Prop} {s : Shared}
theorem target {a c : Addr} {fs cs : Array Value} {n : Nat} {oc : Obj} {x : Str} {t : Tok} {Q : ReTarget → Shared → Prop}
    (ha : s.heap.get? a = some { cls := .type "re.Pattern", data := .fields fs }) (h5 : fs.getD 5 .none = .ref c) (h6 : fs.getD 6 .none = .int 0 0) (hc : s.heap.get? c = some oc) (hcd : oc.data = .seq cs n) (hx : x.cps.size ≤ 1000)
    (h : ∀ g, Q { pattern := .ref a, string := .str x t, code := (cs.map reRawOf).map (·.toNat), text := x.cps, kind := 0, groups := g, pos := 0, lim := x.cps.size } s) :
    wpAny M A (reTarget "re.Pattern.search" "search" ⟨[.ref a, .str x t], []⟩) Q E s := by
  unfold reTarget
  dsimp only
  rw [named]
  refine wpAny_bind (wpAny_pure ?_)
  dsimp only
  refine wpAny_bind (wpAny_pure (wpAny_bind (wpAny_pure ?_)))
  have e1 : reTextOf (.str x t) = pure (x.cps, 0) := rfl
  have e2 : reNoCollectionInside (.str x t) 0 = pure () := rfl
  rw [e1]
  unfold fieldsOf
  refine wpAny_bind (wpAny_bind (wpAny_load ha (wpAny_pure ?_)))
  refine wpAny_bind (wpAny_pure ?_)
  rw [h5, h6]
  dsimp only
  rw [e2]
  have e3 : reRawItems (.ref c) = (do return ((← seqItems? (.ref c)).getD #[]).map reRawOf) := rfl
  have fin : wpAny M A (do
      reNoCollectionInside (.str x t) 0
      let code ← reRawItems (.ref c)
      pure ({ pattern := .ref a, string := .str x t, code := code.map (·.toNat), text := x.cps, kind := 0, groups := reRawNat (fs.getD 2 .none), pos := min (Int.toNat 0) x.cps.size, lim := min (2 ^ 63 - 1 : Int).toNat x.cps.size } : ReTarget)) Q E s := by
    rw [e2, e3]
    refine wpAny_bind (wpAny_pure (wpAny_bind (wpAny_bind (wpAny_seqItems hc hcd (wpAny_pure ?_)))))
    refine wpAny_pure ?_
    have h0 : min (Int.toNat 0) x.cps.size = 0 := Nat.zero_min _
    have h1 : min (2 ^ 63 - 1 : Int).toNat x.cps.size = x.cps.size := by rw [show (2 ^ 63 - 1 : Int).toNat = 9223372036854775807 by decide]; exact (LI1 (.im (.le V0 (.n 1000)) (.eq (.mi (.n 9223372036854775807) V0) V0))) hx
    rw [h0, h1]
    exact h _
  exact fin
theorem admitted_none (m : Sre.M) (h : ∀ i, i < m.lim → ∀ seen, ∃ seen', Sre.inSet m.code (m.text.getD i 0) m.code.size 5 true seen = .ok (false, seen')) : ∀ (fuel s : Nat) (seen : Sre.Seen), ∃ seen', m.admitted fuel s seen = .ok (none, seen') := fun fuel => by
  induction fuel with
  | zero => exact fun s seen => ⟨seen, rfl⟩
  | succ fuel ih =>
    intro s seen
    by_cases hs : s ≥ m.lim
    · exact ⟨seen, if_pos hs⟩
    · obtain ⟨seen', e⟩ := h s (Nat.not_le.mp hs) seen
      refine (ih (s + 1) seen').imp fun _ q => (if_neg hs).trans ?_
      rw [e]; exact q
theorem runFor_fail (m : Sre.M) (h1 : m.answer = some false) (h2 : m.frames = []) (h3 : m.outcome = none) : (m.runFor 4).outcome = some .failed := by
  have e : m.step = { m with outcome := some .failed } := by
    unfold Sre.M.step
    rw [h3, h1, h2]; rfl
  show (if m.outcome.isSome then m else Sre.M.runFor 3 m.step).outcome = _
  rw [h3, e]; rfl
theorem forSearch_none (code text : Array Nat) (g : Nat) (hf : Sre.M.hasFirstSet { code := code, text := text, lim := 0, start := 0, pc := 0, pos := 0, handed := 0, marks := #[] } = true)
    (h : ∀ i, i < text.size → ∀ seen, ∃ seen', Sre.inSet code (text.getD i 0) code.size 5 true seen = .ok (false, seen')) :
    ((Sre.forSearch code text g 0 text.size false).answer = some false) ∧ (Sre.forSearch code text g 0 text.size false).frames = [] ∧ (Sre.forSearch code text g 0 text.size false).outcome = none := by
  unfold Sre.forSearch
  dsimp only
  split
  · exact ⟨rfl, rfl, rfl⟩
  · unfold Sre.M.attemptFrom
    have hf' : ∀ m : Sre.M, m.code = code → m.hasFirstSet = true := fun m e => by
      unfold Sre.M.hasFirstSet at hf ⊢
      rw [e]; exact hf
    rw [hf' _ rfl]
    simp only [Bool.not_true, Bool.false_eq_true, if_false]
    have key : ∀ (m : Sre.M) (fuel s : Nat) (seen : Sre.Seen) (r : Except String (Option Nat × Sre.Seen)), m.admitted fuel s seen = r → m.code = code → m.text = text → m.lim = text.size → ∃ sn, r = .ok (none, sn) := fun m fuel s seen r e e1 e2 e3 => by
      obtain ⟨sn, q⟩ := admitted_none m (by rw [e1, e2, e3]; exact h) fuel s seen
      exact ⟨sn, e.symm.trans q⟩
    split
    · rename_i s' seen' e
      obtain ⟨sn, e2⟩ := key _ _ _ _ _ e rfl rfl rfl
      cases e2
    · exact ⟨rfl, rfl, rfl⟩
    · rename_i e
      obtain ⟨sn, e2⟩ := key _ _ _ _ _ e rfl rfl rfl
      cases e2
theorem answer_none {t : ReTarget} {m : Sre.M} (h1 : m.answer = some false) (h2 : m.frames = []) (h3 : m.outcome = none) {Q : PySem.Fin → Shared → Prop} (h : Q (.done (.ret .none)) s) : wpAny M A (reAnswer t m) Q E s := by
  have hr := runFor_fail m h1 h2 h3
  unfold reAnswer reRunToEnd
  refine wpAny_bind (wpAny_bind ?_)
  have e64 : (2 : Nat) ^ 64 = 18446744073709551615 + 1 := by decide
  rw [e64]
  show wpAny M A (if (m.runFor 4).outcome.isSome = true then pure (m.runFor 4) else _) _ E s
  rw [hr]
  simp only [Option.isSome_some, if_true]
  refine wpAny_pure ?_
  refine wpAny_bind (wpAny_forIn_list _ (fun _ _ s' => s' = s) _ ?_ ?_ _ _ rfl)
  · rintro x rest b s' rfl
    split
    · exact wpAny_bind (wpAny_rule (wpAny_pure rfl))
    · exact wpAny_pure rfl
  · rintro b s' rfl
    rw [hr]
    exact wpAny_pure (wpAny_pure h)
noncomputable def Safe (c : Nat) : Prop := c = 97 ∨ c = 34 ∨ c = 92 ∨ (48 ≤ c ∧ c ≤ 57)
noncomputable def code1 : Array Nat := #[14, 10, 4, 1, 1, 22, 0, 31, 16, 127, 0, 13, 7, 22, 0, 31, 16, 127, 0, 1]
noncomputable def code2 : Array Nat := #[14, 14, 4, 1, 1, 9, 4294966783, 0, 0, 2147483648, 0, 0, 0, 0, 0, 13, 11, 9, 4294966783, 0, 0, 2147483648, 0, 0, 0, 0, 0, 1]
theorem safe_cases {c : Nat} (h : Safe c) : c = 97 ∨ c = 34 ∨ c = 92 ∨ c = 48 ∨ c = 49 ∨ c = 50 ∨ c = 51 ∨ c = 52 ∨ c = 53 ∨ c = 54 ∨ c = 55 ∨ c = 56 ∨ c = 57 := by
  unfold Safe at h; exact (LI1 (.im (.or (.eq V0 (.n 97)) (.or (.eq V0 (.n 34)) (.or (.eq V0 (.n 92)) (.an (.le (.n 48) V0) (.le V0 (.n 57)))))) (.or (.eq V0 (.n 97)) (.or (.eq V0 (.n 34)) (.or (.eq V0 (.n 92)) (.or (.eq V0 (.n 48)) (.or (.eq V0 (.n 49)) (.or (.eq V0 (.n 50)) (.or (.eq V0 (.n 51)) (.or (.eq V0 (.n 52)) (.or (.eq V0 (.n 53)) (.or (.eq V0 (.n 54)) (.or (.eq V0 (.n 55)) (.or (.eq V0 (.n 56)) (.eq V0 (.n 57)))))))))))))))) h
theorem in1 {c : Nat} (h : Safe c) (seen : Sre.Seen) : ∃ seen', Sre.inSet code1 c code1.size 5 true seen = .ok (false, seen') := by
  rcases safe_cases h with rfl | rfl | rfl | rfl | rfl | rfl | rfl | rfl | rfl | rfl | rfl | rfl | rfl <;> exact ⟨_, rfl⟩
theorem in2 {c : Nat} (h : Safe c) (seen : Sre.Seen) : ∃ seen', Sre.inSet code2 c code2.size 5 true seen = .ok (false, seen') := by
  rcases safe_cases h with rfl | rfl | rfl | rfl | rfl | rfl | rfl | rfl | rfl | rfl | rfl | rfl | rfl <;> exact ⟨_, rfl⟩
theorem search_of {a c : Addr} {fs cs : Array Value} {n : Nat} {oc : Obj} {x : Str} {t : Tok} {Q : Value → Shared → Prop} {code : Array Nat}
    (ha : s.heap.get? a = some { cls := .type "re.Pattern", data := .fields fs }) (h5 : fs.getD 5 .none = .ref c) (h6 : fs.getD 6 .none = .int 0 0) (hc : s.heap.get? c = some oc) (hcd : oc.data = .seq cs n) (hx : x.cps.size ≤ 1000)
    (hcode : (cs.map reRawOf).map (·.toNat) = code) (hf : Sre.M.hasFirstSet { code := code, text := x.cps, lim := 0, start := 0, pc := 0, pos := 0, handed := 0, marks := #[] } = true)
    (hs : ∀ i, i < x.cps.size → ∀ seen, ∃ seen', Sre.inSet code (x.cps.getD i 0) code.size 5 true seen = .ok (false, seen')) (h : Q .none s) :
    wpAny (model prog w) A (call (.builtin "re.Pattern.search") [.ref a, .str x t]) Q E s := by
  refine wpAny_call_entry slot_search ⟨_, ha, rfl⟩ entry_search ?_ (args_search _ _)
  unfold Builtin.«re.Pattern.search»
  refine wpAny_bind (target ha h5 h6 hc hcd hx fun g => ?_)
  dsimp only
  rw [hcode]
  obtain ⟨h1, h2, h3⟩ := forSearch_none code x.cps g hf hs
  exact answer_none h1 h2 h3 ⟨_, rfl, h⟩
section
variable {g h₀ : Heap} {L : Addr} {m : Str → Option Value}
theorem safe_at {x : Str} (hs : ∀ c ∈ x.cps.toList, Safe c) (i : Nat) (hi : i < x.cps.size) : Safe (x.cps.getD i 0) := by
  rw [Array.getD_eq_getD_getElem?, Array.getElem?_eq_getElem hi]
  exact hs _ (by simp)
theorem search1 {x : Str} {t : Tok} {Q : Value → Shared → Prop} (F : Fr h₀ L s.heap m) (X : (hd.heap_39 w.params).In h₀) (hs : ∀ c ∈ x.cps.toList, Safe c) (hx : x.cps.size ≤ 1000) (h : Q .none s) :
    wpAny (model prog w) A (call (.builtin "re.Pattern.search") [.ref 131, .str x t]) Q E s := by
  have X' := X.keeps F.keep
  exact search_of (code := code1) (X' 131 _ (by k_is)) rfl rfl (X' 130 _ (by k_is)) rfl hx (by decide +kernel) rfl (fun i hi seen => in1 (safe_at hs i hi) seen) h
theorem search2 {x : Str} {t : Tok} {Q : Value → Shared → Prop} (F : Fr h₀ L s.heap m) (X : (hd.heap_39 w.params).In h₀) (hs : ∀ c ∈ x.cps.toList, Safe c) (hx : x.cps.size ≤ 1000) (h : Q .none s) :
    wpAny (model prog w) A (call (.builtin "re.Pattern.search") [.ref 136, .str x t]) Q E s := by
  have X' := X.keeps F.keep
  exact search_of (code := code2) (X' 136 _ (by k_is)) rfl rfl (X' 135 _ (by k_is)) rfl hx (by decide +kernel) rfl (fun i hi seen => in2 (safe_at hs i hi) seen) h
theorem method1 {pl : Sem Bool} {Q : Value × List Value → Shared → Prop} (F : Fr h₀ L s.heap m) (X : (hd.heap_39 w.params).In h₀) (h : Q (.builtin "re.Pattern.search", [.ref 131]) s) :
    wpAny (model prog w) A (getMethod (.ref 131) (Str.ofString "search") pl) Q E s := by
  have e := (X.keeps F.keep) 131 _ (by k_is)
  exact getMethod_builtin ⟨_, e, rfl⟩ plainAttrs_pat slot_search type_search (fun a q => by cases q; exact ⟨_, e, rfl⟩) h
theorem method2 {pl : Sem Bool} {Q : Value × List Value → Shared → Prop} (F : Fr h₀ L s.heap m) (X : (hd.heap_39 w.params).In h₀) (h : Q (.builtin "re.Pattern.search", [.ref 136]) s) :
    wpAny (model prog w) A (getMethod (.ref 136) (Str.ofString "search") pl) Q E s := by
  have e := (X.keeps F.keep) 136 _ (by k_is)
  exact getMethod_builtin ⟨_, e, rfl⟩ plainAttrs_pat slot_search type_search (fun a q => by cases q; exact ⟨_, e, rfl⟩) h
end
end R
end Mine
end
section
open PySem PySem.W PyProof.Rows PySem.Calls PySem.Spec
namespace Mine
set_option maxHeartbeats 4000000 in
theorem conv_spec {prog : Program} {w : World} {A₀ : Around} {dp un : Nat} {gd : Option (List Code)} {s : Shared} {base h₀ : Heap} {outer : List Env} {L : Addr} {m mg mb : Str → Option Value} {env : Env}
    {p : Program} {loose : List Str} {mean : ExcName → Option Value} {Q E : Value → Shared → Prop}
    {y : Str} {ty : Tok} {b : Bool} {xv : Value}
    (B : Below A₀ base outer h₀) (F : Fr h₀ L s.heap m) (X₀ : (hd.heap_39 w.params).In h₀) (T : Top p loose mean mg mb h₀) (hf : env.frame = some L) (hke : env.scope.kind = .function)
    (hroom : dp + 3 < recursionLimit)
    (hs : ∀ c ∈ y.cps.toList, R.Safe c) (hx : y.cps.size ≤ 1000)
    (ret : ∀ h' tk, But [] s.heap h' → Q (.str y ty) { s with heap := h', toks := tk }) :
    wpAny (model prog w) (Ar dp un gd (env :: outer)) (call (.ref 166) [xv, .str y ty] [(Str.ofString "name", .bool b)]) Q E s := by
  refine enter (args := ⟨[xv, .str y ty], [(Str.ofString "name", .bool b)]⟩) (mod := []) (binds := [(Str.ofString "self", xv), (Str.ofString "value", .str y ty), (Str.ofString "name", .bool b)]) B F X₀ T (fun _ h => by cases h) hf hke (by exact (LI2 (.im (.lt (.a V0 (.n 3)) V1) (.lt V0 V1))) hroom) (by k_is) (by k_is) (BindsTo.of_eq rfl) (locs rfl) (fun g h₁ hg hg' F' N' B' X' T' hlow => ?_) rfl rfl rfl (by decide)
  try dsimp only
  have fin : ∀ h2 tk, (∀ b o, g.get? b = some o → h2.get? b = some o) → Q (.str y ty) { s with heap := h2, toks := tk } := fun h2 tk k => ret h2 tk fun b o _ e => k b o (hg b o (by simp) e)
  cases b
  · k_steps
    rename Fr _ _ _ _ => F2
    refine R.method2 F2 X' ?_
    k_steps
    rename Fr _ _ _ _ => F2
    refine R.search2 F2 X' hs hx ?_
    k_steps
    exact fin _ _ F2.keep
  · k_steps
    rename Fr _ _ _ _ => F2
    refine R.method1 F2 X' ?_
    k_steps
    rename Fr _ _ _ _ => F2
    refine R.search1 F2 X' hs hx ?_
    k_steps
    exact fin _ _ F2.keep
end Mine
end
section
open PySem PySem.W PyProof.Rows PySem.Calls PySem.Spec
namespace Mine
local macro_rules | `(tactic| walk_at $s:str) => Mine.hl [] [] s
section
variable {prog : Program} {w : World} {A₀ : Around} {dp un : Nat} {gd : Option (List Code)} {s : Shared} {base h₀ : Heap} {outer : List Env} {L : Addr} {m mg mb : Str → Option Value} {env : Env} {mod : List (Addr × Obj)}
  {p : Program} {loose : List Str} {mean : ExcName → Option Value}
  {R : Result → Shared → Prop} {name qual : Str} {params : Arguments} {body : List Stmt} {scope : Scope} {dV kV doc pm cdv ct oc : Value} {an od : Option Addr} {osl : Array (Option Value)} {f : Addr} {args : Args} {binds : List (Str × Value)}
theorem enterI (B : Below A₀ base outer h₀) (F : Fr h₀ L s.heap m) (X₀ : (hd.heap_39 w.params).In h₀) (T : Top p loose mean mg mb h₀) (N : News h₀ L s.heap mod) (hf : env.frame = some L) (hke : env.scope.kind = .function)
    (hroom : dp < recursionLimit)
    (ho : (hd.heap_39 w.params).lookup f = some ⟨oc, od, .func (fnOf name qual params body scope dV kV doc pm an cdv ct), osl⟩) (hcd : codeIn (hd.heap_39 w.params) cdv qual = true)
    (hbind : BindsTo s (fnOf name qual params body scope dV kV doc pm an cdv ct) ⟨args.pos, args.kw⟩ binds) (hloc : ∀ y ∈ binds, scope.names.lookup y.1 = some .local)
    (h : ∀ g h₁, (∀ b o, b ∉ mod.map (·.1) → s.heap.get? b = some o → g.get? b = some o) → (∀ b o, g.get? b = some o → s.heap.get? b = some o) →
      Fr g s.heap.objs.size h₁ (fun y => binds.reverse.lookup y) → News g s.heap.objs.size h₁ mod → Below (Ar dp un gd (env :: outer)) base (env :: outer) g → (hd.heap_39 w.params).In g → Top p loose mean mg mb g → (∀ p ∈ mod, p.1 < s.heap.objs.size) →
      wpAny (model prog w) (Ar (dp + 1) (un + 3) gd (envOf qual scope s.heap.objs.size f cdv :: env :: outer)) (execs body (envOf qual scope s.heap.objs.size f cdv))
        (fun fl s' => Halt (R (.ok (.ret (match fl with | .ret v => v | _ => .none))) s')) (fun _ _ => False)
        { s with heap := h₁, toks := s.toks + binds.length })
    (hco : scope.isCoroutine = false) (hgen : scope.isGenerator = false) (hk : scope.kind = .function)
    (hcell : ∀ x ∈ scope.names, x.2 ≠ .cell) : codeAny (model prog w) (Ar dp un gd (env :: outer)) (.call (.ref f) args) R s := by
  obtain ⟨FG, BG, st, lv⟩ := groundX (A := Ar dp un gd (env :: outer)) (R := fun _ _ => True) B F N rfl hf hke
  have XS := X₀.keeps F.keep
  have Xg : (hd.heap_39 w.params).In (hideAll s.heap (mod.map (·.1))) := X₀.keeps st
  have Tg : Top p loose mean mg mb (hideAll s.heap (mod.map (·.1))) := T.keeps st
  refine codeAny_call_def (fd := fnOf name qual params body scope dV kV doc pm an cdv ct) (body := body) (binds := binds) hroom (XS _ _ ho) rfl (T.nolimit.keeps F.keep) (codeRec_of XS hcd) rfl hbind hcell hloc (fun h₁ hns hk₁ => ?_) hco hgen hk
  refine wpAny_mono (h (hideAll s.heap (mod.map (·.1))) h₁ (fun b o n e => hideAll_get _ e n) (fun b o e => of_hideAll _ e) ⟨hns, fun b o e => hk₁ b o (of_hideAll _ e), Nat.le_of_eq (hideAll_size _ _)⟩
    (fun p hp => ⟨hk₁ _ _ (N p hp).1, Nat.ne_of_lt (Heap.lt_size (N p hp).1), hideAll_none _ (List.mem_map_of_mem hp)⟩) BG Xg Tg (fun p hp => Heap.lt_size (N p hp).1)) (fun fl s' hq => hq) (fun _ _ x => x.elim)
end
theorem call_clsP {prog : Program} {w : World} {A : Around} {s : Shared} {K : Frag} {C : Addr} {Q E : Value → Shared → Prop} {pos : List Value} {kw : List (Str × Value)} {fI : Addr} (X : K.In s.heap) (hm : makesIn K C = true) (hi : findIn K (.ref C) "__init__" = some (some (.ref fI))) (hf : isFn K (.ref fI) = true)
    (h : codeAny (model prog w) (A.under (.builtin "type.__call__" ⟨.ref C :: pos, kw⟩)) (.call (.ref fI) ⟨.ref (s.heap.objs.size + 1) :: pos, kw⟩) (InitBack (s.heap.objs.size + 1) fun r s' => match r with | .ok (.ret v) => Q v s' | .ok _ => False | .error e => E e s')
      { s with heap := (s.heap.push emptyDict).push (instObj C s.heap.objs.size) }) :
    wpAny (model prog w) A (call (.ref C) pos kw) Q E s := by
  obtain ⟨hh, g, d, t, os⟩ := s
  exact wpAny_call (make_core (makes_of X hm) (looks_findIn X hi) (fun self => bind_fn X self (beq_iff_eq.mp hf)) (.inl rfl) h)
theorem but_same {mod : List (Addr × Obj)} {g h h' : Heap} (hg : ∀ b o, b ∉ mod.map (·.1) → h.get? b = some o → g.get? b = some o) (k : ∀ b o, g.get? b = some o → h'.get? b = some o)
    (n1 : ∀ p ∈ mod, h.get? p.1 = some p.2) (n2 : ∀ p ∈ mod, h'.get? p.1 = some p.2) : But [] h h' := fun b o _ e => by
  by_cases hb : b ∈ mod.map (·.1)
  · obtain ⟨p, hp, rfl⟩ := List.mem_map.mp hb
    rw [n1 p hp] at e; cases e
    exact n2 p hp
  · exact k b o (hg b o hb e)
theorem get_none {h : Heap} {b : Addr} (e : h.objs.size ≤ b) : h.get? b = none := by
  cases q : h.get? b with
  | none => rfl
  | some o => exact absurd (Heap.lt_size q) (Nat.not_lt.mpr e)
noncomputable def hdrL (P : Params) (x dx hl : Addr) (t : Tok) (its : Array Value) (k : Nat) : List (Addr × Obj) :=
  [(x, instObj 265 dx), (dx, dictOf [⟨PyData.keyHash P (Str.ofString "_headers"), .str (Str.ofString "_headers") t, .ref hl⟩] 1), (hl, listOf its k)]
theorem hdr_all {P : Params} {x dx hl : Addr} {t : Tok} {its : Array Value} {k : Nat} {h h0 : Heap} (a : h.get? x = some (instObj 265 dx)) (b : h.get? dx = some (dictOf [⟨PyData.keyHash P (Str.ofString "_headers"), .str (Str.ofString "_headers") t, .ref hl⟩] 1))
    (c : h.get? hl = some (listOf its k)) (a0 : h0.get? x = none) (b0 : h0.get? dx = none) (c0 : h0.get? hl = none) : ∀ p ∈ hdrL P x dx hl t its k, h.get? p.1 = some p.2 ∧ h0.get? p.1 = none := fun p hp => by
  rcases List.mem_cons.mp hp with rfl | hp
  · exact ⟨a, a0⟩
  rcases List.mem_cons.mp hp with rfl | hp
  · exact ⟨b, b0⟩
  rcases List.mem_cons.mp hp with rfl | hp
  · exact ⟨c, c0⟩
  · cases hp
set_option maxHeartbeats 4000000 in
theorem headers_new_spec {prog : Program} {w : World} {A₀ : Around} {dp un : Nat} {gd : Option (List Code)} {s : Shared} {base h₀ : Heap} {outer : List Env} {L : Addr} {m mg mb : Str → Option Value} {env : Env}
    {p : Program} {loose : List Str} {mean : ExcName → Option Value} {Q E : Value → Shared → Prop}
    (B : Below A₀ base outer h₀) (F : Fr h₀ L s.heap m) (X₀ : (hd.heap_39 w.params).In h₀) (T : Top p loose mean mg mb h₀) (hf : env.frame = some L) (hke : env.scope.kind = .function)
    (hroom : dp + 5 < recursionLimit)
    (ret : ∀ x dx hl t k h' tk, But [] s.heap h' → (∀ p ∈ hdrL w.params x dx hl t #[] k, h'.get? p.1 = some p.2 ∧ s.heap.get? p.1 = none) → Q (.ref x) { s with heap := h', toks := tk }) :
    wpAny (model prog w) (Ar dp un gd (env :: outer)) (call (.ref 265) [] []) Q E s := by
  refine call_clsP (X₀.keeps F.keep) (fI := 159) (by k_is) (by k_is) (by k_is) ?_
  show codeAny (model prog w) (Ar (dp + 1) (un + 1) gd (env :: outer)) _ _ _
  have F1 := (F.push emptyDict).push (instObj 265 s.heap.objs.size)
  have N1 := ((News.nil (h₀ := h₀) (L := L) (h := s.heap)).push F emptyDict).push (F.push _) (instObj 265 s.heap.objs.size)
  rw [Heap.size_push] at N1
  have k1 : ∀ b o, s.heap.get? b = some o → ((s.heap.push emptyDict).push (instObj 265 s.heap.objs.size)).get? b = some o := fun b o e => Heap.get?_push_of_some _ (Heap.get?_push_of_some _ e)
  have l2 : s.heap.objs.size < s.heap.objs.size + 1 := Nat.lt_succ_self _
  have hx0 : s.heap.objs.size + 1 ≥ s.heap.objs.size := Nat.le_succ _
  have hd0 : s.heap.objs.size ≥ s.heap.objs.size := Nat.le_refl _
  generalize (s.heap.push emptyDict).push (instObj 265 s.heap.objs.size) = h' at *
  generalize hx : s.heap.objs.size + 1 = x at *
  generalize hdx : (s.heap.objs.size : Addr) = dx at F1 N1 k1 l2 ⊢
  refine enterI (args := ⟨[.ref x], []⟩) (binds := [(Str.ofString "self", .ref x), (Str.ofString "headers", .none)]) (env := env) B F1 X₀ T N1 hf hke (by exact (LI2 (.im (.lt (.a V0 (.n 5)) V1) (.lt (.a V0 O1) V1))) hroom) (by k_is) (by k_is) (kp_binds (X₀.keeps F1.keep) (fun _ => rfl)) (locs rfl) (fun g h₁ hg hg' F' N' B' X' T' hlow => ?_) rfl rfl rfl (by decide)
  try dsimp only
  k_steps
  rename Fr _ _ _ _ => F2
  rename News _ _ _ _ => N2
  rename_i tk0 l' h3 F3 N3 ll h4 tk1 h5 N4 i' l1' h6 tk2
  have old : ∀ b o, s.heap.get? b = some o → g.get? b = some o := fun b o e => hg b o (fun q => by
    have hb : b < s.heap.objs.size := Heap.lt_size e
    rcases List.mem_cons.mp q with q | q
    · exact absurd (ltN hb) (Nat.not_lt.mpr (by rw [show b = x from q]; exact hx0))
    · exact absurd (ltN hb) (Nat.not_lt.mpr (by rw [show b = dx by simpa using q]; exact (LI2 (.im (.eq V0 V1) (.le V0 V1))) hdx))) (k1 b o e)
  refine go (And.intro rfl (ret x dx l' _ 0 _ _ (fun b o _ e => F2.keep b o (old b o e)) (hdr_all (N2 _ (.tail _ (.head _))).1 (N2 _ (.tail _ (.tail _ (.head _)))).1 (N2 _ (.head _)).1 (get_none hx0) (get_none (by rw [hdx]; exact Nat.le_refl _)) (get_none (Nat.le_of_lt ?_)))))
  rw [hdx]
  exact ll.2
end Mine
end
section
open PySem PySem.W PyProof.Rows PySem.Calls PySem.Spec
namespace Mine
section
variable {prog : Program} {w : World} {A : Around} {env : Env} {g : Heap} {s s₂ : Shared}
noncomputable def CompTurnT (prog : Program) (w : World) (A : Around) (env : Env) (scope : Scope) (cl : List (Str × Addr)) (U : Value → (Str → Option Value) → (Str → Option Value) → Prop) (tst : Option Expr) (elt : Expr) (g : Heap) (L : Addr) (m : Str → Option Value) (led : List (Addr × Obj)) (n : Nat) (P : Nat → Value → Prop) (J : Nat → List Value → List (Addr × Obj) → Prop) (s : Shared) : Prop :=
  ∀ (D I : Addr) (s₂ : Shared) (g' : Heap) (i : Nat) (v : Value) (out : List Value) (k : Nat) (led₁ : List (Addr × Obj)) (h : Heap) (tk : Nat) (mC m' : Str → Option Value) (own : List (Addr × Obj)), U v mC m' → s.heap.objs.size ≤ I → I < D → (∃ h' tk', s₂ = { s with heap := h', toks := tk' }) → (∀ b o, g.get? b = some o → g'.get? b = some o) → g'.Ns L m → (∀ b o, b ∉ led.map (·.1) → s.heap.get? b = some o → g'.get? b = some o) →
      i < n → P i v → out.length ≤ i → J i out led₁ → (∀ p ∈ led₁, p.1 ≠ I ∧ p.1 ≠ D ∧ p.1 ≠ D + 1) →
      Fr g' (D + 1) h m' → News g' (D + 1) h ((D, listOf out.toArray k) :: (led₁ ++ own)) →
      wpAny (model prog w) A (match tst with | none => pure true | some c => isTrue c (cEnv env scope (D + 1) cl) (eval c (cEnv env scope (D + 1) cl)))
        (fun b s' => if b = true then wpAny (model prog w) A (eval elt (cEnv env scope (D + 1) cl)) (fun r s' => Halt (CompEnd g' (D + 1) D I (fun o l => J (i + 1) (o ++ [r]) l) out k own s₂ s')) (fun _ _ => False) s'
          else Halt (CompEnd g' (D + 1) D I (J (i + 1)) out k own s₂ s'))
        (fun _ _ => False) { s with heap := h, toks := tk }
noncomputable def PairU (items : Array Value) (a b : Str) (xs ys : Nat → Value) (v : Value) (mC m' : Str → Option Value) : Prop := ∀ i, items[i]? = some v → m' = fun z => if z = b then some (ys i) else if z = a then some (xs i) else mC z
theorem comp_pairs {scope : Scope} {cl : List (Str × Addr)} {a b : Str} {pa pb tp : Pos} {kk : Nat} {tst : Option Expr} {elt : Expr} {Q : Value → Shared → Prop} {L : Addr} {m : Str → Option Value} {led : List (Addr × Obj)} (J : Nat → List Value → List (Addr × Obj) → Prop)
    {l : Addr} {items : Array Value} {xs ys : Nat → Value} (hh : A.handled = none) (hkind : scope.kind = .function) (ha : scope.names.lookup a = some .local) (hb : scope.names.lookup b = some .local) (hl : s.heap.IsList l items)
    (ht : ∀ i, i < items.size → ∃ T, items[i]? = some (.ref T) ∧ s.heap.IsTuple T #[xs i, ys i] ∧ T ∉ led.map (·.1)) (F : Fr g L s.heap m) (N : News g L s.heap led) (hn : items.size < sizeLine) (hJ : J 0 [] led)
    (turn : CompTurnT prog w A env scope cl (PairU items a b xs ys) tst elt g L m led items.size (fun i v => items[i]? = some v) J s) (done : CompDone g L m led items.size J Q s) :
    wpAny (model prog w) A (pyIter (.ref l)) (fun it s₂ => CompAtT prog w A env scope cl (.Tuple [.Name a pa, .Name b pb] kk tp) (PairU items a b xs ys) tst elt Q it s₂) (fun _ _ => False) s := by
  have hlt : l < s.heap.objs.size := hl.elim fun _ e => Heap.lt_size e.1
  refine wpAny_pyIter_list hl ?_
  generalize ho : (_ : Obj) = o
  have hL : L < s.heap.objs.size := F.ns.lt
  have hltl : ∀ p ∈ led, p.1 < s.heap.objs.size := fun p hp => Heap.lt_size (N p hp).1
  have hsz : (s.heap.push o).objs.size = s.heap.objs.size + 1 := Heap.size_push ..
  have gI : g.get? s.heap.objs.size = none := by
    cases e : g.get? s.heap.objs.size with
    | none => rfl
    | some o => exact absurd (Heap.lt_size (F.keep _ _ e)) (Nat.lt_irrefl _)
  have keep : ∀ b o', s.heap.get? b = some o' → (s.heap.push o).get? b = some o' := fun b o' e => Heap.get?_push_of_some _ e
  have ne : ∀ b o', s.heap.get? b = some o' → b ≠ s.heap.objs.size := fun b o' e => Nat.ne_of_lt (Heap.lt_size e)
  subst ho
  refine ⟨s.heap.objs.size, _, items.size, _, _, g, L, m, led, J, rfl, Walks.list hh _ l (Nat.ne_of_lt hlt) items, ⟨⟨_, Heap.get?_push_size _ rfl, rfl, rfl⟩, hl.at fun o e => Heap.get?_push_of_some _ e⟩, F.push _, fun p hp => ⟨keep _ _ (N p hp).1, (N p hp).2⟩, fun p hp => Nat.ne_of_lt (hltl p hp), gI, Nat.ne_of_lt hL, by rw [hsz]; exact Nat.lt_succ_self _, fun b hb => ?_, hn, hJ, ?_, ?_, ?_⟩
  · rw [hsz]
    rcases List.mem_cons.mp hb with rfl | hb
    · exact Nat.lt_succ_self _
    · rw [List.mem_singleton.mp hb]; exact Nat.lt_succ_of_lt hlt
  · intro g' i v h tk mC Q' h1 h2 hi hv st FC hq
    obtain ⟨T, e1, tup, hT⟩ := ht i hi
    have e1' : v = .ref T := Option.some.inj (hv.symm.trans e1)
    subst e1'
    have up : ∀ T x, s.heap.IsTuple T x → T ∉ led.map (·.1) → h.IsTuple T x := fun T x ⟨o, e, r⟩ hn => ⟨o, FC.keep _ _ (h2 T o (ne T o e) hn (keep _ _ e)), r⟩
    refine wpAny_letOwnedTupleGo_listiter st.1 ?_
    refine kcp_assign hh (up _ _ tup hT) (lookup_relabel_local ha) (lookup_relabel_local hb) ?_ FC.ns fun h' tk' hn' hk' => ?_
    · show (scope.kind == .class || (scope.kind == .module && _)) = false
      rw [hkind]; rfl
    · refine hq h' tk' _ (fun j hj => ?_) ⟨hn', fun b o e => hk' b o (fun q => ?_) (FC.keep b o e), FC.above⟩ fun b o hb e => hk' b o hb e
      · have hj' : j < items.size := by
          rcases Nat.lt_or_ge j items.size with q | q
          · exact q
          · rw [Array.getElem?_eq_none q] at hj; cases hj
        obtain ⟨T', e2, tup', _⟩ := ht j hj'
        have : T' = T := by rw [hj] at e2; cases e2; rfl
        subst this
        obtain ⟨o, q1, _, n1, q2⟩ := tup
        obtain ⟨o', q3, _, n2, q4⟩ := tup'
        rw [q1] at q3; cases q3
        rw [q2] at q4
        have e3 := (Data.seq.inj q4).1
        have e4 := congrArg Array.toList e3
        simp only [List.cons.injEq, and_true] at e4
        rw [← e4.1, ← e4.2]
      · have h3 := Heap.lt_size e
        have h4 := FC.above
        rw [q] at h3
        exact absurd h3 (Nat.not_lt.mpr h4)
  · intro g' i v out k led₁ h tk mC m' own hU a1 a2 a3 a4 a5 a6 a7 a8 a9 a10 _ _
    exact turn (s.heap.push _).objs.size s.heap.objs.size { s with heap := s.heap.push _ } g' i v out k led₁ h tk mC m' own hU (Nat.le_refl _) (by rw [hsz]; exact Nat.lt_succ_self _) ⟨_, _, rfl⟩ a1 a2 (fun b o' hb e => a3 b o' (ne b o' e) hb (keep _ _ e)) a4 a5 a6 a7 a8 a9 a10
  · intro led' out k h tk a1 a2 a3 a4
    exact done (s.heap.push _).objs.size led' out k h tk (by rw [hsz]; exact Nat.le_succ _) a1 a2 a3 fun b o' hb e => a4 b o' (ne b o' e) hb (keep _ _ e)
end
end Mine
end
section
open PySem PySem.W PyProof.Rows PySem.Calls PySem.Spec
namespace Mine
local macro_rules | `(tactic| walk_at $s:str) => Mine.hl [] [] s
local macro_rules | `(tactic| walk_at $s:str) => Mine.hl ["eval ListComp Attribute", "eval ListComp Name", "eval ListComp Subscript", "pyIter ref"] [("eval Name", "@loc")] s
noncomputable def Tbl (h : Heap) (its : Array Value) (l : List (Str × Str)) : Prop :=
  its.size = l.length ∧ ∀ i (hi : i < l.length), E3 fun T t1 t2 => its[i]? = some (.ref T) ∧ h.IsTuple T #[.str l[i].1 t1, .str l[i].2 t2]
theorem Tbl.keeps {h h' : Heap} {its : Array Value} {l : List (Str × Str)} {as : List Addr} (x : Tbl h its l) (k : But as h h') (n : ∀ a ∈ as, ∀ o, h.get? a = some o → o.cls ≠ .type "tuple") : Tbl h' its l :=
  ⟨x.1, fun i hi => by
    obtain ⟨T, t1, t2, e, o, ho, hc, r⟩ := x.2 i hi
    exact ⟨T, t1, t2, e, o, k _ _ (fun q => n _ q _ ho hc) ho, hc, r⟩⟩
theorem hdrL_off {P : Params} {x dx hl : Addr} {t : Tok} {its : Array Value} {k : Nat} {h : Heap} (N : ∀ p ∈ hdrL P x dx hl t its k, h.get? p.1 = some p.2) : ∀ a ∈ (hdrL P x dx hl t its k).map (·.1), ∀ o, h.get? a = some o → o.cls ≠ .type "tuple" := fun a ha o e => by
  obtain ⟨p, hp, rfl⟩ := List.mem_map.mp ha
  rw [N p hp] at e; cases e
  rcases List.mem_cons.mp hp with rfl | hp
  · intro q; cases q
  rcases List.mem_cons.mp hp with rfl | hp
  · intro q; exact absurd q (by simp)
  rcases List.mem_cons.mp hp with rfl | hp
  · intro q; exact absurd q (by simp)
  · cases hp
theorem Tbl.vals {h : Heap} {its : Array Value} {l : List (Str × Str)} (x : Tbl h its l) : ∃ xs ys : Nat → Value, ∀ i (hi : i < l.length), E3 fun T t1 t2 => A4 (its[i]? = some (.ref T)) (h.IsTuple T #[xs i, ys i]) (xs i = .str l[i].1 t1) (ys i = .str l[i].2 t2) := by
  have : ∀ i, ∃ q : Value × Value, ∀ (hi : i < l.length), E3 fun T t1 t2 => A4 (its[i]? = some (.ref T)) (h.IsTuple T #[q.1, q.2]) (q.1 = .str l[i].1 t1) (q.2 = .str l[i].2 t2) := fun i => by
    by_cases hi : i < l.length
    · obtain ⟨T, t1, t2, e, r⟩ := x.2 i hi
      exact ⟨(.str l[i].1 t1, .str l[i].2 t2), fun _ => ⟨T, t1, t2, e, r, rfl, rfl⟩⟩
    · exact ⟨(.none, .none), fun q => absurd q hi⟩
  obtain ⟨f, hf⟩ := Classical.axiomOfChoice this
  exact ⟨fun i => (f i).1, fun i => (f i).2, fun i hi => hf i hi⟩
theorem fresh_top {mod : List (Addr × Obj)} {g h hc : Heap} {D : Addr} (hg : ∀ b o, b ∉ mod.map (·.1) → h.get? b = some o → g.get? b = some o) (k : ∀ b o, g.get? b = some o → hc.get? b = some o)
    (n : ∀ p ∈ mod, hc.get? p.1 = some p.2) (hD : hc.objs.size ≤ D) : h.get? D = none := by
  cases e : h.get? D with
  | none => rfl
  | some o =>
    exfalso
    by_cases q : D ∈ mod.map (·.1)
    · obtain ⟨p, hp, rfl⟩ := List.mem_map.mp q
      exact absurd (Heap.lt_size (n p hp)) (Nat.not_lt.mpr hD)
    · exact absurd (Heap.lt_size (k _ _ (hg _ _ q e))) (Nat.not_lt.mpr hD)
set_option maxHeartbeats 4000000 in
theorem keys_spec {prog : Program} {w : World} {A₀ : Around} {dp un : Nat} {gd : Option (List Code)} {s : Shared} {base h₀ : Heap} {outer : List Env} {L : Addr} {m mg mb : Str → Option Value} {env : Env}
    {p : Program} {loose : List Str} {mean : ExcName → Option Value} {Q E : Value → Shared → Prop}
    {x dx hl : Addr} {t : Tok} {its : Array Value} {k : Nat} {l : List (Str × Str)}
    (B : Below A₀ base outer h₀) (F : Fr h₀ L s.heap m) (X₀ : (hd.heap_39 w.params).In h₀) (T : Top p loose mean mg mb h₀) (hf : env.frame = some L) (hke : env.scope.kind = .function)
    (hroom : dp + 3 < recursionLimit) (N : News h₀ L s.heap (hdrL w.params x dx hl t its k)) (tb : Tbl s.heap its l) (hz : l.length ≤ 1000)
    (ret : ∀ D vs n h' tk, But [] s.heap h' → s.heap.get? D = none → h'.get? D = some (listOf (vs : List Value).toArray n) → StrsAre vs (l.map (·.1)) → Q (.ref D) { s with heap := h', toks := tk }) :
    wpAny (model prog w) (Ar dp un gd (env :: outer)) (call (.ref 217) [.ref x] []) Q E s := by
  refine enter (args := ⟨[.ref x], []⟩) (mod := hdrL w.params x dx hl t its k) B F X₀ T N hf hke (by exact (LI2 (.im (.lt (.a V0 (.n 3)) V1) (.lt V0 V1))) hroom) (by k_is) (by k_is) (BindsTo.of_eq rfl) (locs rfl) (fun g h₁ hg hg' F' N' B' X' T' hlow => ?_) rfl rfl rfl (by decide)
  unfold hdrL at N'
  try dsimp only
  k_steps
  refine go ?_
  rename Fr _ _ _ _ => F2
  rename News _ _ _ _ => N2
  obtain ⟨xs, ys, hv⟩ := tb.vals
  refine comp_ruleT (tst := none) (cl := []) (U := PairU its "k" "v" xs ys) rfl rfl rfl (by decide) (by decide) ?_
  k_steps
  refine go ?_
  have off := hdrL_off (fun p hp => (N p hp).1)
  refine comp_pairs (fun i out led => led = hdrL w.params x dx hl t its k ∧ StrsAre out ((l.take i).map (·.1))) rfl rfl rfl rfl (News.isList N2 (.tail _ (.tail _ (.head _)))) ?_ F2 N2 (by rw [sizeLine_eq, tb.1]; exact (LI1 (.im (.le V0 (.n 1000)) (.lt V0 (.n 16777216)))) hz) ⟨rfl, .nil⟩ ?_ ?_
  · intro i hi
    obtain ⟨T, t1, t2, e, ⟨o, ho, hc, r⟩, _⟩ := hv i (tb.1 ▸ hi)
    exact ⟨T, e, ⟨o, F2.keep _ _ (hg _ _ (fun q => off _ q _ ho hc) ho), hc, r⟩, fun q => off _ q _ ho hc⟩
  · rintro D I s₂ g' i v out e0 led₁ h tk mC m' own hU hsI hID ⟨hh, tt, rfl⟩ hgg hL hk hi hv' hle ⟨rfl, hI⟩ ho F3 N3
    refine wpAny_pure ?_
    rw [if_pos rfl]
    obtain ⟨T, t1, t2, e, _, e1, e2⟩ := hv i (tb.1 ▸ hi)
    have hm := hU i hv'
    rw [e1, e2] at hm
    subst hm
    k_steps
    refine go ⟨h, _, _, _, rfl, F3, N3, ho, rfl, ?_⟩
    rw [List.take_add_one, List.getElem?_eq_getElem (tb.1 ▸ hi), List.map_append]
    exact strsAre_snoc hI _ _
  · rintro D led' out n h tk hD ⟨rfl, hI⟩ F3 N3 hk
    rw [List.take_of_length_le (by rw [tb.1]; exact Nat.le_refl _)] at hI
    k_steps
    refine go (ret D out n h _ (but_same hg F3.keep (fun p hp => (N p hp).1) fun p hp => (N3 p (.tail _ hp)).1) ?_ (N3 _ (.head _)).1 hI)
    exact fresh_top hg F2.keep (fun p hp => (N2 p hp).1) hD
end Mine
end
section
open PySem PySem.W PyProof.Rows PySem.Calls PySem.Spec
namespace Mine
local macro_rules | `(tactic| walk_at $s:str) => Mine.hl ["eval ListComp Attribute", "eval ListComp Name", "eval ListComp Subscript", "pyIter ref", "subscriptTail Name Constant ref int"] [("eval Name", "@loc")] s
theorem still_safe {y : Str} (h : ∀ c ∈ y.cps.toList, R.Safe c) : KXs.Still y := fun c hc => by have := h c hc; unfold R.Safe at this; exact (LI1 (.im (.or (.eq V0 (.n 97)) (.or (.eq V0 (.n 34)) (.or (.eq V0 (.n 92)) (.an (.le (.n 48) V0) (.le V0 (.n 57)))))) (.an (.le (.n 33) V0) (.an (.lt V0 (.n 127)) (.or (.lt V0 (.n 65)) (.lt (.n 90) V0)))))) this
set_option maxHeartbeats 4000000 in
theorem get_all_spec {prog : Program} {w : World} {A₀ : Around} {dp un : Nat} {gd : Option (List Code)} {s : Shared} {base h₀ : Heap} {outer : List Env} {L : Addr} {m mg mb : Str → Option Value} {env : Env}
    {p : Program} {loose : List Str} {mean : ExcName → Option Value} {Q E : Value → Shared → Prop}
    {x dx hl : Addr} {t ty : Tok} {its : Array Value} {k : Nat} {l : List (Str × Str)} {y : Str}
    (B : Below A₀ base outer h₀) (F : Fr h₀ L s.heap m) (X₀ : (hd.heap_39 w.params).In h₀) (T : Top p loose mean mg mb h₀) (hf : env.frame = some L) (hke : env.scope.kind = .function)
    (hroom : dp + 6 < recursionLimit) (N : News h₀ L s.heap (hdrL w.params x dx hl t its k)) (tb : Tbl s.heap its l) (hz : l.length ≤ 1000)
    (hs : ∀ q ∈ l, (∀ c ∈ q.1.cps.toList, R.Safe c) ∧ q.1.cps.size ≤ 1000) (hsy : ∀ c ∈ y.cps.toList, R.Safe c) (hzy : y.cps.size ≤ 1000)
    (ret : ∀ D vs n h' tk, But [] s.heap h' → s.heap.get? D = none → h'.get? D = some (listOf (vs : List Value).toArray n) → StrsAre vs ((l.filter (·.1 == y)).map (·.2)) → Q (.ref D) { s with heap := h', toks := tk }) :
    wpAny (model prog w) (Ar dp un gd (env :: outer)) (call (.ref 204) [.ref x, .str y ty] []) Q E s := by
  refine enterC (args := ⟨[.ref x, .str y ty], []⟩) (binds := [(Str.ofString "self", .ref x), (Str.ofString "name", .str y ty)]) (mod := hdrL w.params x dx hl t its k) B F X₀ T N hf hke (by exact (LI2 (.im (.lt (.a V0 (.n 6)) V1) (.lt V0 V1))) hroom) (by k_is) (by k_is) (BindsTo.of_eq rfl) rfl (by decide +kernel) (fun g h₁ tk cells hg hg' F' N' Y' B' X' T' hlow => ?_) rfl rfl rfl
  k_cells Y'
  unfold hdrL at N' hlow
  simp only [List.cons_append, List.nil_append] at N'
  have l1 := hlow
  k_lt l1
  have st := still_safe hsy
  have hzy' : y.length ≤ 1000 := hzy
  try dsimp only
  k_steps
  refine go ?_
  rename Fr _ _ _ _ => F2
  rename News _ _ _ _ => N2
  refine conv_spec B' F2 X' T' rfl rfl (by exact (LI2 (.im (.lt (.a V0 (.n 6)) V1) (.lt (.a (.a V0 O1) (.n 3)) V1))) hroom) hsy hzy (fun h5 tk5 k5 => ?_)
  have F5 := fr_keep F2 k5
  have N5 := news_keep N2 k5
  k_steps
  refine go ?_
  rename Fr _ _ _ _ => F2
  rename News _ _ _ _ => N2
  rename _ = Data.cell (some (Value.str y _)) => d2
  rename_i t' _ h6 o6
  have off := hdrL_off (fun p hp => (N p hp).1)
  have off2 : s.heap.objs.size + 1 ∉ (hdrL w.params x dx hl t its k).map (·.1) := fun q => by
    obtain ⟨p, hp, e⟩ := List.mem_map.mp q
    have h1 := hlow p hp
    rw [e] at h1
    exact absurd h1 (Nat.not_lt.mpr (Nat.le_succ _))
  refine comp_rule (cl := [(Str.ofString "name", s.heap.objs.size + 1)]) (tst := some _) rfl rfl rfl (by decide) (by decide) rfl ?_
  k_steps
  refine go ?_
  refine comp_list (fun i out led => led = (s.heap.objs.size + 1, o6) :: hdrL w.params x dx hl t its k ∧ StrsAre out (((l.take i).filter (·.1 == y)).map (·.2))) rfl (News.isList N2 (.tail _ (.tail _ (.tail _ (.head _))))) F2 N2 (by rw [sizeLine_eq, tb.1]; exact (LI1 (.im (.le V0 (.n 1000)) (.lt V0 (.n 16777216)))) hz) ⟨rfl, .nil⟩ ?_ ?_
  · rintro D I s₂ g' i v out e0 led₁ h tk mC own hsI hID ⟨hh, tt, rfl⟩ hgg hL hk hi hv hle ⟨rfl, hI⟩ ho F3 N3
    have hi' : i < l.length := tb.1 ▸ hi
    obtain ⟨T, t1, t2, e, ⟨o, ho1, hc1, r1⟩⟩ := tb.2 i hi'
    rw [e] at hv; cases hv
    have tT : g'.IsTuple T #[.str l[i].1 t1, .str l[i].2 t2] := ⟨o, hgg _ _ (hg _ _ (fun q => off _ q _ ho1 hc1) ho1), hc1, r1⟩
    have sti : KXs.Still l[i].1 := still_safe (hs _ (List.getElem_mem hi')).1
    have hzi : l[i].1.length ≤ 1000 := (hs _ (List.getElem_mem hi')).2
    k_steps
    refine go ?_
    refine item_tuple (F3.tup tT) (by decide) (by decide) (j := 0) (x := .str l[i].1 t1) rfl rfl ?_
    k_steps
    · refine go ?_
      refine item_tuple (F3.tup tT) (by decide) (by decide) (j := 1) (x := .str l[i].2 t2) rfl rfl ?_
      k_steps
      rename (l[i].1 == y) = true => hy
      refine go ⟨h, _, _, _, rfl, F3, N3, ho, rfl, ?_⟩
      rw [List.take_add_one, List.getElem?_eq_getElem hi', List.filter_append, List.map_append]
      rw [show List.filter (fun x : Str × Str => x.1 == y) (some l[i]).toList = [l[i]] by simp only [Option.toList, List.filter_cons, hy, if_true, List.filter_nil]]
      exact strsAre_snoc hI _ _
    · rename (l[i].1 == y) = false => hy
      refine go ⟨h, _, _, _, rfl, F3, N3, ho, rfl, ?_⟩
      rw [List.take_add_one, List.getElem?_eq_getElem hi', List.filter_append, List.map_append]
      rw [show List.filter (fun x : Str × Str => x.1 == y) (some l[i]).toList = [] by simp only [Option.toList, List.filter_cons, hy, Bool.false_eq_true, if_false, List.filter_nil]]
      rw [List.map_nil, List.append_nil]
      exact hI
  · rintro D led' out n h tk hD ⟨rfl, hI⟩ F3 N3 hk
    rw [List.take_of_length_le (by rw [tb.1]; exact Nat.le_refl _)] at hI
    k_steps
    refine go (ret D out n h _ (but_same hg F3.keep (fun p hp => (N p hp).1) fun p hp => (N3 p (.tail _ (.tail _ hp))).1) ?_ (N3 _ (.head _)).1 hI)
    exact fresh_top hg F2.keep (fun p hp => (N2 p (.tail _ hp)).1) hD
end Mine
end
section
open PySem PySem.W PyProof.Rows PySem.Calls PySem.Spec
namespace Mine
section
variable {prog : Program} {w : World} {A : Around} {E : Value → Shared → Prop} {s : Shared}
theorem extract_all (xs new : Array Value) : xs.extract 0 (Int.toNat 0) ++ new ++ xs.extract (max (0 : Int) (xs.size : Int)).toNat xs.size = new := by
  apply Array.toList_inj.mp
  have : (max (0 : Int) (xs.size : Int)).toNat = xs.size := by exact (LI1 (.eq (.tn (.mx O0 (.ca V0))) V0))
  rw [this]
  simp
theorem setItem_all {l sl D : Addr} {items new : Array Value} {n : Nat} {Q : Unit → Shared → Prop} (hl : s.heap.get? l = some (listOf items n)) (hD : s.heap.IsList D new) (hne : l ≠ D) (hs : s.heap.IsSliceOf sl .none .none .none)
    (h1 : items.size ≤ 1000) (h2 : new.size ≤ 1000)
    (h : ∀ h' n', h'.get? l = some (listOf new n') → (∀ b o, b ≠ l → s.heap.get? b = some o → h'.get? b = some o) → Q () { s with heap := h' }) :
    wpAny (model prog w) A (setItem (.ref l) (.ref sl) (.ref D)) Q E s := by
  have hl' : s.heap.IsList l items := ⟨_, hl, rfl, _, rfl⟩
  obtain ⟨oD, hoD, hcD, nD, hdD⟩ := id hD
  obtain ⟨os, hos, hcs, hds⟩ := id hs
  have hTs : s.TypeIs (.ref sl) "slice" := ⟨os, hos, hcs⟩
  unfold setItem
  try with_reducible refine wpAny_holding ?_
  first | refine wpAny_bind (wpAny_pure ?_) | skip
  refine wpAny_bind (wpAny_sequenceKey hl'.typeIs (by decide) ?_)
  refine wpAny_bind (wpAny_callSpecial?_slot (name := Str.ofString "__setitem__") hl'.typeIs slot_list_setitem
    (wpAny_call_entry slot_list_setitem hl'.typeIs entry_list_setitem ?_ (args_list_setitem _ _ _)))
  show wpAny _ _ (Builtin.List.listSubscript? (.ref sl) >>= _) _ _ s
  refine wpAny_bind ?_
  unfold Builtin.List.listSubscript?
  refine wpAny_bind (wpAny_specialOf hTs slice_no_index ?_)
  simp only [Option.isNone_none, if_true]
  refine wpAny_pure ?_
  show wpAny _ _ (typeOf (.ref sl) >>= _) _ _ s
  refine wpAny_bind (wpAny_typeOf hTs ?_)
  rw [if_neg (by decide)]
  rw [listSliceParts_eq]
  refine wpAny_bind (wpAny_bind (wpAny_field hos hds (x := .none) rfl (wpAny_bind (wpAny_listPart .none ?_))))
  rw [if_neg (show ¬ ((rawPart none == rawInt 0) = true) from Bool.false_ne_true)]
  refine wpAny_bind (wpAny_field hos hds (x := .none) rfl (wpAny_bind (wpAny_listPart .none ?_)))
  refine wpAny_bind (wpAny_field hos hds (x := .none) rfl (wpAny_bind (wpAny_listPart .none (wpAny_pure ?_))))
  dsimp only
  rw [if_neg (show ¬ (Builtin.List.listSameRef (.ref l) (.ref D) = true) by simpa [Builtin.List.listSameRef] using hne)]
  refine wpAny_bind ?_
  unfold Builtin.List.listAllItems
  refine wpAny_bind (wpAny_typeOf hD.typeIs ?_)
  rw [if_pos (by decide)]
  refine wpAny_bind (wpAny_seqItems hoD hdD (wpAny_pure ?_))
  refine wpAny_bind (listItems_at hl rfl ?_)
  refine wpAny_bind (wpAny_of_eq (sliceIndices_raw none none none items.size (by simp)) ?_)
  have eb : sliceBounds none none none items.size = (0, (items.size : Int), 1) := rfl
  rw [eb]
  dsimp only
  rw [if_pos (by decide)]
  refine wpAny_bind (wpAny_rule ?_)
  rw [if_neg (show ¬ (Builtin.List.listTooLong (items.size + new.size) = true) by unfold Builtin.List.listTooLong; rw [sizeLine_eq]; simp; exact (LI2 (.im (.le V0 (.n 1000)) (.im (.le V1 (.n 1000)) (.le (.a V1 V0) (.n 16777216))))) h2 h1)]
  refine wpAny_bind (listUpdate_at hl rfl ?_ (by rw [sizeLine_eq]; exact (LI1 (.im (.le V0 (.n 1000)) (.le V0 (.n 16777216)))) h1) (by rw [extract_all, sizeLine_eq]; exact (LI1 (.im (.le V0 (.n 1000)) (.le V0 (.a (.n 16777216) O1)))) h2))
  refine wpAny_bind (wpAny_letGo ?_)
  refine wpAny_pure ⟨.none, rfl, wpAny_pure (h _ _ ((get?_update_seq (c := "list") hl _).trans (congrArg (fun a => some (listOf a _)) (extract_all items new))) fun b o hb e => ?_)⟩
  exact ((Heap.SameBut.update ..).2 b hb).trans e
end
end Mine
end
section
open PySem PySem.W PyProof.Rows PySem.Calls PySem.Spec
namespace Mine
local macro_rules | `(tactic| walk_at $s:str) => Mine.hl [] [] s
local macro_rules | `(tactic| walk_at $s:str) => Mine.hl ["eval ListComp Attribute", "eval ListComp Name", "eval ListComp Subscript", "pyIter ref", "subscriptTail Name Constant ref int"] [("eval Name", "@loc")] s
theorem but_one {mod : List (Addr × Obj)} {g h h' : Heap} {a : Addr} (hg : ∀ b o, b ∉ mod.map (·.1) → h.get? b = some o → g.get? b = some o) (k : ∀ b o, b ≠ a → g.get? b = some o → h'.get? b = some o)
    (n1 : ∀ p ∈ mod, h.get? p.1 = some p.2) (n2 : ∀ p ∈ mod, p.1 ≠ a → h'.get? p.1 = some p.2) : But [a] h h' := fun b o hb e => by
  have hb' : b ≠ a := fun q => hb (by rw [q]; exact .head _)
  by_cases hm : b ∈ mod.map (·.1)
  · obtain ⟨p, hp, rfl⟩ := List.mem_map.mp hm
    rw [n1 p hp] at e; cases e
    exact n2 p hp hb'
  · exact k b o hb' (hg b o hm e)
theorem tbl_snoc {h : Heap} {out : List Value} {T : Addr} {l : List (Str × Str)} {q : Str × Str} {t1 t2 : Tok} (x : Tbl h out.toArray l) (y : h.IsTuple T #[.str q.1 t1, .str q.2 t2]) : Tbl h (out ++ [Value.ref T]).toArray (l ++ [q]) := by
  have hz : out.length = l.length := by have := x.1; simpa using this
  refine ⟨by simp [hz], fun i hi => ?_⟩
  rw [List.length_append, List.length_singleton] at hi
  by_cases hlt : i < l.length
  · obtain ⟨T', a, b, e, r⟩ := x.2 i hlt
    refine ⟨T', a, b, ?_, ?_⟩
    · rw [List.getElem?_toArray] at e ⊢
      rw [List.getElem?_append_left (by exact (LI3 (.im (.lt V0 V1) (.im (.eq V2 V1) (.lt V0 V2)))) hlt hz)]; exact e
    · rw [List.getElem_append_left hlt]; exact r
  · have hi' : i = l.length := by exact (LI2 (.im (.lt V0 (.a V1 O1)) (.im (.im (.lt V0 V1) .ff) (.eq V0 V1)))) hi hlt
    subst hi'
    refine ⟨T, t1, t2, ?_, ?_⟩
    · rw [List.getElem?_toArray, List.getElem?_append_right (by exact (LI2 (.im (.eq V0 V1) (.le V0 V1))) hz), hz]; simp
    · rw [List.getElem_append_right (Nat.le_refl _)]; simpa using y
set_option maxHeartbeats 4000000 in
theorem delitem_spec {prog : Program} {w : World} {A₀ : Around} {dp un : Nat} {gd : Option (List Code)} {s : Shared} {base h₀ : Heap} {outer : List Env} {L : Addr} {m mg mb : Str → Option Value} {env : Env}
    {p : Program} {loose : List Str} {mean : ExcName → Option Value} {Q E : Value → Shared → Prop}
    {x dx hl : Addr} {t ty : Tok} {its : Array Value} {k : Nat} {l : List (Str × Str)} {y : Str}
    (B : Below A₀ base outer h₀) (F : Fr h₀ L s.heap m) (X₀ : (hd.heap_39 w.params).In h₀) (T : Top p loose mean mg mb h₀) (hf : env.frame = some L) (hke : env.scope.kind = .function)
    (hroom : dp + 6 < recursionLimit) (N : News h₀ L s.heap (hdrL w.params x dx hl t its k)) (tb : Tbl s.heap its l) (hz : l.length ≤ 1000)
    (hs : ∀ q ∈ l, (∀ c ∈ q.1.cps.toList, R.Safe c) ∧ q.1.cps.size ≤ 1000) (hsy : ∀ c ∈ y.cps.toList, R.Safe c) (hzy : y.cps.size ≤ 1000)
    (ret : ∀ its' k' h' tk, But [hl] s.heap h' → h'.get? hl = some (listOf its' k') → Tbl h' its' (l.filter (·.1 != y)) → (∀ G, Tbl G its l → Tbl G its' (l.filter (·.1 != y))) → Q .none { s with heap := h', toks := tk }) :
    wpAny (model prog w) (Ar dp un gd (env :: outer)) (call (.ref 185) [.ref x, .str y ty] []) Q E s := by
  refine enterC (args := ⟨[.ref x, .str y ty], []⟩) (binds := [(Str.ofString "self", .ref x), (Str.ofString "name", .str y ty)]) (mod := hdrL w.params x dx hl t its k) B F X₀ T N hf hke (by exact (LI2 (.im (.lt (.a V0 (.n 6)) V1) (.lt V0 V1))) hroom) (by k_is) (by k_is) (BindsTo.of_eq rfl) rfl (by decide +kernel) (fun g h₁ tk cells hg hg' F' N' Y' B' X' T' hlow => ?_) rfl rfl rfl
  k_cells Y'
  unfold hdrL at N' hlow
  simp only [List.cons_append, List.nil_append] at N'
  have l1 := hlow
  k_lt l1
  have st := still_safe hsy
  have hzy' : y.length ≤ 1000 := hzy
  try dsimp only
  k_steps
  refine go ?_
  rename Fr _ _ _ _ => F2
  rename News _ _ _ _ => N2
  refine conv_spec B' F2 X' T' rfl rfl (by exact (LI2 (.im (.lt (.a V0 (.n 6)) V1) (.lt (.a (.a V0 O1) (.n 3)) V1))) hroom) hsy hzy (fun h5 tk5 k5 => ?_)
  have F5 := fr_keep F2 k5
  have N5 := news_keep N2 k5
  k_steps
  refine go ?_
  rename Fr _ _ _ _ => F2
  rename News _ _ _ _ => N2
  rename _ = Data.cell (some (Value.str y _)) => d2
  rename_i t' _ h6 o6
  have off := hdrL_off (fun p hp => (N p hp).1)
  have off2 : s.heap.objs.size + 1 ∉ (hdrL w.params x dx hl t its k).map (·.1) := fun q => by
    obtain ⟨p, hp, e⟩ := List.mem_map.mp q
    have h1 := hlow p hp
    rw [e] at h1
    exact absurd h1 (Nat.not_lt.mpr (Nat.le_succ _))
  refine comp_rule (cl := [(Str.ofString "name", s.heap.objs.size + 1)]) (tst := some _) rfl rfl rfl (by decide) (by decide) rfl ?_
  k_steps
  refine go ?_
  refine comp_list (fun i out led => led = (s.heap.objs.size + 1, o6) :: hdrL w.params x dx hl t its k ∧ ∀ G, Tbl G its l → Tbl G out.toArray ((l.take i).filter (·.1 != y))) rfl (News.isList N2 (.tail _ (.tail _ (.tail _ (.head _))))) F2 N2 (by rw [sizeLine_eq, tb.1]; exact (LI1 (.im (.le V0 (.n 1000)) (.lt V0 (.n 16777216)))) hz) ⟨rfl, fun G _ => ⟨rfl, fun i hi => absurd hi (Nat.not_lt_zero _)⟩⟩ ?_ ?_
  · rintro D I s₂ g' i v out e0 led₁ h tk mC own hsI hID ⟨hh, tt, rfl⟩ hgg hL hk hi hv hle ⟨rfl, hI⟩ ho F3 N3
    have hi' : i < l.length := tb.1 ▸ hi
    obtain ⟨T, t1, t2, e, ⟨o, ho1, hc1, r1⟩⟩ := tb.2 i hi'
    rw [e] at hv; cases hv
    have tT : g'.IsTuple T #[.str l[i].1 t1, .str l[i].2 t2] := ⟨o, hgg _ _ (hg _ _ (fun q => off _ q _ ho1 hc1) ho1), hc1, r1⟩
    have sti : KXs.Still l[i].1 := still_safe (hs _ (List.getElem_mem hi')).1
    have hzi : l[i].1.length ≤ 1000 := (hs _ (List.getElem_mem hi')).2
    k_steps
    refine go ?_
    refine item_tuple (F3.tup tT) (by decide) (by decide) (j := 0) (x := .str l[i].1 t1) rfl rfl ?_
    k_steps
    · rename (l[i].1 != y) = true => hy
      refine go ⟨h, _, _, _, rfl, F3, N3, ho, rfl, ?_⟩
      rw [List.take_add_one, List.getElem?_eq_getElem hi', List.filter_append]
      rw [show List.filter (fun x : Str × Str => x.1 != y) (some l[i]).toList = [l[i]] by simp only [Option.toList, List.filter_cons, hy, Bool.false_eq_true, if_false, if_true, List.filter_nil]]
      intro G tbG
      obtain ⟨T', u1, u2, e', r'⟩ := tbG.2 i hi'
      rw [e] at e'; cases e'
      exact tbl_snoc (hI G tbG) r'
    · rename (l[i].1 != y) = false => hy
      refine go ⟨h, _, _, _, rfl, F3, N3, ho, rfl, ?_⟩
      rw [List.take_add_one, List.getElem?_eq_getElem hi', List.filter_append]
      rw [show List.filter (fun x : Str × Str => x.1 != y) (some l[i]).toList = [] by simp only [Option.toList, List.filter_cons, hy, Bool.false_eq_true, if_false, if_true, List.filter_nil]]
      rw [List.append_nil]
      exact hI
  · rintro D led' out n h tk hD ⟨rfl, hI⟩ F3 N3 hk
    rw [List.take_of_length_le (by rw [tb.1]; exact Nat.le_refl _)] at hI
    k_steps
    have hDl : hl ≠ D := Nat.ne_of_lt (Nat.lt_of_lt_of_le (Heap.lt_size (N2 _ (.tail _ (.tail _ (.tail _ (.head _))))).1) hD)
    have hso : out.length ≤ 1000 := by
      have := (hI _ tb).1
      rw [List.size_toArray] at this
      rw [this]
      exact Nat.le_trans (List.length_filter_le ..) hz
    refine setItem_all (items := its) (new := out.toArray) (n := k) (Heap.get?_push_of_some _ (N3 _ (.tail _ (.tail _ (.tail _ (.tail _ (.head _)))))).1) ⟨_, Heap.get?_push_of_some _ (N3 _ (.head _)).1, rfl, _, rfl⟩ hDl (Heap.IsSliceOf.new ..) (by rw [tb.1]; exact hz) (by rw [List.size_toArray]; exact hso) (fun h9 n9 e9 k9 => ?_)
    k_steps
    have bt : But [hl] s.heap h9 := but_one hg (fun b o hb e => k9 b o hb (Heap.get?_push_of_some _ (F3.keep b o e))) (fun p hp => (N p hp).1) fun p hp hb => k9 _ _ hb (Heap.get?_push_of_some _ (N3 p (.tail _ (.tail _ hp))).1)
    refine go (ret out.toArray n9 h9 _ bt e9 ((hI _ tb).keeps bt fun a ha o e => ?_) hI)
    rw [List.mem_singleton.mp ha, (N _ (.tail _ (.tail _ (.head _)))).1] at e
    cases e
    intro q; exact absurd q (by simp)
end Mine
end
section
open PySem PySem.W PyProof.Rows PySem.Calls PySem.Spec
namespace Mine
theorem wp_of_peekP {α : Type} {K : Frag} {M : Model} {A : Around} {E : Value → Shared → Prop} {Q : α → Shared → Prop} {s : Shared} {o : Obj} {r : Addr → α}
    (X : K.In s.heap) (q : Q (r s.heap.objs.size) { s with heap := s.heap.push o }) :
    ∀ (t : Sem α) (g : Addr → Option α), peek1 K ⟨M.prog, M.w.params⟩ t = some (o, g) → (∀ D, g D = some (r D)) → wpAny M A t Q E s := by
  intro t
  induction t with
  | rule _ k ih => intro g e hg Γ p hΓ; exact ih () g e hg Γ p hΓ
  | point _ k ih => intro g e hg Γ p hΓ; exact ih () g e hg Γ p hΓ
  | ask k ih => intro g e hg Γ p hΓ; exact ih _ g e hg Γ p hΓ
  | load a _ k ih =>
    intro g e hg Γ p hΓ
    simp only [peek1] at e
    split at e
    · rename_i ob ho; exact ⟨ob, X _ _ ho, ih ob g e hg Γ p hΓ⟩
    · cases e
  | alloc ob k _ =>
    intro g e hg
    have e : some (ob, fun D => peek K ⟨M.prog, M.w.params⟩ (k D)) = some (o, g) := e
    obtain ⟨e1, e2⟩ := Prod.mk.inj (Option.some.inj e)
    subst e1
    subst e2
    have X' : K.In (s.heap.push ob) := X.keeps fun b x hb => Heap.get?_push_of_some _ hb
    show wpAny M A (alloc ob >>= k) Q E s
    refine wpAny_bind (wpAny_alloc ?_)
    exact (Looks.of_peek (M := M) (h := s.heap.push ob) X' (hg s.heap.objs.size)).here (s := { s with heap := s.heap.push ob }) q
  | _ => intro g e; cases e
section
variable {prog : Program} {w : World} {A₀ : Around} {dp un : Nat} {gd : Option (List Code)} {s : Shared} {base h₀ : Heap} {outer : List Env} {L : Addr} {m mg mb : Str → Option Value} {env : Env} {mod : List (Addr × Obj)}
  {p : Program} {loose : List Str} {mean : ExcName → Option Value}
  {Q E : Value → Shared → Prop} {name qual : Str} {params : Arguments} {body : List Stmt} {scope : Scope} {dV kV doc pm cdv ct oc : Value} {an od : Option Addr} {osl : Array (Option Value)} {f : Addr} {args : Args} {binds : Addr → List (Str × Value)} {ob : Obj}
theorem enterP (B : Below A₀ base outer h₀) (F : Fr h₀ L s.heap m) (X₀ : (hd.heap_39 w.params).In h₀) (T : Top p loose mean mg mb h₀) (N : News h₀ L s.heap mod) (hf : env.frame = some L) (hke : env.scope.kind = .function)
    (hroom : dp < recursionLimit)
    (ho : (hd.heap_39 w.params).lookup f = some ⟨oc, od, .func (fnOf name qual params body scope dV kV doc pm an cdv ct), osl⟩) (hcd : codeIn (hd.heap_39 w.params) cdv qual = true)
    (hfr : ob.isFreed = false) {gb : Addr → Option (List (Str × Value))}
    (hbind : peek1 (hd.heap_39 w.params) ⟨prog, w.params⟩ (bindArgs (fnOf name qual params body scope dV kV doc pm an cdv ct) ⟨args.pos, args.kw⟩) = some (ob, gb)) (hgb : ∀ D, gb D = some (binds D)) (hloc : ∀ D, ∀ y ∈ binds D, scope.names.lookup y.1 = some .local)
    (h : ∀ g h₁ tk D, s.heap.objs.size = D → (∀ b o, b ∉ mod.map (·.1) → s.heap.get? b = some o → g.get? b = some o) → (∀ b o, g.get? b = some o → s.heap.get? b = some o) →
      Fr g (D + 1) h₁ (fun y => (binds D).reverse.lookup y) → News g (D + 1) h₁ ((D, ob) :: mod) → Below (Ar dp un gd (env :: outer)) base (env :: outer) g → (hd.heap_39 w.params).In g → Top p loose mean mg mb g → (∀ p ∈ mod, p.1 < D) →
      wpAny (model prog w) (Ar (dp + 1) (un + 3) gd (envOf qual scope (D + 1) f cdv :: env :: outer)) (execs body (envOf qual scope (D + 1) f cdv))
        (fun fl s' => Halt (Q (match fl with | .ret v => v | _ => .none) s')) (fun _ _ => False)
        { s with heap := h₁, toks := tk })
    (hco : scope.isCoroutine = false) (hgen : scope.isGenerator = false) (hk : scope.kind = .function)
    (hcell : ∀ x ∈ scope.names, x.2 ≠ .cell) : wpAny (model prog w) (Ar dp un gd (env :: outer)) (call (.ref f) args.pos args.kw) Q E s := by
  refine wpAny_call ?_
  have XS := X₀.keeps F.keep
  refine codeAny_call_function (fd := fnOf name qual params body scope dV kV doc pm an cdv ct) hroom (XS _ _ ho) rfl hco hgen rfl (codeRec_of XS hcd) ?_
  refine wp_of_peekP (M := model prog w) XS ?_ _ _ hbind hgb
  have F1 := F.push ob
  have N1 := N.push F ob hfr
  obtain ⟨FG, BG, st, lv⟩ := groundX (A := Ar dp un gd (env :: outer)) (R := fun _ _ => True) (s := { s with heap := s.heap.push ob }) B F1 N1 rfl hf hke
  have Xg : (hd.heap_39 w.params).In (hideAll (s.heap.push ob) (((s.heap.objs.size, ob) :: mod).map (·.1))) := X₀.keeps st
  have Tg : Top p loose mean mg mb (hideAll (s.heap.push ob) (((s.heap.objs.size, ob) :: mod).map (·.1))) := T.keeps st
  refine wpAny_newFunctionEnv hcell (hloc _) (fun h₁ hns hsb => ⟨((T.nolimit.keeps F1.keep)).fresh _ hsb, codeAny_func ?_⟩) hk
  have hsz : (s.heap.push ob).objs.size = s.heap.objs.size + 1 := Heap.size_push ..
  have hk₁ : ∀ b o, (s.heap.push ob).get? b = some o → h₁.get? b = some o := fun b o e => hsb.extBut b o (Nat.ne_of_lt (Heap.lt_size e)) (Heap.get?_push_of_some _ e)
  dsimp only at hns
  rw [hsz] at hns
  have hmod : ∀ p ∈ mod, p.1 < s.heap.objs.size := fun p hp => Heap.lt_size (N p hp).1
  show wpAny (model prog w) (Ar (dp + 1) (un + 3) gd (envOf qual scope (s.heap.push ob).objs.size f cdv :: env :: outer)) (execs body (envOf qual scope (s.heap.push ob).objs.size f cdv)) _ _ _
  rw [hsz]
  refine wpAny_mono (h (hideAll (s.heap.push ob) (((s.heap.objs.size, ob) :: mod).map (·.1))) h₁ _ s.heap.objs.size rfl (fun b o n e => hideAll_get _ (Heap.get?_push_of_some _ e) (fun q => (List.mem_cons.mp q).elim (fun q => Nat.ne_of_lt (Heap.lt_size e) q) n)) (fun b o e => ?_)
    ⟨hns, fun b o e => hk₁ b o (of_hideAll _ e), by rw [hideAll_size, hsz]; exact Nat.le_refl _⟩ (fun p hp => ⟨hk₁ _ _ (N1 p hp).1, ?_, hideAll_none _ (List.mem_map_of_mem hp)⟩) BG Xg Tg hmod) (fun fl s' hq => hq) (fun _ _ x => x.elim)
  · have h1 := of_hideAll _ e
    rcases Heap.get?_push_cases h1 with ⟨h2, _⟩ | h2
    · have := hideAll_none (((s.heap.objs.size, ob) :: mod).map (·.1)) (h := s.heap.push ob) (b := s.heap.objs.size) (.head _)
      rw [h2, this] at e; cases e
    · exact h2
  · rcases List.mem_cons.mp hp with rfl | hp
    · exact Nat.ne_of_lt (Nat.lt_succ_self _)
    · exact Nat.ne_of_lt (Nat.lt_succ_of_lt (hmod p hp))
end
theorem hdr_ne {P : Params} {x dx hl : Addr} {t : Tok} {its : Array Value} {k : Nat} {h : Heap} (N : ∀ p ∈ hdrL P x dx hl t its k, h.get? p.1 = some p.2) : (@Ne Nat x hl) ∧ (@Ne Nat dx hl) := by
  have e3 := N _ (.tail _ (.tail _ (.head _)))
  constructor
  · intro q
    have e1 := N _ (.head _)
    change h.get? x = _ at e1
    rw [show x = hl from q, e3] at e1
    exact absurd (congrArg Obj.cls (Option.some.inj e1)) (by simp)
  · intro q
    have e1 := N _ (.tail _ (.head _))
    change h.get? dx = _ at e1
    rw [show dx = hl from q, e3] at e1
    exact absurd (congrArg Obj.cls (Option.some.inj e1)) (by simp)
theorem fresh_of {mod : List (Addr × Obj)} {g h : Heap} {D : Addr} (hg : ∀ b o, b ∉ mod.map (·.1) → h.get? b = some o → g.get? b = some o) (e : g.get? D = none) (n : ∀ p ∈ mod, p.1 ≠ D) : h.get? D = none := by
  cases q : h.get? D with
  | none => rfl
  | some o =>
    rw [hg _ _ (fun m => by obtain ⟨p, hp, e⟩ := List.mem_map.mp m; exact n p hp e) q] at e
    cases e
theorem join_single (sep b : Str) : Txt.join sep [b] = b := by
  unfold Txt.join Builtin.Str.glued; rfl
set_option maxHeartbeats 4000000 in
theorem addh_spec {prog : Program} {w : World} {A₀ : Around} {dp un : Nat} {gd : Option (List Code)} {s : Shared} {base h₀ : Heap} {outer : List Env} {L : Addr} {m mg mb : Str → Option Value} {env : Env}
    {p : Program} {loose : List Str} {mean : ExcName → Option Value} {Q E : Value → Shared → Prop}
    {x dx hl : Addr} {t ta tb : Tok} {its : Array Value} {k : Nat} {a b : Str}
    (B : Below A₀ base outer h₀) (F : Fr h₀ L s.heap m) (X₀ : (hd.heap_39 w.params).In h₀) (T : Top p loose mean mg mb h₀) (hf : env.frame = some L) (hke : env.scope.kind = .function)
    (hroom : dp + 6 < recursionLimit) (N : News h₀ L s.heap (hdrL w.params x dx hl t its k)) (hz : its.size < 1000)
    (hsa : ∀ c ∈ a.cps.toList, R.Safe c) (hza : a.cps.size ≤ 1000) (hsb : ∀ c ∈ b.cps.toList, R.Safe c) (hzb : b.cps.size ≤ 1000)
    (ret : ∀ D t' k' h' tk, But [hl] s.heap h' → s.heap.get? D = none → h'.get? hl = some (listOf (its.push (.ref D)) k') → h'.get? D = some { cls := .type "tuple", data := .seq #[.str a ta, .str b t'] } → Q .none { s with heap := h', toks := tk }) :
    wpAny (model prog w) (Ar dp un gd (env :: outer)) (call (.ref 262) [.ref x, .str a ta, .str b tb] []) Q E s := by
  refine enterP (args := ⟨[.ref x, .str a ta, .str b tb], []⟩) (mod := hdrL w.params x dx hl t its k) (binds := fun D => [(Str.ofString "self", .ref x), (Str.ofString "_name", .str a ta), (Str.ofString "_value", .str b tb), (Str.ofString "_params", .ref D)]) (ob := dictOf [] 0)
    B F X₀ T N hf hke (by exact (LI2 (.im (.lt (.a V0 (.n 6)) V1) (.lt V0 V1))) hroom) (by k_is) (by k_is) rfl rfl (fun _ => rfl) (fun _ => locs rfl) (fun g h₁ tk D hD hg hg' F' N' B' X' T' hlow => ?_) rfl rfl rfl (by decide)
  unfold hdrL at N' hlow
  have l1 := hlow
  k_lt l1
  have lo' : (D == sysModules) = false := by rw [← hD]; exact F.notModules (modules_low T.nolimit)
  have hs' : (dictOf [] 0).IsDictOf (strKind prog w) ([] : List (Str × Value)) := kp_isDict (ex := []) 0 0 .nil
  have fs' : PyProof.V.FlatPairs PyData.str ([] : List (Str × Value)) [] := .nil
  generalize dictOf [] 0 = oD at *
  try dsimp only
  k_steps
  refine go ?_
  rename Fr _ _ _ _ => F2
  rename News _ _ _ _ => N2
  refine conv_spec B' F2 X' T' rfl rfl (by exact (LI2 (.im (.lt (.a V0 (.n 6)) V1) (.lt (.a (.a V0 O1) (.n 3)) V1))) hroom) hsb hzb (fun h5 tk5 k5 => ?_)
  have F5 := fr_keep F2 k5
  have N5 := news_keep N2 k5
  k_steps
  refine go ?_
  rename Fr _ _ _ _ => F3
  rename News _ _ _ _ => N3
  refine conv_spec B' F3 X' T' rfl rfl (by exact (LI2 (.im (.lt (.a V0 (.n 6)) V1) (.lt (.a (.a V0 O1) (.n 3)) V1))) hroom) hsa hza (fun h6 tk6 k6 => ?_)
  have F6 := fr_keep F3 k6
  have N6 := news_keep N3 k6
  k_steps
  refine join_list (items := #[].push (Value.str b tb)) (News.isList N6 (.head _)) (ys := [b]) (.cons _ _ .nil) (by rw [List.map_cons, List.map_nil, List.sum_cons, List.sum_nil, show (Str.ofString "; ").length = 2 by decide +kernel]; show b.cps.size + 0 + _ ≤ _; simp only [List.length_singleton]; exact (LI1 (.im (.le V0 (.n 1000)) (.le (.a (.a V0 O0) (.m 1 O2)) (.n 16777216)))) hzb) (fun t' k' => ?_)
  rw [join_single]
  k_steps
  rename Fr _ _ _ _ => F7
  rename News _ _ _ _ => N7
  obtain ⟨ne1, ne2⟩ := hdr_ne (fun p hp => (N p hp).1)
  refine append_K (D := hl) (its := its) (n := k) F7 N7 (by k_upd) (fun h9 F9 N9 => ?_) (by rw [sizeLine_eq]; exact (LI1 (.im (.lt V0 (.n 1000)) (.le V0 (.n 16777216)))) hz)
  k_steps
  have bt : But [hl] s.heap h9 := but_one hg (fun b o hb e => F9.keep b o e) (fun p hp => (N p hp).1) fun p hp hb => ?_
  · refine go (ret _ _ _ h9 _ bt ?_ (N9 _ (.tail _ (.tail _ (.tail _ (.tail _ (.tail _ (.head _))))))).1 (N9 _ (.head _)).1)
    rename _ < _ ∧ D < _ ∧ x < _ ∧ dx < _ ∧ hl < _ => lT
    refine fresh_of hg (N9 _ (.head _)).2.2 fun p hp => ?_
    rcases List.mem_cons.mp hp with rfl | hp
    · exact Nat.ne_of_lt lT.2.2.1
    rcases List.mem_cons.mp hp with rfl | hp
    · exact Nat.ne_of_lt lT.2.2.2.1
    rcases List.mem_cons.mp hp with rfl | hp
    · exact Nat.ne_of_lt lT.2.2.2.2
    · cases hp
  · rcases List.mem_cons.mp hp with rfl | hp
    · exact (N9 _ (.tail _ (.tail _ (.tail _ (.head _))))).1
    rcases List.mem_cons.mp hp with rfl | hp
    · exact (N9 _ (.tail _ (.tail _ (.tail _ (.tail _ (.head _)))))).1
    rcases List.mem_cons.mp hp with rfl | hp
    · exact absurd rfl hb
    · cases hp
end Mine
end
section
open PySem PySem.W PyProof.Rows PySem.Calls PySem.Spec
namespace Mine
theorem news_fresh {g h h' : Heap} {L : Addr} {m : Str → Option Value} {led xs : List (Addr × Obj)} (F : Fr g L h m) (N : News g L h' led) (e : ∀ p ∈ xs, h'.get? p.1 = some p.2 ∧ h.get? p.1 = none) : News g L h' (xs ++ led) := fun p hp => by
  rcases List.mem_append.mp hp with q | q
  · refine ⟨(e p q).1, fun r => ?_, ?_⟩
    · obtain ⟨o, _, _, ho, _⟩ := F.ns
      have := (e p q).2
      rw [r, ho] at this; cases this
    · cases z : g.get? p.1 with
      | none => rfl
      | some o => have := F.keep _ _ z; rw [(e p q).2] at this; cases this
  · exact N p q
section
variable {prog : Program} {w : World} {A : Around} {env : Env} {g : Heap} {s s₂ : Shared} {x : Str} {body : List Stmt} {Q : Flow → Shared → Prop} {m : Str → Option Value} {led : List (Addr × Obj)}
theorem for_at2 {x : Str} {body : List Stmt} {Q : Flow → Shared → Prop} {I : Addr} {fp : List Addr} {n : Nat} {P : Nat → Value → Prop} {St : Nat → Heap → Prop} {m : Str → Option Value} {led : List (Addr × Obj)}
    (W : Walks prog w A I fp [I] n P St) (st : St 0 s₂.heap) (hI0 : g.get? I = none) (hLf : env.locals ∉ fp) (hoff : ∀ p ∈ led, p.1 ≠ I) (F : Fr g env.locals s₂.heap m) (N : News g env.locals s₂.heap led)
    (J : Nat → (Str → Option Value) → List (Addr × Obj) → Prop) (hJ : J 0 m led)
    (turn : ∀ i v m₁ led₁ h tk own, St (i + 1) h → (∀ b ∈ fp, g.get? b = none → ∀ o, h.get? b = some o → (b, o) ∈ own) → i < n → P i v → J i m₁ led₁ → (∀ p ∈ led₁, p.1 ≠ I) → (∀ p ∈ own, p.1 ∈ fp) → Fr g env.locals h (fun y => if y = x then some v else m₁ y) → News g env.locals h (led₁ ++ own) →
      ∀ R : Flow → Shared → Prop, (∀ f s', FPost Q (FEnd g env.locals own I (J (i + 1)) s₂) f s' → R f s') → wpAny (model prog w) A (execs body env) R (fun _ _ => False) { s₂ with heap := h, toks := tk })
    (done : ∀ m' led' h tk, J n m' led' → Fr g env.locals h m' → News g env.locals h led' → Q .next { s₂ with heap := h, toks := tk }) :
    LoopAtV prog w A g env x body Q (fun _ _ => False) (.ref I) s₂ := by
  refine ⟨I, fp, [I], n, P, St, m, led, J, rfl, W, hLf, fun b hb => by rw [List.mem_singleton.mp hb]; exact hI0, fun p hp hb => hoff p hp (List.mem_singleton.mp hb), st, F, N, hJ, ?_, fun h' tk m' led' F' N' _ hj => done m' led' h' tk hj F' N'⟩
  rintro i v m₁ led₁ s₁ own ⟨h, tk, rfl⟩ hi hP hj ho hown _ hcap st₁ F₁ N₁
  refine wpAny_mono (turn i v m₁ led₁ h tk own st₁ hcap hi hP hj (fun p hp e => ho p hp (by rw [e]; exact .head _)) hown F₁ (news_sub N₁ fun p hp => ?_) _ fun _ _ x => x) (fun f s' hf => ?_) fun _ _ h => h
  · rcases List.mem_append.mp hp with q | q
    · exact List.mem_append_right _ q
    · exact List.mem_append_left _ q
  · have fin : FEnd g env.locals own I (J (i + 1)) s₂ s' →
        LoopStepU g env.locals [I] own (J (i + 1)) { s₂ with heap := h, toks := tk } .next s' := by
      rintro ⟨h', tk', m', led', rfl, F', N', ho', hj'⟩
      refine ⟨rfl, h', tk', m', led', rfl, F', news_sub N' fun p hp => ?_, fun p hp hb => ho' p hp (List.mem_singleton.mp hb), hj'⟩
      rcases List.mem_append.mp hp with q | q
      · exact List.mem_append_right _ q
      · exact List.mem_append_left _ q
    cases f with
    | ret v => exact hf
    | brk => exact hf
    | next => exact fin hf
    | cont => exact fin hf
noncomputable def ForTurn (prog : Program) (w : World) (A : Around) (env : Env) (g : Heap) (x : Str) (body : List Stmt) (Q : Flow → Shared → Prop) (n : Nat) (P : Nat → Value → Prop) (J : Nat → (Str → Option Value) → List (Addr × Obj) → Prop) (s : Shared) : Prop :=
  ∀ (I : Addr) i v m₁ led₁ h tk own, s.heap.objs.size = I → i < n → P i v → J i m₁ led₁ → (∀ p ∈ led₁, p.1 ≠ I) → (∀ p ∈ own, p.1 = I) → Fr g env.locals h (fun y => if y = x then some v else m₁ y) → News g env.locals h (led₁ ++ own) → (∃ o, (I, o) ∈ own) →
    ∀ R : Flow → Shared → Prop, (∀ f s', FPost Q (FEnd g env.locals own I (J (i + 1)) s) f s' → R f s') → wpAny (model prog w) A (execs body env) R (fun _ _ => False) { s with heap := h, toks := tk }
noncomputable def ForDone (env : Env) (g : Heap) (Q : Flow → Shared → Prop) (n : Nat) (J : Nat → (Str → Option Value) → List (Addr × Obj) → Prop) (s : Shared) : Prop :=
  ∀ m' led' h tk, J n m' led' → Fr g env.locals h m' → News g env.locals h led' → Q .next { s with heap := h, toks := tk }
theorem for_range {r : Addr} {a b : Int} {c : Int} {t u v : Tok} (hh : A.handled = none) (hr : IsRange s.heap r a b c t u v) (hsmall : Builtin.Range.small a b c = true) {n : Nat} (hn0 : Builtin.Range.rangeSize a b c = (n : Int)) (F : Fr g env.locals s.heap m) (N : News g env.locals s.heap led)
    (J : Nat → (Str → Option Value) → List (Addr × Obj) → Prop) (hJ : J 0 m led) (turn : ForTurn prog w A env g x body Q n (fun i v => ∃ t, v = .int (a + i * c) t) J s) (done : ForDone env g Q n J s) :
    wpAny (model prog w) A (pyIter (.ref r)) (fun it s₂ => LoopAtV prog w A g env x body Q (fun _ _ => False) it s₂) (fun _ _ => False) s := by
  refine wpAny_pyIter_range hr hsmall ?_
  have e := Heap.get?_push_size s.heap (o := ({ cls := .type "range_iterator", data := .fields #[rawInt a, rawInt (Builtin.Range.rangeSize a b c), rawInt c] } : Obj)) rfl
  have gI : g.get? s.heap.objs.size = none := get_none F.above |> fun _ => by
    cases e : g.get? s.heap.objs.size with
    | none => rfl
    | some o => exact absurd (Heap.lt_size (F.keep _ _ e)) (Nat.lt_irrefl _)
  refine for_at2 (Walks.range hh s.heap.objs.size a c n) ?_ gI (fun q => Nat.ne_of_lt F.ns.lt (List.mem_singleton.mp q)) (fun p hp => Nat.ne_of_lt (Heap.lt_size (N p hp).1)) (F.push _) (fun p hp => ⟨Heap.get?_push_of_some _ (N p hp).1, (N p hp).2⟩) J hJ ?_ ?_
  · show IsRangeIter _ _ (a + (0 : Nat) * c) ((n : Int) - (0 : Nat)) c
    rw [hn0] at e ⊢
    rw [show a + ((0 : Nat) : Int) * c = a by simp, show (n : Int) - ((0 : Nat) : Int) = n by simp]
    exact e
  · intro i v m₁ led₁ h tk own st hcap hi hP hj ho hown F1 N1 R hR
    refine turn s.heap.objs.size i v m₁ led₁ h tk own rfl hi hP hj ho (fun p hp => List.mem_singleton.mp (hown p hp)) F1 N1 ⟨_, hcap _ (.head _) gI _ st⟩ R hR
  · intro m' led' h tk hj F1 N1
    exact done m' led' h tk hj F1 N1
theorem for_range1 {r : Addr} {a b : Int} {t u v : Tok} (hh : A.handled = none) (hr : IsRange s.heap r a b 1 t u v) (h1 : -1000 ≤ a) (h2 : a ≤ 1000) (h3 : -1000 ≤ b) (h4 : b ≤ 1000) (n : Nat) (hn0 : (b - a).toNat = n) (F : Fr g env.locals s.heap m) (N : News g env.locals s.heap led)
    (J : Nat → (Str → Option Value) → List (Addr × Obj) → Prop) (hJ : J 0 m led) (turn : ForTurn prog w A env g x body Q n (fun i v => ∃ t, v = .int (a + i) t) J s) (done : ForDone env g Q n J s) :
    wpAny (model prog w) A (pyIter (.ref r)) (fun it s₂ => LoopAtV prog w A g env x body Q (fun _ _ => False) it s₂) (fun _ _ => False) s := by
  refine for_range hh hr (small_one (by omega) (by omega) (by omega) (by omega)) (by rw [rangeSize_nat, hn0]) F N J hJ (fun I i v m₁ led₁ h tk own a1 a2 a3 a4 a5 a6 a7 a8 a9 R hR => ?_) done
  obtain ⟨t', e⟩ := a3
  exact turn I i v m₁ led₁ h tk own a1 a2 ⟨t', by rw [e, Int.mul_one]⟩ a4 a5 a6 a7 a8 a9 R hR
end
end Mine
end
section
open PySem PySem.W PyProof.Rows PySem.Calls PySem.Spec PyProof
namespace Mine
noncomputable def tx (w : List Nat) : Str := ⟨(w.map chr).toArray⟩
noncomputable def sub (w : List Nat) (i j : Nat) : List Nat := (w.take j).drop i
noncomputable def D3 (w : List Nat) : Prop := ∀ d ∈ w, 1 ≤ d ∧ d ≤ 3
theorem str_ext {a b : Str} (h : a.cps.toList = b.cps.toList) : a = b := by
  obtain ⟨a⟩ := a; obtain ⟨b⟩ := b
  exact congrArg _ (Array.toList_inj.mp h)
theorem tx_list (w : List Nat) : (tx w).cps.toList = w.map chr := by show ((w.map chr).toArray).toList = _; simp
theorem tx_len (w : List Nat) : (tx w).length = w.length := by show ((w.map chr).toArray).size = _; simp
theorem sub_len (w : List Nat) (i j : Nat) : (sub w i j).length = min j w.length - i := by simp [sub]
theorem sub_D3 {w : List Nat} (h : D3 w) (i j : Nat) : D3 (sub w i j) := fun d hd => h d (List.mem_of_mem_take (List.mem_of_mem_drop hd))
theorem rev_D3 {w : List Nat} (h : D3 w) : D3 w.reverse := fun d hd => h d (List.mem_reverse.mp hd)
theorem slice_tx {w : List Nat} {a b : Nat} (h : a ≤ b) (hb : b ≤ w.length) : Txt.slice (tx w) (some (a : Int)) (some (b : Int)) = tx (sub w a b) := by
  have := eq_of_beq (slice_closes (x := tx w) (i := a) (j := b) ⟨by exact (LI1 (.il O0 (.ca V0))), by exact (LI2 (.im (.le V0 V1) (.il (.ca V0) (.ca V1)))) h, by rw [tx_list, List.length_map]; exact (LI2 (.im (.le V0 V1) (.il (.ca V0) (.ca V1)))) hb⟩)
  rw [this]
  apply str_ext
  rw [tx_list, tx_list]
  show (((List.map chr w).drop a).take ((b : Int) - a).toNat).toArray.toList = _
  rw [show ((b : Int) - a).toNat = b - a by exact (LI2 (.eq (.tn (.s (.ca V0) (.ca V1))) (.s V0 V1)))]
  unfold sub
  rw [List.map_drop, List.map_take, List.drop_take]
theorem rev_tx (w : List Nat) (u : Tok) : Txt.sliceBy (tx w) none none (-1, u) = tx w.reverse := by
  apply str_ext
  rw [step_rev_list, tx_list, List.map_reverse, tx_len]
  apply List.ext_getElem
  · simp
  · intro i h1 h2
    simp only [List.length_map, List.length_range] at h1
    rw [List.getElem_map, List.getElem_range, List.getElem_reverse]
    have e : (tx w).cps = (w.map chr).toArray := rfl
    rw [e, Array.getD_eq_getD_getElem?, List.getElem?_toArray, List.getElem?_eq_getElem (by simp; exact (LI2 (.im (.lt V0 V1) (.lt (.s (.s V1 O1) V0) V1))) h1)]
    simp
theorem chr_inj {a b : Nat} (ha : 1 ≤ a ∧ a ≤ 3) (hb : 1 ≤ b ∧ b ≤ 3) (h : chr a = chr b) : a = b := by
  have : a = 1 ∨ a = 2 ∨ a = 3 := by exact (LI1 (.im (.le O1 V0) (.im (.le V0 (.n 3)) (.or (.eq V0 O1) (.or (.eq V0 O2) (.eq V0 (.n 3))))))) ha.1 ha.2
  have : b = 1 ∨ b = 2 ∨ b = 3 := by exact (LI1 (.im (.le O1 V0) (.im (.le V0 (.n 3)) (.or (.eq V0 O1) (.or (.eq V0 O2) (.eq V0 (.n 3))))))) hb.1 hb.2
  rcases ‹a = 1 ∨ _› with rfl | rfl | rfl <;> rcases ‹b = 1 ∨ _› with rfl | rfl | rfl <;> first | rfl | (exact absurd h (by decide))
theorem map_chr_inj : ∀ {a b : List Nat}, D3 a → D3 b → a.map chr = b.map chr → a = b := fun {a} => by
  induction a with
  | nil => exact fun _ _ h => (List.map_eq_nil_iff.mp h.symm).symm
  | cons x a ih =>
   intro b ha hb h
   cases b with
   | nil => cases h
   | cons y b =>
    replace h := List.cons.inj h
    rw [chr_inj (ha x (.head _)) (hb y (.head _)) h.1, ih (fun d hd => ha d (.tail _ hd)) (fun d hd => hb d (.tail _ hd)) h.2]
theorem tx_inj {a b : List Nat} (ha : D3 a) (hb : D3 b) (h : tx a = tx b) : a = b :=
  map_chr_inj ha hb (by rw [← tx_list, ← tx_list, h])
theorem tx_beq {a b : List Nat} (ha : D3 a) (hb : D3 b) : (tx a == tx b) = decide (a = b) := by
  by_cases h : a = b
  · subst h; simp
  · rw [decide_eq_false h]
    exact beq_eq_false_iff_ne.mpr fun e => h (tx_inj ha hb e)
theorem tx_nil : tx [] = Str.ofString "" := by decide +kernel
theorem tx_safe {w : List Nat} : ∀ c ∈ (tx w).cps.toList, R.Safe c := fun c hc => by
  rw [tx_list] at hc
  obtain ⟨d, _, rfl⟩ := List.mem_map.mp hc
  unfold chr R.Safe
  split
  · exact (LI0 (.or (.eq (.n 97) (.n 97)) (.or (.eq (.n 97) (.n 34)) (.or (.eq (.n 97) (.n 92)) (.an (.le (.n 48) (.n 97)) (.le (.n 97) (.n 57)))))))
  · split <;> (first | exact (LI0 (.or (.eq (.n 34) (.n 97)) (.or (.eq (.n 34) (.n 34)) (.or (.eq (.n 34) (.n 92)) (.an (.le (.n 48) (.n 34)) (.le (.n 34) (.n 57))))))) | exact (LI0 (.or (.eq (.n 92) (.n 97)) (.or (.eq (.n 92) (.n 34)) (.or (.eq (.n 92) (.n 92)) (.an (.le (.n 48) (.n 92)) (.le (.n 92) (.n 57))))))))
theorem tx_sg {w : List Nat} : ∀ c ∈ (tx w).cps.toList, Sg c := fun c hc => by
  rw [tx_list] at hc
  obtain ⟨d, _, rfl⟩ := List.mem_map.mp hc
  unfold chr Sg
  split
  · exact (LI0 (.or (.eq (.n 97) (.n 97)) (.or (.eq (.n 97) (.n 34)) (.eq (.n 97) (.n 92)))))
  · split <;> (first | exact (LI0 (.or (.eq (.n 34) (.n 97)) (.or (.eq (.n 34) (.n 34)) (.eq (.n 34) (.n 92))))) | exact (LI0 (.or (.eq (.n 92) (.n 97)) (.or (.eq (.n 92) (.n 34)) (.eq (.n 92) (.n 92))))))
theorem dig_chr {w : List Nat} (h : D3 w) : (w.map chr).map dig = w := by
  rw [List.map_map]
  conv => rhs; rw [← List.map_id w]
  apply List.map_congr_left
  intro d hd
  have := h d hd
  have : d = 1 ∨ d = 2 ∨ d = 3 := by exact (LI1 (.im (.le O1 V0) (.im (.le V0 (.n 3)) (.or (.eq V0 O1) (.or (.eq V0 O2) (.eq V0 (.n 3))))))) this.1 this.2
  rcases this with rfl | rfl | rfl <;> rfl
end Mine
end
section
open PySem PySem.W PyProof.Rows PySem.Calls PySem.Spec PyProof
namespace Mine
section
variable {g h h' : Heap} {L a : Addr} {o o' : Obj} {pre post led led' own : List (Addr × Obj)} {m : Str → Option Value}
theorem news_left (N : News g L h (led ++ own)) : News g L h led := news_sub N fun _ hp => List.mem_append_left _ hp
theorem news_right (N : News g L h (led ++ own)) : News g L h own := news_sub N fun _ hp => List.mem_append_right _ hp
theorem news_eq (N : News g L h led) (e : led' = led) : News g L h led' := e ▸ N
theorem news_app (N : News g L h led) (M : News g L h own) : News g L h (led ++ own) := fun p hp => (List.mem_append.mp hp).elim (N p) (M p)
theorem news_mid (N : News g L h (pre ++ (a, o) :: post)) (nd : ((pre ++ (a, o) :: post).map (·.1)).Nodup) (k : But [a] h h') (ha : h'.get? a = some o') : News g L h' (pre ++ (a, o') :: post) := fun p hp => by
  rw [List.map_append, List.map_cons, List.nodup_append, List.nodup_cons] at nd
  rcases List.mem_append.mp hp with q | q
  · refine ⟨k _ _ (fun r => ?_) (N p (List.mem_append_left _ q)).1, (N p (List.mem_append_left _ q)).2⟩
    exact nd.2.2 p.1 (List.mem_map_of_mem q) a (.head _) (List.mem_singleton.mp r)
  · rcases List.mem_cons.mp q with rfl | q
    · exact ⟨ha, (N _ (List.mem_append_right _ (.head _))).2⟩
    · refine ⟨k _ _ (fun r => ?_) (N p (List.mem_append_right _ (.tail _ q))).1, (N p (List.mem_append_right _ (.tail _ q))).2⟩
      exact nd.2.1.1 (List.mem_map.mpr ⟨p, q, List.mem_singleton.mp r⟩)
theorem nodup_snoc {l : List Addr} (h : l.Nodup) (n : a ∉ l) : (l ++ [a]).Nodup := by
  rw [List.nodup_append]
  exact ⟨h, by simp, fun x hx y hy e => n (by rw [← List.mem_singleton.mp hy, ← e]; exact hx)⟩
theorem not_key (N : News g L h led) (e : h.get? a = none) : a ∉ led.map (·.1) := fun q => by
  obtain ⟨p, hp, rfl⟩ := List.mem_map.mp q
  rw [(N p hp).1] at e; cases e
theorem fr_one (F : Fr g L h m) (N : News g L h led) (hm : ∃ o, (a, o) ∈ led) (k : But [a] h h') : Fr g L h' m := by
  obtain ⟨o, hm⟩ := hm
  exact fr_but F k (fun q => (N _ hm).2.1 (List.mem_singleton.mp q).symm) (fun b hb => by rw [List.mem_singleton.mp hb]; exact (N _ hm).2.2)
theorem tab_led {ln cl : Nat} {qual : Str} {ps ps' : Array Value} {P : Addr} {ex ex' : List (Addr × Obj)} (N : News g L h (pre ++ (P, tabObj ps) :: (ex ++ post))) (nd : ((pre ++ (P, tabObj ps) :: (ex ++ post)).map (·.1)).Nodup) (F : Fr g L h m) (k : But [P] h h') (t : h'.get? P = some (tabObj ps'))
    (e : ∀ p ∈ ex', h'.get? p.1 = some p.2 ∧ (p ∈ ex ∨ h.get? p.1 = none)) (ok : TabOk ln cl qual ps' ex') : News g L h' (pre ++ (P, tabObj ps') :: (ex' ++ post)) ∧ ((pre ++ (P, tabObj ps') :: (ex' ++ post)).map (·.1)).Nodup := by
  have N1 := news_mid N nd k t
  have N0 : News g L h' (pre ++ (P, tabObj ps') :: post) := news_sub N1 fun p hp => by
    rcases List.mem_append.mp hp with q | q
    · exact List.mem_append_left _ q
    · rcases List.mem_cons.mp q with q | q
      · exact List.mem_append_right _ (q ▸ .head _)
      · exact List.mem_append_right _ (.tail _ (List.mem_append_right _ q))
  have nd0 : ((pre ++ (P, tabObj ps') :: post).map (·.1)).Nodup := by
    refine List.Nodup.sublist ?_ nd
    simp only [List.map_append, List.map_cons]
    exact List.Sublist.append (List.Sublist.refl _) (List.Sublist.cons₂ _ (List.sublist_append_right _ _))
  constructor
  · intro p hp
    rcases List.mem_append.mp hp with q | q
    · exact N0 p (List.mem_append_left _ q)
    rcases List.mem_cons.mp q with q | q
    · exact N0 p (List.mem_append_right _ (q ▸ .head _))
    rcases List.mem_append.mp q with q | q
    · rcases (e p q).2 with r | r
      · exact N1 p (List.mem_append_right _ (.tail _ (List.mem_append_left _ r)))
      · exact (news_fresh F N0 (xs := [p]) fun p' hp' => by rw [List.mem_singleton.mp hp']; exact ⟨(e p q).1, r⟩) p (.head _)
    · exact N0 p (List.mem_append_right _ (.tail _ q))
  · rcases ok with ⟨_, rfl⟩ | ⟨c, oc, vs, t', _, rfl, _⟩
    · exact nd0
    · have key : c ∉ (pre ++ (P, tabObj ps') :: post).map (·.1) := fun q => by
        rcases (e _ (.head _)).2 with r | r
        · rw [List.map_append, List.map_cons, List.map_append, List.nodup_append, List.nodup_cons, List.nodup_append] at nd
          have hc : c ∈ ex.map (·.1) := List.mem_map.mpr ⟨_, r, rfl⟩
          rw [List.map_append, List.map_cons] at q
          rcases List.mem_append.mp q with q | q
          · exact nd.2.2 c q c (.tail _ (List.mem_append_left _ hc)) rfl
          rcases List.mem_cons.mp q with q | q
          · exact nd.2.1.1 (q ▸ List.mem_append_left _ hc)
          · exact nd.2.1.2.2.2 c hc c q rfl
        · obtain ⟨p, hp, e1⟩ := List.mem_map.mp q
          have hk : p.1 ∈ (pre ++ (P, tabObj ps) :: (ex ++ post)).map (·.1) := by
            rw [List.map_append, List.map_cons, List.map_append]
            rcases List.mem_append.mp hp with q | q
            · exact List.mem_append_left _ (List.mem_map_of_mem q)
            rcases List.mem_cons.mp q with q | q
            · rw [q]; exact List.mem_append_right _ (.head _)
            · exact List.mem_append_right _ (.tail _ (List.mem_append_right _ (List.mem_map_of_mem q)))
          exact not_key N r (e1 ▸ hk)
      have perm : ((pre ++ (P, tabObj ps') :: ([(c, oc)] ++ post)).map (·.1)).Perm (c :: (pre ++ (P, tabObj ps') :: post).map (·.1)) := by
        simp only [List.map_append, List.map_cons, List.map_nil, List.cons_append, List.nil_append]
        have := List.perm_middle (a := c) (l₁ := pre.map (·.1) ++ [P]) (l₂ := post.map (·.1))
        simpa using this
      exact perm.nodup_iff.mpr (List.nodup_cons.mpr ⟨key, nd0⟩)
theorem tab_keys {ps ps' : Array Value} {P : Addr} {ex ex' : List (Addr × Obj)} (e : ∀ p ∈ ex', h'.get? p.1 = some p.2 ∧ (p ∈ ex ∨ h.get? p.1 = none)) : ∀ p ∈ pre ++ (P, tabObj ps') :: (ex' ++ post), (∃ p' ∈ pre ++ (P, tabObj ps) :: (ex ++ post), p'.1 = p.1) ∨ h.get? p.1 = none := fun p hp => by
  rcases List.mem_append.mp hp with q | q
  · exact .inl ⟨p, List.mem_append_left _ q, rfl⟩
  rcases List.mem_cons.mp q with q | q
  · exact .inl ⟨_, List.mem_append_right _ (.head _), by rw [q]⟩
  rcases List.mem_append.mp q with q | q
  · rcases (e p q).2 with r | r
    · exact .inl ⟨p, List.mem_append_right _ (.tail _ (List.mem_append_left _ r)), rfl⟩
    · exact .inr r
  · exact .inl ⟨p, List.mem_append_right _ (.tail _ (List.mem_append_right _ q)), rfl⟩
theorem hdr_ne3 {P : Params} {x dx hl : Addr} {t : Tok} {its : Array Value} {k : Nat} {h : Heap} (N : ∀ p ∈ hdrL P x dx hl t its k, h.get? p.1 = some p.2) : x ≠ dx := fun q => by
  have e1 := N _ (.head _)
  have e2 := N _ (.tail _ (.head _))
  change h.get? x = _ at e1
  rw [q] at e1
  rw [e1] at e2
  exact absurd (congrArg Obj.cls (Option.some.inj e2)) (by simp)
theorem hdr_nodup {P : Params} {x dx hl : Addr} {t : Tok} {its : Array Value} {k : Nat} {h h1 : Heap} (e : ∀ p ∈ hdrL P x dx hl t its k, h1.get? p.1 = some p.2 ∧ h.get? p.1 = none) (N : News g L h led) (nd : (led.map (·.1)).Nodup) : ((hdrL P x dx hl t its k ++ led).map (·.1)).Nodup := by
  obtain ⟨n1, n2⟩ := hdr_ne (fun p hp => (e p hp).1)
  have n3 := hdr_ne3 (fun p hp => (e p hp).1)
  have f1 := not_key N (e _ (.head _)).2
  have f2 := not_key N (e _ (.tail _ (.head _))).2
  have f3 := not_key N (e _ (.tail _ (.tail _ (.head _)))).2
  show (x :: dx :: hl :: led.map (·.1)).Nodup
  rw [List.nodup_cons, List.nodup_cons, List.nodup_cons]
  refine ⟨fun q => ?_, fun q => ?_, f3, nd⟩
  · rcases List.mem_cons.mp q with q | q
    · exact n3 q
    · rcases List.mem_cons.mp q with q | q
      · exact n1 q
      · exact f1 q
  · rcases List.mem_cons.mp q with q | q
    · exact n2 q
    · exact f2 q
theorem tab_nodup {ln cl : Nat} {qual : Str} {ps : Array Value} {P : Addr} (ok : TabOk ln cl qual ps post) (N : News g L h ((P, tabObj ps) :: post)) : (((P, tabObj ps) :: post).map (·.1)).Nodup := by
  rcases ok with ⟨rfl, rfl⟩ | ⟨c, oc, vs, t, rfl, rfl, hd, hv⟩
  · simp
  · show [P, c].Nodup
    rw [List.nodup_cons]
    refine ⟨fun q => ?_, by simp⟩
    have e1 := (N _ (.head _)).1
    have e2 := (N _ (.tail _ (.head _))).1
    change h.get? P = _ at e1
    rw [List.mem_singleton.mp q] at e1
    rw [e1] at e2
    have e3 := Option.some.inj e2
    dsimp only at e3
    rw [← e3] at hd
    have e4 := Data.fields.inj hd
    rw [← e4] at hv
    exact absurd hv (by simp [rawInt])
end
end Mine
end
section
open PySem PySem.W PyProof.Rows PySem.Calls PySem.Spec
namespace Mine
local macro_rules | `(tactic| walk_at $s:str) => Mine.hl ["subscriptTail Name Name ref int", "call builtin:list.insert", "exec For Name Call", "exec For Name Call cons", "exec For Name Call cons nil", "pyIter ref"] [("call builtin:len", "@len")] s
noncomputable def lp (ds : List Nat) (j : Nat) : Nat → List Nat
  | 0 => []
  | b + 1 => if sub ds b j = (sub ds b j).reverse ∧ lp ds j b = [] then sub ds b j else lp ds j b
noncomputable def ents (ds : List Nat) (j : Nat) : Nat → List (List Nat × Nat)
  | 0 => []
  | b + 1 => if sub ds b j = (sub ds b j).reverse then ents ds j b ++ [(sub ds b j, j)] else ents ds j b
noncomputable def allE (ds : List Nat) : Nat → List (List Nat × Nat)
  | 0 => []
  | j + 1 => allE ds j ++ ents ds (j + 1) (j + 1)
noncomputable def bl (r : List Nat) (n : Nat) : Nat := bis (fun i => decide (r.getD i 0 < n)) r.length 0 r.length
noncomputable def rowStep (r : List Nat) (n : Nat) : List Nat := if bl r n = r.length ∨ r.getD (bl r n) 0 ≠ n then r.take (bl r n) ++ n :: r.drop (bl r n) else r
noncomputable def rowOf (ds : List Nat) : Nat → List Nat
  | 0 => []
  | j + 1 => rowStep (rowOf ds j) (num (lp ds (j + 1) (j + 1)))
noncomputable def dec (n : Int) : Str := Str.ofString (toString n)
noncomputable def txE (e : List Nat × Nat) : Str × Str := (tx e.1, dec (e.2 : Int))
noncomputable def decOk (n : Nat) : Bool := ((dec (n : Int)).cps.toList.all fun c => decide (48 ≤ c ∧ c ≤ 57)) && decide ((dec (n : Int)).cps.size ≤ 1000)
theorem decOk_all : (List.range 13).all decOk = true := by decide +kernel
theorem dec_safe {n : Nat} (h : n ≤ 12) : (∀ c ∈ (dec (n : Int)).cps.toList, R.Safe c) ∧ (dec (n : Int)).cps.size ≤ 1000 := by
  have key : decOk n = true := List.all_eq_true.mp decOk_all n (List.mem_range.mpr (by exact (LI1 (.im (.le V0 (.n 12)) (.lt V0 (.n 13)))) h))
  unfold decOk at key
  rw [Bool.and_eq_true] at key
  exact ⟨fun c hc => by have := of_decide_eq_true (List.all_eq_true.mp key.1 c hc); unfold R.Safe; exact (LI1 (.im (.le (.n 48) V0) (.im (.le V0 (.n 57)) (.or (.eq V0 (.n 97)) (.or (.eq V0 (.n 34)) (.or (.eq V0 (.n 92)) (.an (.le (.n 48) V0) (.le V0 (.n 57))))))))) this.1 this.2, of_decide_eq_true key.2⟩
theorem lp_new {ds : List Nat} {j b : Nat} (h : sub ds b j = (sub ds b j).reverse) (e : lp ds j b = []) : lp ds j (b + 1) = sub ds b j := by
  show (if _ then _ else _) = _
  rw [if_pos ⟨h, e⟩]
theorem lp_old {ds : List Nat} {j b : Nat} (h : ¬(sub ds b j = (sub ds b j).reverse ∧ lp ds j b = [])) : lp ds j (b + 1) = lp ds j b := by
  show (if _ then _ else _) = _
  rw [if_neg h]
theorem ents_new {ds : List Nat} {j b : Nat} (h : sub ds b j = (sub ds b j).reverse) : ents ds j (b + 1) = ents ds j b ++ [(sub ds b j, j)] := by
  show (if _ then _ else _) = _
  rw [if_pos h]
theorem ents_old {ds : List Nat} {j b : Nat} (h : ¬(sub ds b j = (sub ds b j).reverse)) : ents ds j (b + 1) = ents ds j b := by
  show (if _ then _ else _) = _
  rw [if_neg h]
theorem lp_len (ds : List Nat) (j : Nat) : ∀ b, (lp ds j b).length ≤ j := fun b => by
  induction b with
  | zero => exact Nat.zero_le _
  | succ b ih =>
    show (if _ then _ else _ : List Nat).length ≤ j
    split
    · rw [sub_len]; exact (LI3 (.le (.s (.mi V0 V1) V2) V0))
    · exact ih
theorem lp_ne {ds : List Nat} {j : Nat} (hj : j < ds.length) : lp ds (j + 1) (j + 1) ≠ [] := by
  intro e
  by_cases h : lp ds (j + 1) j = []
  · have hl : (sub ds j (j + 1)).length = 1 := by rw [sub_len]; exact (LI2 (.im (.lt V0 V1) (.eq (.s (.mi (.a V0 O1) V1) V0) O1))) hj
    obtain ⟨a, ha⟩ := List.length_eq_one_iff.mp hl
    rw [lp_new (by rw [ha]; rfl) h, ha] at e
    cases e
  · rw [lp_old (fun q => h q.2)] at e
    exact h e
theorem rowStep_len (r : List Nat) (n : Nat) : (rowStep r n).length ≤ r.length + 1 := by
  unfold rowStep
  split
  · simp; exact (LI2 (.le (.a (.mi V0 V1) (.a (.s V1 V0) O1)) (.a V1 O1)))
  · exact (LI1 (.le V0 (.a V0 O1)))
theorem rowOf_len (ds : List Nat) : ∀ i, (rowOf ds i).length ≤ i := fun i => Nat.rec (Nat.le_refl _) (fun _ ih => Nat.le_trans (rowStep_len _ _) (Nat.succ_le_succ ih)) i
theorem intsAre_ins {n : Int} {t : Tok} : ∀ {vs : List Value} {ns : List Int}, IntsAre vs ns → ∀ p, IntsAre (vs.take p ++ .int n t :: vs.drop p) (ns.take p ++ n :: ns.drop p) := fun h => by
  induction h with
  | nil => exact fun p => by cases p <;> exact .cons n t .nil
  | cons a u r ih =>
    intro p
    cases p with
    | zero => exact .cons n t (.cons a u r)
    | succ p => exact .cons a u (ih p)
theorem rowStep_in {r : List Nat} {n : Nat} (h : bl r n = r.length ∨ r.getD (bl r n) 0 ≠ n) : rowStep r n = r.take (bl r n) ++ n :: r.drop (bl r n) := by
  unfold rowStep; rw [if_pos h]
theorem rowStep_out {r : List Nat} {n : Nat} (h : ¬(bl r n = r.length ∨ r.getD (bl r n) 0 ≠ n)) : rowStep r n = r := by
  unfold rowStep; rw [if_neg h]
theorem ents_len (ds : List Nat) (j : Nat) : ∀ b, (ents ds j b).length ≤ b := fun b => by
  induction b with
  | zero => exact Nat.le_refl _
  | succ b this =>
    show (if _ then _ else _ : List (List Nat × Nat)).length ≤ _
    split
    · rw [List.length_append]; exact Nat.succ_le_succ this
    · exact Nat.le_succ_of_le this
theorem allE_len (ds : List Nat) : ∀ i, (allE ds i).length ≤ i * (i + 1) := fun i => by
  induction i with
  | zero => exact Nat.le_refl _
  | succ i h1 =>
    have h2 := ents_len ds (i + 1) (i + 1)
    show (allE ds i ++ _).length ≤ _
    rw [List.length_append]
    have h3 : (i + 1) * (i + 1 + 1) = i * (i + 1) + 2 * (i + 1) := by rw [Nat.add_mul, Nat.mul_add i (i + 1) 1, Nat.one_mul, Nat.mul_one]; exact (LI2 (.eq (.a (.a V0 V1) (.a (.a V1 O1) O1)) (.a V0 (.m 2 (.a V1 O1)))))
    exact (LI5 (.im (.eq V0 (.a V1 (.m 2 (.a V2 O1)))) (.im (.le V3 (.a V2 O1)) (.im (.le V4 V1) (.le (.a V4 V3) V0))))) h3 h2 h1
theorem lp_D3 {ds : List Nat} (h : D3 ds) (j : Nat) : ∀ b, D3 (lp ds j b) := fun b => by
  induction b with
  | zero => exact fun _ h => absurd h List.not_mem_nil
  | succ b ih =>
    show D3 (if _ then _ else _)
    split
    · exact sub_D3 h _ _
    · exact ih
theorem allLt_mem {d : Addr} {l : List (Addr × Obj)} (h : AllLt d l) (p : Addr × Obj) (hp : p ∈ l) : (@LT.lt Nat _ p.1 d) := by
  induction l with
  | nil => cases hp
  | cons q r ih =>
    rcases List.mem_cons.mp hp with e | hp
    · rw [e]; exact h.1
    · exact ih h.2 hp
noncomputable def tupO (a b : Value) : Obj := { cls := .type "tuple", data := .seq #[a, b] }
noncomputable def TblL (its : Array Value) (l : List (Str × Str)) (tups : List (Addr × Obj)) : Prop :=
  its.size = l.length ∧ ∀ i (hi : i < l.length), E3 fun T t1 t2 => its[i]? = some (.ref T) ∧ (T, tupO (.str l[i].1 t1) (.str l[i].2 t2)) ∈ tups
theorem tblL_snoc {its : Array Value} {l : List (Str × Str)} {tups : List (Addr × Obj)} {a b : Str} {t1 t2 : Tok} {D : Addr} (x : TblL its l tups) : TblL (its.push (.ref D)) (l ++ [(a, b)]) (tups ++ [(D, tupO (.str a t1) (.str b t2))]) := by
  refine ⟨by rw [Array.size_push, List.length_append, x.1]; rfl, fun i hi => ?_⟩
  rw [List.length_append, List.length_singleton] at hi
  by_cases hlt : i < l.length
  · obtain ⟨T, u, v, e, r⟩ := x.2 i hlt
    refine ⟨T, u, v, ?_, ?_⟩
    · rw [Array.getElem?_push, if_neg (by rw [x.1]; exact (LI2 (.im (.lt V0 V1) (.im (.eq V0 V1) .ff))) hlt)]; exact e
    · rw [List.getElem_append_left hlt]; exact List.mem_append_left _ r
  · have hi' : i = l.length := by exact (LI2 (.im (.lt V0 (.a V1 O1)) (.im (.im (.lt V0 V1) .ff) (.eq V0 V1)))) hi hlt
    subst hi'
    refine ⟨D, t1, t2, ?_, ?_⟩
    · rw [Array.getElem?_push, if_pos x.1.symm]
    · rw [List.getElem_append_right (Nat.le_refl _)]; simp
noncomputable def StJ (P : Params) (x dx hl : Addr) (t : Tok) (row : Addr) (ps0 : Array Value) (ex0 : List (Addr × Obj)) (r : List Nat) (l : List (List Nat × Nat)) (led : List (Addr × Obj)) : Prop :=
  E7 fun its k rits rk ps ex tups => A7 (led = (row, listOf rits rk) :: (hdrL P x dx hl t its k ++ (47, tabObj ps) :: (ex ++ tups))) (TabOk 24 4 "_digits2int.<locals>.inner" ps ex) (IntsAre rits.toList (r.map Int.ofNat)) (TblL its (l.map txE) tups) ((led.map (·.1)).Nodup) (∀ p ∈ ex0, p ∈ ex) (∀ p ∈ ex, p ∈ ex0 ∨ p.1 ∉ ((47, tabObj ps0) :: ex0).map (·.1))
set_option maxHeartbeats 4000000 in
theorem law_stops_spec {prog : Program} {w : World} {A₀ : Around} {dp un : Nat} {gd : Option (List Code)} {s : Shared} {base h₀ : Heap} {outer : List Env} {L : Addr} {m mg mb : Str → Option Value} {env : Env}
    {p : Program} {loose : List Str} {mean : ExcName → Option Value} {Q E : Value → Shared → Prop}
    {ds : List Nat} {tw : Tok} {ps : Array Value} {ex : List (Addr × Obj)}
    (B : Below A₀ base outer h₀) (F : Fr h₀ L s.heap m) (X₀ : (hd.heap_39 w.params).In h₀) (T : Top p loose mean mg mb h₀) (hf : env.frame = some L) (hke : env.scope.kind = .function)
    (hroom : dp + 40 < recursionLimit) (hun : un + 400 < cLine)
    (N : News h₀ L s.heap ((47, tabObj ps) :: ex)) (ok : TabOk 24 4 "_digits2int.<locals>.inner" ps ex)
    (h1 : ∀ d ∈ ds, 1 ≤ d) (h3 : ∀ d ∈ ds, d ≤ 3) (hz : ds.length ≤ 10) (hne : ds ≠ [])
    (ret : ∀ D x dx hl t its k row rits rk h' tk ps' ex', But [47] s.heap h' → TabOk 24 4 "_digits2int.<locals>.inner" ps' ex' → h'.get? 47 = some (tabObj ps') → (∀ p ∈ ex', h'.get? p.1 = some p.2 ∧ (p ∈ ex ∨ s.heap.get? p.1 = none)) → (∀ p ∈ ex, p ∈ ex') →
      (∀ p ∈ (D, tupO (.ref x) (.ref row)) :: (row, listOf rits rk) :: hdrL w.params x dx hl t its k, h'.get? p.1 = some p.2 ∧ s.heap.get? p.1 = none) → row ≠ hl → IntsAre rits.toList ((rowOf ds ds.length).map Int.ofNat) → Tbl h' its ((allE ds ds.length).map txE) → Q (.ref D) { s with heap := h', toks := tk }) :
    wpAny (model prog w) (Ar dp un gd (env :: outer)) (call (.ref 303) [.str (tx ds) tw]) Q E s := by
  have hd : D3 ds := fun d q => ⟨h1 d q, h3 d q⟩
  have hXl : (tx ds).length = ds.length := by show ((ds.map chr).toArray).size = _; simp
  obtain ⟨X, hX⟩ : ∃ X, tx ds = X := ⟨_, rfl⟩
  rw [hX] at hXl ⊢
  have hXz : X.length ≤ 10 := by exact (LI2 (.im (.eq V0 V1) (.im (.le V1 OX) (.le V0 OX)))) hXl hz
  refine enter (args := ⟨[.str X tw], []⟩) (binds := [(Str.ofString "word", .str X tw)]) B F X₀ T N hf hke (by exact (LI2 (.im (.lt (.a V0 (.n 40)) V1) (.lt V0 V1))) hroom) (by k_is) (by k_is) (BindsTo.of_eq rfl) (locs rfl) (fun g h₁ hg hg' F' N' B' X' T' hlow => ?_) rfl rfl rfl (by decide)
  try dsimp only
  k_steps
  refine go ?_
  rename Fr _ _ _ _ => F2
  rename News _ _ _ _ => N2
  refine headers_new_spec B' F2 X' T' rfl rfl (by exact (LI2 (.im (.lt (.a V0 (.n 40)) V1) (.lt (.a (.a V0 O1) (.n 5)) V1))) hroom) (fun x dx hl t k h5 tk5 b5 e5 => ?_)
  have F5 := fr_keep F2 b5
  have nd0 := hdr_nodup e5 N2 (tab_nodup ok N2)
  have out : ∀ p ∈ hdrL w.params x dx hl t #[] k, p.1 ∉ ((47, tabObj ps) :: ex).map (·.1) := fun p hp => not_key N2 (e5 p hp).2
  have N5 := news_fresh F2 (news_keep N2 b5) e5
  unfold hdrL at N5
  simp only [List.cons_append, List.nil_append] at N5
  k_steps
  refine go ?_
  rename Fr _ _ _ _ => F3
  rename News _ _ _ _ => N3
  rename_i h6 row h7 ll h8
  refine For_invV g rfl rfl ?_
  k_steps
  refine go ?_
  rename IsRange _ _ _ _ _ _ _ _ => hR
  rename Fr _ _ _ _ => F3
  rename News _ _ _ _ => N3
  refine for_range1 rfl hR (by exact (LI0 (.il (.ng (.n 1000)) O1))) (by exact (LI0 (.il O1 (.n 1000)))) (by exact (LI1 (.il (.ng (.n 1000)) (.a (.ca V0) O1)))) (by exact (LI2 (.im (.eq V0 V1) (.im (.le V1 OX) (.il (.a (.ca V0) O1) (.n 1000))))) hXl hz) ds.length (by exact (LI2 (.im (.eq V0 V1) (.eq (.tn (.s (.a (.ca V0) O1) O1)) V1))) hXl) F3 N3 (fun i m led => Has m [(Str.ofString "row", .ref row), (Str.ofString "table", .ref x), (Str.ofString "word", .str X tw)] ∧ StJ w.params x dx hl t row ps ex (rowOf ds i) (allE ds i) led) ?_ ?_ ?_
  · have nd : (((row, listOf #[] 0) :: (x, instObj 265 dx) :: (dx, dictOf [⟨PyData.keyHash w.params (Str.ofString "_headers"), .str (Str.ofString "_headers") t, .ref hl⟩] 1) :: (hl, listOf #[] k) :: (47, tabObj ps) :: ex).map (·.1)).Nodup := by
      obtain ⟨l1, l2, l3, l4, l5⟩ := ll
      refine List.nodup_cons.mpr ⟨fun q => ?_, nd0⟩
      rcases List.mem_cons.mp q with q | q
      · exact absurd q (Nat.ne_of_gt l1)
      rcases List.mem_cons.mp q with q | q
      · exact absurd q (Nat.ne_of_gt l2)
      rcases List.mem_cons.mp q with q | q
      · exact absurd q (Nat.ne_of_gt l3)
      rcases List.mem_cons.mp q with q | q
      · exact absurd q (Nat.ne_of_gt l4)
      · obtain ⟨p, hp, e⟩ := List.mem_map.mp q
        exact absurd e (Nat.ne_of_lt (allLt_mem l5 p hp))
    refine ⟨⟨rfl, rfl, rfl, trivial⟩, #[], k, #[], 0, ps, ex, [], ?_, ok, .nil, ⟨rfl, fun i hi => absurd hi (Nat.not_lt_zero _)⟩, nd, fun _ h => h, fun _ h => .inl h⟩
    simp only [hdrL, List.append_nil]
    rfl
  · rintro I i v m₁ led₁ h tk own hI hi ⟨tv, rfl⟩ ⟨hm, its, ik, rits, rk, ps1, ex1, tups, rfl, ok1, hr1, ht1, nd1, xa1, xb1⟩ ho hown F4 N4 ⟨oI, hoI⟩ R1 hR1
    have F4 := fr_has (m := fun y => if y = Str.ofString "stop" then some (Value.int (1 + i) tv) else m₁ y) F4 [(Str.ofString "stop", .int (1 + i) tv), (Str.ofString "row", .ref row), (Str.ofString "table", .ref x), (Str.ofString "word", .str X tw)] ⟨rfl, hm.1, hm.2.1, hm.2.2.1, trivial⟩
    unfold hdrL at N4
    simp only [List.cons_append, List.nil_append, List.append_assoc] at N4
    k_steps
    refine go ?_
    refine For_invV g rfl rfl ?_
    k_steps
    refine go ?_
    rename IsRange _ _ _ _ _ _ _ _ => hR2
    rename Fr _ _ _ _ => F5
    rename News _ _ _ _ => N5
    rename_i tk6 h9 tk9 t9 u9 v9 k9
    refine for_range1 rfl hR2 (by exact (LI0 (.il (.ng (.n 1000)) O0))) (by exact (LI0 (.il O0 (.n 1000)))) (by exact (LI1 (.il (.ng (.n 1000)) (.a O1 (.ca V0))))) (by exact (LI2 (.im (.lt V0 V1) (.im (.le V1 OX) (.il (.a O1 (.ca V0)) (.n 1000))))) hi hz) (i + 1) (by exact (LI1 (.eq (.tn (.s (.a O1 (.ca V0)) O0)) (.a V0 O1)))) F5 N5 (fun b m led => E2 fun led' tl => A4 (led = led' ++ own) (∀ p ∈ led', p.1 ≠ I) (Has m [(Str.ofString "longest", .str (tx (lp ds (i + 1) b)) tl), (Str.ofString "stop", .int (1 + i) tv), (Str.ofString "row", .ref row), (Str.ofString "table", .ref x), (Str.ofString "word", .str X tw)]) (StJ w.params x dx hl t row ps ex (rowOf ds i) (allE ds i ++ ents ds (i + 1) b) led')) ?_ ?_ ?_
    · refine ⟨_, _, ?_, ho, ⟨rfl, rfl, rfl, rfl, rfl, trivial⟩, its, ik, rits, rk, ps1, ex1, tups, rfl, ok1, hr1, by rw [show ents ds (i + 1) 0 = [] from rfl, List.append_nil]; exact ht1, nd1, xa1, xb1⟩
      simp only [hdrL, List.cons_append, List.nil_append, List.append_assoc]
    · rintro I2 b v m₂ led₂ h' tk' own2 hI2 hb ⟨tb, rfl⟩ ⟨led', tl, rfl, ho2, hm2, its2, ik2, rits2, rk2, ps2, ex2, tups2, rfl, ok2, hr2, ht2, nd2, xa2, xb2⟩ hq2 hown2 F6 N6 ⟨oI2, hoI2⟩ R2 hR2
      have F6 := fr_has (m := fun y => if y = Str.ofString "begin" then some (Value.int (0 + b) tb) else m₂ y) F6 [(Str.ofString "begin", .int (0 + b) tb), (Str.ofString "longest", .str (tx (lp ds (i + 1) b)) tl), (Str.ofString "stop", .int (1 + i) tv), (Str.ofString "row", .ref row), (Str.ofString "table", .ref x), (Str.ofString "word", .str X tw)] ⟨rfl, hm2.1, hm2.2.1, hm2.2.2.1, hm2.2.2.2.1, hm2.2.2.2.2.1, trivial⟩
      have N6l := news_left (news_left N6)
      unfold hdrL at N6
      simp only [List.cons_append, List.nil_append, List.append_assoc] at N6
      have hsl : Txt.slice X (some (0 + (b : Int))) (some (1 + (i : Int))) = tx (sub ds b (i + 1)) := by
        rw [← hX, ← slice_tx (a := b) (b := i + 1) (by exact (LI2 (.im (.lt V0 (.a V1 O1)) (.le V0 (.a V1 O1)))) hb) (by exact (LI2 (.im (.lt V0 V1) (.le (.a V0 O1) V1))) hi)]
        congr 2 <;> congr 1 <;> (first | exact (LI1 (.je (.a O0 (.ca V0)) (.ca V0))) | exact (LI1 (.je (.a O1 (.ca V0)) (.ca (.a V0 O1)))))
      have hrv := fun u => rev_tx (sub ds b (i + 1)) u
      have hD := sub_D3 hd b (i + 1)
      have hbq := tx_beq hD (rev_D3 hD)
      k_steps
      · refine go ?_
        rename Fr _ _ _ _ => F7
        rename News _ _ _ _ => N7
        rename (_ == _) = true => hp
        rw [hsl] at F7 hp ⊢
        rw [hrv, hbq, decide_eq_true_eq] at hp
        have hdec : (1 + (i : Int)) = ((i + 1 : Nat) : Int) := by exact (LI1 (.je (.a O1 (.ca V0)) (.ca (.a V0 O1))))
        rw [hdec]
        have Nh : News g _ _ (hdrL w.params x dx hl t its2 ik2) := news_sub N7 fun p hp => by
          rcases List.mem_cons.mp hp with rfl | hp
          · exact .tail _ (.head _)
          rcases List.mem_cons.mp hp with rfl | hp
          · exact .tail _ (.tail _ (.head _))
          rcases List.mem_cons.mp hp with rfl | hp
          · exact .tail _ (.tail _ (.tail _ (.head _)))
          · cases hp
        have hz2 : its2.size < 1000 := by
          have := ht2.1
          rw [this, List.length_map, List.length_append]
          have a1 := allE_len ds i
          have a2 := ents_len ds (i + 1) b
          have a3 : i * (i + 1) ≤ 10 * 11 := Nat.mul_le_mul (by exact (LI2 (.im (.lt V0 V1) (.im (.le V1 OX) (.le V0 OX)))) hi hz) (by exact (LI2 (.im (.lt V0 V1) (.im (.le V1 OX) (.le (.a V0 O1) (.n 11))))) hi hz)
          exact (LI6 (.im (.lt V0 (.a V1 O1)) (.im (.lt V1 V2) (.im (.le V3 (.m 10 (.n 11))) (.im (.le V2 OX) (.im (.le V4 V3) (.im (.le V5 V0) (.lt (.a V4 V5) (.n 1000))))))))) hb hi a3 hz a1 a2
        refine addh_spec (hl := hl) (dx := dx) (x := x) (t := t) (its := its2) (k := ik2) B' F7 X' T' rfl rfl (by exact (LI2 (.im (.lt (.a V0 (.n 40)) V1) (.lt (.a (.a V0 O1) (.n 6)) V1))) hroom) Nh hz2 tx_safe (by show (tx _).length ≤ _; rw [tx_len, sub_len]; exact (LI3 (.im (.le V0 OX) (.le (.s (.mi (.a V1 O1) V0) V2) (.n 1000)))) hz) (dec_safe (by exact (LI2 (.im (.lt V0 V1) (.im (.le V1 OX) (.le (.a V0 O1) (.n 12))))) hi hz)).1 (dec_safe (by exact (LI2 (.im (.lt V0 V1) (.im (.le V1 OX) (.le (.a V0 O1) (.n 12))))) hi hz)).2 (fun D tD kD h10 tk10 b10 f10 l10 e10 => ?_)
        obtain ⟨tP, e10⟩ : ∃ tP, h10.get? D = some (tupO (.str (tx (sub ds b (i + 1))) tP) (.str (dec ((i + 1 : Nat) : Int)) tD)) := ⟨_, e10⟩
        have N7' := news_eq (led' := ((row, listOf rits2 rk2) :: (hdrL w.params x dx hl t its2 ik2 ++ (47, tabObj ps2) :: (ex2 ++ tups2))) ++ (own ++ own2)) N7 (by simp only [hdrL, List.cons_append, List.nil_append, List.append_assoc])
        have N7l := news_left N7'
        have N7o := news_right N7'
        have F10 := fr_one F7 N7l ⟨_, .tail _ (.tail _ (.tail _ (.head _)))⟩ b10
        have N10l := news_mid (pre := [(row, listOf rits2 rk2), (x, instObj 265 dx), (dx, _)]) (post := (47, tabObj ps2) :: (ex2 ++ tups2)) N7l nd2 b10 l10
        have N10o := news_but N7o b10 (fun p hp q => by
          have hp1 := List.mem_singleton.mp q
          rcases List.mem_append.mp hp with hp | hp
          · exact ho2 _ (.tail _ (.tail _ (.tail _ (.head _)))) (hp1.symm.trans (hown p hp))
          · exact hq2 _ (.tail _ (.tail _ (.tail _ (.head _)))) (hp1.symm.trans (hown2 p hp)))
        have N10D := news_fresh (xs := [(D, tupO (.str (tx (sub ds b (i + 1))) tP) (.str (dec ((i + 1 : Nat) : Int)) tD))]) F7 N10l (fun p hp => by rw [List.mem_singleton.mp hp]; exact ⟨e10, f10⟩)
        have hDI : D ≠ I := fun q => by
          have := (N7o _ (List.mem_append_left _ hoI)).1
          rw [← q, f10] at this; cases this
        have hDI2 : D ≠ I2 := fun q => by
          have := (N7o _ (List.mem_append_right _ hoI2)).1
          rw [← q, f10] at this; cases this
        have hDn := not_key N7l f10
        have N11 := news_app N10D N10o
        simp only [List.cons_append, List.nil_append, List.append_assoc] at N11
        have hlq : (tx (lp ds (i + 1) b) == Str.ofString "") = decide (lp ds (i + 1) b = []) := by rw [← tx_nil]; exact tx_beq (lp_D3 hd _ _) (fun _ h => by cases h)
        obtain ⟨led'', hl2⟩ : ∃ l, l = (row, listOf rits2 rk2) :: (hdrL w.params x dx hl t (its2.push (.ref D)) kD ++ (47, tabObj ps2) :: (ex2 ++ (tups2 ++ [(D, tupO (.str (tx (sub ds b (i + 1))) tP) (.str (dec ((i + 1 : Nat) : Int)) tD))]))) := ⟨_, rfl⟩
        have hkeys : led''.map (·.1) = ((row, listOf rits2 rk2) :: (hdrL w.params x dx hl t its2 ik2 ++ (47, tabObj ps2) :: (ex2 ++ tups2))).map (·.1) ++ [D] := by
          rw [hl2]; simp only [hdrL, List.map_cons, List.map_append, List.cons_append, List.nil_append, List.append_assoc, List.map_nil]
        have hst : StJ w.params x dx hl t row ps ex (rowOf ds i) (allE ds i ++ (ents ds (i + 1) b ++ [(sub ds b (i + 1), i + 1)])) led'' := by
          refine ⟨_, _, rits2, rk2, ps2, ex2, _, hl2, ok2, hr2, ?_, by rw [hkeys]; exact nodup_snoc nd2 hDn, xa2, xb2⟩
          rw [← List.append_assoc, List.map_append]
          exact tblL_snoc ht2
        have hoD : ∀ p ∈ led'', p.1 ≠ I := fun p hp q => by
          have := List.mem_map_of_mem (f := fun p : Addr × Obj => p.1) hp
          rw [hkeys] at this
          rcases List.mem_append.mp this with r | r
          · obtain ⟨p', hp', e⟩ := List.mem_map.mp r
            exact ho2 p' hp' (e.trans q)
          · exact hDI ((List.mem_singleton.mp r).symm.trans q)
        have hqD : ∀ p ∈ led'' ++ own, p.1 ≠ I2 := fun p hp q => by
          rcases List.mem_append.mp hp with hp | hp
          · have := List.mem_map_of_mem (f := fun p : Addr × Obj => p.1) hp
            rw [hkeys] at this
            rcases List.mem_append.mp this with r | r
            · obtain ⟨p', hp', e⟩ := List.mem_map.mp r
              exact hq2 p' (List.mem_append_left _ hp') (e.trans q)
            · exact hDI2 ((List.mem_singleton.mp r).symm.trans q)
          · exact hq2 p (List.mem_append_right _ hp) q
        have hsub : ∀ p ∈ (led'' ++ own) ++ own2, p ∈ (D, tupO (.str (tx (sub ds b (i + 1))) tP) (.str (dec ((i + 1 : Nat) : Int)) tD)) :: (row, listOf rits2 rk2) :: (x, instObj 265 dx) :: (dx, dictOf [⟨PyData.keyHash w.params (Str.ofString "_headers"), .str (Str.ofString "_headers") t, .ref hl⟩] 1) :: (hl, listOf (its2.push (.ref D)) kD) :: (47, tabObj ps2) :: (ex2 ++ (tups2 ++ (own ++ own2))) := fun p hp => by
          rw [hl2] at hp
          simp only [hdrL, List.cons_append, List.nil_append, List.append_assoc, List.mem_cons, List.mem_append, List.not_mem_nil, or_false] at hp ⊢
          rcases hp with h | h | h | h | h | h | h | h | h | h <;> simp only [h, true_or, or_true]
        clear N10l N10D N10o N7 N7' N7l Nh
        have hpe : sub ds b (i + 1) = (sub ds b (i + 1)).reverse := hp
        k_steps
        · rename (_ == _) = true => hq
          rw [hlq, decide_eq_true_eq] at hq
          rename Fr _ _ _ _ => F12
          rename News _ _ _ _ => N12
          refine hR2 _ _ ?_
          refine go ⟨_, _, _, led'' ++ own, rfl, F12, news_sub N12 hsub, hqD, led'', _, rfl, hoD, ⟨congrArg (fun z => some (Value.str (tx z) _)) (lp_new hpe hq).symm, rfl, rfl, rfl, rfl, trivial⟩, ?_⟩
          rw [ents_new hpe]
          exact hst
        · rename (_ == _) = false => hq
          rw [hlq, decide_eq_false_iff_not] at hq
          rename Fr _ _ _ _ => F12
          rename News _ _ _ _ => N12
          refine hR2 _ _ ?_
          refine go ⟨_, _, _, led'' ++ own, rfl, F12, news_sub N12 hsub, hqD, led'', tl, rfl, hoD, ⟨congrArg (fun z => some (Value.str (tx z) tl)) (lp_old (fun q => hq q.2)).symm, rfl, rfl, rfl, rfl, trivial⟩, ?_⟩
          rw [ents_new hpe]
          exact hst
      · rename (_ == _) = false => hp
        rw [hsl, hrv, hbq, decide_eq_false_iff_not] at hp
        rename Fr _ _ _ _ => F12
        rename News _ _ _ _ => N12
        refine hR2 _ _ ?_
        refine go ⟨_, _, _, ((row, listOf rits2 rk2) :: (hdrL w.params x dx hl t its2 ik2 ++ (47, tabObj ps2) :: (ex2 ++ tups2))) ++ own, rfl, F12, news_eq N12 (by simp only [hdrL, List.cons_append, List.nil_append, List.append_assoc]), hq2, _, tl, rfl, ho2, ⟨congrArg (fun z => some (Value.str (tx z) tl)) (lp_old (fun q => hp q.1)).symm, rfl, rfl, rfl, rfl, trivial⟩, ?_⟩
        · rw [ents_old hp]
          exact ⟨_, _, _, _, _, _, _, rfl, ok2, hr2, ht2, nd2, xa2, xb2⟩
    · rintro m₂ led₂ h' tk' ⟨led', tl, rfl, ho2, hm2, its2, ik2, rits2, rk2, ps2, ex2, tups2, rfl, ok2, hr2, ht2, nd2, xa2, xb2⟩ F6 N6
      have F6 := fr_has F6 [(Str.ofString "longest", .str (tx (lp ds (i + 1) (i + 1))) tl), (Str.ofString "stop", .int (1 + i) tv), (Str.ofString "row", .ref row), (Str.ofString "table", .ref x), (Str.ofString "word", .str X tw)] ⟨hm2.1, hm2.2.1, hm2.2.2.1, hm2.2.2.2.1, hm2.2.2.2.2.1, trivial⟩
      unfold hdrL at N6
      simp only [List.cons_append, List.nil_append, List.append_assoc] at N6
      k_steps
      refine go ?_
      rename Fr _ _ _ _ => F7
      rename News _ _ _ _ => N7
      have hnum : num ((tx (lp ds (i + 1) (i + 1))).cps.toList.map dig) = num (lp ds (i + 1) (i + 1)) := by rw [tx_list, dig_chr (lp_D3 hd _ _)]
      have hll := lp_len ds (i + 1) (i + 1)
      have hlne := lp_ne (ds := ds) (j := i) (by assumption)
      have hlz : (tx (lp ds (i + 1) (i + 1))).cps.size = (lp ds (i + 1) (i + 1)).length := tx_len _
      have N7' := news_eq (led' := ((row, listOf rits2 rk2) :: (hdrL w.params x dx hl t its2 ik2 ++ (47, tabObj ps2) :: (ex2 ++ tups2))) ++ own) N7 (by simp only [hdrL, List.cons_append, List.nil_append, List.append_assoc])
      have N7l := news_left N7'
      have N7o := news_right N7'
      have N47 : News g _ _ ((47, tabObj ps2) :: ex2) := news_sub N7l fun p hp => by
        refine .tail _ (List.mem_append_right _ ?_)
        rcases List.mem_cons.mp hp with q | q
        · rw [q]; exact .head _
        · exact .tail _ (List.mem_append_left _ q)
      refine law_number_spec B' F7 X' T' rfl rfl (by exact (LI2 (.im (.lt (.a V0 (.n 40)) V1) (.lt (.a (.a V0 O1) (.n 30)) V1))) hroom) (by exact (LI2 (.im (.lt (.a V0 (.n 400)) V1) (.lt (.a (.a V0 (.n 3)) (.n 200)) V1))) hun) N47 ok2 tx_sg (by exact (LI4 (.im (.lt V0 V1) (.im (.eq V2 V3) (.im (.le V3 (.a V0 O1)) (.im (.le V1 OX) (.le V2 OX)))))) hi hlz hll hz) (by have := List.length_pos_iff.mpr hlne; exact (LI2 (.im (.lt O0 V0) (.im (.eq V1 V0) (.lt O0 V1)))) this hlz) (fun h8 tk8 t8 ps8 ex8 b8 ok8 g8 e8 x8 => ?_)
      have xa8 : ∀ p ∈ ex, p ∈ ex8 := fun p hp => x8 p (xa2 p hp)
      have xb8 : ∀ p ∈ ex8, p ∈ ex ∨ p.1 ∉ ((47, tabObj ps) :: ex).map (·.1) := fun p hp => (e8 p hp).2.elim (xb2 p) fun e => .inr fun q => by
        obtain ⟨p', hp', e'⟩ := List.mem_map.mp q
        rcases List.mem_cons.mp hp' with r | r
        · have := (N47 _ (.head _)).1
          rw [r] at e'
          rw [← e', this] at e; cases e
        · have := (N47 _ (.tail _ (xa2 _ r))).1
          rw [← e', this] at e; cases e
      rw [hnum]
      obtain ⟨N8l, nd8⟩ := tab_led (pre := (row, listOf rits2 rk2) :: hdrL w.params x dx hl t its2 ik2) (ps := ps2) (ex := ex2) N7l nd2 F7 b8 g8 e8 ok8
      have F8 := fr_one F7 N7l ⟨_, .tail _ (List.mem_append_right _ (.head _))⟩ b8
      have N8o := news_but N7o b8 (fun p hp q => ho2 _ (.tail _ (List.mem_append_right _ (.head _))) ((List.mem_singleton.mp q).symm.trans (hown p hp)))
      have ho8 : ∀ p ∈ (row, listOf rits2 rk2) :: hdrL w.params x dx hl t its2 ik2 ++ (47, tabObj ps8) :: (ex8 ++ tups2), p.1 ≠ I := fun p hp q => by
        rcases tab_keys (pre := (row, listOf rits2 rk2) :: hdrL w.params x dx hl t its2 ik2) (ps := ps2) (ex := ex2) e8 p hp with ⟨p', hp', e⟩ | e
        · exact ho2 p' hp' (e.trans q)
        · rw [q, (N7o _ hoI).1] at e; cases e
      clear N7 N7' N7l N47
      have N8 := news_app N8l N8o
      simp only [hdrL, List.cons_append, List.nil_append, List.append_assoc] at N8
      clear N8o N7o
      k_steps
      refine go ?_
      rename Fr _ _ _ _ => F9
      rename News _ _ _ _ => N9
      have hrl : rits2.size = (rowOf ds i).length := by have := hr2.length; simpa using this
      have hrz := rowOf_len ds i
      refine bisect_left_spec (its := rits2) (t := fun j => decide ((rowOf ds i).getD j 0 < num (lp ds (i + 1) (i + 1)))) B' F9 X' T' rfl rfl (by exact (LI2 (.im (.lt (.a V0 (.n 40)) V1) (.lt (.a (.a V0 O1) O1) V1))) hroom) (by exact (LI2 (.im (.lt (.a V0 (.n 400)) V1) (.lt (.a (.a V0 (.n 3)) (.n 8)) V1))) hun) (News.isList N9 (.head _)) (by exact (LI4 (.im (.lt V0 V1) (.im (.eq V2 V3) (.im (.le V1 OX) (.im (.le V3 V0) (.lt V2 (.n 1000))))))) hi hrl hz hrz) (fun j v hj => ?_) (fun h10 tk10 t10 b10 => ?_)
      · have hj' : j < (rowOf ds i).length := by
          rcases Nat.lt_or_ge j rits2.size with q | q
          · exact (LI3 (.im (.lt V0 V1) (.im (.eq V1 V2) (.lt V0 V2)))) q hrl
          · rw [Array.getElem?_eq_none q] at hj; cases hj
        obtain ⟨u, hu⟩ := ints_at hr2 hj'
        rw [Array.getElem?_toList, hj] at hu
        cases hu
        rw [List.getD_eq_getElem?_getD, List.getElem?_eq_getElem hj', Option.getD_some]
        rw [show decide ((rowOf ds i)[j] < num (lp ds (i + 1) (i + 1))) = decide (((rowOf ds i)[j] : Int) < (num (lp ds (i + 1) (i + 1)) : Int)) by simp only [Int.ofNat_lt]]
        exact ltIs_int
      rw [hrl]
      rw [show bis (fun j => decide ((rowOf ds i).getD j 0 < num (lp ds (i + 1) (i + 1)))) (rowOf ds i).length 0 (rowOf ds i).length = bl (rowOf ds i) (num (lp ds (i + 1) (i + 1))) from rfl]
      have hbl := bis_le (fun j => decide ((rowOf ds i).getD j 0 < num (lp ds (i + 1) (i + 1)))) (rowOf ds i).length 0 (rowOf ds i).length (Nat.zero_le _)
      have F10 := fr_keep F9 b10
      have N10 := news_keep N9 b10
      have hrow : ∀ p ∈ (x, instObj 265 dx) :: (dx, dictOf [⟨PyData.keyHash w.params (Str.ofString "_headers"), .str (Str.ofString "_headers") t, .ref hl⟩] 1) :: (hl, listOf its2 ik2) :: (47, tabObj ps8) :: (ex8 ++ (tups2 ++ own)), @Ne Nat p.1 row := fun p hp q => by
        have hp' : p ∈ (hdrL w.params x dx hl t its2 ik2 ++ (47, tabObj ps8) :: (ex8 ++ tups2)) ++ own := by
          simpa only [hdrL, List.cons_append, List.nil_append, List.append_assoc] using hp
        rcases List.mem_append.mp hp' with hp' | hp'
        · exact (List.nodup_cons.mp nd8).1 (List.mem_map.mpr ⟨p, hp', q⟩)
        · exact ho8 _ (.head _) ((show row = p.1 from q.symm).trans (hown p hp'))
      have ho9 : ∀ o, ∀ p ∈ (row, o) :: (hdrL w.params x dx hl t its2 ik2 ++ (47, tabObj ps8) :: (ex8 ++ tups2)), p.1 ≠ I := fun o p hp => by
        rcases List.mem_cons.mp hp with rfl | hp
        · exact ho8 (row, listOf rits2 rk2) (.head _)
        · exact ho8 p (.tail _ hp)
      k_steps
      · refine go ?_
        rename Fr _ _ _ _ => F11
        rename News _ _ _ _ => N11
        rename ((bl _ _ : Nat) : Int) = _ => hb1
        have hcond : bl (rowOf ds i) (num (lp ds (i + 1) (i + 1))) = (rowOf ds i).length ∨ (rowOf ds i).getD (bl (rowOf ds i) (num (lp ds (i + 1) (i + 1)))) 0 ≠ num (lp ds (i + 1) (i + 1)) := .inl (by exact (LI2 (.im (.je (.ca V0) (.ca V1)) (.eq V0 V1))) hb1)
        refine kl_insert (news' := (row, listOf (rits2.toList.take (bl (rowOf ds i) (num (lp ds (i + 1) (i + 1)))) ++ Value.int (num (lp ds (i + 1) (i + 1)) : Nat) t8 :: rits2.toList.drop (bl (rowOf ds i) (num (lp ds (i + 1) (i + 1))))).toArray (rk2 + 1)) :: (x, instObj 265 dx) :: (dx, dictOf [⟨PyData.keyHash w.params (Str.ofString "_headers"), .str (Str.ofString "_headers") t, .ref hl⟩] 1) :: (hl, listOf its2 ik2) :: (47, tabObj ps8) :: (ex8 ++ (tups2 ++ own))) F11 N11 (by unfold Builtin.List.listFitsIndex; simp; exact (LI4 (.im (.je (.ca V0) (.ca V1)) (.im (.lt V2 V3) (.im (.le V3 OX) (.im (.le V1 V2) (.jl (.ca V0) (.n 9223372036854775808))))))) hb1 hi hz hrz) (kl_ins_nat _ _ _ (by rw [Array.length_toList, hrl]; exact hbl)) (.head hrow) (by rw [Array.length_toList, sizeLine_eq]; exact (LI4 (.im (.lt V0 V1) (.im (.eq V2 V3) (.im (.le V1 OX) (.im (.le V3 V0) (.le V2 (.n 16777216))))))) hi hrl hz hrz) (fun h12 F12 N12 => ?_)
        k_steps
        rename Fr _ _ _ _ => F13
        rename News _ _ _ _ => N13
        refine hR1 _ _ ?_
        refine go ⟨_, _, _, (row, listOf (rits2.toList.take (bl (rowOf ds i) (num (lp ds (i + 1) (i + 1)))) ++ Value.int (num (lp ds (i + 1) (i + 1)) : Nat) t8 :: rits2.toList.drop (bl (rowOf ds i) (num (lp ds (i + 1) (i + 1))))).toArray (rk2 + 1)) :: (hdrL w.params x dx hl t its2 ik2 ++ (47, tabObj ps8) :: (ex8 ++ tups2)), rfl, F13, news_eq N13 (by simp only [hdrL, List.cons_append, List.nil_append, List.append_assoc]), ho9 _, ⟨rfl, rfl, rfl, trivial⟩, its2, ik2, _, _, ps8, ex8, tups2, rfl, ok8, ?_, ht2, nd8, xa8, xb8⟩
        show IntsAre ((rits2.toList.take (bl (rowOf ds i) (num (lp ds (i + 1) (i + 1)))) ++ Value.int (num (lp ds (i + 1) (i + 1)) : Nat) t8 :: rits2.toList.drop (bl (rowOf ds i) (num (lp ds (i + 1) (i + 1))))).toArray).toList ((rowStep (rowOf ds i) (num (lp ds (i + 1) (i + 1)))).map Int.ofNat)
        rw [rowStep_in hcond, List.map_append, List.map_cons, List.map_take, List.map_drop]
        exact intsAre_ins hr2 _
      · refine go ?_
        rename Fr _ _ _ _ => F11
        rename News _ _ _ _ => N11
        rename ((bl _ _ : Nat) : Int) ≠ _ => hb1
        have hbl2 : bl (rowOf ds i) (num (lp ds (i + 1) (i + 1))) < (rowOf ds i).length := by
          have : bl (rowOf ds i) (num (lp ds (i + 1) (i + 1))) ≤ (rowOf ds i).length := hbl
          exact (LI2 (.im (.im (.je (.ca V0) (.ca V1)) .ff) (.im (.le V0 V1) (.lt V0 V1)))) hb1 this
        obtain ⟨u, hu⟩ := ints_at hr2 hbl2
        refine item_list (News.isList N11 (.head _)) (by exact (LI1 (.il O0 (.ca V0)))) (by exact (LI4 (.im (.lt V0 V1) (.im (.lt V2 V3) (.im (.le V3 OX) (.im (.le V1 V2) (.jl (.ca V0) (.pw 2 63))))))) hbl2 hi hz hrz) (x := .int ((rowOf ds i)[bl (rowOf ds i) (num (lp ds (i + 1) (i + 1)))] : Nat) u) (by rw [Int.toNat_natCast, ← Array.getElem?_toList]; exact hu) ?_
        have hgd : (rowOf ds i).getD (bl (rowOf ds i) (num (lp ds (i + 1) (i + 1)))) 0 = (rowOf ds i)[bl (rowOf ds i) (num (lp ds (i + 1) (i + 1)))] := by
          rw [List.getD_eq_getElem?_getD, List.getElem?_eq_getElem hbl2, Option.getD_some]
        k_steps
        · refine go ?_
          rename Fr _ _ _ _ => F11
          rename News _ _ _ _ => N11
          rename ((_ : Nat) : Int) ≠ _ => hb3
          have hcond : bl (rowOf ds i) (num (lp ds (i + 1) (i + 1))) = (rowOf ds i).length ∨ (rowOf ds i).getD (bl (rowOf ds i) (num (lp ds (i + 1) (i + 1)))) 0 ≠ num (lp ds (i + 1) (i + 1)) := .inr (by rw [hgd]; exact (LI2 (.im (.im (.je (.ca V0) (.ca V1)) .ff) (.im (.eq V0 V1) .ff))) hb3)
          refine kl_insert (news' := (row, listOf (rits2.toList.take (bl (rowOf ds i) (num (lp ds (i + 1) (i + 1)))) ++ Value.int (num (lp ds (i + 1) (i + 1)) : Nat) t8 :: rits2.toList.drop (bl (rowOf ds i) (num (lp ds (i + 1) (i + 1))))).toArray (rk2 + 1)) :: (x, instObj 265 dx) :: (dx, dictOf [⟨PyData.keyHash w.params (Str.ofString "_headers"), .str (Str.ofString "_headers") t, .ref hl⟩] 1) :: (hl, listOf its2 ik2) :: (47, tabObj ps8) :: (ex8 ++ (tups2 ++ own))) F11 N11 (by unfold Builtin.List.listFitsIndex; simp; exact (LI4 (.im (.lt V0 V1) (.im (.lt V2 V3) (.im (.le V3 OX) (.im (.le V1 V2) (.jl (.ca V0) (.n 9223372036854775808))))))) hbl2 hi hz hrz) (kl_ins_nat _ _ _ (by rw [Array.length_toList, hrl]; exact hbl)) (.head hrow) (by rw [Array.length_toList, sizeLine_eq]; exact (LI4 (.im (.lt V0 V1) (.im (.eq V2 V3) (.im (.le V1 OX) (.im (.le V3 V0) (.le V2 (.n 16777216))))))) hi hrl hz hrz) (fun h12 F12 N12 => ?_)
          k_steps
          rename Fr _ _ _ _ => F13
          rename News _ _ _ _ => N13
          refine hR1 _ _ ?_
          refine go ⟨_, _, _, (row, listOf (rits2.toList.take (bl (rowOf ds i) (num (lp ds (i + 1) (i + 1)))) ++ Value.int (num (lp ds (i + 1) (i + 1)) : Nat) t8 :: rits2.toList.drop (bl (rowOf ds i) (num (lp ds (i + 1) (i + 1))))).toArray (rk2 + 1)) :: (hdrL w.params x dx hl t its2 ik2 ++ (47, tabObj ps8) :: (ex8 ++ tups2)), rfl, F13, news_eq N13 (by simp only [hdrL, List.cons_append, List.nil_append, List.append_assoc]), ho9 _, ⟨rfl, rfl, rfl, trivial⟩, its2, ik2, _, _, ps8, ex8, tups2, rfl, ok8, ?_, ht2, nd8, xa8, xb8⟩
          show IntsAre ((rits2.toList.take (bl (rowOf ds i) (num (lp ds (i + 1) (i + 1)))) ++ Value.int (num (lp ds (i + 1) (i + 1)) : Nat) t8 :: rits2.toList.drop (bl (rowOf ds i) (num (lp ds (i + 1) (i + 1))))).toArray).toList ((rowStep (rowOf ds i) (num (lp ds (i + 1) (i + 1)))).map Int.ofNat)
          rw [rowStep_in hcond, List.map_append, List.map_cons, List.map_take, List.map_drop]
          exact intsAre_ins hr2 _
        · rename ((_ : Nat) : Int) = _ => hb3
          rename Fr _ _ _ _ => F13
          rename News _ _ _ _ => N13
          have hcond : ¬(bl (rowOf ds i) (num (lp ds (i + 1) (i + 1))) = (rowOf ds i).length ∨ (rowOf ds i).getD (bl (rowOf ds i) (num (lp ds (i + 1) (i + 1)))) 0 ≠ num (lp ds (i + 1) (i + 1))) := by rw [hgd]; exact fun h => h.elim (Nat.ne_of_lt hbl2) fun e => e (Int.ofNat_inj.mp hb3)
          refine hR1 _ _ ?_
          refine go ⟨_, _, _, (row, listOf rits2 rk2) :: (hdrL w.params x dx hl t its2 ik2 ++ (47, tabObj ps8) :: (ex8 ++ tups2)), rfl, F13, news_eq N13 (by simp only [hdrL, List.cons_append, List.nil_append, List.append_assoc]), ho9 _, ⟨rfl, rfl, rfl, trivial⟩, its2, ik2, _, _, ps8, ex8, tups2, rfl, ok8, ?_, ht2, nd8, xa8, xb8⟩
          show IntsAre (_ : Array Value).toList ((rowStep (rowOf ds i) (num (lp ds (i + 1) (i + 1)))).map Int.ofNat)
          rw [rowStep_out hcond]
          exact hr2
  · rintro m' led' h tk ⟨hm, its, ik, rits, rk, ps1, ex1, tups, rfl, ok1, hr1, ht1, nd1, xa1, xb1⟩ F4 N4
    have F4 := fr_has F4 [(Str.ofString "row", .ref row), (Str.ofString "table", .ref x), (Str.ofString "word", .str X tw)] ⟨hm.1, hm.2.1, hm.2.2.1, trivial⟩
    unfold hdrL at N4
    simp only [List.cons_append, List.nil_append, List.append_assoc] at N4
    k_steps
    rename Fr _ _ _ _ => F5
    rename News _ _ _ _ => N5
    rename _ < _ ∧ _ => lD
    have N5' := news_eq (led' := [(_, tupO (.ref x) (.ref row))] ++ ((row, listOf rits rk) :: (hdrL w.params x dx hl t its ik ++ (47, tabObj ps1) :: (ex1 ++ tups)))) N5 (by simp only [hdrL, List.cons_append, List.nil_append, List.append_assoc]; rfl)
    have hrow0 : ∀ D, (@LE.le Nat _ row D) → D ∉ ((47, tabObj ps) :: ex).map (·.1) := fun D hD q => by
      obtain ⟨p, hp, e⟩ := List.mem_map.mp q
      rcases List.mem_cons.mp hp with r | r
      · rw [r] at e
        have := ll.2.2.2.1
        rw [← e] at hD
        exact absurd this (Nat.not_lt.mpr hD)
      · have := allLt_mem ll.2.2.2.2 p r
        rw [← e] at hD
        exact absurd this (Nat.not_lt.mpr hD)
    have fresh : ∀ a, g.get? a = none → a ∉ ((47, tabObj ps) :: ex).map (·.1) → s.heap.get? a = none := fun a e n => by
      cases q : s.heap.get? a with
      | none => rfl
      | some o => rw [hg a o n q] at e; cases e
    refine go (ret _ x dx hl t its ik row rits rk _ _ ps1 ex1 (fun b o nb e => ?_) ok1 (N5' _ (List.mem_append_right _ (.tail _ (List.mem_append_right _ (.head _))))).1 (fun p hp => ?_) xa1 (fun p hp => ?_) (Nat.ne_of_gt ll.2.2.1) hr1 ⟨ht1.1, fun j hj => ?_⟩)
    · by_cases q : b ∈ ((47, tabObj ps) :: ex).map (·.1)
      · obtain ⟨p, hp, rfl⟩ := List.mem_map.mp q
        rcases List.mem_cons.mp hp with r | r
        · exact absurd (by rw [r]; exact .head _) nb
        · have e1 := (N _ hp).1
          rw [e] at e1; cases e1
          exact (N5' p (List.mem_append_right _ (.tail _ (List.mem_append_right _ (.tail _ (List.mem_append_left _ (xa1 p r))))))).1
      · exact F5.keep b o (hg b o q e)
    · have e1 := N5' p (List.mem_append_right _ (.tail _ (List.mem_append_right _ (.tail _ (List.mem_append_left _ hp)))))
      exact ⟨e1.1, (xb1 p hp).imp id fun n => fresh _ e1.2.2 n⟩
    · rcases List.mem_cons.mp hp with rfl | hp
      · have e1 := N5' _ (List.mem_append_left _ (.head _))
        exact ⟨e1.1, fresh _ e1.2.2 (hrow0 _ (Nat.le_of_lt lD.1))⟩
      rcases List.mem_cons.mp hp with rfl | hp
      · have e1 := N5' _ (List.mem_append_right _ (.head _))
        exact ⟨e1.1, fresh _ e1.2.2 (hrow0 _ (Nat.le_refl _))⟩
      have e1 := N5' p (List.mem_append_right _ (.tail _ (List.mem_append_left _ hp)))
      refine ⟨e1.1, fresh _ e1.2.2 ?_⟩
      rcases List.mem_cons.mp hp with rfl | hp
      · exact out _ (.head _)
      rcases List.mem_cons.mp hp with rfl | hp
      · exact out _ (.tail _ (.head _))
      rcases List.mem_cons.mp hp with rfl | hp
      · exact out (hl, listOf #[] k) (.tail _ (.tail _ (.head _)))
      · cases hp
    · obtain ⟨T, u, v, e, r⟩ := ht1.2 j hj
      exact ⟨T, u, v, e, _, (N5' _ (List.mem_append_right _ (.tail _ (List.mem_append_right _ (.tail _ (List.mem_append_right _ r)))))).1, rfl, _, rfl⟩
end Mine
end
section
open PySem PySem.W PyProof.Rows PySem.Calls PySem.Spec
namespace Mine
local macro_rules | `(tactic| walk_at $s:str) => Mine.hl [] [] s
set_option maxHeartbeats 4000000 in
local macro_rules | `(tactic| walk_at $s:str) => Mine.hl [] [("call builtin:len", "@len")] s
theorem hlen_spec {prog : Program} {w : World} {A₀ : Around} {dp un : Nat} {gd : Option (List Code)} {s : Shared} {base h₀ : Heap} {outer : List Env} {L : Addr} {m mg mb : Str → Option Value} {env : Env}
    {p : Program} {loose : List Str} {mean : ExcName → Option Value} {Q E : Value → Shared → Prop}
    {x dx hl : Addr} {t : Tok} {its : Array Value} {k : Nat}
    (B : Below A₀ base outer h₀) (F : Fr h₀ L s.heap m) (X₀ : (hd.heap_39 w.params).In h₀) (T : Top p loose mean mg mb h₀) (hf : env.frame = some L) (hke : env.scope.kind = .function)
    (hroom : dp + 3 < recursionLimit) (N : News h₀ L s.heap (hdrL w.params x dx hl t its k)) (hz : its.size ≤ 1000)
    (ret : ∀ h' tk tk', But [] s.heap h' → Q (.int its.size tk') { s with heap := h', toks := tk }) :
    wpAny (model prog w) (Ar dp un gd (env :: outer)) (call (.ref 173) [.ref x] []) Q E s := by
  refine enter (args := ⟨[.ref x], []⟩) (mod := hdrL w.params x dx hl t its k) (binds := [(Str.ofString "self", .ref x)]) B F X₀ T N hf hke (by exact (LI2 (.im (.lt (.a V0 (.n 3)) V1) (.lt V0 V1))) hroom) (by k_is) (by k_is) (BindsTo.of_eq rfl) (locs rfl) (fun g h₁ hg hg' F' N' B' X' T' hlow => ?_) rfl rfl rfl (by decide)
  unfold hdrL at N'
  try dsimp only
  k_steps
  rename Fr _ _ _ _ => F2
  rename News _ _ _ _ => N2
  exact go (ret _ _ _ (but_same hg F2.keep (fun p hp => (N p hp).1) fun p hp => (N2 p hp).1))
end Mine
end
section
open PySem PySem.W PyProof.Rows PySem.Calls PySem.Spec PyProof
namespace Mine
local macro_rules | `(tactic| walk_at $s:str) => Mine.hl ["eval ListComp BinOp", "eval ListComp IfExp", "pyIter str", "call builtin:str.join"] [("eval Name", "@loc")] s
noncomputable def esc (b : Bool) (d : Nat) : List Nat := if b = false ∧ d = 1 then [97] else [92, chr d]
noncomputable def txt (b : Bool) (ds : List Nat) : List Nat := if b then ds.flatMap (esc true) ++ [10, 101, 110, 100] else [34] ++ ds.flatMap (esc false) ++ [34, 32, 101, 110, 100]
theorem join_esc (b : Bool) (ds : List Nat) : Txt.join (Str.ofString "") (ds.map fun d => (⟨(esc b d).toArray⟩ : Str)) = ⟨(ds.flatMap (esc b)).toArray⟩ := by
  rw [join_nil]; congr 2
  induction ds with
  | nil => rfl
  | cons c r ih => rw [List.map_cons, List.flatMap_cons, ih, List.flatMap_cons]
theorem sum_esc (b : Bool) (ds : List Nat) : ((ds.map fun d => (⟨(esc b d).toArray⟩ : Str)).map (·.length)).sum ≤ 2 * ds.length := by
  induction ds with
  | nil => exact Nat.le_refl _
  | cons c r ih =>
    rw [List.map_cons, List.map_cons, List.sum_cons, List.length_cons]
    have : (⟨(esc b c).toArray⟩ : Str).length ≤ 2 := by
      show ((esc b c).toArray).size ≤ 2
      unfold esc; split <;> simp
    exact (LI3 (.im (.le V0 (.m 2 V1)) (.im (.le V2 O2) (.le (.a V2 V0) (.m 2 (.a V1 O1)))))) ih this
theorem flat_esc (b : Bool) (ds : List Nat) : (ds.flatMap (esc b)).length ≤ 2 * ds.length := by
  induction ds with
  | nil => exact Nat.le_refl _
  | cons c r ih =>
    rw [List.flatMap_cons, List.length_append, List.length_cons]
    have : (esc b c).length ≤ 2 := by unfold esc; split <;> simp
    exact (LI3 (.im (.le V0 (.m 2 V1)) (.im (.le V2 O2) (.le (.a V2 V0) (.m 2 (.a V1 O1)))))) ih this
theorem txt_true (ds : List Nat) : ((⟨(ds.flatMap (esc true)).toArray⟩ : Str) ++ Str.ofString "\nend") = ⟨(txt true ds).toArray⟩ := by
  apply str_ext
  rw [Str.cps_append, Array.toList_append, show (Str.ofString "\nend").cps.toList = [10, 101, 110, 100] by decide +kernel]
  rfl
theorem txt_false (ds : List Nat) : (Str.ofString "\"" ++ (⟨(ds.flatMap (esc false)).toArray⟩ : Str) ++ Str.ofString "\" end") = ⟨(txt false ds).toArray⟩ := by
  apply str_ext
  rw [Str.cps_append, Array.toList_append, Str.cps_append, Array.toList_append, show (Str.ofString "\" end").cps.toList = [34, 32, 101, 110, 100] by decide +kernel, show (Str.ofString "\"").cps.toList = [34] by decide +kernel]
  rfl
set_option maxHeartbeats 4000000 in
theorem law_text_spec {prog : Program} {w : World} {A₀ : Around} {dp un : Nat} {gd : Option (List Code)} {s : Shared} {base h₀ : Heap} {outer : List Env} {L : Addr} {m mg mb : Str → Option Value} {env : Env}
    {p : Program} {loose : List Str} {mean : ExcName → Option Value} {Q E : Value → Shared → Prop}
    {ds : List Nat} {tw : Tok} {b : Bool}
    (B : Below A₀ base outer h₀) (F : Fr h₀ L s.heap m) (X₀ : (hd.heap_39 w.params).In h₀) (T : Top p loose mean mg mb h₀) (hf : env.frame = some L) (hke : env.scope.kind = .function)
    (hroom : dp + 3 < recursionLimit) (hd : D3 ds) (hz : ds.length ≤ 10)
    (ret : ∀ h' tk t', But [] s.heap h' → Q (.str ⟨(txt b ds).toArray⟩ t') { s with heap := h', toks := tk }) :
    wpAny (model prog w) (Ar dp un gd (env :: outer)) (call (.ref 286) [.str (tx ds) tw, .bool b] []) Q E s := by
  refine enter (args := ⟨[.str (tx ds) tw, .bool b], []⟩) (mod := []) (binds := [(Str.ofString "word", .str (tx ds) tw), (Str.ofString "bare", .bool b)]) B F X₀ T (fun _ h => by cases h) hf hke (by exact (LI2 (.im (.lt (.a V0 (.n 3)) V1) (.lt V0 V1))) hroom) (by k_is) (by k_is) (BindsTo.of_eq rfl) (locs rfl) (fun g h₁ hg hg' F' N' B' X' T' hlow => ?_) rfl rfl rfl (by decide)
  try dsimp only
  cases b
  · k_steps
    refine go ?_
    rename Fr _ _ _ _ => F2
    rename News _ _ _ _ => N2
    refine comp_rule (tst := none) (cl := []) rfl rfl rfl (by decide) (by decide) rfl ?_
    k_steps
    refine go ?_
    refine comp_str (fun i out led => led = [] ∧ StrsAre out ((ds.take i).map fun d => (⟨(esc false d).toArray⟩ : Str))) rfl F2 N2 (by rw [sizeLine_eq]; show (tx ds).length < _; rw [tx_len]; exact (LI1 (.im (.le V0 OX) (.lt V0 (.n 16777216)))) hz) ⟨rfl, .nil⟩ ?_ ?_
    · rintro D I s₂ g' i v out e0 led₁ h tk mC own hsI hID ⟨hh, tt, rfl⟩ hgg hL hk hi ⟨c, u, hc, rfl⟩ hle ⟨rfl, hI⟩ ho F3 N3
      refine wpAny_pure ?_
      rw [if_pos rfl]
      have hi' : i < ds.length := by rw [← tx_len ds]; exact hi
      have hc' : c = chr ds[i] := by
        rw [← Array.getElem?_toList, tx_list, List.getElem?_map, List.getElem?_eq_getElem hi'] at hc
        exact (Option.some.inj hc).symm
      have go1 : ∀ (n : Str) (t : Tok) (tk' : Nat), n = ⟨(esc false ds[i]).toArray⟩ → Halt (CompEnd g' (D + 1) D I (fun o l => l = [] ∧ StrsAre (o ++ [.str n t]) ((ds.take (i + 1)).map fun d => (⟨(esc false d).toArray⟩ : Str))) out e0 own { s with heap := hh, toks := tt } { s with heap := h, toks := tk' }) := by
        intro n t tk' e
        refine ⟨h, tk', _, _, rfl, F3, N3, ho, rfl, ?_⟩
        rw [List.take_add_one, List.getElem?_eq_getElem hi', List.map_append, e]
        exact strsAre_snoc hI _ _
      have h123 : ds[i] = 1 ∨ ds[i] = 2 ∨ ds[i] = 3 := by have := hd _ (List.getElem_mem hi'); exact (LI1 (.im (.le O1 V0) (.im (.le V0 (.n 3)) (.or (.eq V0 O1) (.or (.eq V0 O2) (.eq V0 (.n 3))))))) this.1 this.2
      subst hc'
      generalize ds[i] = d at *
      rcases h123 with rfl | rfl | rfl
      all_goals
        simp only [chr] at *
        k_steps
        exact go1 _ _ _ (by decide +kernel)
    · rintro D led' out k h tk hD ⟨rfl, hI⟩ F3 N3 hk
      k_steps
      refine go ?_
      rw [List.take_of_length_le (by rw [show (tx ds).cps.size = ds.length from tx_len ds]; exact Nat.le_refl _)] at hI
      refine join_list (News.isList N3 (.head _)) (ys := ds.map fun d => (⟨(esc false d).toArray⟩ : Str)) hI (by have := sum_esc false ds; rw [List.length_map, show (Str.ofString "").length = 0 by decide +kernel]; exact (LI2 (.im (.le V0 (.m 2 V1)) (.im (.le V1 OX) (.le (.a V0 (.w V1 0)) (.n 16777216))))) this hz) (fun t' k' => ?_)
      rw [join_esc]
      have hfz : (⟨(ds.flatMap (esc false)).toArray⟩ : Str).length ≤ 20 := by
        have := flat_esc false ds
        show ((ds.flatMap (esc false)).toArray).size ≤ 20
        rw [List.size_toArray]; exact (LI2 (.im (.le V0 (.m 2 V1)) (.im (.le V1 OX) (.le V0 (.n 20))))) this hz
      k_steps
      rename Fr _ _ _ _ => F9
      rw [txt_false]
      exact go (ret _ _ _ (fun c o _ e => F9.keep c o (hg c o (by simp) e)))
  · k_steps
    refine go ?_
    rename Fr _ _ _ _ => F2
    rename News _ _ _ _ => N2
    refine comp_rule (tst := none) (cl := []) rfl rfl rfl (by decide) (by decide) rfl ?_
    k_steps
    refine go ?_
    refine comp_str (fun i out led => led = [] ∧ StrsAre out ((ds.take i).map fun d => (⟨(esc true d).toArray⟩ : Str))) rfl F2 N2 (by rw [sizeLine_eq]; show (tx ds).length < _; rw [tx_len]; exact (LI1 (.im (.le V0 OX) (.lt V0 (.n 16777216)))) hz) ⟨rfl, .nil⟩ ?_ ?_
    · rintro D I s₂ g' i v out e0 led₁ h tk mC own hsI hID ⟨hh, tt, rfl⟩ hgg hL hk hi ⟨c, u, hc, rfl⟩ hle ⟨rfl, hI⟩ ho F3 N3
      refine wpAny_pure ?_
      rw [if_pos rfl]
      have hi' : i < ds.length := by rw [← tx_len ds]; exact hi
      have hc' : c = chr ds[i] := by
        rw [← Array.getElem?_toList, tx_list, List.getElem?_map, List.getElem?_eq_getElem hi'] at hc
        exact (Option.some.inj hc).symm
      have go1 : ∀ (n : Str) (t : Tok) (tk' : Nat), n = ⟨(esc true ds[i]).toArray⟩ → Halt (CompEnd g' (D + 1) D I (fun o l => l = [] ∧ StrsAre (o ++ [.str n t]) ((ds.take (i + 1)).map fun d => (⟨(esc true d).toArray⟩ : Str))) out e0 own { s with heap := hh, toks := tt } { s with heap := h, toks := tk' }) := by
        intro n t tk' e
        refine ⟨h, tk', _, _, rfl, F3, N3, ho, rfl, ?_⟩
        rw [List.take_add_one, List.getElem?_eq_getElem hi', List.map_append, e]
        exact strsAre_snoc hI _ _
      have h123 : ds[i] = 1 ∨ ds[i] = 2 ∨ ds[i] = 3 := by have := hd _ (List.getElem_mem hi'); exact (LI1 (.im (.le O1 V0) (.im (.le V0 (.n 3)) (.or (.eq V0 O1) (.or (.eq V0 O2) (.eq V0 (.n 3))))))) this.1 this.2
      subst hc'
      generalize ds[i] = d at *
      rcases h123 with rfl | rfl | rfl
      all_goals
        simp only [chr] at *
        k_steps
        exact go1 _ _ _ (by decide +kernel)
    · rintro D led' out k h tk hD ⟨rfl, hI⟩ F3 N3 hk
      k_steps
      refine go ?_
      rw [List.take_of_length_le (by rw [show (tx ds).cps.size = ds.length from tx_len ds]; exact Nat.le_refl _)] at hI
      refine join_list (News.isList N3 (.head _)) (ys := ds.map fun d => (⟨(esc true d).toArray⟩ : Str)) hI (by have := sum_esc true ds; rw [List.length_map, show (Str.ofString "").length = 0 by decide +kernel]; exact (LI2 (.im (.le V0 (.m 2 V1)) (.im (.le V1 OX) (.le (.a V0 (.w V1 0)) (.n 16777216))))) this hz) (fun t' k' => ?_)
      rw [join_esc]
      have hfz : (⟨(ds.flatMap (esc true)).toArray⟩ : Str).length ≤ 20 := by
        have := flat_esc true ds
        show ((ds.flatMap (esc true)).toArray).size ≤ 20
        rw [List.size_toArray]; exact (LI2 (.im (.le V0 (.m 2 V1)) (.im (.le V1 OX) (.le V0 (.n 20))))) this hz
      k_steps
      rename Fr _ _ _ _ => F9
      rw [txt_true]
      exact go (ret _ _ _ (fun c o _ e => F9.keep c o (hg c o (by simp) e)))
end Mine
end
section
open PySem PySem.W PyProof.Rows PySem.Calls PySem.Spec PyProof
namespace Mine
local macro_rules | `(tactic| walk_at $s:str) => Mine.hl [] [] s
local macro_rules | `(tactic| walk_at $s:str) => Mine.hl ["exec For Name Call cons cons cons nil", "exec For Name Call cons nil", "exec While BoolOp cons nil", "call builtin:list.append", "pyIter ref"] [] s
theorem item_tx {w : List Nat} {i : Nat} (h : i < w.length) : Txt.item (tx w) (i : Int) = ⟨#[chr w[i]]⟩ := item_meets (by exact (LI1 (.il O0 (.ca V0)))) (by
  rw [Int.toNat_natCast, ← Array.getElem?_toList, tx_list, List.getElem?_map, List.getElem?_eq_getElem h]; rfl)
theorem item_eq {w : List Nat} (hd : D3 w) {i j : Nat} (hi : i < w.length) (hj : j < w.length) : (Txt.item (tx w) (i : Int) == Txt.item (tx w) (j : Int)) = decide (w.getD i 0 = w.getD j 0) := by
  rw [item_tx hi, item_tx hj, List.getD_eq_getElem?_getD, List.getD_eq_getElem?_getD, List.getElem?_eq_getElem hi, List.getElem?_eq_getElem hj, Option.getD_some, Option.getD_some]
  by_cases e : w[i] = w[j]
  · rw [e, decide_eq_true rfl]; simp
  · rw [decide_eq_false e]
    refine beq_eq_false_iff_ne.mpr fun q => e (chr_inj (hd _ (List.getElem_mem hi)) (hd _ (List.getElem_mem hj)) ?_)
    have := congrArg (fun s : Str => s.cps.toList) q
    simpa using this
noncomputable def grow (ds : List Nat) : Nat → Nat → List (List Nat) → List (List Nat)
  | 0, _, f => f
  | lf + 1, r, f => if r < ds.length ∧ ds.getD lf 0 = ds.getD r 0 then grow ds lf (r + 1) (if sub ds lf (r + 1) ∈ f then f else f ++ [sub ds lf (r + 1)]) else f
noncomputable def outw (ds : List Nat) : Nat → List (List Nat)
  | 0 => []
  | n + 1 => grow ds (n / 2 + 1) ((n + 1) / 2) (outw ds n)
theorem grow_D3 {ds : List Nat} (hd : D3 ds) : ∀ lf r f, (∀ p ∈ f, D3 p) → ∀ p ∈ grow ds lf r f, D3 p := fun lf => by
  induction lf with
  | zero => exact fun _ _ h => h
  | succ lf ih =>
    intro r f h
    show ∀ p ∈ (if r < ds.length ∧ ds.getD lf 0 = ds.getD r 0 then _ else _), D3 p
    split
    · refine ih (r + 1) _ ?_
      split
      · exact h
      · intro p hp
        rcases List.mem_append.mp hp with hp | hp
        · exact h p hp
        · rw [List.mem_singleton.mp hp]; exact sub_D3 hd _ _
    · exact h
theorem outw_D3 {ds : List Nat} (hd : D3 ds) : ∀ n, ∀ p ∈ outw ds n, D3 p := fun n => Nat.rec (fun _ h => absurd h List.not_mem_nil) (fun _ ih => grow_D3 hd _ _ _ ih) n
theorem any_tx {f : List (List Nat)} {z : List Nat} (hf : ∀ p ∈ f, D3 p) (hz : D3 z) : ((f.map tx).any fun y => y == tx z) = decide (z ∈ f) := by
  induction f with
  | nil => rfl
  | cons a r ih =>
    rw [List.map_cons, List.any_cons, tx_beq (hf a (.head _)) hz, ih fun p hp => hf p (.tail _ hp)]
    by_cases e : a = z
    · subst e; simp
    · have e' : z ≠ a := fun q => e q.symm
      simp [e, e']
set_option maxHeartbeats 4000000 in
theorem law_outward_spec {prog : Program} {w : World} {A₀ : Around} {dp un : Nat} {gd : Option (List Code)} {s : Shared} {base h₀ : Heap} {outer : List Env} {L : Addr} {m mg mb : Str → Option Value} {env : Env}
    {p : Program} {loose : List Str} {mean : ExcName → Option Value} {Q E : Value → Shared → Prop}
    {ds : List Nat} {tw : Tok}
    (B : Below A₀ base outer h₀) (F : Fr h₀ L s.heap m) (X₀ : (hd.heap_39 w.params).In h₀) (T : Top p loose mean mg mb h₀) (hf : env.frame = some L) (hke : env.scope.kind = .function)
    (hroom : dp + 3 < recursionLimit) (hd : D3 ds) (hz : ds.length ≤ 10) (hne : ds ≠ [])
    (ret : ∀ l its k h' tk, But [] s.heap h' → h'.get? l = some (listOf its k) → s.heap.get? l = none → StrsAre its.toList ((outw ds (2 * ds.length - 1)).map tx) → Q (.ref l) { s with heap := h', toks := tk }) :
    wpAny (model prog w) (Ar dp un gd (env :: outer)) (call (.ref 320) [.str (tx ds) tw] []) Q E s := by
  have hXl := tx_len ds
  obtain ⟨X, hX⟩ : ∃ X, tx ds = X := ⟨_, rfl⟩
  rw [hX] at hXl ⊢
  have hXz : X.length ≤ 10 := by exact (LI2 (.im (.eq V0 V1) (.im (.le V1 OX) (.le V0 OX)))) hXl hz
  have hpos : 0 < ds.length := List.length_pos_iff.mpr hne
  refine enter (args := ⟨[.str X tw], []⟩) (mod := []) (binds := [(Str.ofString "word", .str X tw)]) B F X₀ T (fun _ h => by cases h) hf hke (by exact (LI2 (.im (.lt (.a V0 (.n 3)) V1) (.lt V0 V1))) hroom) (by k_is) (by k_is) (BindsTo.of_eq rfl) (locs rfl) (fun g h₁ hg hg' F' N' B' X' T' hlow => ?_) rfl rfl rfl (by decide)
  try dsimp only
  k_steps
  refine go ?_
  refine For_invV g rfl rfl ?_
  k_steps
  refine go ?_
  rename IsRange _ _ _ _ _ _ _ _ => hR
  rename Fr _ _ _ _ => F3
  rename News _ _ _ _ => N3
  rename_i tk0 found h2 fl h3 F0 N0 h4 tk5 t1 u1 v1 a1
  refine for_range1 rfl hR (by exact (LI0 (.il (.ng (.n 1000)) O0))) (by exact (LI0 (.il O0 (.n 1000)))) (by exact (LI1 (.il (.ng (.n 1000)) (.s (.m 2 (.ca V0)) O1)))) (by exact (LI2 (.im (.eq V0 V1) (.im (.le V1 OX) (.il (.s (.m 2 (.ca V0)) O1) (.n 1000))))) hXl hz) (2 * ds.length - 1) (by exact (LI2 (.im (.eq V0 V1) (.eq (.tn (.s (.s (.m 2 (.ca V0)) O1) O0)) (.s (.m 2 V1) O1)))) hXl) F3 N3 (fun n m led => Has m [(Str.ofString "found", .ref found), (Str.ofString "word", .str X tw)] ∧ E2 fun its k => A3 (led = [(found, listOf its k)]) (StrsAre its.toList ((outw ds n).map tx)) (its.size ≤ 20 * n)) ?_ ?_ ?_
  · exact ⟨⟨rfl, rfl, trivial⟩, #[], 0, rfl, .nil, Nat.zero_le _⟩
  · rintro I n v m₁ led₁ h tk own hI hn ⟨tv, rfl⟩ ⟨hm, its, k, rfl, hs1, hz1⟩ ho hown F4 N4 ⟨oI, hoI⟩ R1 hR1
    have F4 := fr_has (m := fun y => if y = Str.ofString "middle" then some (Value.int (0 + n) tv) else m₁ y) F4 [(Str.ofString "middle", .int (0 + n) tv), (Str.ofString "found", .ref found), (Str.ofString "word", .str X tw)] ⟨rfl, hm.1, hm.2.1, trivial⟩
    simp only [List.cons_append, List.nil_append] at N4
    have hfI : found ≠ I := ho _ (.head _)
    k_steps
    refine go ?_
    rename Fr _ _ _ _ => F5
    rename News _ _ _ _ => N5
    have e1 : (0 + (n : Int)).fdiv 2 = ((n / 2 + 1 : Nat) : Int) - 1 := by rw [fdiv_eq _ (by decide), Int.zero_add]; show ((n / 2 : Nat) : Int) = _; exact (LI1 (.je (.ca V0) (.s (.ca (.a V0 O1)) O1)))
    have e2 : (0 + (n : Int) + 1).fdiv 2 = (((n + 1) / 2 : Nat) : Int) := by rw [fdiv_eq _ (by decide), Int.zero_add]; rfl
    rw [e1, e2] at F5
    refine while_rule (fun q s' => E10 fun h tk m' lf r f its k' tl tr => A11 (s' = { s with heap := h, toks := tk }) (Fr g s.heap.objs.size h m') (News g s.heap.objs.size h ((found, listOf its k') :: own)) (Has m' [(Str.ofString "left", .int ((lf : Nat) - 1 : Int) tl), (Str.ofString "right", .int (r : Nat) tr), (Str.ofString "middle", .int (0 + n) tv), (Str.ofString "found", .ref found), (Str.ofString "word", .str X tw)]) (StrsAre its.toList (f.map tx)) (grow ds lf r f = outw ds (n + 1)) (lf ≤ ds.length) (lf ≤ r + 1) (∀ p ∈ f, D3 p) (its.size + lf ≤ 20 * n + 10) (q = lf)) ?_ (n / 2 + 1) ?_
    · rintro q s' ⟨h, tk, m', lf, r, f, its, k', tl, tr, rfl, F6, N6, hm6, hs6, hg6, hlf, hlr, hD6, hz6, hq⟩ R2 S2 hR2 hS2
      have F6 := fr_has F6 [(Str.ofString "left", .int ((lf : Nat) - 1 : Int) tl), (Str.ofString "right", .int (r : Nat) tr), (Str.ofString "middle", .int (0 + n) tv), (Str.ofString "found", .ref found), (Str.ofString "word", .str X tw)] ⟨hm6.1, hm6.2.1, hm6.2.2.1, hm6.2.2.2.1, hm6.2.2.2.2.1, trivial⟩
      rcases lf with _ | l
      · k_steps
        refine hS2 _ ?_
        k_steps
        refine hR1 _ _ ?_
        refine go ⟨_, _, _, [(found, listOf its k')], rfl, F6, N6, ?_, ⟨rfl, rfl, trivial⟩, its, k', rfl, ?_, ?_⟩
        · intro p hp; rw [List.mem_singleton.mp hp]; exact hfI
        · rw [← hg6]; exact hs6
        · exact (LI2 (.im (.le (.a V0 O0) (.a (.m 20 V1) OX)) (.le V0 (.m 20 (.a V1 O1))))) hz6
      · rw [show ((l + 1 : Nat) : Int) - 1 = (l : Nat) by exact (LI1 (.je (.s (.ca (.a V0 O1)) O1) (.ca V0)))] at F6
        have hslice : r < ds.length → Txt.slice X (some (l : Int)) (some ((r : Int) + 1)) = tx (sub ds l (r + 1)) := fun hr => by
          rw [← hX]; exact slice_tx (w := ds) (a := l) (b := r + 1) (by exact (LI2 (.im (.le (.a V0 O1) (.a V1 O1)) (.le V0 (.a V1 O1)))) hlr) (by exact (LI2 (.im (.lt V0 V1) (.le (.a V0 O1) V1))) hr)
        have hitem : r < ds.length → (Txt.item X (l : Int) == Txt.item X (r : Int)) = decide (ds.getD l 0 = ds.getD r 0) := fun hr => by
          rw [← hX]; exact item_eq hd (by exact (LI2 (.im (.le (.a V0 O1) V1) (.lt V0 V1))) hlf) hr
        have hgr : grow ds (l + 1) r f = if r < ds.length ∧ ds.getD l 0 = ds.getD r 0 then grow ds l (r + 1) (if sub ds l (r + 1) ∈ f then f else f ++ [sub ds l (r + 1)]) else f := by rw [grow]
        k_steps
        · -- found already
          rename Fr _ _ _ _ => F9
          rename News _ _ _ _ => N9
          rename (Txt.item X _ == Txt.item X _) = _ => z2
          rename (List.map tx f).any _ = _ => z0
          have hr : r < ds.length := by exact (LI3 (.im (.jl (.ca V0) (.ca V1)) (.im (.eq V1 V2) (.lt V0 V2)))) (by assumption) hXl
          rw [hslice hr, any_tx hD6 (sub_D3 hd _ _)] at z0
          rw [hitem hr] at z2
          rw [hgr, if_pos ⟨hr, of_decide_eq_true z2⟩, if_pos (of_decide_eq_true z0)] at hg6
          refine hR2 _ _ ?_
          exact go ⟨l, by exact (LI2 (.im (.eq V0 (.a V1 O1)) (.lt V1 V0))) hq, _, _, _, l, r + 1, f, its, k', _, _, rfl, F9, N9, ⟨rfl, rfl, rfl, rfl, rfl, trivial⟩, hs6, hg6, by exact (LI2 (.im (.le (.a V0 O1) V1) (.le V0 V1))) hlf, by exact (LI2 (.im (.le (.a V0 O1) (.a V1 O1)) (.le V0 (.a (.a V1 O1) O1)))) hlr, hD6, by exact (LI3 (.im (.le (.a V0 (.a V1 O1)) (.a (.m 20 V2) OX)) (.le (.a V0 V1) (.a (.m 20 V2) OX)))) hz6, rfl⟩
        · rename_i h12 t12 k12 F12 N12 y0
          rename (Txt.item X _ == Txt.item X _) = _ => z3
          rename (List.map tx f).any _ = _ => z0
          refine go ?_
          have hr : r < ds.length := by exact (LI3 (.im (.jl (.ca V0) (.ca V1)) (.im (.eq V1 V2) (.lt V0 V2)))) (by assumption) hXl
          rw [hslice hr, any_tx hD6 (sub_D3 hd _ _)] at z0
          rw [hitem hr] at z3
          rw [hgr, if_pos ⟨hr, of_decide_eq_true z3⟩, if_neg (of_decide_eq_false z0)] at hg6
          rw [hslice hr]
          refine append_K (D := found) (its := its) (n := k') F12 N12 (.head fun p hp => ?_) (fun h14 F14 N14 => ?_) (by rw [sizeLine_eq]; exact (LI4 (.im (.le (.a V0 (.a V1 O1)) (.a (.m 20 V2) OX)) (.im (.lt V2 (.s (.m 2 V3) O1)) (.im (.le V3 OX) (.le V0 (.n 16777216)))))) hz6 hn hz)
          · rw [hown p hp]; exact fun q => hfI q.symm
          have hs7 := strsAre_snoc hs6 (tx (sub ds l (r + 1))) t12
          k_steps
          rename_i F15 N15
          refine hR2 _ _ ?_
          exact go ⟨l, by exact (LI2 (.im (.eq V0 (.a V1 O1)) (.lt V1 V0))) hq, _, _, _, l, r + 1, f ++ [sub ds l (r + 1)], its.push _, _, _, _, rfl, F15, N15, ⟨rfl, rfl, rfl, rfl, rfl, trivial⟩, by rw [List.map_append]; simpa using hs7, hg6, by exact (LI2 (.im (.le (.a V0 O1) V1) (.le V0 V1))) hlf, by exact (LI2 (.im (.le (.a V0 O1) (.a V1 O1)) (.le V0 (.a (.a V1 O1) O1)))) hlr, fun p hp => (List.mem_append.mp hp).elim (hD6 p) fun hp => by rw [List.mem_singleton.mp hp]; exact sub_D3 hd _ _, by rw [Array.size_push]; exact (LI3 (.im (.le (.a V0 (.a V1 O1)) (.a (.m 20 V2) OX)) (.le (.a (.a V0 O1) V1) (.a (.m 20 V2) OX)))) hz6, rfl⟩
        · rename (Txt.item X _ == Txt.item X _) = _ => z0
          have hr : r < ds.length := by exact (LI3 (.im (.jl (.ca V0) (.ca V1)) (.im (.eq V1 V2) (.lt V0 V2)))) (by assumption) hXl
          rw [hitem hr] at z0
          rw [hgr, if_neg fun q => of_decide_eq_false z0 q.2] at hg6
          refine hS2 _ ?_
          k_steps
          refine hR1 _ _ ?_
          refine go ⟨_, _, _, [(found, listOf its k')], rfl, F6, N6, ?_, ⟨rfl, rfl, trivial⟩, its, k', rfl, ?_, ?_⟩
          · intro p hp; rw [List.mem_singleton.mp hp]; exact hfI
          · rw [← hg6]; exact hs6
          · exact (LI3 (.im (.le (.a V0 (.a V1 O1)) (.a (.m 20 V2) OX)) (.le V0 (.m 20 (.a V2 O1))))) hz6
        · rename ¬((_:Int) < _) => z0
          rw [hgr, if_neg fun q => z0 (by exact (LI3 (.im (.lt V0 V1) (.im (.eq V2 V1) (.jl (.ca V0) (.ca V2))))) q.1 hXl)] at hg6
          refine hS2 _ ?_
          k_steps
          refine hR1 _ _ ?_
          refine go ⟨_, _, _, [(found, listOf its k')], rfl, F6, N6, ?_, ⟨rfl, rfl, trivial⟩, its, k', rfl, ?_, ?_⟩
          · intro p hp; rw [List.mem_singleton.mp hp]; exact hfI
          · rw [← hg6]; exact hs6
          · exact (LI3 (.im (.le (.a V0 (.a V1 O1)) (.a (.m 20 V2) OX)) (.le V0 (.m 20 (.a V2 O1))))) hz6
    · exact ⟨_, _, _, n / 2 + 1, (n + 1) / 2, outw ds n, its, k, _, _, rfl, F5, N5, ⟨rfl, rfl, rfl, rfl, rfl, trivial⟩, hs1, rfl, by exact (LI3 (.im (.dv V0 2 2) (.im (.lt V0 (.s (.m 2 V1) O1)) (.le (.a V2 O1) V1)))) rfl hn, by exact (LI3 (.im (.dv V0 2 1) (.im (.dv (.a V0 O1) 2 2) (.le (.a V1 O1) (.a V2 O1))))) rfl rfl, outw_D3 hd n, by exact (LI4 (.im (.dv V0 2 3) (.im (.lt V0 (.s (.m 2 V1) O1)) (.im (.le V2 (.m 20 V0)) (.im (.le V1 OX) (.le (.a V2 (.a V3 O1)) (.a (.m 20 V0) OX))))))) rfl hn hz1 hz, rfl⟩
  · rintro m' led' h tk ⟨hm, its, k, rfl, hs1, hz1⟩ F4 N4
    have F4 := fr_has F4 [(Str.ofString "found", .ref found), (Str.ofString "word", .str X tw)] ⟨hm.1, hm.2.1, trivial⟩
    k_steps
    have k2 : But [] s.heap h := fun b o _ e => F4.keep b o (hg b o (fun q => by cases q) e)
    refine go (ret found its k h _ k2 (N4 _ (.head _)).1 ?_ hs1)
    cases e : s.heap.get? found with
    | none => rfl
    | some o => have := hg found o (fun q => by cases q) e; rw [(N4 _ (.head _)).2.2] at this; cases this
end Mine
end
section
open PySem PySem.W PyProof.Rows PySem.Calls PySem.Spec
namespace Mine
theorem owner_cit : Manifest.owners.lookup (String.ofList ['r', 'o', 't', 'a', 'r', 'e', 't', 'i', '_', 'e', 'l', 'b', 'a', 'l', 'l', 'a', 'c'].reverse) = some Manifest.sig_callable_iterator := by kernel_rfl
theorem slot_cit_next : Slot "callable_iterator" "__next__" "callable_iterator.__next__" :=
  .of (owner := "callable_iterator") (n := "__next__") (by rw [typeLookup_type, builtinLookup_eq_fast]; kernel_rfl) (by decide +kernel) (by decide +kernel) (by decide +kernel)
    (by first | exact .inl (by decide +kernel) | exact .inr (by decide +kernel)) (by rw [isSubtype_type]; kernel_rfl)
theorem entry_cit_next : entryFor table "callable_iterator.__next__" = some Builtin.«callable_iterator.__next__» := entryFor_of_tree (by kernel_rfl)
theorem args_cit_next (a : Value) : argsOk "callable_iterator.__next__" ⟨[a], []⟩ := by
  unfold argsOk; rw [signature?_of (id := "callable_iterator.__next__") (n := ['_', '_', 't', 'x', 'e', 'n', '_', '_']) (o := ['r', 'o', 't', 'a', 'r', 'e', 't', 'i', '_', 'e', 'l', 'b', 'a', 'l', 'l', 'a', 'c']) (by kernel_rfl) owner_cit]; kernel_rfl
theorem slot_cit_iter : Slot "callable_iterator" "__iter__" "callable_iterator.__iter__" :=
  .of (owner := "callable_iterator") (n := "__iter__") (by rw [typeLookup_type, builtinLookup_eq_fast]; kernel_rfl) (by decide +kernel) (by decide +kernel) (by decide +kernel)
    (by first | exact .inl (by decide +kernel) | exact .inr (by decide +kernel)) (by rw [isSubtype_type]; kernel_rfl)
theorem args_cit_iter (a : Value) : argsOk "callable_iterator.__iter__" ⟨[a], []⟩ := by
  unfold argsOk; rw [signature?_of (id := "callable_iterator.__iter__") (n := ['_', '_', 'r', 'e', 't', 'i', '_', '_']) (o := ['r', 'o', 't', 'a', 'r', 'e', 't', 'i', '_', 'e', 'l', 'b', 'a', 'l', 'l', 'a', 'c']) (by kernel_rfl) owner_cit]; kernel_rfl
theorem entry_cit_iter : entryFor table "callable_iterator.__iter__" = some Builtin.«dict_keyiterator.__iter__» :=
  entryFor_alias (id' := "dict_keyiterator.__iter__") (by kernel_rfl) (by first | rfl | decide +kernel | (unfold String.splitOn; simp +decide [String.splitOnAux])) (by decide +kernel) (by kernel_rfl)
theorem callBorrowed_eq (f : Value) (pos : List Value) : callBorrowed f pos = (call f pos).keep [borrowed] := by
  show Sem.call _ _ _ _ _ = Sem.call _ _ _ _ _
  congr 1
  funext r
  cases r with
  | ok f => cases f <;> rfl
  | error e => rfl
noncomputable def citO (f : Value) (x : Str) (t : Tok) : Obj := { cls := .type "callable_iterator", data := .fields #[f, .str x t, .bool false] }
noncomputable def endO : Obj := { cls := .type "callable_iterator", data := .fields #[.none, .none, .bool true] }
section
variable {prog : Program} {w : World} {A : Around} {E : Value → Shared → Prop} {s : Shared}
theorem iter_self {I : Addr} {f : Value} {x : Str} {t : Tok} {Q : Value → Shared → Prop} (hI : s.heap.get? I = some (citO f x t)) (h : Q (.ref I) s) : wpAny (model prog w) A (pyIter (.ref I)) Q E s := by
  have hT : s.TypeIs (.ref I) "callable_iterator" := ⟨_, hI, rfl⟩
  refine wpAny_pyIter_slot hT slot_cit_iter (wpAny_call_entry slot_cit_iter hT entry_cit_iter ?_ (args_cit_iter _))
  show wpAny _ _ (ret (.ref I)) _ _ s
  exact wpAny_pure ⟨_, rfl, "callable_iterator", _, hT, slot_cit_next.lookup, h⟩
theorem borrows {M g : Addr} {o : Obj} {vs : Array Value} {og : Obj} {fd : FuncData} {Q : Bool → Shared → Prop} (hM : s.heap.get? M = some o) (hc : o.cls = .type "method") (hd : o.data = .fields vs) (hv : vs[0]? = some (.ref g)) (hg : s.heap.get? g = some og) (hgd : og.data = .func fd)
    (h : Q true s) : wpAny (model prog w) A (borrowsExactly (.ref M)) Q E s := by
  have e : vs.getD 0 .none = .ref g := by rw [Array.getD_eq_getD_getElem?, hv]; rfl
  unfold borrowsExactly
  refine wpAny_bind (wpAny_load hM ?_)
  rw [hd]
  simp only [hc, e]
  rw [if_pos (by decide)]
  refine wpAny_bind (wpAny_load hg ?_)
  rw [hgd]
  exact wpAny_pure h
theorem borrowed_call {M g : Addr} {o : Obj} {vs : Array Value} {og : Obj} {fd : FuncData} {pos : List Value} {Q : Value → Shared → Prop} (hM : s.heap.get? M = some o) (hc : o.cls = .type "method") (hd : o.data = .fields vs) (hv : vs[0]? = some (.ref g)) (hg : s.heap.get? g = some og) (hgd : og.data = .func fd)
    (h : wpAny (model prog w) A (call (.ref M) pos) Q E s) : wpAny (model prog w) A (callOutOfASlot (.ref M) pos) Q E s := by
  unfold callOutOfASlot
  refine wpAny_bind (borrows hM hc hd hv hg hgd ?_)
  rw [if_pos rfl, callBorrowed_eq]
  exact wpAny_keep h
theorem next_cit {I M g : Addr} {x : Str} {t : Tok} {o : Obj} {vs : Array Value} {og : Obj} {fd : FuncData} {Q : Option Value → Shared → Prop}
    (hh : A.handled = none)
    (hI : s.heap.get? I = some (citO (.ref M) x t)) (hM : s.heap.get? M = some o) (hc : o.cls = .type "method") (hd : o.data = .fields vs) (hv : vs[0]? = some (.ref g)) (hg : s.heap.get? g = some og) (hgd : og.data = .func fd)
    (h : wpAny (model prog w) A.in1 (call (.ref M) []) (fun v s' => E2 fun y u => A6 (v = .str y u) (s'.heap.get? I = some (citO (.ref M) x t)) (s'.heap.get? M = some o) (s'.heap.get? g = some og) (y ≠ x → Q (some v) s') (y = x → ∀ h', (∀ b o, b ≠ I → s'.heap.get? b = some o → h'.get? b = some o) → h'.get? I = some endO → Q none { s' with heap := h' })) (fun _ _ => False) s) :
    wpAny (model prog w) A (pyNext (.ref I)) Q E s := by
  have hT : s.TypeIs (.ref I) "callable_iterator" := ⟨_, hI, rfl⟩
  unfold pyNext
  refine wpAny_bind (wpAny_attempt (wpAny_callSpecial?_slot (name := Str.ofString "__next__") hT slot_cit_next
    (wpAny_call_entry slot_cit_next hT entry_cit_next ?_ (args_cit_next _))))
  show wpAny _ _ (field (.ref I) 2 >>= _) _ _ s
  refine wpAny_bind (wpAny_field hI rfl (x := .bool false) rfl ?_)
  show wpAny _ _ (if (Value.bool false == Value.bool true) = true then _ else _) _ _ s
  rw [if_neg (by decide)]
  refine wpAny_bind (wpAny_field hI rfl (x := .ref M) rfl ?_)
  refine wpAny_bind (wpAny_attempt (borrowed_call hM hc hd hv hg hgd (wpAny_mono h (fun v s' q => ?_) fun _ _ q => q.elim)))
  obtain ⟨y, u, rfl, hI', hM', hg', q1, q2⟩ := q
  dsimp only
  refine wpAny_bind (wpAny_field hI' rfl (x := .bool false) rfl ?_)
  show wpAny _ _ (if (Value.bool false == Value.bool true) = true then _ else _) _ _ s'
  rw [if_neg (by decide)]
  refine wpAny_bind (wpAny_field hI' rfl (x := .str x t) rfl ?_)
  refine wpAny_bind (wpAny_holding (wpAny_eqBool_str ?_))
  by_cases e : y = x
  · subst e
    rw [if_neg (by simp)]
    refine wpAny_bind (wpAny_rule ?_)
    refine wpAny_bind ?_
    show wpAny _ _ (field (.ref I) 0 >>= _) _ _ _
    refine wpAny_bind (wpAny_field hI' rfl (x := .ref M) rfl ?_)
    refine wpAny_bind ?_
    · unfold slotLetsGo
      refine wpAny_bind (borrows hM' hc hd hv hg' hgd ?_)
      rw [if_pos rfl]
      refine wpAny_pure ?_
      refine wpAny_bind (wpAny_setField hI' rfl (by simp) ?_)
      have hI1 := Heap.get?_update_self (f := Obj.mapFields (·.setIfInBounds 0 .none)) hI' (Obj.isFreed_of_fields (Obj.data_mapFields rfl _))
      have k1 : Heap.SameBut I s'.heap (s'.heap.update I (Obj.mapFields (·.setIfInBounds 0 .none))) := Heap.SameBut.update ..
      refine wpAny_bind (wpAny_setField hI1 (Obj.data_mapFields rfl _) (by simp) ?_)
      have hI2 := Heap.get?_update_self (f := Obj.mapFields (·.setIfInBounds 1 .none)) hI1 (Obj.isFreed_of_fields (Obj.data_mapFields (Obj.data_mapFields rfl _) _))
      refine wpAny_setField hI2 (Obj.data_mapFields (Obj.data_mapFields rfl _) _) (by simp) ?_
      have hI3 := Heap.get?_update_self (f := Obj.mapFields (·.setIfInBounds 2 (.bool true))) hI2 (Obj.isFreed_of_fields (Obj.data_mapFields (Obj.data_mapFields (Obj.data_mapFields rfl _) _) _))
      have k : ∀ b o, b ≠ I → s'.heap.get? b = some o → (((s'.heap.update I (Obj.mapFields (·.setIfInBounds 0 .none))).update I (Obj.mapFields (·.setIfInBounds 1 .none))).update I (Obj.mapFields (·.setIfInBounds 2 (.bool true)))).get? b = some o := fun b o hb eb =>
        (Heap.SameBut.update ..).extBut b o hb ((Heap.SameBut.update ..).extBut b o hb ((Heap.SameBut.update ..).extBut b o hb eb))
      show wpAny _ _ (newExc (.type "StopIteration") [] >>= _) _ _ _
      refine wpAny_bind ?_
      simp only [newExc, newTuple]
      refine wpAny_bind (wpAny_newObj_type ?_ (by size_fits))
      refine wpAny_bind (m := firstArgMember _ _) (wpAny_of_eq (a := Value.none) (by first | rfl | (simp only [firstArgMember]; rfl)) ?_)
      refine wpAny_newObj_type ?_ (by size_fits)
      simp only [raiseNew]
      refine wpAny_bind (wpAny_handled ?_)
      rw [show A.in1.handled = none from hh]
      refine wpAny_bind (wpAny_pure (wpAny_throw ?_))
      refine wpAny_bind (wpAny_isInstance (T := "StopIteration") (b := true) ⟨_, Heap.get?_push_size _ rfl, rfl⟩ isSubtype_stop ?_)
      exact wpAny_pure (q2 rfl _ (fun b o hb eb => Heap.get?_push_of_some _ (Heap.get?_push_of_some _ (k b o hb eb))) (Heap.get?_push_of_some _ (Heap.get?_push_of_some _ hI3)))
  · rw [if_pos (by simpa using fun q => e q.symm)]
    refine wpAny_bind (wpAny_pure ?_)
    exact wpAny_pure ⟨_, rfl, wpAny_pure (q1 e)⟩
theorem iter_end {I : Addr} {Q : Value → Shared → Prop} (hI : s.heap.get? I = some endO) (h : Q (.ref I) s) : wpAny (model prog w) A (pyIter (.ref I)) Q E s := by
  have hT : s.TypeIs (.ref I) "callable_iterator" := ⟨_, hI, rfl⟩
  refine wpAny_pyIter_slot hT slot_cit_iter (wpAny_call_entry slot_cit_iter hT entry_cit_iter ?_ (args_cit_iter _))
  show wpAny _ _ (ret (.ref I)) _ _ s
  exact wpAny_pure ⟨_, rfl, "callable_iterator", _, hT, slot_cit_next.lookup, h⟩
theorem next_end {I : Addr} {Q : Option Value → Shared → Prop} (hh : A.handled = none) (hI : s.heap.get? I = some endO)
    (h : ∀ h', (∀ b o, s.heap.get? b = some o → h'.get? b = some o) → Q none { s with heap := h' }) :
    wpAny (model prog w) A (pyNext (.ref I)) Q E s := by
  have hT : s.TypeIs (.ref I) "callable_iterator" := ⟨_, hI, rfl⟩
  unfold pyNext
  refine wpAny_bind (wpAny_attempt (wpAny_callSpecial?_slot (name := Str.ofString "__next__") hT slot_cit_next
    (wpAny_call_entry slot_cit_next hT entry_cit_next ?_ (args_cit_next _))))
  show wpAny _ _ (field (.ref I) 2 >>= _) _ _ s
  refine wpAny_bind (wpAny_field hI rfl (x := .bool true) rfl ?_)
  show wpAny _ _ (if (Value.bool true == Value.bool true) = true then _ else _) _ _ s
  rw [if_pos (by decide)]
  refine wpAny_bind (wpAny_rule ?_)
  refine wpAny_bind ?_
  show wpAny _ _ (newExc (.type "StopIteration") [] >>= _) _ _ _
  refine wpAny_bind ?_
  simp only [newExc, newTuple]
  refine wpAny_bind (wpAny_newObj_type ?_ (by size_fits))
  refine wpAny_bind (m := firstArgMember _ _) (wpAny_of_eq (a := Value.none) (by first | rfl | (simp only [firstArgMember]; rfl)) ?_)
  refine wpAny_newObj_type ?_ (by size_fits)
  simp only [raiseNew]
  refine wpAny_bind (wpAny_handled ?_)
  rw [show A.in1.handled = none from hh]
  refine wpAny_bind (wpAny_pure (wpAny_throw ?_))
  refine wpAny_bind (wpAny_isInstance (T := "StopIteration") (b := true) ⟨_, Heap.get?_push_size _ rfl, rfl⟩ isSubtype_stop ?_)
  exact wpAny_pure (h _ fun b o eb => Heap.get?_push_of_some _ (Heap.get?_push_of_some _ eb))
theorem entry_iter : entryFor table "iter" = some Builtin.«iter» := entryFor_of_fast (by kernel_rfl)
theorem args_iter2 (a b : Value) : argsOk "iter" ⟨[a, b], []⟩ := by
  unfold argsOk; kernel_rfl
theorem iter_call {M : Addr} {x : Str} {t : Tok} {o : Obj} {Q : Value → Shared → Prop} (hM : s.heap.get? M = some o) (hc : o.cls = .type "method")
    (h : Q (.ref s.heap.objs.size) { s with heap := s.heap.push (citO (.ref M) x t) }) : wpAny (model prog w) A (call (.builtin "iter") [.ref M, .str x t]) Q E s := by
  refine call_function_entry (by decide +kernel) (by decide +kernel) entry_iter (args_iter2 _ _) ?_
  unfold Builtin.«iter»
  refine wpAny_bind (m := someArgs "iter" 1 2 _) (wpAny_of_eq (a := [Value.ref M, .str x t]) (by first | rfl | kernel_rfl!) ?_)
  dsimp only
  refine wpAny_bind (wpAny_specialOf (T := "method") (r := some (.builtin "method.__call__")) (name := Str.ofString "__call__") ⟨_, hM, hc⟩ (by rw [typeLookup_type, builtinLookup_eq_fast]; kernel_rfl) ?_)
  rw [if_neg (by simp)]
  refine wpAny_bind (wpAny_rule ?_)
  exact wpAny_bind (wpAny_newObj_type (wpAny_pure ⟨_, rfl, h⟩))
end
section
variable {prog : Program} {w : World} {A : Around} {s : Shared} {env : Env} {g : Heap} {x : Str} {body : List Stmt} {Q : Flow → Shared → Prop}
noncomputable def ItAt (prog : Program) (w : World) (A : Around) (g : Heap) (env : Env) (x : Str) (body : List Stmt) (Q : Flow → Shared → Prop) (it : Value) (s₂ : Shared) : Prop :=
  E3 fun (I : Addr) (Inv : Nat → Shared → Prop) (n : Nat) => A3 (it = .ref I) (Inv n s₂) (∀ n s, Inv n s → wpAny (model prog w) A (pyNext (.ref I)) (fun r s₁ => match r with
      | none => Q .next s₁
      | some v => E2 fun m₁ led₁ => A3 (Fr g env.locals s₁.heap m₁) (News g env.locals s₁.heap led₁) (∀ h₂, Fr g env.locals h₂ (fun y => if y = x then some v else m₁ y) → News g env.locals h₂ led₁ →
          ∀ R : Flow → Shared → Prop, (∀ f s', FPost Q (WEnd n Inv) f s' → R f s') → wpAny (model prog w) A (execs body env) R (fun _ _ => False) { s₁ with heap := h₂, toks := s₁.toks + 1 })) (fun _ _ => False) s)
theorem For_it {px pos : Pos} {iter : Expr} (g : Heap) (hx : env.kindOf x = some .local) (hp : (env.scope.kind == .class || (env.scope.kind == .module && env.locals != env.globals)) = false)
    (h : wpAny (model prog w) A (eval iter env) (fun xv s₁ => wpAny (model prog w) A (pyIter xv) (fun it s₂ => ItAt prog w A g env x body Q it s₂) (fun _ _ => False) s₁) (fun _ _ => False) s)
    (hs : ∀ x, foldedSetIterable iter env x = pure x := by intro _; rfl) :
    wpAny (model prog w) A (exec (.For (.Name x px) iter body [] pos) env) Q (fun _ _ => False) s := by
  refine wpAny_For (wpAny_mono h (fun xv s₁ h₁ => wpAny_mono h₁ (fun it s₂ h₂ => ?_) fun _ _ e => e) fun _ _ e => e) hs
  obtain ⟨I, Inv, n, rfl, h0, turn⟩ := h₂
  refine codeAny_forLoop Inv (fun n s hi => ?_) n h0
  refine wpAny_mono (turn n s hi) (fun r s₁ h₁ => ?_) fun _ _ e => False.elim e
  cases r with
  | none => exact wpAny_execs_nil h₁
  | some v =>
    obtain ⟨m₁, led₁, F₁, N₁, bd⟩ := h₁
    refine wpAny_assign_Name (wpAny_storeName_local hx F₁.ns (fun h₂ hn₂ hs₂ => ?_) hp)
    refine wpAny_mono (bd h₂ (F₁.set hn₂ hs₂) (N₁.set hs₂) _ fun _ _ x => x) (fun f s₃ h₃ => ?_) fun _ _ e => False.elim e
    cases f <;> exact h₃
end
end Mine
end
section
open PySem PySem.W PyProof.Rows PySem.Calls PySem.Spec
open PySem.Builtin PySem.Builtin.ObjectAttr
namespace Mine
theorem slot_fn_setattr : Slot "function" "__setattr__" "object.__setattr__" :=
  .of (owner := "object") (n := "__setattr__") (by rw [typeLookup_type, builtinLookup_eq_fast]; kernel_rfl) (by decide +kernel) (by decide +kernel) (by decide +kernel)
    (by first | exact .inl (by decide +kernel) | exact .inr (by decide +kernel)) (by rw [isSubtype_type]; kernel_rfl)
theorem fn_passes (self : Value) : refuseLoop self "__setattr__" [.type "function", .type "object"] = pure () := by kernel_rfl
theorem fn_mro : mroOf (.type "function") = pure [.type "function", .type "object"] := by kernel_rfl
section
variable {prog : Program} {w : World} {A : Around} {E : Value → Shared → Prop} {s : Shared} {h₀ : Heap} {L x : Addr} {m : Str → Option Value} {news : List (Addr × Obj)} {fd : FuncData} {name : Str} {v : Value}
theorem fn_set {Q : Unit → Shared → Prop} (hB : typeLookup (.type "function") name = pure none) (F : Fr h₀ L s.heap m) (N : News h₀ L s.heap ((x, { cls := .type "function", data := .func fd }) :: news)) (h2 : ∀ p ∈ news, p.1 ≠ x)
    (h : ∀ D h' tk tk', s.heap.objs.size = D → Fr h₀ L h' m → News h₀ L h' ((D, dictOf [⟨PyData.keyHash w.params name, .str name tk, v⟩] 1) :: (x, { cls := .type "function", dict := some D, data := .func fd }) :: news) → Q () { s with heap := h', toks := tk' }) :
    wpAny (model prog w) A (setAttr (.ref x) name v) Q E s := by
  have hx := (N _ (.head _)).1
  unfold setAttr
  refine wpAny_bind (wpAny_mkText ?_)
  refine wpAny_bind (wpAny_callSpecial?_slot (name := Str.ofString "__setattr__") ⟨_, hx, rfl⟩ slot_fn_setattr (wpAny_call_entry slot_fn_setattr ⟨_, hx, rfl⟩ PySem.F.store_object.entry ?_ (PySem.F.store_object.args _ _ _)))
  have hpass := fn_passes (.ref x)
  unfold Builtin.«object.__setattr__»
  show wpAny _ _ (refuseIfOverridden (.ref x) "__setattr__" >>= _) _ _ _
  rw [refuse_eq]
  refine wpAny_bind (wpAny_bind (wpAny_typeOf ⟨_, hx, rfl⟩ ?_))
  rw [fn_mro]
  refine wpAny_bind (wpAny_pure ?_)
  rw [hpass]
  refine wpAny_pure ?_
  refine wpAny_bind (wpAny_pure ?_)
  refine wpAny_bind (wpAny_typeOf ⟨_, hx, rfl⟩ ?_)
  rw [hB]
  refine wpAny_bind (wpAny_pure ?_)
  refine wpAny_bind (wpAny_pure ?_)
  show wpAny _ _ (storeInOwnDict _ _ _ _ _ _) _ _ _
  unfold storeInOwnDict ownStreamTells
  dsimp only
  rw [if_neg (by decide), if_neg (by decide)]
  refine wpAny_bind (wpAny_pure ?_)
  rw [if_neg (by decide)]
  unfold ownDictForStores instanceDict
  refine wpAny_bind (wpAny_bind (wpAny_loadPart hx ?_))
  dsimp only
  rw [if_neg (by decide +kernel)]
  refine wpAny_bind (wpAny_alloc ?_)
  have F1 := F.push emptyDict
  have N1 := N.push F emptyDict
  have hxD : x ≠ s.heap.objs.size := Nat.ne_of_lt (Heap.lt_size hx)
  have hnD : ∀ p ∈ news, p.1 ≠ s.heap.objs.size := fun p hp => Nat.ne_of_lt (Heap.lt_size (N p (.tail _ hp)).1)
  have hx1 := (N1 _ (.tail _ (.head _))).1
  refine wpAny_bind (wpAny_update hx1 ?_)
  obtain ⟨F2, N2⟩ := news_upd (pre := [(s.heap.objs.size, emptyDict)]) (f := fun o => { o with dict := some s.heap.objs.size }) F1 N1 (fun p hp => by rw [List.mem_singleton.mp hp]; exact hxD.symm) h2 rfl rfl
  unfold dictMade
  dsimp only
  rw [if_neg (by decide)]
  refine wpAny_pure ?_
  dsimp only
  unfold storeInDict newKeyGuard
  dsimp only
  refine wpAny_bind (wpAny_pure ?_)
  refine wpAny_bind (kp_nsSet (es := []) (n := 0) F2 N2 (fun p hp => by
    rcases List.mem_cons.mp hp with rfl | hp
    · exact hxD
    · exact hnD p hp) (fun _ he => nomatch he) (fun _ he => nomatch he) fun h' F3 N3 => ?_)
  refine wpAny_bind (wpAny_lookBehind (N3 _ (.head _)).1 (pastItsLine_dict (by rw [sizeLine_eq]; exact Nat.le_of_ble_eq_true rfl)) ?_)
  exact wpAny_pure ⟨_, rfl, wpAny_pure (h _ h' _ _ rfl F3 N3)⟩
end
end Mine
end
section
open PySem PySem.W PyProof.Rows PySem.Calls PySem.Spec
open PySem.Builtin PySem.Builtin.ObjectAttr
namespace Mine
theorem slot_fn_getattribute : Slot "function" "__getattribute__" "object.__getattribute__" :=
  .of (owner := "object") (n := "__getattribute__") (by rw [typeLookup_type, builtinLookup_eq_fast]; kernel_rfl) (by decide +kernel) (by decide +kernel) (by decide +kernel)
    (by first | exact .inl (by decide +kernel) | exact .inr (by decide +kernel)) (by rw [isSubtype_type]; kernel_rfl)
theorem fn_no_getattr : typeLookup (.type "function") "__getattr__" = pure none := by rw [typeLookup_type, builtinLookup_eq_fast]; kernel_rfl
theorem entry_getattribute : entryFor table "object.__getattribute__" = some Builtin.«object.__getattribute__» := entryFor_of_tree (by kernel_rfl)
theorem args_getattribute (a b : Value) : argsOk "object.__getattribute__" ⟨[a, b], []⟩ := by unfold argsOk; kernel_rfl
section
variable {prog : Program} {w : World} {A : Around} {E : Value → Shared → Prop} {s : Shared} {h₀ : Heap} {L x D f : Addr} {m : Str → Option Value} {news : List (Addr × Obj)} {fd : FuncData} {name : Str} {v : Value}
theorem fn_get {Q : Value → Shared → Prop} {hsh : Int} {t : Tok} (hB : typeLookup (.type "function") name = pure none) (hx : s.heap.get? x = some { cls := .type "function", dict := some D, data := .func fd })
    (hD : s.heap.get? D = some (dictOf [⟨hsh, .str name t, .ref f⟩] 1)) (hc : copiedNames.contains name = false)
    (h : Q (.ref f) { s with toks := s.toks + 1 }) : wpAny (model prog w) A (getAttr (.ref x) name) Q E s := by
  unfold getAttr
  refine wpAny_bind (wpAny_mkText ?_)
  unfold getAttrBy
  refine wpAny_holding ?_
  refine wpAny_bind (wpAny_typeOf ⟨_, hx, rfl⟩ ?_)
  rw [slot_fn_getattribute.lookup]
  refine wpAny_bind (wpAny_pure ?_)
  dsimp only
  rw [if_neg (by decide)]
  unfold getAttrByItsOwn
  refine wpAny_bind (wpAny_pure ?_)
  refine wpAny_bind (wpAny_attempt (wpAny_holding ?_))
  unfold callGetattribute boundAndCalled
  rw [if_neg (by decide), slot_fn_getattribute.bind]
  refine wpAny_bind (wpAny_pure ?_)
  refine wpAny_call_entry slot_fn_getattribute ⟨_, hx, rfl⟩ entry_getattribute ?_ (args_getattribute _ _)
  unfold Builtin.«object.__getattribute__»
  refine wpAny_bind (wpAny_pure ?_)
  refine wpAny_bind (wpAny_pure ?_)
  refine wpAny_bind (wpAny_typeOf ⟨_, hx, rfl⟩ ?_)
  unfold find
  rw [hB]
  refine wpAny_bind (wpAny_bind (wpAny_pure ?_))
  refine wpAny_bind (wpAny_pure ?_)
  refine wpAny_bind (wpAny_pure ?_)
  unfold ownThenClass inOwnDict
  dsimp only
  unfold ObjectAttr.ownDict
  refine wpAny_bind (wpAny_bind (wpAny_bind (wpAny_loadPart hx ?_)))
  dsimp only
  unfold instanceDict
  refine wpAny_bind (wpAny_loadPart hx ?_)
  dsimp only
  refine wpAny_pure ?_
  show wpAny _ _ (nsGet D name) _ _ _
  have hfind : List.find? (fun e => e.key.isStr name) [(⟨hsh, .str name t, .ref f⟩ : DictEntry)] = some ⟨hsh, .str name t, .ref f⟩ := by
    rw [List.find?_cons_of_pos]
    show (name == name) = true
    exact beq_self_eq_true name
  refine wpAny_bind (wpAny_loadPart hD ?_)
  rw [nsLook_eq]
  unfold nsLookByArray
  dsimp only
  rw [← Array.find?_toList, List.toList_toArray, hfind]
  refine wpAny_pure ?_
  refine wpAny_bind (wpAny_rule (wpAny_pure ?_))
  refine wpAny_pure ⟨_, rfl, ?_⟩
  show wpAny _ _ (handedOut (.ref f)) _ _ _
  rw [handedOut_of rfl]
  exact wpAny_pure h
theorem fn_method {Q : Value × List Value → Shared → Prop} {hsh : Int} {t : Tok} {pl : Sem Bool} (hB : typeLookup (.type "function") name = pure none) (hx : s.heap.get? x = some { cls := .type "function", dict := some D, data := .func fd })
    (hD : s.heap.get? D = some (dictOf [⟨hsh, .str name t, .ref f⟩] 1)) (hc : copiedNames.contains name = false)
    (h : Q (.ref f, []) { s with toks := s.toks + 1 }) : wpAny (model prog w) A (getMethod (.ref x) name pl) Q E s := by
  unfold getMethod
  refine wpAny_bind (wpAny_specialOf (name := Str.ofString "__getattribute__") ⟨_, hx, rfl⟩ slot_fn_getattribute.lookup ?_)
  dsimp only
  rw [if_neg (by decide +kernel)]
  refine wpAny_bind (wpAny_specialOf (name := Str.ofString "__getattr__") ⟨_, hx, rfl⟩ fn_no_getattr ?_)
  rw [if_neg (by decide)]
  refine wpAny_bind (wpAny_specialOf ⟨_, hx, rfl⟩ hB ?_)
  dsimp only
  exact wpAny_bind (fn_get hB hx hD hc (wpAny_pure h))
end
end Mine
end
section
open PySem PySem.W PyProof.Rows PySem.Calls PySem.Spec
namespace Mine
local macro_rules | `(tactic| walk_at $s:str) => Mine.hl [] [("eval Name", "@free")] s
noncomputable def rdIn : Stmt := (bodyOf (stmtAt 18))[1]!
set_option maxHeartbeats 4000000 in
theorem read_on {prog : Program} {w : World} {A₀ : Around} {dp un : Nat} {gd : Option (List Code)} {s : Shared} {base h₀ : Heap} {outer : List Env} {L : Addr} {m mg mb : Str → Option Value} {env : Env}
    {p : Program} {loose : List Str} {mean : ExcName → Option Value} {Q E : Value → Shared → Prop}
    {f c cT cA al : Addr} {fo : Obj} {qual : Str} {cl : List (Str × Addr)} {doc pm ctv : Value} {X : Str} {tX t1 ta : Tok} {k n : Nat}
    (B : Below A₀ base outer h₀) (F : Fr h₀ L s.heap m) (X₀ : (hd.heap_39 w.params).In h₀) (T : Top p loose mean mg mb h₀) (hf : env.frame = some L) (hke : env.scope.kind = .function)
    (hroom : dp + 1 < recursionLimit)
    (hfo : s.heap.get? f = some fo) (hfd : fo.data = .func (fnX "_law_read_on" qual (parsOf rdIn) (bodyOf rdIn) (scopeOf rdIn) cl .none .none doc pm none (.ref c) ctv)) (hcr : s.heap.CodeRec (.ref c) qual)
    (hcT : cl.lookup (Str.ofString "text") = some cT) (hcA : cl.lookup (Str.ofString "at") = some cA)
    (hT : s.heap.IsCell cT (some (.str X tX))) (hA : s.heap.IsCell cA (some (.ref al)))
    (n1 : cT ≠ al) (n2 : cA ≠ al)
    (N : News h₀ L s.heap [(al, listOf #[.int (k : Nat) ta] n)])
    (hz : X.length ≤ 1000) (hk : k ≤ 1000)
    (ret : ∀ h' tk t' ta', But [al] s.heap h' → h'.get? al = some (listOf #[.int ((k + (Txt.slice X (some (k : Int)) (some ((k : Int) + 1))).length : Nat)) ta'] n) → Q (.str (Txt.slice X (some (k : Int)) (some ((k : Int) + 1))) t') { s with heap := h', toks := tk }) :
    wpAny (model prog w) (Ar dp un gd (env :: outer)) (call (.ref f) [.int 1 t1] []) Q E s := by
  refine enterN (args := ⟨[.int 1 t1], []⟩) (mod := [(al, listOf #[.int (k : Nat) ta] n)]) B F X₀ T N hf hke (by exact (LI2 (.im (.lt (.a V0 O1) V1) (.lt V0 V1))) hroom) hfo hfd hcr (BindsTo.of_eq rfl) (locs rfl) (fun g h₁ hg hg' F' N' B' X' T' hlow => ?_) rfl rfl rfl (by decide)
  have gT := isCell_but hT (as := [al]) hg (by simpa using n1)
  have gA := isCell_but hA (as := [al]) hg (by simpa using n2)
  have l1 := hlow
  k_lt l1
  refine wpAny_execs_cons ?_
  k_steps
  rename Fr _ _ _ _ => F2
  rename News _ _ _ _ => N2
  exact go (ret _ _ _ _ (fun b o nb e => F2.keep b o (hg b o (by simpa using nb) e)) (N2 _ (.head _)).1)
end Mine
end
section
open PySem PySem.W PyProof.Rows PySem.Calls PySem.Spec
namespace Mine
local macro_rules | `(tactic| walk_at $s:str) => Mine.hl [] [] s
local macro_rules | `(tactic| walk_at $s:str) => Mine.hl [] [] s
noncomputable def Chain : List Nat → Prop
  | a :: b :: r => a < b ∧ Chain (b :: r)
  | _ => True
noncomputable def mchD (P : Params) (t1 t2 t3 t4 u v : Tok) (ln : Int) (st pb : Addr) : Obj := dictOf [⟨PyData.keyHash P (Str.ofString "lineno"), .str (Str.ofString "lineno") t1, .int ln u⟩, ⟨PyData.keyHash P (Str.ofString "instream"), .str (Str.ofString "instream") t2, .ref st⟩, ⟨PyData.keyHash P (Str.ofString "whitespace"), .str (Str.ofString "whitespace") t3, .str (Str.ofString "\n\t\r ") v⟩, ⟨PyData.keyHash P (Str.ofString "pushback"), .str (Str.ofString "pushback") t4, .ref pb⟩] 4
noncomputable def mchL (P : Params) (x dx pb st : Addr) (t1 t2 t3 t4 u v : Tok) (ln : Int) (k : Nat) : List (Addr × Obj) := [(x, instObj 117 dx), (dx, mchD P t1 t2 t3 t4 u v ln st pb), (pb, listOf #[] k)]
theorem mch_all {P : Params} {x dx pb st : Addr} {t1 t2 t3 t4 u v : Tok} {ln : Int} {k : Nat} {h h0 : Heap} (a : h.get? x = some (instObj 117 dx)) (b : h.get? dx = some (mchD P t1 t2 t3 t4 u v ln st pb))
    (c : h.get? pb = some (listOf #[] k)) (a0 : h0.get? x = none) (b0 : h0.get? dx = none) (c0 : h0.get? pb = none) : ∀ p ∈ mchL P x dx pb st t1 t2 t3 t4 u v ln k, h.get? p.1 = some p.2 ∧ h0.get? p.1 = none := fun p hp => by
  rcases List.mem_cons.mp hp with rfl | hp
  · exact ⟨a, a0⟩
  rcases List.mem_cons.mp hp with rfl | hp
  · exact ⟨b, b0⟩
  rcases List.mem_cons.mp hp with rfl | hp
  · exact ⟨c, c0⟩
  · cases hp
set_option maxHeartbeats 4000000 in
theorem netrclex_new_spec {prog : Program} {w : World} {A₀ : Around} {dp un : Nat} {gd : Option (List Code)} {s : Shared} {base h₀ : Heap} {outer : List Env} {L : Addr} {m mg mb : Str → Option Value} {env : Env}
    {p : Program} {loose : List Str} {mean : ExcName → Option Value} {Q E : Value → Shared → Prop} {st : Addr}
    (B : Below A₀ base outer h₀) (F : Fr h₀ L s.heap m) (X₀ : (hd.heap_39 w.params).In h₀) (T : Top p loose mean mg mb h₀) (hf : env.frame = some L) (hke : env.scope.kind = .function)
    (hroom : dp + 5 < recursionLimit)
    (ret : ∀ x dx pb t1 t2 t3 t4 u v k h' tk, But [] s.heap h' → Chain [s.heap.objs.size, dx + 1, x + 1, pb + 1] → (∀ p ∈ mchL w.params x dx pb st t1 t2 t3 t4 u v 1 k, h'.get? p.1 = some p.2 ∧ s.heap.get? p.1 = none) → Q (.ref x) { s with heap := h', toks := tk }) :
    wpAny (model prog w) (Ar dp un gd (env :: outer)) (call (.ref 117) [.ref st] []) Q E s := by
  refine call_clsP (X₀.keeps F.keep) (fI := 93) (by k_is) (by k_is) (by k_is) ?_
  show codeAny (model prog w) (Ar (dp + 1) (un + 1) gd (env :: outer)) _ _ _
  have F1 := (F.push emptyDict).push (instObj 117 s.heap.objs.size)
  have N1 := ((News.nil (h₀ := h₀) (L := L) (h := s.heap)).push F emptyDict).push (F.push _) (instObj 117 s.heap.objs.size)
  rw [Heap.size_push] at N1
  have k1 : ∀ b o, s.heap.get? b = some o → ((s.heap.push emptyDict).push (instObj 117 s.heap.objs.size)).get? b = some o := fun b o e => Heap.get?_push_of_some _ (Heap.get?_push_of_some _ e)
  have l2 : s.heap.objs.size < s.heap.objs.size + 1 := Nat.lt_succ_self _
  have hx0 : s.heap.objs.size + 1 ≥ s.heap.objs.size := Nat.le_succ _
  have hd0 : s.heap.objs.size ≥ s.heap.objs.size := Nat.le_refl _
  generalize (s.heap.push emptyDict).push (instObj 117 s.heap.objs.size) = h' at *
  generalize hx : s.heap.objs.size + 1 = x at *
  generalize hdx : (s.heap.objs.size : Addr) = dx at F1 N1 k1 l2 ⊢
  refine enterI (args := ⟨[.ref x, .ref st], []⟩) (binds := [(Str.ofString "self", .ref x), (Str.ofString "fp", .ref st)]) (env := env) B F1 X₀ T N1 hf hke (by exact (LI2 (.im (.lt (.a V0 (.n 5)) V1) (.lt (.a V0 O1) V1))) hroom) (by k_is) (by k_is) (BindsTo.of_eq rfl) (locs rfl) (fun g h₁ hg hg' F' N' B' X' T' hlow => ?_) rfl rfl rfl (by decide)
  try dsimp only
  k_steps
  rename Fr _ _ _ _ => F2
  rename News _ _ _ _ => N2
  have old : ∀ b o, s.heap.get? b = some o → g.get? b = some o := fun b o e => hg b o (fun q => by
    have hb : b < s.heap.objs.size := Heap.lt_size e
    rcases List.mem_cons.mp q with q | q
    · exact absurd (ltN hb) (Nat.not_lt.mpr (by rw [show b = x from q]; exact hx0))
    · exact absurd (ltN hb) (Nat.not_lt.mpr (by rw [show b = dx by simpa using q]; exact (LI2 (.im (.eq V0 V1) (.le V0 V1))) hdx))) (k1 b o e)
  rename_i l' h5 ll h6
  refine go (And.intro rfl (ret x dx l' _ _ _ _ _ _ 0 _ _ (fun b o _ e => F2.keep b o (old b o e)) ⟨by show @LT.lt Nat _ _ _; exact (LI2 (.im (.eq V0 V1) (.lt V0 (.a V1 O1)))) hdx, by show @LT.lt Nat _ _ _; exact (LI3 (.im (.eq (.a V0 O1) V1) (.im (.eq V0 V2) (.lt (.a V2 O1) (.a V1 O1))))) hx hdx, Nat.succ_lt_succ ll.1, trivial⟩ (mch_all (N2 _ (.tail _ (.head _))).1 (N2 _ (.tail _ (.tail _ (.head _)))).1 (N2 _ (.head _)).1 (get_none hx0) (get_none (by rw [hdx]; exact Nat.le_refl _)) (get_none (Nat.le_of_lt ?_)))))
  rw [hdx]
  exact ll.2
noncomputable def Mac (P : Params) (X : Str) (x : Addr) (ln k : Nat) (led : List (Addr × Obj)) : Prop :=
  E32 fun dx pb st D f c cA cT al t1 t2 t3 t4 u v kp tD fd fo oc oA oT tX ta tq n qual cl doc pm ctv vs => A11 (led = mchL P x dx pb st t1 t2 t3 t4 u v (ln : Nat) kp ++ [(al, listOf #[.int (k : Nat) ta] n), (D, dictOf [⟨PyData.keyHash P (Str.ofString "read"), .str (Str.ofString "read") tD, .ref f⟩] 1), (st, { cls := .type "function", dict := some D, data := .func fd }), (f, fo), (c, oc), (cA, oA), (cT, oT)]) (Chain [cT, cA, al, c, f, st, D, dx, x, pb]) (fo.cls = .type "function") (fo.dict = none) (fo.data = .func (fnX "_law_read_on" qual (parsOf rdIn) (bodyOf rdIn) (scopeOf rdIn) cl .none .none doc pm none (.ref c) ctv)) (oc.data = .fields vs) (vs[1]? = some (.str qual tq)) (cl.lookup (Str.ofString "text") = some cT) (cl.lookup (Str.ofString "at") = some cA) (oA.data = .cell (some (.ref al))) (oT.data = .cell (some (.str X tX)))
theorem mac_mk {P : Params} {X : Str} {x dx pb st D f c cA cT al cL : Addr} {t1 t2 t3 t4 u v : Tok} {kp : Nat} {tD : Tok} {fd : FuncData} {fo oc oA oT ocL tb : Obj} {tX ta tq : Tok} {n : Nat} {qual : Str} {cl : List (Str × Addr)} {doc pm ctv : Value} {vs : Array Value} {g h0 h5 h6 : Heap} {L : Addr} {m : Str → Option Value}
    (F5 : Fr g L h5 m)
    (N5 : News g L h5 [(D, dictOf [⟨PyData.keyHash P (Str.ofString "read"), .str (Str.ofString "read") tD, .ref f⟩] 1), (st, { cls := .type "function", dict := some D, data := .func fd }), (cL, ocL), (f, fo), (c, oc), (al, listOf #[.int 0 ta] n), (cA, oA), (cT, oT), (271, tb)])
    (h1 : fo.cls = .type "function") (h2 : fo.dict = none) (h3 : fo.data = .func (fnX "_law_read_on" qual (parsOf rdIn) (bodyOf rdIn) (scopeOf rdIn) cl .none .none doc pm none (.ref c) ctv))
    (h4 : cl.lookup (Str.ofString "text") = some cT) (h5' : cl.lookup (Str.ofString "at") = some cA)
    (d1 : oc.data = .fields vs) (d2 : vs[1]? = some (.str qual tq)) (d3 : oA.data = .cell (some (.ref al))) (d4 : oT.data = .cell (some (.str X tX)))
    (ch : Chain [271, cT, cA, al, c, f, st, D]) (dch : Chain [h5.objs.size, dx + 1, x + 1, pb + 1])
    (b6 : But [] h5 h6) (e6 : ∀ p ∈ mchL P x dx pb st t1 t2 t3 t4 u v 1 kp, h6.get? p.1 = some p.2 ∧ h5.get? p.1 = none)
    (old : ∀ b o, b ∉ [271] → h0.get? b = some o → g.get? b = some o) :
    ∃ led, Mac P X x 1 0 led ∧ ∀ p ∈ led, h6.get? p.1 = some p.2 ∧ h0.get? p.1 = none := by
  have N6 := news_keep N5 b6
  have hD : @LT.lt Nat _ D h5.objs.size := ltN (Heap.lt_size (N5 _ (.head _)).1)
  obtain ⟨c1, c2, c3, c4, c5, c6, c7, _⟩ := ch
  obtain ⟨e1, e2, e3, _⟩ := dch
  have gone : ∀ p : Addr × Obj, p ∈ [(D, dictOf [⟨PyData.keyHash P (Str.ofString "read"), .str (Str.ofString "read") tD, .ref f⟩] 1), (st, { cls := .type "function", dict := some D, data := .func fd }), (cL, ocL), (f, fo), (c, oc), (al, listOf #[.int 0 ta] n), (cA, oA), (cT, oT), (271, tb)] → @Ne Nat p.1 271 → h6.get? p.1 = some p.2 ∧ h0.get? p.1 = none := fun p hp hne => by
    refine ⟨(N6 p hp).1, ?_⟩
    cases e : h0.get? p.1 with
    | none => rfl
    | some o =>
      have := old _ _ (by simpa using hne) e
      rw [(N6 p hp).2.2] at this; cases this
  have new : ∀ p ∈ mchL P x dx pb st t1 t2 t3 t4 u v 1 kp, h6.get? p.1 = some p.2 ∧ h0.get? p.1 = none := fun p hp => by
    refine ⟨(e6 p hp).1, ?_⟩
    cases e : h0.get? p.1 with
    | none => rfl
    | some o =>
      by_cases hb : p.1 = 271
      · have := (e6 p hp).2
        rw [hb, (N5 (271, tb) (by simp)).1] at this; cases this
      · have := F5.keep _ _ (old _ _ (by simpa using hb) e)
        rw [(e6 p hp).2] at this; cases this
  refine ⟨_, ⟨dx, pb, st, D, f, c, cA, cT, al, t1, t2, t3, t4, u, v, kp, tD, fd, fo, oc, oA, oT, tX, ta, tq, n, qual, cl, doc, pm, ctv, vs, rfl, ⟨c2, c3, c4, c5, c6, c7, ?_, ?_, ?_, trivial⟩, h1, h2, h3, d1, d2, h4, h5', d3, d4⟩, fun p hp => ?_⟩
  · exact (LI3 (.im (.lt V0 (.a V1 O1)) (.im (.lt V2 V0) (.lt V2 V1)))) e1 hD
  · exact (LI2 (.im (.lt (.a V0 O1) (.a V1 O1)) (.lt V0 V1))) e2
  · exact (LI2 (.im (.lt (.a V0 O1) (.a V1 O1)) (.lt V0 V1))) e3
  · rcases List.mem_append.mp hp with hp | hp
    · exact new p hp
    · simp only [List.mem_cons, List.not_mem_nil, or_false] at hp
      refine gone p ?_ ?_
      · rcases hp with q | q | q | q | q | q | q <;> subst q <;> simp
      · have p2 := Nat.lt_trans c1 c2
        have p3 := Nat.lt_trans p2 c3
        have p4 := Nat.lt_trans p3 c4
        have p5 := Nat.lt_trans p4 c5
        have p6 := Nat.lt_trans p5 c6
        have p7 := Nat.lt_trans p6 c7
        rcases hp with q | q | q | q | q | q | q <;> subst q <;> exact Nat.ne_of_gt (by assumption)
local macro_rules | `(tactic| walk_at $s:str) => Mine.hl ["setAttr ref"] [] s
theorem look_read : typeLookup (.type "function") (Str.ofString "read") = pure none := by rw [typeLookup_type, builtinLookup_eq_fast]; kernel_rfl
set_option maxHeartbeats 4000000 in
theorem law_machine_spec {prog : Program} {w : World} {A₀ : Around} {dp un : Nat} {gd : Option (List Code)} {s : Shared} {base h₀ : Heap} {outer : List Env} {L : Addr} {m mg mb : Str → Option Value} {env : Env}
    {p : Program} {loose : List Str} {mean : ExcName → Option Value} {Q E : Value → Shared → Prop}
    {X : Str} {tw : Tok}
    (B : Below A₀ base outer h₀) (F : Fr h₀ L s.heap m) (X₀ : (hd.heap_39 w.params).In h₀) (T : Top p loose mean mg mb h₀) (hf : env.frame = some L) (hke : env.scope.kind = .function)
    (hroom : dp + 20 < recursionLimit) (hun : un + 100 < cLine)
    (N : News h₀ L s.heap [(271, tabObj #[])])
    (ret : ∀ x led h' tk, But [271] s.heap h' → (∃ ps, h'.get? 271 = some (tabObj ps)) → (∀ p ∈ led, h'.get? p.1 = some p.2 ∧ s.heap.get? p.1 = none) → Mac w.params X x 1 0 led → Q (.ref x) { s with heap := h', toks := tk }) :
    wpAny (model prog w) (Ar dp un gd (env :: outer)) (call (.ref 276) [.str X tw] []) Q E s := by
  refine enterC (args := ⟨[.str X tw], []⟩) B F X₀ T N hf hke (by exact (LI2 (.im (.lt (.a V0 (.n 20)) V1) (.lt V0 V1))) hroom) (by k_is) (by k_is) (BindsTo.of_eq rfl) rfl (by decide +kernel) (fun g h₁ tk cells hg hg' F' N' Y' B' X' T' hlow => ?_) rfl rfl rfl
  have C' : CodeHd g 275 271 := codeHd_of_K X' (by kernel_rfl)
  k_cells Y'
  simp only [List.cons_append, List.nil_append] at N'
  have l1 := hlow
  k_lt l1
  k_steps
  refine go ?_
  rename Fr _ _ _ _ => F2
  rename News _ _ _ _ => N2
  refine fn_set look_read F2 N2 ?_ (fun D h5 tk5 tk5' hD F5 N5 => ?_)
  · k_all
  have hlD := news_lt N2
  rw [hD] at hlD
  k_lt hlD
  k_steps
  refine go ?_
  refine netrclex_new_spec B' F5 X' T' rfl rfl (by exact (LI2 (.im (.lt (.a V0 (.n 20)) V1) (.lt (.a (.a V0 O1) (.n 5)) V1))) hroom) (fun x dx pb t1 t2 t3 t4 u v kp h6 tk6 b6 ch6 e6 => ?_)
  obtain ⟨led, hM, hN⟩ := mac_mk (h0 := s.heap) (X := X) F5 N5 rfl rfl rfl rfl rfl (by assumption) (by assumption) (by assumption) (by assumption) (by refine ⟨?_, ?_, ?_, ?_, ?_, ?_, ?_, trivial⟩ <;> (show @LT.lt Nat _ _ _) <;> omega) ch6 b6 e6 (fun b o nb e => hg b o (by simpa using nb) e)
  exact go (ret x led _ _ (fun b o nb e => b6 _ _ (by simp) (F5.keep _ _ (hg b o (by simpa using nb) e))) ⟨_, b6 _ _ (by simp) (N5 (271, tabObj _) (by k_mem)).1⟩ hN hM)
end Mine
end
section
open PySem PySem.W PyProof.Rows PySem.Calls PySem.Spec PyProof
namespace Mine
theorem nd_cons {d : Addr} {o : Obj} {r : List (Addr × Obj)} (h : ∀ p ∈ r, p.1 ≠ d) (k : (r.map (fun p : Addr × Obj => p.1)).Nodup) : (((d, o) :: r).map (fun p : Addr × Obj => p.1)).Nodup := by
  rw [List.map_cons]
  refine List.nodup_cons.mpr ⟨fun q => ?_, k⟩
  obtain ⟨p, hp, e⟩ := List.mem_map.mp q
  exact h p hp e
set_option maxHeartbeats 4000000 in
local macro_rules | `(tactic| walk_at $s:str) => Mine.hl ["getMethod ref"] [] s
theorem read_char_code {prog : Program} {w : World} {A₀ : Around} {dp un : Nat} {gd : Option (List Code)} {s : Shared} {base h₀ : Heap} {outer : List Env} {L : Addr} {m mg mb : Str → Option Value} {env : Env}
    {p : Program} {loose : List Str} {mean : ExcName → Option Value} {Q E : Value → Shared → Prop} {x : Addr} {X : Str} {ln k : Nat} {led : List (Addr × Obj)}
    (B : Below A₀ base outer h₀) (F : Fr h₀ L s.heap m) (X₀ : (hd.heap_39 w.params).In h₀) (T : Top p loose mean mg mb h₀) (hf : env.frame = some L) (hke : env.scope.kind = .function)
    (hroom : dp + 5 < recursionLimit)
    (N : News h₀ L s.heap led) (M : Mac w.params X x ln k led) (hz : X.length ≤ 1000) (hk : k ≤ 1000)
    (ret : ∀ h' led' tk t', But (led.map (fun p => p.1)) s.heap h' → (∀ p ∈ led', h'.get? p.1 = some p.2) → led'.map (fun p => p.1) = led.map (fun p => p.1) →
      Mac w.params X x (ln + if (Txt.slice X (some (k : Int)) (some ((k : Int) + 1)) == Str.ofString "\n") = true then 1 else 0) (k + (Txt.slice X (some (k : Int)) (some ((k : Int) + 1))).length) led' → Q (.str (Txt.slice X (some (k : Int)) (some ((k : Int) + 1))) t') { s with heap := h', toks := tk }) :
    codeAny (model prog w) (Ar dp un gd (env :: outer)) (.call (.ref 100) ⟨[.ref x], []⟩) (fun r s' => match r with | .ok (.ret v) => Q v s' | .ok _ => False | .error e => E e s') s := by
  obtain ⟨dx, pb, st, D, f, c, cA, cT, al, t1, t2, t3, t4, u, v, kp, tD, fd, fo, oc, oA, oT, tX, ta, tq, n, qual, cl, doc, pm, ctv, vs, rfl, ⟨c1, c2, c3, c4, c5, c6, c7, c8, c9, _⟩, f1, f2, f3, f4, f5, f6, f7, f8, f9⟩ := M
  refine enterI (args := ⟨[.ref x], []⟩) (binds := [(Str.ofString "self", .ref x)]) B F X₀ T N hf hke (by exact (LI2 (.im (.lt (.a V0 (.n 5)) V1) (.lt V0 V1))) hroom) (by k_is) (by k_is) (BindsTo.of_eq rfl) (locs rfl) (fun g h₁ hg hg' F' N' B' X' T' hlow => ?_) rfl rfl rfl (by decide)
  simp only [mchL, List.cons_append, List.nil_append] at N'
  k_steps
  refine go ?_
  rename Fr _ _ _ _ => F2
  rename News _ _ _ _ => N2
  refine fn_method look_read (N2 (st, _) (by k_mem)).1 (N2 (D, _) (by k_mem)).1 (by decide +kernel) ?_
  dsimp only
  have hfn : FnAt f h₁ := ⟨fo.cls, fo.dict, _, fo.slots, by rw [(N2 (f, fo) (.tail _ (.tail _ (.tail _ (.tail _ (.tail _ (.tail _ (.head _)))))))).1]; obtain ⟨a, b, c, d⟩ := fo; cases f3; rfl⟩
  refine callWith_F hfn ?_
  k_steps
  · exact hfn
  refine go ?_
  rename Fr _ _ _ _ => F2
  rename News _ _ _ _ => N2
  have hcr := codeRec_news N2 (.tail _ (.tail _ (.tail _ (.tail _ (.tail _ (.tail _ (.tail _ (.head _)))))))) f4 f5
  have hcA := isCell_of N2 (.tail _ (.tail _ (.tail _ (.tail _ (.tail _ (.tail _ (.tail _ (.tail _ (.head _))))))))) f8
  have hcT := isCell_of N2 (.tail _ (.tail _ (.tail _ (.tail _ (.tail _ (.tail _ (.tail _ (.tail _ (.tail _ (.head _)))))))))) f9
  have N3 : News _ _ _ [(al, listOf #[.int (k : Nat) ta] n)] := news_one (N2 _ (.tail _ (.tail _ (.tail _ (.head _)))))
  have c1_2 := Nat.lt_trans c1 c2; have c1_3 := Nat.lt_trans c1_2 c3; have c1_4 := Nat.lt_trans c1_3 c4; have c1_5 := Nat.lt_trans c1_4 c5; have c1_6 := Nat.lt_trans c1_5 c6; have c1_7 := Nat.lt_trans c1_6 c7; have c1_8 := Nat.lt_trans c1_7 c8; have c1_9 := Nat.lt_trans c1_8 c9; have c2_3 := Nat.lt_trans c2 c3; have c2_4 := Nat.lt_trans c2_3 c4; have c2_5 := Nat.lt_trans c2_4 c5; have c2_6 := Nat.lt_trans c2_5 c6; have c2_7 := Nat.lt_trans c2_6 c7; have c2_8 := Nat.lt_trans c2_7 c8; have c2_9 := Nat.lt_trans c2_8 c9; have c3_4 := Nat.lt_trans c3 c4; have c3_5 := Nat.lt_trans c3_4 c5; have c3_6 := Nat.lt_trans c3_5 c6; have c3_7 := Nat.lt_trans c3_6 c7; have c3_8 := Nat.lt_trans c3_7 c8; have c3_9 := Nat.lt_trans c3_8 c9; have c4_5 := Nat.lt_trans c4 c5; have c4_6 := Nat.lt_trans c4_5 c6; have c4_7 := Nat.lt_trans c4_6 c7; have c4_8 := Nat.lt_trans c4_7 c8; have c4_9 := Nat.lt_trans c4_8 c9; have c5_6 := Nat.lt_trans c5 c6; have c5_7 := Nat.lt_trans c5_6 c7; have c5_8 := Nat.lt_trans c5_7 c8; have c5_9 := Nat.lt_trans c5_8 c9; have c6_7 := Nat.lt_trans c6 c7; have c6_8 := Nat.lt_trans c6_7 c8; have c6_9 := Nat.lt_trans c6_8 c9; have c7_8 := Nat.lt_trans c7 c8; have c7_9 := Nat.lt_trans c7_8 c9; have c8_9 := Nat.lt_trans c8 c9
  have n1 : cT ≠ al := neN (by exact (LI3 (.im (.lt V0 V1) (.im (.lt V2 V0) (.im (.eq V2 V1) .ff)))) c2 c1)
  have n2 : cA ≠ al := neN (by exact (LI2 (.im (.lt V0 V1) (.im (.eq V0 V1) .ff))) c2)
  refine read_on B' F2 X' T' rfl rfl (by exact (LI2 (.im (.lt (.a V0 (.n 5)) V1) (.lt (.a (.a V0 O1) O1) V1))) hroom) (N2 (f, fo) (by k_mem)).1 f3 hcr f6 f7 hcT hcA n1 n2 N3 hz hk (fun h3 tk3 t9 ta9 b3 a3 => ?_)
  have F4 := fr_one F2 N2 ⟨_, (.tail _ (.tail _ (.tail _ (.head _))))⟩ b3
  have nd : ([(x, instObj 117 dx), (dx, mchD w.params t1 t2 t3 t4 u v (ln : Nat) st pb), (pb, listOf #[] kp), (al, listOf #[.int (k : Nat) ta] n), (D, dictOf [⟨PyData.keyHash w.params (Str.ofString "read"), .str (Str.ofString "read") tD, .ref f⟩] 1), (st, { cls := .type "function", dict := some D, data := .func fd }), (f, fo), (c, oc), (cA, oA), (cT, oT)].map (fun p : Addr × Obj => p.1)).Nodup := by
    repeat' first | exact List.nodup_nil | (refine nd_cons ?_ ?_; (· k_all))
  have N4 := news_mid (pre := [(x, instObj 117 dx), (dx, mchD w.params t1 t2 t3 t4 u v (ln : Nat) st pb), (pb, listOf #[] kp)]) N2 nd b3 a3
  simp only [List.cons_append, List.nil_append] at N4
  unfold mchD at N4
  obtain ⟨y, hy⟩ : ∃ y, Txt.slice X (some (k : Int)) (some ((k : Int) + 1)) = y := ⟨_, rfl⟩
  have hyl : y.length ≤ X.length := hy ▸ Txt.slice_le _ _ _
  rw [hy] at N4 ⊢
  rw [hy] at ret
  k_steps
  all_goals
    rename (y == _) = _ => hyn
    rename Fr _ _ _ _ => F5
    rename News _ _ _ _ => N5
    rw [hyn] at ret
  all_goals first
    | exact go (ret _ (mchL w.params x dx pb st t1 t2 t3 t4 _ v ((ln + 1 : Nat) : Int) kp ++ [(al, listOf #[.int ((k + y.length : Nat) : Int) ta9] n), (D, dictOf [⟨PyData.keyHash w.params (Str.ofString "read"), .str (Str.ofString "read") tD, .ref f⟩] 1), (st, { cls := .type "function", dict := some D, data := .func fd }), (f, fo), (c, oc), (cA, oA), (cT, oT)]) _ _ (fun b o nb e => F5.keep b o (hg b o nb e)) (fun p hp => (N5 p hp).1) rfl
      ⟨dx, pb, st, D, f, c, cA, cT, al, t1, t2, t3, t4, _, v, kp, tD, fd, fo, oc, oA, oT, tX, ta9, tq, n, qual, cl, doc, pm, ctv, vs, rfl, ⟨c1, c2, c3, c4, c5, c6, c7, c8, c9, trivial⟩, f1, f2, f3, f4, f5, f6, f7, f8, f9⟩)
    | exact go (ret _ (mchL w.params x dx pb st t1 t2 t3 t4 u v (ln : Nat) kp ++ [(al, listOf #[.int ((k + y.length : Nat) : Int) ta9] n), (D, dictOf [⟨PyData.keyHash w.params (Str.ofString "read"), .str (Str.ofString "read") tD, .ref f⟩] 1), (st, { cls := .type "function", dict := some D, data := .func fd }), (f, fo), (c, oc), (cA, oA), (cT, oT)]) _ _ (fun b o nb e => F5.keep b o (hg b o nb e)) (fun p hp => (N5 p hp).1) rfl
      ⟨dx, pb, st, D, f, c, cA, cT, al, t1, t2, t3, t4, u, v, kp, tD, fd, fo, oc, oA, oT, tX, ta9, tq, n, qual, cl, doc, pm, ctv, vs, rfl, ⟨c1, c2, c3, c4, c5, c6, c7, c8, c9, trivial⟩, f1, f2, f3, f4, f5, f6, f7, f8, f9⟩)
end Mine
end
section
open PySem PySem.W PyProof.Rows PySem.Calls PySem.Spec PyProof
namespace Mine
theorem slice_at {X : Str} {k : Nat} {c : Nat} {r : List Nat} (h : X.cps.toList.drop k = c :: r) : Txt.slice X (some (k : Int)) (some ((k : Int) + 1)) = ⟨#[c]⟩ := by
  have hk : k < X.cps.toList.length := by
    refine Nat.lt_of_not_le fun q => ?_
    rw [List.drop_eq_nil_of_le q] at h; cases h
  have := eq_of_beq (slice_closes (x := X) (i := k) (j := (k : Int) + 1) ⟨by exact (LI1 (.il O0 (.ca V0))), by exact (LI1 (.il (.ca V0) (.a (.ca V0) O1))), by show (k : Int) + 1 ≤ (X.cps.size : Nat); rw [← Array.length_toList]; exact (LI2 (.im (.lt V0 V1) (.il (.a (.ca V0) O1) (.ca V1)))) hk⟩)
  rw [this]
  apply str_ext
  show ((X.cps.toList.drop k).take ((k : Int) + 1 - k).toNat).toArray.toList = _
  rw [h, show ((k : Int) + 1 - k).toNat = 1 by exact (LI1 (.eq (.tn (.s (.a (.ca V0) O1) (.ca V0))) O1))]
  rfl
theorem slice_end {X : Str} {k : Nat} (h : X.length = k) : Txt.slice X (some (k : Int)) (some ((k : Int) + 1)) = Str.ofString "" := by
  have e : Builtin.Str.strSliceIndices (some (k : Int)) (some ((k : Int) + 1)) 1 k = [] := by
    unfold Builtin.Str.strSliceIndices sliceRange
    apply List.eq_nil_of_length_eq_zero
    simp only [show (1 : Int) > 0 by decide, if_true, List.length_map, List.length_range]
    split <;> (try split) <;> (try split) <;> (try simp only [Int.ediv_one]) <;> omega
  unfold Txt.slice
  rw [h, e]
  split
  · rename_i q
    have q2 : 0 = k := eq_of_beq (Bool.and_eq_true_iff.mp q).2
    have h0 : X.cps.size = 0 := h.trans q2.symm
    apply str_ext
    have : X.cps.toList = [] := List.eq_nil_of_length_eq_zero (by rw [Array.length_toList]; exact h0)
    rw [this]; rfl
  · rfl
noncomputable def Rd (P : Params) (X : Str) (x : Addr) (r : List Nat) (led : List (Addr × Obj)) : Prop :=
  ∃ k, k ≤ X.length ∧ X.cps.toList.drop k = r ∧ Mac P X x (1 + (X.cps.toList.take k).count 10) k led
noncomputable def chS (c : Nat) : Str := ⟨#[c]⟩
theorem read_char {prog : Program} {w : World} {A₀ : Around} {dp un : Nat} {gd : Option (List Code)} {s : Shared} {base h₀ : Heap} {outer : List Env} {L : Addr} {m mg mb : Str → Option Value} {env : Env}
    {p : Program} {loose : List Str} {mean : ExcName → Option Value} {Q E : Value → Shared → Prop} {x : Addr} {X : Str} {r : List Nat} {led : List (Addr × Obj)}
    (B : Below A₀ base outer h₀) (F : Fr h₀ L s.heap m) (X₀ : (hd.heap_39 w.params).In h₀) (T : Top p loose mean mg mb h₀) (hf : env.frame = some L) (hke : env.scope.kind = .function)
    (hroom : dp + 5 < recursionLimit)
    (N : News h₀ L s.heap led) (M : Rd w.params X x r led) (hz : X.length ≤ 1000)
    (ret : ∀ h' led' tk t', But (led.map (fun p => p.1)) s.heap h' → (∀ p ∈ led', h'.get? p.1 = some p.2) → led'.map (fun p => p.1) = led.map (fun p => p.1) →
      Rd w.params X x r.tail led' → Q (.str (match r with | [] => Str.ofString "" | c :: _ => chS c) t') { s with heap := h', toks := tk }) :
    codeAny (model prog w) (Ar dp un gd (env :: outer)) (.call (.ref 100) ⟨[.ref x], []⟩) (fun r s' => match r with | .ok (.ret v) => Q v s' | .ok _ => False | .error e => E e s') s := by
  obtain ⟨k, hk, hr, M⟩ := M
  have hl : X.cps.toList.length = X.length := Array.length_toList
  refine read_char_code B F X₀ T hf hke hroom N M hz (by exact (LI2 (.im (.le V0 (.n 1000)) (.im (.le V1 V0) (.le V1 (.n 1000))))) hz hk) (fun h' led' tk t' b e q M' => ?_)
  cases r with
  | nil =>
    have hk' : X.length = k := by
      have := congrArg List.length hr
      rw [List.length_drop, List.length_nil, hl] at this
      exact (LI2 (.im (.eq (.s V0 V1) O0) (.im (.le V1 V0) (.eq V0 V1)))) this hk
    rw [slice_end hk'] at M' ⊢
    refine ret h' led' tk t' b e q ⟨k, hk, hr, ?_⟩
    rw [show (Str.ofString "" == Str.ofString "\n") = false by decide +kernel] at M'
    exact M'
  | cons c r =>
    have hs := slice_at hr
    rw [hs] at M' ⊢
    have hlt : k < X.cps.toList.length := by
      refine Nat.lt_of_not_le fun q => ?_
      rw [List.drop_eq_nil_of_le q] at hr; cases hr
    have hc : X.cps.toList[k] = c := by
      have := List.drop_eq_getElem_cons hlt
      rw [hr] at this
      exact (List.cons.inj this).1.symm
    refine ret h' led' tk t' b e q ⟨k + 1, by exact (LI3 (.im (.lt V0 V1) (.im (.eq V1 V2) (.le (.a V0 O1) V2)))) hlt hl, ?_, ?_⟩
    · rw [List.tail_cons, ← List.drop_drop, hr]; rfl
    · rw [List.take_succ_eq_append_getElem hlt, List.count_append, hc]
      have e1 : (1 + (X.cps.toList.take k).count 10 + if ((⟨#[c]⟩ : Str) == Str.ofString "\n") = true then 1 else 0) = 1 + ((X.cps.toList.take k).count 10 + [c].count 10) := by
        by_cases q : c = 10
        · subst q
          rw [if_pos (by decide +kernel)]
          simp; exact (LI1 (.eq (.a (.a O1 V0) O1) (.a O1 (.a V0 O1))))
        · rw [if_neg, List.count_singleton]
          · simp [q]
          · intro z
            have z := congrArg (fun s : Str => s.cps.toList) (eq_of_beq z)
            have z2 : [c] = [10] := z
            exact q (List.cons.inj z2).1
      rw [← e1]
      exact M'
end Mine
end
section
open PySem PySem.W PyProof.Rows PySem.Calls PySem.Spec PyProof
namespace Mine
noncomputable def keysOf (l : List (Addr × Obj)) : List Addr := l.map fun p => p.1
theorem fr_led {g h h' : Heap} {L : Addr} {m : Str → Option Value} {led : List (Addr × Obj)} (F : Fr g L h m) (N : News g L h led) (b : But (keysOf led) h h') : Fr g L h' m :=
  fr_but F b (fun q => by obtain ⟨p, hp, e⟩ := List.mem_map.mp q; exact (N p hp).2.1 e) (fun a ha => by obtain ⟨p, hp, e⟩ := List.mem_map.mp ha; rw [← e]; exact (N p hp).2.2)
theorem news_led {g h h' : Heap} {L : Addr} {oth led led' : List (Addr × Obj)} (N : News g L h (oth ++ led)) (b : But (keysOf led) h h') (e : ∀ p ∈ led', h'.get? p.1 = some p.2) (q : keysOf led' = keysOf led)
    (ap : ∀ p ∈ oth, p.1 ∉ keysOf led) : News g L h' (oth ++ led') := fun p hp => by
  rcases List.mem_append.mp hp with hp | hp
  · exact ⟨b _ _ (ap p hp) (N p (List.mem_append_left _ hp)).1, (N p (List.mem_append_left _ hp)).2⟩
  · refine ⟨e p hp, ?_⟩
    have : p.1 ∈ keysOf led := q ▸ List.mem_map_of_mem hp
    obtain ⟨p', hp', e'⟩ := List.mem_map.mp this
    rw [← e']; exact (N p' (List.mem_append_right _ hp')).2
section
variable {prog : Program} {w : World} {A₀ : Around} {dp un : Nat} {gd : Option (List Code)} {s : Shared} {base g : Heap} {outer : List Env} {L : Addr} {m mg mb : Str → Option Value} {env : Env}
    {p : Program} {loose : List Str} {mean : ExcName → Option Value} {x : Addr} {X : Str} {r : List Nat} {led oth : List (Addr × Obj)}
theorem call_read {Q E : Value → Shared → Prop} (B : Below A₀ base outer g) (F : Fr g L s.heap m) (X₀ : (hd.heap_39 w.params).In g) (T : Top p loose mean mg mb g) (hf : env.frame = some L) (hke : env.scope.kind = .function)
    (hroom : dp + 5 < recursionLimit) (N : News g L s.heap (oth ++ led)) (ap : ∀ p ∈ oth, p.1 ∉ keysOf led) (M : Rd w.params X x r led) (hz : X.length ≤ 1000)
    (ret : ∀ h' led' tk t', Fr g L h' m → News g L h' (oth ++ led') → keysOf led' = keysOf led → Rd w.params X x r.tail led' → Q (.str (match r with | [] => Str.ofString "" | c :: _ => chS c) t') { s with heap := h', toks := tk }) :
    wpAny (model prog w) (Ar dp un gd (env :: outer)) (call (.ref 100) [.ref x] []) Q E s := by
  have N1 : News g L s.heap led := fun p hp => N p (List.mem_append_right _ hp)
  exact wpAny_call (read_char B F X₀ T hf hke hroom N1 M hz (fun h' led' tk t' b e q M' => ret h' led' tk t' (fr_led F N1 b) (news_led N b e q ap) q M'))
theorem next_read {I Mt : Addr} {ti : Tok} {Q : Option Value → Shared → Prop} (B : Below A₀ base outer g) (F : Fr g L s.heap m) (X₀ : (hd.heap_39 w.params).In g) (T : Top p loose mean mg mb g) (hf : env.frame = some L) (hke : env.scope.kind = .function)
    (hroom : dp + 5 < recursionLimit) (N : News g L s.heap ([(I, citO (.ref Mt) (Str.ofString "") ti), (Mt, methodObj (.ref 100) (.ref x))] ++ led)) (hI : I ∉ keysOf led) (hM : Mt ∉ keysOf led) (hIM : Mt ≠ I) (M : Rd w.params X x r led) (hz : X.length ≤ 1000)
    (k0 : r = [] → ∀ h' led' tk, Fr g L h' m → News g L h' ([(I, endO), (Mt, methodObj (.ref 100) (.ref x))] ++ led') → keysOf led' = keysOf led → Rd w.params X x [] led' → Q none { s with heap := h', toks := tk })
    (k1 : ∀ c r', r = c :: r' → ∀ h' led' tk t', Fr g L h' m → News g L h' ([(I, citO (.ref Mt) (Str.ofString "") ti), (Mt, methodObj (.ref 100) (.ref x))] ++ led') → keysOf led' = keysOf led → Rd w.params X x r' led' → Q (some (.str (chS c) t')) { s with heap := h', toks := tk }) :
    wpAny (model prog w) (Ar dp un gd (env :: outer)) (pyNext (.ref I)) Q (fun _ _ => False) s := by
  have ap : ∀ p ∈ [(I, citO (.ref Mt) (Str.ofString "") ti), (Mt, methodObj (.ref 100) (.ref x))], p.1 ∉ keysOf led := fun p hp => by
    rcases List.mem_cons.mp hp with rfl | hp
    · exact hI
    · rw [List.mem_singleton.mp hp]; exact hM
  have hN1 := (N _ (.head _)).1
  have hN2 := (N _ (.tail _ (.head _))).1
  have h100 : ∃ og fd, (hd.heap_39 w.params).lookup 100 = some og ∧ og.data = .func fd := ⟨_, _, by k_is, rfl⟩
  obtain ⟨og, fd, hl, hfd⟩ := h100
  have XS := X₀.keeps F.keep
  refine next_cit rfl hN1 hN2 rfl rfl rfl (XS _ _ hl) hfd ?_
  have N1 : News g L s.heap led := fun p hp => N p (List.mem_append_right _ hp)
  refine wpAny_call (method_call hN2 ?_)
  show codeAny (model prog w) (Ar dp (un + 1) gd (env :: outer)) _ _ _
  refine read_char B F X₀ T hf hke hroom N1 M hz (fun h' led' tk t' b e q M' => ?_)
  have F' := fr_led F N1 b
  have N' := news_led N b e q ap
  refine ⟨_, _, rfl, (N' _ (.head _)).1, (N' _ (.tail _ (.head _))).1, (X₀.keeps F'.keep) _ _ hl, fun hne => ?_, fun he h'' kk hI'' => ?_⟩
  · cases r with
    | nil => exact absurd rfl hne
    | cons c r' => exact k1 c r' rfl h' led' tk t' F' N' q M'
  · cases r with
    | cons c r' =>
      have : [c] = ([] : List Nat) := congrArg (fun s : Str => s.cps.toList) he
      cases this
    | nil =>
      have bI : But [I] h' h'' := fun b o nb eb => kk b o (by simpa using nb) eb
      refine k0 rfl h'' led' tk (fr_one F' N' ⟨_, .head _⟩ bI) (fun p hp => ?_) q M'
      have hp' : p = (I, endO) ∨ p ∈ (Mt, methodObj (.ref 100) (.ref x)) :: led' := List.mem_cons.mp hp
      rcases hp' with rfl | hp'
      · exact ⟨hI'', (N' _ (.head _)).2⟩
      · refine ⟨kk _ _ ?_ (N' p (.tail _ hp')).1, (N' p (.tail _ hp')).2⟩
        rcases List.mem_cons.mp hp' with rfl | hp'
        · exact hIM
        · intro z
          have hm : I ∈ keysOf led' := List.mem_map.mpr ⟨p, hp', z⟩
          exact hI (by rw [← show keysOf led' = keysOf led from q]; exact hm)
end
noncomputable def wsp (c : Nat) : Bool := c == 10 || c == 9 || c == 13 || c == 32
noncomputable def gP : List Nat → List Nat → List Nat × List Nat
  | [], t => (t, [])
  | [c], t => if wsp c then (t, []) else if c = 92 then (t, []) else (t ++ [c], [])
  | c :: d :: r, t => if wsp c then (t, d :: r) else if c = 92 then gP r (t ++ [d]) else gP (d :: r) (t ++ [c])
noncomputable def gQ : List Nat → List Nat → List Nat × List Nat
  | [], t => (t, [])
  | [c], t => if c = 34 then (t, []) else if c = 92 then (t, []) else (t ++ [c], [])
  | c :: d :: r, t => if c = 34 then (t, d :: r) else if c = 92 then gQ r (t ++ [d]) else gQ (d :: r) (t ++ [c])
theorem gP_cons (c : Nat) (r t : List Nat) : gP (c :: r) t = if wsp c then (t, r) else if c = 92 then gP r.tail (t ++ r.head?.toList) else gP r (t ++ [c]) := by
  cases r with
  | nil => simp [gP]
  | cons d r => simp [gP]
theorem gQ_cons (c : Nat) (r t : List Nat) : gQ (c :: r) t = if c = 34 then (t, r) else if c = 92 then gQ r.tail (t ++ r.head?.toList) else gQ r (t ++ [c]) := by
  cases r with
  | nil => simp [gQ]
  | cons d r => simp [gQ]
noncomputable def gO : List Nat → List Nat × List Nat
  | [] => ([], [])
  | c :: r => if wsp c then gO r else if c = 34 then gQ r [] else if c = 92 then gP r.tail r.head?.toList else gP r [c]
noncomputable def cst (t : List Nat) : Str := ⟨t.toArray⟩
theorem cst_app (t u : List Nat) : cst t ++ cst u = cst (t ++ u) := by
  apply str_ext
  show (t.toArray ++ u.toArray).toList = (t ++ u).toArray.toList
  simp
theorem cst_len (t : List Nat) : (cst t).length = t.length := by show t.toArray.size = _; simp
theorem cst_nil : cst [] = Str.ofString "" := rfl
theorem chS_cst (c : Nat) : chS c = cst [c] := rfl
theorem iter_K {prog : Program} {w : World} {A : Around} {E : Value → Shared → Prop} {s : Shared} {h₀ : Heap} {L Mt : Addr} {m : Str → Option Value} {news : List (Addr × Obj)} {f self : Value} {x : Str} {t : Tok} {Q : Value → Shared → Prop}
    (F : Fr h₀ L s.heap m) (N : News h₀ L s.heap news) (hM : (Mt, methodObj f self) ∈ news)
    (h : ∀ I h', Fr h₀ L h' m → News h₀ L h' ((I, citO (.ref Mt) x t) :: news) → (∀ p ∈ news, p.1 < I) → Q (.ref I) { s with heap := h' }) : wpAny (model prog w) A (call (.builtin "iter") [.ref Mt, .str x t]) Q E s :=
  iter_call (N _ hM).1 rfl (h _ _ (F.push _) (N.push F _) fun p hp => Heap.lt_size (N p hp).1)
theorem not_keys {a : Addr} {led : List (Addr × Obj)} (h : ∀ p ∈ led, p.1 ≠ a) : a ∉ keysOf led := fun q => by
  obtain ⟨p, hp, e⟩ := List.mem_map.mp q
  exact h p hp e
theorem fold_led {g h : Heap} {L : Addr} {a b : Addr × Obj} {led led0 : List (Addr × Obj)} (N : News g L h (a :: b :: led0)) (e : led = led0) : News g L h ([a, b] ++ led) := e ▸ N
noncomputable def Okc (c : Nat) : Prop := c ∈ [97, 34, 92, 10, 32, 101, 110, 100]
theorem occ_ws {c : Nat} (h : Okc c) : (Builtin.Str.occurrences (Str.ofString "\n\t\r ") (chS c) 0 (Str.ofString "\n\t\r ").length 1).isEmpty = !wsp c := by
  have key : ([97, 34, 92, 10, 32, 101, 110, 100].all fun c => (Builtin.Str.occurrences (Str.ofString "\n\t\r ") (chS c) 0 (Str.ofString "\n\t\r ").length 1).isEmpty == !wsp c) = true := by decide +kernel
  exact eq_of_beq (List.all_eq_true.mp key c h)
theorem chS_eq (c d : Nat) : (chS c == chS d) = decide (c = d) := by
  by_cases e : c = d
  · subst e; rw [decide_eq_true rfl]; exact beq_self_eq_true _
  · rw [decide_eq_false e]
    refine beq_eq_false_iff_ne.mpr fun q => e ?_
    have : [c] = [d] := congrArg (fun s : Str => s.cps.toList) q
    exact (List.cons.inj this).1
theorem q34 : Str.ofString "\"" = chS 34 := rfl
theorem q92 : Str.ofString "\\" = chS 92 := rfl
end Mine
end
section
open PySem PySem.W PyProof.Rows PySem.Calls PySem.Spec PyProof
namespace Mine
local macro_rules | `(tactic| walk_at $s:str) => Mine.hl [] [] s
local macro_rules | `(tactic| walk_at $s:str) => Mine.hl ["call builtin:iter", "exec For Name Name", "exec For Name Name cons nil", "exec For Name Name cons cons nil", "pyIter ref"] [] s
noncomputable def clsBodyOf : Stmt → List Stmt | .ClassDef _ _ _ b _ _ _ _ _ _ _ => b | _ => []
noncomputable def forBodyOf : Stmt → List Stmt | .For _ _ b _ _ => b | _ => []
noncomputable def thenOf : Stmt → List Stmt | .If _ b _ _ => b | _ => []
noncomputable def elseOf : Stmt → List Stmt | .If _ _ b _ => b | _ => []
noncomputable def gtDef : Stmt := (clsBodyOf (stmtAt 10))[2]!
noncomputable def gtScope : Scope := scopeOf gtDef
noncomputable def gtIf : Stmt := (forBodyOf ((bodyOf gtDef)[3]!))[1]!
noncomputable def loopQ : Stmt := (thenOf gtIf)[0]!
noncomputable def loopP : Stmt := (elseOf gtIf)[2]!
set_option maxHeartbeats 4000000 in
theorem loop_marks {prog : Program} {w : World} {A₀ : Around} {dp un : Nat} {gd : Option (List Code)} {s : Shared} {base g : Heap} {outer : List Env} {L : Addr} {mg mb m0 : Str → Option Value}
    {p : Program} {loose : List Str} {mean : ExcName → Option Value} {Qf : Flow → Shared → Prop} {x I Mt : Addr} {ti tt0 : Tok} {X : Str} {r t0 : List Nat} {led : List (Addr × Obj)}
    (B' : Below A₀ base outer g) (F0 : Fr g L s.heap m0) (X' : (hd.heap_39 w.params).In g) (T' : Top p loose mean mg mb g) (hroom : dp + 20 < recursionLimit) (hz : X.length ≤ 400)
    (hI : I ∉ keysOf led) (hM : Mt ∉ keysOf led) (hIM : Mt ≠ I) (N0 : News g L s.heap ([(I, citO (.ref Mt) (Str.ofString "") ti), (Mt, methodObj (.ref 100) (.ref x))] ++ led)) (M0 : Rd w.params X x r led)
    (hm0 : Has m0 [(Str.ofString "token", .str (cst t0) tt0), (Str.ofString "fiter", .ref I), (Str.ofString "self", .ref x)]) (hr : t0.length + r.length ≤ 400) (hok : ∀ c ∈ r, Okc c)
    (kr : ∀ h' tk t' m' led', Fr g L h' m' → News g L h' ([(I, citO (.ref Mt) (Str.ofString "") ti), (Mt, methodObj (.ref 100) (.ref x))] ++ led') → keysOf led' = keysOf led → Rd w.params X x (gQ r t0).2 led' → Qf (.ret (.str (cst (gQ r t0).1) t')) { s with heap := h', toks := tk })
    (kn : ∀ h' tk tt m' led', Fr g L h' m' → News g L h' ([(I, endO), (Mt, methodObj (.ref 100) (.ref x))] ++ led') → keysOf led' = keysOf led → Rd w.params X x [] led' → (gQ r t0).2 = [] → Has m' [(Str.ofString "token", .str (cst (gQ r t0).1) tt), (Str.ofString "fiter", .ref I), (Str.ofString "self", .ref x)] → Qf .next { s with heap := h', toks := tk }) :
    wpAny (model prog w) (Ar dp un gd (envOf (Str.ofString "_netrclex.get_token") gtScope L 107 (.ref 106) :: outer)) (exec loopQ (envOf (Str.ofString "_netrclex.get_token") gtScope L 107 (.ref 106))) Qf (fun _ _ => False) s := by
  have F0 := fr_has F0 [(Str.ofString "token", .str (cst t0) tt0), (Str.ofString "fiter", .ref I), (Str.ofString "self", .ref x)] ⟨hm0.1, hm0.2.1, hm0.2.2.1, trivial⟩
  refine For_it g rfl rfl ?_
  k_steps
  refine go ?_
  refine iter_self (N0 _ (.head _)).1 ?_
  refine ⟨I, fun n s' => E7 fun h tk m' led' r' t tt => A10 (s' = { s with heap := h, toks := tk }) (Fr g L h m') (keysOf led' = keysOf led) (News g L h ([(I, citO (.ref Mt) (Str.ofString "") ti), (Mt, methodObj (.ref 100) (.ref x))] ++ led')) (Rd w.params X x r' led') (Has m' [(Str.ofString "token", .str (cst t) tt), (Str.ofString "fiter", .ref I), (Str.ofString "self", .ref x)]) (gQ r' t = gQ r t0) (t.length + r'.length ≤ 400) (∀ c ∈ r', Okc c) (n = r'.length), r.length, rfl, ⟨_, _, _, led, r, t0, _, rfl, F0, rfl, N0, M0, ⟨rfl, rfl, rfl, trivial⟩, rfl, hr, hok, rfl⟩, ?_⟩
  clear F0 N0
  rintro n s' ⟨h, tk, m', led', r', t, tt, rfl, F12, hkeys2, N12, M12, hm12, hg12, hr12, hok12, rfl⟩
  refine next_read (X := X) (r := r') B' F12 X' T' rfl rfl (by exact (LI2 (.im (.lt (.a V0 (.n 20)) V1) (.lt (.a V0 (.n 5)) V1))) hroom) N12 (hkeys2 ▸ hI) (hkeys2 ▸ hM) hIM M12 (by exact (LI1 (.im (.le V0 (.n 400)) (.le V0 (.n 1000)))) hz) (fun hr0 h13 led13 tk13 F13 N13 q13 M13 => ?_) (fun d r13 hrd h13 led13 tk13 t13 F13 N13 q13 M13 => ?_)
  · subst hr0
    have hfin : gQ r t0 = (t, []) := hg12.symm
    exact kn _ _ tt _ _ F13 N13 (q13.trans hkeys2) M13 (by rw [hfin]) ⟨by rw [hfin]; exact hm12.1, hm12.2.1, hm12.2.2.1, trivial⟩
  · subst hrd
    refine ⟨m', _, F13, N13, fun h14 F14 N14 R1 hR1 => ?_⟩
    have F15 := fr_has (m := fun y => if y = Str.ofString "ch" then some (Value.str (chS d) t13) else m' y) F14 [(Str.ofString "ch", .str (chS d) t13), (Str.ofString "token", .str (cst t) tt), (Str.ofString "fiter", .ref I), (Str.ofString "self", .ref x)] ⟨rfl, hm12.1, hm12.2.1, hm12.2.2.1, trivial⟩
    have hod : Okc d := hok12 d (.head _)
    obtain ⟨k, hk, hkr, dx, pb, st, D, f, cc, cA, cT, al, t1, t2, t3, t4, u, v, kp, tD, fd, fo, oc, oA, oT, tX, ta, tq, n, qual, cl, doc, pm, ctv, vs, hled2, ⟨c1, c2, c3, c4, c5, c6, c7, c8, c9, _⟩, f1, f2, f3, f4, f5, f6, f7, f8, f9⟩ := id M13
    rw [hled2] at N14
    simp only [mchL, mchD, List.cons_append, List.nil_append] at N14
    clear hk hkr c1 c2 c3 c4 c5 c6 c7 c8 c9 f1 f2 f3 f4 f5 f6 f7 f8 f9
    have hdl : (chS d).length = 1 := rfl
    have htl : (cst t).length = t.length := cst_len t
    have hrl : t.length + (r13.length + 1) ≤ 400 := hr12
    clear F12 F13 F14 N12 N13
    rw [gQ_cons] at hg12
    k_steps
    · -- the mark: the word is told
      rename (chS d == Str.ofString "\"") = _ => hw
      rw [q34, chS_eq] at hw
      rw [if_pos (of_decide_eq_true hw)] at hg12
      rename Fr _ _ _ _ => F16
      rename News _ _ _ _ => N16
      have N17 := fold_led N16 hled2
      have e1 : (gQ r t0).1 = t := congrArg Prod.fst hg12.symm
      have e2 : (gQ r t0).2 = r13 := congrArg Prod.snd hg12.symm
      rw [e1, e2] at kr
      refine hR1 _ _ ?_
      exact kr _ _ tt _ led13 F16 N17 (q13.trans hkeys2) M13
    · -- a backslash: the next sign as it stands
      rename (chS d == Str.ofString "\"") = _ => hw
      rw [q34, chS_eq] at hw
      rw [if_neg (of_decide_eq_false hw)] at hg12
      rename (chS d == Str.ofString "\\") = _ => hw2
      rw [q92, chS_eq] at hw2
      rw [if_pos (of_decide_eq_true hw2)] at hg12
      refine go ?_
      rename Fr _ _ _ _ => F16
      rename News _ _ _ _ => N16
      have N17 := fold_led N16 hled2
      refine call_read (oth := [(I, citO (.ref Mt) (Str.ofString "") ti), (Mt, methodObj (.ref 100) (.ref x))]) B' F16 X' T' rfl rfl (by exact (LI2 (.im (.lt (.a V0 (.n 20)) V1) (.lt (.a V0 (.n 5)) V1))) hroom) N17 (fun p hp => by
        rcases List.mem_cons.mp hp with rfl | hp
        · exact (q13.trans hkeys2) ▸ hI
        · rw [List.mem_singleton.mp hp]; exact (q13.trans hkeys2) ▸ hM) M13 (by exact (LI1 (.im (.le V0 (.n 400)) (.le V0 (.n 1000)))) hz) (fun h18 led18 tk18 t18 F18 N18 q18 M18 => ?_)
      clear F16 N16 N17
      cases r13 with
      | nil =>
        k_steps
        rename Fr _ _ _ _ => F19
        rename News _ _ _ _ => N19
        rw [show cst t ++ Str.ofString "" = cst (t ++ []) from cst_app t []] at F19
        refine hR1 _ _ ?_
        exact go ⟨0, by simp, _, _, _, led18, [], t ++ [], _, rfl, F19, (q18.trans q13).trans hkeys2, N19, M18, ⟨rfl, rfl, rfl, trivial⟩, hg12, by simp; exact (LI2 (.im (.le (.a V0 V1) (.n 400)) (.le V0 (.n 400)))) hr12, (fun c hc => by cases hc), rfl⟩
      | cons e r14 =>
        have hel : (chS e).length = 1 := rfl
        have hrl2 : t.length + (r14.length + 1 + 1) ≤ 400 := hrl
        k_steps
        rename Fr _ _ _ _ => F19
        rename News _ _ _ _ => N19
        rw [show cst t ++ chS e = cst (t ++ [e]) from cst_app t [e]] at F19
        refine hR1 _ _ ?_
        exact go ⟨r14.length, by simp only [List.length_cons]; exact (LI1 (.lt V0 (.a (.a V0 O1) O1))), _, _, _, led18, r14, t ++ [e], _, rfl, F19, (q18.trans q13).trans hkeys2, N19, M18, ⟨rfl, rfl, rfl, trivial⟩, hg12, by simp; exact (LI2 (.im (.le (.a V0 (.a (.a V1 O1) O1)) (.n 400)) (.le (.a (.a V0 O1) V1) (.n 400)))) hrl2, fun c hc => hok12 c (.tail _ (.tail _ hc)), rfl⟩
    · -- any other sign
      rename (chS d == Str.ofString "\"") = _ => hw
      rw [q34, chS_eq] at hw
      rw [if_neg (of_decide_eq_false hw)] at hg12
      rename (chS d == Str.ofString "\\") = _ => hw2
      rw [q92, chS_eq] at hw2
      rw [if_neg (of_decide_eq_false hw2)] at hg12
      rename Fr _ _ _ _ => F19
      rename News _ _ _ _ => N19
      have N20 := fold_led N19 hled2
      rw [show cst t ++ chS d = cst (t ++ [d]) from cst_app t [d]] at F19
      refine hR1 _ _ ?_
      exact go ⟨r13.length, by simp, _, _, _, led13, r13, t ++ [d], _, rfl, F19, q13.trans hkeys2, N20, M13, ⟨rfl, rfl, rfl, trivial⟩, hg12, by simp; exact (LI2 (.im (.le (.a V0 (.a V1 O1)) (.n 400)) (.le (.a (.a V0 O1) V1) (.n 400)))) hrl, fun c hc => hok12 c (.tail _ hc), rfl⟩
set_option maxHeartbeats 4000000 in
theorem loop_plain {prog : Program} {w : World} {A₀ : Around} {dp un : Nat} {gd : Option (List Code)} {s : Shared} {base g : Heap} {outer : List Env} {L : Addr} {mg mb m0 : Str → Option Value}
    {p : Program} {loose : List Str} {mean : ExcName → Option Value} {Qf : Flow → Shared → Prop} {x I Mt : Addr} {ti tt0 : Tok} {X : Str} {r t0 : List Nat} {led : List (Addr × Obj)}
    (B' : Below A₀ base outer g) (F0 : Fr g L s.heap m0) (X' : (hd.heap_39 w.params).In g) (T' : Top p loose mean mg mb g) (hroom : dp + 20 < recursionLimit) (hz : X.length ≤ 400)
    (hI : I ∉ keysOf led) (hM : Mt ∉ keysOf led) (hIM : Mt ≠ I) (N0 : News g L s.heap ([(I, citO (.ref Mt) (Str.ofString "") ti), (Mt, methodObj (.ref 100) (.ref x))] ++ led)) (M0 : Rd w.params X x r led)
    (hm0 : Has m0 [(Str.ofString "token", .str (cst t0) tt0), (Str.ofString "fiter", .ref I), (Str.ofString "self", .ref x)]) (hr : t0.length + r.length ≤ 400) (hok : ∀ c ∈ r, Okc c)
    (kr : ∀ h' tk t' m' led', Fr g L h' m' → News g L h' ([(I, citO (.ref Mt) (Str.ofString "") ti), (Mt, methodObj (.ref 100) (.ref x))] ++ led') → keysOf led' = keysOf led → Rd w.params X x (gP r t0).2 led' → Qf (.ret (.str (cst (gP r t0).1) t')) { s with heap := h', toks := tk })
    (kn : ∀ h' tk tt m' led', Fr g L h' m' → News g L h' ([(I, endO), (Mt, methodObj (.ref 100) (.ref x))] ++ led') → keysOf led' = keysOf led → Rd w.params X x [] led' → (gP r t0).2 = [] → Has m' [(Str.ofString "token", .str (cst (gP r t0).1) tt), (Str.ofString "fiter", .ref I), (Str.ofString "self", .ref x)] → Qf .next { s with heap := h', toks := tk }) :
    wpAny (model prog w) (Ar dp un gd (envOf (Str.ofString "_netrclex.get_token") gtScope L 107 (.ref 106) :: outer)) (exec loopP (envOf (Str.ofString "_netrclex.get_token") gtScope L 107 (.ref 106))) Qf (fun _ _ => False) s := by
  have F0 := fr_has F0 [(Str.ofString "token", .str (cst t0) tt0), (Str.ofString "fiter", .ref I), (Str.ofString "self", .ref x)] ⟨hm0.1, hm0.2.1, hm0.2.2.1, trivial⟩
  refine For_it g rfl rfl ?_
  k_steps
  refine go ?_
  refine iter_self (N0 _ (.head _)).1 ?_
  refine ⟨I, fun n s' => E7 fun h tk m' led' r' t tt => A10 (s' = { s with heap := h, toks := tk }) (Fr g L h m') (keysOf led' = keysOf led) (News g L h ([(I, citO (.ref Mt) (Str.ofString "") ti), (Mt, methodObj (.ref 100) (.ref x))] ++ led')) (Rd w.params X x r' led') (Has m' [(Str.ofString "token", .str (cst t) tt), (Str.ofString "fiter", .ref I), (Str.ofString "self", .ref x)]) (gP r' t = gP r t0) (t.length + r'.length ≤ 400) (∀ c ∈ r', Okc c) (n = r'.length), r.length, rfl, ⟨_, _, _, led, r, t0, _, rfl, F0, rfl, N0, M0, ⟨rfl, rfl, rfl, trivial⟩, rfl, hr, hok, rfl⟩, ?_⟩
  clear F0 N0
  rintro n s' ⟨h, tk, m', led', r', t, tt, rfl, F12, hkeys2, N12, M12, hm12, hg12, hr12, hok12, rfl⟩
  refine next_read (X := X) (r := r') B' F12 X' T' rfl rfl (by exact (LI2 (.im (.lt (.a V0 (.n 20)) V1) (.lt (.a V0 (.n 5)) V1))) hroom) N12 (hkeys2 ▸ hI) (hkeys2 ▸ hM) hIM M12 (by exact (LI1 (.im (.le V0 (.n 400)) (.le V0 (.n 1000)))) hz) (fun hr0 h13 led13 tk13 F13 N13 q13 M13 => ?_) (fun d r13 hrd h13 led13 tk13 t13 F13 N13 q13 M13 => ?_)
  · subst hr0
    have hfin : gP r t0 = (t, []) := hg12.symm
    exact kn _ _ tt _ _ F13 N13 (q13.trans hkeys2) M13 (by rw [hfin]) ⟨by rw [hfin]; exact hm12.1, hm12.2.1, hm12.2.2.1, trivial⟩
  · subst hrd
    refine ⟨m', _, F13, N13, fun h14 F14 N14 R1 hR1 => ?_⟩
    have F15 := fr_has (m := fun y => if y = Str.ofString "ch" then some (Value.str (chS d) t13) else m' y) F14 [(Str.ofString "ch", .str (chS d) t13), (Str.ofString "token", .str (cst t) tt), (Str.ofString "fiter", .ref I), (Str.ofString "self", .ref x)] ⟨rfl, hm12.1, hm12.2.1, hm12.2.2.1, trivial⟩
    have hod : Okc d := hok12 d (.head _)
    obtain ⟨k, hk, hkr, dx, pb, st, D, f, cc, cA, cT, al, t1, t2, t3, t4, u, v, kp, tD, fd, fo, oc, oA, oT, tX, ta, tq, n, qual, cl, doc, pm, ctv, vs, hled2, ⟨c1, c2, c3, c4, c5, c6, c7, c8, c9, _⟩, f1, f2, f3, f4, f5, f6, f7, f8, f9⟩ := id M13
    rw [hled2] at N14
    simp only [mchL, mchD, List.cons_append, List.nil_append] at N14
    clear hk hkr c1 c2 c3 c4 c5 c6 c7 c8 c9 f1 f2 f3 f4 f5 f6 f7 f8 f9
    have hdl : (chS d).length = 1 := rfl
    have htl : (cst t).length = t.length := cst_len t
    have hrl : t.length + (r13.length + 1) ≤ 400 := hr12
    clear F12 F13 F14 N12 N13
    rw [gP_cons] at hg12
    k_steps
    · -- a backslash: the next sign as it stands
      rename (Builtin.Str.occurrences _ (chS d) _ _ _).isEmpty = _ => hw
      rw [occ_ws hod] at hw
      rw [if_neg (by simpa using hw)] at hg12
      rename (chS d == Str.ofString "\\") = _ => hw2
      rw [q92, chS_eq] at hw2
      rw [if_pos (of_decide_eq_true hw2)] at hg12
      refine go ?_
      rename Fr _ _ _ _ => F16
      rename News _ _ _ _ => N16
      have N17 := fold_led N16 hled2
      refine call_read (oth := [(I, citO (.ref Mt) (Str.ofString "") ti), (Mt, methodObj (.ref 100) (.ref x))]) B' F16 X' T' rfl rfl (by exact (LI2 (.im (.lt (.a V0 (.n 20)) V1) (.lt (.a V0 (.n 5)) V1))) hroom) N17 (fun p hp => by
        rcases List.mem_cons.mp hp with rfl | hp
        · exact (q13.trans hkeys2) ▸ hI
        · rw [List.mem_singleton.mp hp]; exact (q13.trans hkeys2) ▸ hM) M13 (by exact (LI1 (.im (.le V0 (.n 400)) (.le V0 (.n 1000)))) hz) (fun h18 led18 tk18 t18 F18 N18 q18 M18 => ?_)
      clear F16 N16 N17
      cases r13 with
      | nil =>
        k_steps
        rename Fr _ _ _ _ => F19
        rename News _ _ _ _ => N19
        rw [show cst t ++ Str.ofString "" = cst (t ++ []) from cst_app t []] at F19
        refine hR1 _ _ ?_
        exact go ⟨0, by simp, _, _, _, led18, [], t ++ [], _, rfl, F19, (q18.trans q13).trans hkeys2, N19, M18, ⟨rfl, rfl, rfl, trivial⟩, hg12, by simp; exact (LI2 (.im (.le (.a V0 V1) (.n 400)) (.le V0 (.n 400)))) hr12, (fun c hc => by cases hc), rfl⟩
      | cons e r14 =>
        have hel : (chS e).length = 1 := rfl
        have hrl2 : t.length + (r14.length + 1 + 1) ≤ 400 := hrl
        k_steps
        rename Fr _ _ _ _ => F19
        rename News _ _ _ _ => N19
        rw [show cst t ++ chS e = cst (t ++ [e]) from cst_app t [e]] at F19
        refine hR1 _ _ ?_
        exact go ⟨r14.length, by simp only [List.length_cons]; exact (LI1 (.lt V0 (.a (.a V0 O1) O1))), _, _, _, led18, r14, t ++ [e], _, rfl, F19, (q18.trans q13).trans hkeys2, N19, M18, ⟨rfl, rfl, rfl, trivial⟩, hg12, by simp; exact (LI2 (.im (.le (.a V0 (.a (.a V1 O1) O1)) (.n 400)) (.le (.a (.a V0 O1) V1) (.n 400)))) hrl2, fun c hc => hok12 c (.tail _ (.tail _ hc)), rfl⟩
    · -- any other sign
      rename (Builtin.Str.occurrences _ (chS d) _ _ _).isEmpty = _ => hw
      rw [occ_ws hod] at hw
      rw [if_neg (by simpa using hw)] at hg12
      rename (chS d == Str.ofString "\\") = _ => hw2
      rw [q92, chS_eq] at hw2
      rw [if_neg (of_decide_eq_false hw2)] at hg12
      rename Fr _ _ _ _ => F19
      rename News _ _ _ _ => N19
      have N20 := fold_led N19 hled2
      rw [show cst t ++ chS d = cst (t ++ [d]) from cst_app t [d]] at F19
      refine hR1 _ _ ?_
      exact go ⟨r13.length, by simp, _, _, _, led13, r13, t ++ [d], _, rfl, F19, q13.trans hkeys2, N20, M13, ⟨rfl, rfl, rfl, trivial⟩, hg12, by simp; exact (LI2 (.im (.le (.a V0 (.a V1 O1)) (.n 400)) (.le (.a (.a V0 O1) V1) (.n 400)))) hrl, fun c hc => hok12 c (.tail _ hc), rfl⟩
    · -- a blank: the word is told
      rename (Builtin.Str.occurrences _ (chS d) _ _ _).isEmpty = _ => hw
      rw [occ_ws hod] at hw
      rw [if_pos (by simpa using hw)] at hg12
      rename Fr _ _ _ _ => F16
      rename News _ _ _ _ => N16
      have N17 := fold_led N16 hled2
      have e1 : (gP r t0).1 = t := congrArg Prod.fst hg12.symm
      have e2 : (gP r t0).2 = r13 := congrArg Prod.snd hg12.symm
      rw [e1, e2] at kr
      refine hR1 _ _ ?_
      exact kr _ _ tt _ led13 F16 N17 (q13.trans hkeys2) M13
end Mine
end
section
open PySem PySem.W PyProof.Rows PySem.Calls PySem.Spec PyProof
namespace Mine
set_option maxHeartbeats 4000000 in
local macro_rules | `(tactic| walk_at $s:str) => Mine.hl ["call builtin:iter", "exec For Name Name", "exec For Name Name cons nil", "exec For Name Name cons cons nil", "pyIter ref"] [] s
theorem get_token_spec {prog : Program} {w : World} {A₀ : Around} {dp un : Nat} {gd : Option (List Code)} {s : Shared} {base h₀ : Heap} {outer : List Env} {L : Addr} {m mg mb : Str → Option Value} {env : Env}
    {p : Program} {loose : List Str} {mean : ExcName → Option Value} {Q E : Value → Shared → Prop} {x : Addr} {X : Str} {r : List Nat} {led : List (Addr × Obj)}
    (B : Below A₀ base outer h₀) (F : Fr h₀ L s.heap m) (X₀ : (hd.heap_39 w.params).In h₀) (T : Top p loose mean mg mb h₀) (hf : env.frame = some L) (hke : env.scope.kind = .function)
    (hroom : dp + 22 < recursionLimit)
    (N : News h₀ L s.heap led) (M : Rd w.params X x r led) (hz : X.length ≤ 400) (hr : r.length ≤ 400) (hok : ∀ c ∈ r, Okc c)
    (ret : ∀ h' led' tk t', But (keysOf led) s.heap h' → (∀ p ∈ led', h'.get? p.1 = some p.2) → keysOf led' = keysOf led → Rd w.params X x (gO r).2 led' → Q (.str (cst (gO r).1) t') { s with heap := h', toks := tk }) :
    wpAny (model prog w) (Ar dp un gd (env :: outer)) (call (.ref 107) [.ref x] []) Q E s := by
  refine enter (args := ⟨[.ref x], []⟩) (binds := [(Str.ofString "self", .ref x)]) B F X₀ T N hf hke (by exact (LI2 (.im (.lt (.a V0 (.n 22)) V1) (.lt V0 V1))) hroom) (by k_is) (by k_is) (BindsTo.of_eq rfl) (locs rfl) (fun g h₁ hg hg' F' N' B' X' T' hlow => ?_) rfl rfl rfl (by decide)
  obtain ⟨k, hk, hkr, dx, pb, st, D, f, c, cA, cT, al, t1, t2, t3, t4, u, v, kp, tD, fd, fo, oc, oA, oT, tX, ta, tq, n, qual, cl, doc, pm, ctv, vs, hled, ⟨c1, c2, c3, c4, c5, c6, c7, c8, c9, _⟩, f1, f2, f3, f4, f5, f6, f7, f8, f9⟩ := id M
  rw [hled] at N'
  simp only [mchL, mchD, List.cons_append, List.nil_append] at N'
  k_steps
  refine go ?_
  rename Fr _ _ _ _ => F2
  rename News _ _ _ _ => N2
  rename_i Mt h3 lM
  refine iter_K F2 N2 (.head _) (fun I h4 F4 N4 lI => ?_)
  k_lt lI
  k_steps
  refine go ?_
  refine For_it g rfl rfl ?_
  k_steps
  refine go ?_
  rename Fr _ _ _ _ => F5
  rename News _ _ _ _ => N5
  have hI : I ∉ keysOf led := not_keys (by rw [hled]; simp only [mchL, List.cons_append, List.nil_append]; k_all)
  have hM : Mt ∉ keysOf led := not_keys (by rw [hled]; simp only [mchL, List.cons_append, List.nil_append]; k_all)
  have hIM : Mt ≠ I := neN (by exact (LI2 (.im (.lt V0 V1) (.im (.eq V0 V1) .ff))) lI.1)
  rename_i h5
  obtain ⟨ti, N6⟩ : ∃ ti, News g s.heap.objs.size h5 ([(I, citO (.ref Mt) (Str.ofString "") ti), (Mt, methodObj (.ref 100) (.ref x))] ++ led) := ⟨_, by rw [hled]; exact N5⟩
  refine iter_self (N6 _ (.head _)).1 ?_
  clear N5 c1 c2 c3 c4 c5 c6 c7 c8 c9 lM lI f1 f2 f3 f4 f5 f6 f7 f8 f9 hkr hk hled
  refine ⟨I, fun n s' => E4 fun h tk m' led' => A4 (s' = { s with heap := h, toks := tk }) (Fr g s.heap.objs.size h m') (keysOf led' = keysOf led) ((E2 fun r' tt => A7 (News g s.heap.objs.size h ([(I, citO (.ref Mt) (Str.ofString "") ti), (Mt, methodObj (.ref 100) (.ref x))] ++ led')) (Rd w.params X x r' led') (Has m' [(Str.ofString "token", .str (Str.ofString "") tt), (Str.ofString "fiter", .ref I), (Str.ofString "self", .ref x)]) (gO r' = gO r) (r'.length ≤ 400) (∀ c ∈ r', Okc c) (n = r'.length + 1)) ∨
     (∃ tt, A5 (News g s.heap.objs.size h ([(I, endO), (Mt, methodObj (.ref 100) (.ref x))] ++ led')) (Rd w.params X x [] led') ((gO r).2 = []) (Has m' [(Str.ofString "token", .str (cst (gO r).1) tt), (Str.ofString "fiter", .ref I), (Str.ofString "self", .ref x)]) (n = 0))), r.length + 1, rfl, ⟨_, _, _, led, rfl, F5, rfl, .inl ⟨r, _, N6, M, ⟨rfl, rfl, rfl, trivial⟩, rfl, hr, hok, rfl⟩⟩, ?_⟩
  clear F5 N6 M
  rintro n s' ⟨h, tk, m', led', rfl, F6, hkeys, (⟨r', tt, N6, M6, hm6, hg6, hr6, hok6, rfl⟩ | ⟨tt, N6, M6, he6, hm6, rfl⟩)⟩
  · refine next_read (X := X) (r := r') B' F6 X' T' rfl rfl (by exact (LI2 (.im (.lt (.a V0 (.n 22)) V1) (.lt (.a (.a V0 O1) (.n 5)) V1))) hroom) N6 (hkeys ▸ hI) (hkeys ▸ hM) hIM M6 (by exact (LI1 (.im (.le V0 (.n 400)) (.le V0 (.n 1000)))) hz) (fun hr0 h7 led7 tk7 F7 N7 q7 M7 => ?_) (fun c r7 hrc h7 led7 tk7 t7 F7 N7 q7 M7 => ?_)
    · subst hr0
      have hfin : gO r = ([], []) := hg6.symm
      have F8 := fr_has F7 [(Str.ofString "token", .str (Str.ofString "") tt), (Str.ofString "fiter", .ref I), (Str.ofString "self", .ref x)] ⟨hm6.1, hm6.2.1, hm6.2.2.1, trivial⟩
      clear F6 F7
      k_steps
      rw [hfin] at ret
      exact go (ret _ led7 _ tt (fun b o nb e => F8.keep b o (hg b o nb e)) (fun p hp => (N7 p (.tail _ (.tail _ hp))).1) (q7.trans hkeys) M7)
    · subst hrc
      refine ⟨m', _, F7, N7, fun h8 F8 N8 R1 hR1 => ?_⟩
      have F9 := fr_has (m := fun y => if y = Str.ofString "ch" then some (Value.str (chS c) t7) else m' y) F8 [(Str.ofString "ch", .str (chS c) t7), (Str.ofString "token", .str (Str.ofString "") tt), (Str.ofString "fiter", .ref I), (Str.ofString "self", .ref x)] ⟨rfl, hm6.1, hm6.2.1, hm6.2.2.1, trivial⟩
      have hoc : Okc c := hok6 c (.head _)
      obtain ⟨k, hk, hkr, dx, pb, st, D, f, cc, cA, cT, al, t1, t2, t3, t4, u, v, kp, tD, fd, fo, oc, oA, oT, tX, ta, tq, n, qual, cl, doc, pm, ctv, vs, hled, ⟨c1, c2, c3, c4, c5, c6, c7, c8, c9, _⟩, f1, f2, f3, f4, f5, f6, f7, f8, f9⟩ := id M7
      rw [hled] at N8
      simp only [mchL, mchD, List.cons_append, List.nil_append] at N8
      clear hk hkr c1 c2 c3 c4 c5 c6 c7 c8 c9 f1 f2 f3 f4 f5 f6 f7 f8 f9
      have hcl : (chS c).length = 1 := rfl
      have hr7 : r7.length + 1 ≤ 400 := hr6
      have hok7 : ∀ c ∈ r7, Okc c := fun c hc => hok6 c (.tail _ hc)
      clear F6 F7 F8 N6 N7
      rw [gO] at hg6
      k_steps
      · -- in marks
        rename (Builtin.Str.occurrences _ (chS c) _ _ _).isEmpty = _ => hw
        rw [occ_ws hoc] at hw
        rename (chS c == Str.ofString "\"") = _ => hw1
        rw [q34, chS_eq] at hw1
        rw [if_neg (by simpa using hw), if_pos (of_decide_eq_true hw1)] at hg6
        refine go ?_
        rename Fr _ _ _ _ => F10
        rename News _ _ _ _ => N10
        have N11 := fold_led N10 hled
        refine loop_marks (led := led7) (r := r7) (t0 := []) B' F10 X' T' (by exact (LI2 (.im (.lt (.a V0 (.n 22)) V1) (.lt (.a (.a V0 O1) (.n 20)) V1))) hroom) hz ((q7.trans hkeys) ▸ hI) ((q7.trans hkeys) ▸ hM) hIM N11 M7 ⟨rfl, rfl, rfl, trivial⟩ (by simp; exact (LI1 (.im (.le (.a V0 O1) (.n 400)) (.le V0 (.n 400)))) hr7) hok7 (fun h' tk t' m' led9 F9' N9' q9 M9 => ?_) (fun h' tk tt' m' led9 F9' N9' q9 M9 e9 hm9 => ?_)
        · rw [hg6] at M9 ⊢
          refine hR1 _ _ ?_
          exact go (ret _ led9 _ t' (fun b o nb e => F9'.keep b o (hg b o nb e)) (fun p hp => (N9' p (.tail _ (.tail _ hp))).1) (q9.trans (q7.trans hkeys)) M9)
        · rw [hg6] at e9 hm9
          clear F10 N10 N11
          k_steps
          refine hR1 _ _ ?_
          exact go ⟨0, by exact (LI1 (.lt O0 (.a V0 O1))), _, _, m', led9, rfl, F9', q9.trans (q7.trans hkeys), .inr ⟨tt', N9', M9, e9, hm9, rfl⟩⟩
      · -- a backslash begins it
        rename (Builtin.Str.occurrences _ (chS c) _ _ _).isEmpty = _ => hw
        rw [occ_ws hoc] at hw
        rename (chS c == Str.ofString "\"") = _ => hw1
        rw [q34, chS_eq] at hw1
        rename (chS c == Str.ofString "\\") = _ => hw2
        rw [q92, chS_eq] at hw2
        rw [if_neg (by simpa using hw), if_neg (of_decide_eq_false hw1), if_pos (of_decide_eq_true hw2)] at hg6
        refine go ?_
        rename Fr _ _ _ _ => F5
        rename News _ _ _ _ => N5
        have N6 := fold_led N5 hled
        refine call_read (oth := [(I, citO (.ref Mt) (Str.ofString "") ti), (Mt, methodObj (.ref 100) (.ref x))]) B' F5 X' T' rfl rfl (by exact (LI2 (.im (.lt (.a V0 (.n 22)) V1) (.lt (.a (.a V0 O1) (.n 5)) V1))) hroom) N6 (fun p hp => by
          rcases List.mem_cons.mp hp with rfl | hp
          · exact (q7.trans hkeys) ▸ hI
          · rw [List.mem_singleton.mp hp]; exact (q7.trans hkeys) ▸ hM) M7 (by exact (LI1 (.im (.le V0 (.n 400)) (.le V0 (.n 1000)))) hz) (fun h8 led8 tk8 t8 F8 N8 q8 M8 => ?_)
        clear F5 N5 N6
        cases r7 with
        | nil =>
          k_steps
          refine go ?_
          rename Fr _ _ _ _ => F10
          rename News _ _ _ _ => N10
          have N11 := fold_led N10 rfl
          refine loop_plain (led := led8) (r := ([] : List Nat)) (t0 := ([] : List Nat)) B' F10 X' T' (by exact (LI2 (.im (.lt (.a V0 (.n 22)) V1) (.lt (.a (.a V0 O1) (.n 20)) V1))) hroom) hz (((q8.trans q7).trans hkeys) ▸ hI) (((q8.trans q7).trans hkeys) ▸ hM) hIM N11 M8 ⟨rfl, rfl, rfl, trivial⟩ (by simp) (fun c hc => by cases hc) (fun h' tk t' m' led9 F9' N9' q9 M9 => ?_) (fun h' tk tt' m' led9 F9' N9' q9 M9 e9 hm9 => ?_)
          · rw [show gP [] [] = gO r from hg6] at M9 ⊢
            refine hR1 _ _ ?_
            exact go (ret _ led9 _ t' (fun b o nb e => F9'.keep b o (hg b o nb e)) (fun p hp => (N9' p (.tail _ (.tail _ hp))).1) (q9.trans ((q8.trans q7).trans hkeys)) M9)
          · rw [show gP [] [] = gO r from hg6] at e9 hm9
            clear F10 N10 N11
            k_steps
            refine hR1 _ _ ?_
            exact go ⟨0, by exact (LI1 (.lt O0 (.a V0 O1))), _, _, m', led9, rfl, F9', q9.trans ((q8.trans q7).trans hkeys), .inr ⟨tt', N9', M9, e9, hm9, rfl⟩⟩
        | cons e r8 =>
          have hel : (chS e).length = 1 := rfl
          have hr8 : r8.length + 1 + 1 ≤ 400 := hr7
          k_steps
          refine go ?_
          rename Fr _ _ _ _ => F10
          rename News _ _ _ _ => N10
          have N11 := fold_led N10 rfl
          refine loop_plain (led := led8) (r := r8) (t0 := [e]) B' F10 X' T' (by exact (LI2 (.im (.lt (.a V0 (.n 22)) V1) (.lt (.a (.a V0 O1) (.n 20)) V1))) hroom) hz (((q8.trans q7).trans hkeys) ▸ hI) (((q8.trans q7).trans hkeys) ▸ hM) hIM N11 M8 ⟨rfl, rfl, rfl, trivial⟩ (by simp; exact (LI1 (.im (.le (.a (.a V0 O1) O1) (.n 400)) (.le (.a O1 V0) (.n 400)))) hr8) (fun c hc => hok7 c (.tail _ hc)) (fun h' tk t' m' led9 F9' N9' q9 M9 => ?_) (fun h' tk tt' m' led9 F9' N9' q9 M9 e9 hm9 => ?_)
          · rw [show gP r8 [e] = gO r from hg6] at M9 ⊢
            refine hR1 _ _ ?_
            exact go (ret _ led9 _ t' (fun b o nb e => F9'.keep b o (hg b o nb e)) (fun p hp => (N9' p (.tail _ (.tail _ hp))).1) (q9.trans ((q8.trans q7).trans hkeys)) M9)
          · rw [show gP r8 [e] = gO r from hg6] at e9 hm9
            clear F10 N10 N11
            k_steps
            refine hR1 _ _ ?_
            exact go ⟨0, by exact (LI1 (.lt O0 (.a V0 O1))), _, _, m', led9, rfl, F9', q9.trans ((q8.trans q7).trans hkeys), .inr ⟨tt', N9', M9, e9, hm9, rfl⟩⟩
      · -- any other sign begins it
        rename (Builtin.Str.occurrences _ (chS c) _ _ _).isEmpty = _ => hw
        rw [occ_ws hoc] at hw
        rename (chS c == Str.ofString "\"") = _ => hw1
        rw [q34, chS_eq] at hw1
        rename (chS c == Str.ofString "\\") = _ => hw2
        rw [q92, chS_eq] at hw2
        rw [if_neg (by simpa using hw), if_neg (of_decide_eq_false hw1), if_neg (of_decide_eq_false hw2)] at hg6
        refine go ?_
        rename Fr _ _ _ _ => F10
        rename News _ _ _ _ => N10
        have N11 := fold_led N10 hled
        refine loop_plain (led := led7) (r := r7) (t0 := [c]) B' F10 X' T' (by exact (LI2 (.im (.lt (.a V0 (.n 22)) V1) (.lt (.a (.a V0 O1) (.n 20)) V1))) hroom) hz ((q7.trans hkeys) ▸ hI) ((q7.trans hkeys) ▸ hM) hIM N11 M7 ⟨rfl, rfl, rfl, trivial⟩ (by simp; exact (LI1 (.im (.le (.a V0 O1) (.n 400)) (.le (.a O1 V0) (.n 400)))) hr7) hok7 (fun h' tk t' m' led9 F9' N9' q9 M9 => ?_) (fun h' tk tt' m' led9 F9' N9' q9 M9 e9 hm9 => ?_)
        · rw [hg6] at M9 ⊢
          refine hR1 _ _ ?_
          exact go (ret _ led9 _ t' (fun b o nb e => F9'.keep b o (hg b o nb e)) (fun p hp => (N9' p (.tail _ (.tail _ hp))).1) (q9.trans (q7.trans hkeys)) M9)
        · rw [hg6] at e9 hm9
          clear F10 N10 N11
          k_steps
          refine hR1 _ _ ?_
          exact go ⟨0, by exact (LI1 (.lt O0 (.a V0 O1))), _, _, m', led9, rfl, F9', q9.trans (q7.trans hkeys), .inr ⟨tt', N9', M9, e9, hm9, rfl⟩⟩
      · -- a blank
        rename (Builtin.Str.occurrences _ (chS c) _ _ _).isEmpty = _ => hw
        rw [occ_ws hoc] at hw
        rw [if_pos (by simpa using hw)] at hg6
        rename Fr _ _ _ _ => F10
        rename News _ _ _ _ => N10
        have N11 := fold_led N10 hled
        refine hR1 _ _ ?_
        exact go ⟨r7.length + 1, by simp, _, _, _, led7, rfl, F10, q7.trans hkeys, .inl ⟨r7, tt, N11, M7, ⟨rfl, rfl, rfl, trivial⟩, hg6, by exact (LI1 (.im (.le (.a V0 O1) (.n 400)) (.le V0 (.n 400)))) hr7, hok7, rfl⟩⟩
  · refine next_end rfl (N6 _ (.head _)).1 (fun h7 k7 => ?_)
    have F7 := fr_keep F6 (fun b o _ e => k7 b o e)
    have N7 : News g s.heap.objs.size h7 ([(I, endO), (Mt, methodObj (.ref 100) (.ref x))] ++ led') := fun p hp => ⟨k7 _ _ (N6 p hp).1, (N6 p hp).2⟩
    have F8 := fr_has F7 [(Str.ofString "token", .str (cst (gO r).1) tt), (Str.ofString "fiter", .ref I), (Str.ofString "self", .ref x)] ⟨hm6.1, hm6.2.1, hm6.2.2.1, trivial⟩
    clear F6 F7
    k_steps
    exact go (ret _ led' _ tt (fun b o nb e => F8.keep b o (hg b o nb e)) (fun p hp => (N7 p (.tail _ (.tail _ hp))).1) hkeys (he6 ▸ M6))
end Mine
end
section
open PySem PySem.W PyProof.Rows PySem.Calls PySem.Spec
namespace Mine
section
variable {prog : Program} {w : World} {A : Around} {env : Env} {g : Heap} {s s₂ : Shared}
noncomputable def CompAtA (prog : Program) (w : World) (A : Around) (env : Env) (scope : Scope) (cl : List (Str × Addr)) (x : Str) (tst : Option Expr) (elt : Expr) (y : Str) (Q : Flow → Shared → Prop) (it : Value) (s₂ : Shared) : Prop :=
  E10 fun (I : Addr) (fp : List Addr) (n : Nat) (P : Nat → Value → Prop) (St : Nat → Heap → Prop) (g : Heap) (L : Addr) (m : Str → Option Value) (led : List (Addr × Obj)) (J : Nat → List Value → List (Addr × Obj) → Prop) => A15 (it = .ref I) (L = env.locals) (Walks prog w A I fp [I] n P St) (St 0 s₂.heap) (Fr g L s₂.heap m) (News g L s₂.heap led) (∀ p ∈ led, p.1 ≠ I) (g.get? I = none) (L ≠ I) (I < s₂.heap.objs.size) (∀ b ∈ fp, b < s₂.heap.objs.size) (n < sizeLine) (J 0 [] led) (∀ (g' : Heap) (i : Nat) (v : Value) (out : List Value) (k : Nat) (led₁ : List (Addr × Obj)) (h : Heap) (tk : Nat) (mC : Str → Option Value) (own : List (Addr × Obj)), (∀ b o, g.get? b = some o → g'.get? b = some o) → g'.Ns L m → (∀ b o, b ≠ I → b ∉ led.map (·.1) → s₂.heap.get? b = some o → g'.get? b = some o) →
      i < n → P i v → out.length ≤ i → J i out led₁ → (∀ p ∈ led₁, p.1 ≠ I ∧ p.1 ≠ s₂.heap.objs.size ∧ p.1 ≠ s₂.heap.objs.size + 1) →
      Fr g' (s₂.heap.objs.size + 1) h (fun y => if y = x then some v else mC y) → News g' (s₂.heap.objs.size + 1) h ((s₂.heap.objs.size, listOf out.toArray k) :: (led₁ ++ own)) →
      wpAny (model prog w) A (match tst with | none => pure true | some c => isTrue c (cEnv env scope (s₂.heap.objs.size + 1) cl) (eval c (cEnv env scope (s₂.heap.objs.size + 1) cl)))
        (fun b s' => if b = true then wpAny (model prog w) A (eval elt (cEnv env scope (s₂.heap.objs.size + 1) cl)) (fun r s' => Halt (CompEnd g' (s₂.heap.objs.size + 1) s₂.heap.objs.size I (fun o l => J (i + 1) (o ++ [r]) l) out k own s₂ s')) (fun _ _ => False) s'
          else Halt (CompEnd g' (s₂.heap.objs.size + 1) s₂.heap.objs.size I (J (i + 1)) out k own s₂ s'))
        (fun _ _ => False) { s₂ with heap := h, toks := tk }) (∀ (led' : List (Addr × Obj)) (out : List Value) (k : Nat) (h : Heap) (tk : Nat), J n out led' → Fr g L h (fun z => if z = y then some (.ref s₂.heap.objs.size) else m z) → News g L h ((s₂.heap.objs.size, listOf out.toArray k) :: led') → (∀ b o, b ≠ I → b ≠ L → b ∉ led.map (·.1) → s₂.heap.get? b = some o → h.get? b = some o) → Q .next { s₂ with heap := h, toks := tk })
theorem comp_ruleA {elt iter : Expr} {x : Str} {px : Pos} {tst : Option Expr} {scope : Scope} {pos : Pos} {cl : List (Str × Addr)} {y : Str} {py spos : Pos} {Q : Flow → Shared → Prop}
    (hh : A.handled = none) (hsw : swapsWith (.ListComp elt [⟨.Name x px, iter, tst.toList, 0⟩] scope pos) (some (.Name y py)) spos.line env = pure true) (hy : env.kindOf y = some .local) (hpy : (env.scope.kind == .class || (env.scope.kind == .module && env.locals != env.globals)) = false) (hclos : closureFor scope env = pure cl) (hkind : scope.kind = .function) (hcell : ∀ y ∈ scope.names, y.2 ≠ .cell) (hnames : ∀ y ∈ scope.names, y.2 = .local → scope.names.lookup y.1 = some .local) (hx : scope.names.lookup x = some .local)
    (h : wpAny (model prog w) A (eval iter env) (fun xv s₁ => wpAny (model prog w) A (pyIter xv) (fun it s₂ => CompAtA prog w A env scope cl x tst elt y Q it s₂) (fun _ _ => False) s₁) (fun _ _ => False) s)
    (hs : ∀ x, foldedSetIterable iter env x = pure x := by intro _; rfl) :
    wpAny (model prog w) A (exec (.Assign [.Name y py] (.ListComp elt [⟨.Name x px, iter, tst.toList, 0⟩] scope pos) spos) env) Q (fun _ _ => False) s := by
  rw [exec_Assign_Name_used _ _ _ _ hsw]
  refine wpAny_bind (wpAny_standAt (wpAny_bind ?_))
  show wpAny _ A (do let _ ← comprehension (.ListComp elt [⟨.Name x px, iter, tst.toList, 0⟩] scope pos) scope env _ (newList []) false (eval iter env) (some (assign (.Name y py) env))) _ _ s
  refine wpAny_bind (wpAny_mono (comp_all (U := fun v mC m' => m' = fun y => if y = x then some v else mC y) (use := some (assign (.Name y py) env)) (Q := fun _ s' => Q .next s') hh hclos hkind hcell hnames
    (wpAny_mono h (fun xv s₁ h₁ => wpAny_mono h₁ (fun it s₂ h₂ => ?_) fun _ _ e => e) fun _ _ e => e) hs) (fun _ s' hq => wpAny_pure (wpAny_pure hq)) fun _ _ e => e)
  obtain ⟨I, fp, n, P, St, g, L, m, led, J, hI, hLe, W, st, F, N, hoff, hI0, hLI, hIs, hfp, hn, hJ, turn, done⟩ := h₂
  refine ⟨I, fp, n, P, St, g, L, m, led, J, hI, W, st, F, N, hoff, hI0, hLI, hIs, hfp, hn, hJ, fun _ _ _ _ _ _ _ _ _ _ _ _ FC hq => name_asg hkind hx FC hq, fun g' i v out k led₁ h tk mC m' own hU => by rw [show m' = _ from hU]; exact fun a1 a2 a3 a4 a5 a6 a7 a8 a9 a10 _ _ => turn g' i v out k led₁ h tk mC own a1 a2 a3 a4 a5 a6 a7 a8 a9 a10, fun g' led' out k h tk m' hgg hLg hin hout hj F' N' hne => ?_⟩
  have hLC : L ≠ s₂.heap.objs.size + 1 := Nat.ne_of_lt (Nat.lt_succ_of_lt F.ns.lt)
  have nsL : h.Ns env.locals m := hLe ▸ hLg.at' fun o e => F'.keep L o e
  refine wpAny_assign_Name (wpAny_storeName_local hy nsL (fun h₂ hn₂ hs₂ => ?_) hpy)
  rw [← hLe] at hn₂ hs₂
  refine ⟨m', F'.ns.at' fun o e => (hs₂.2 _ hLC.symm).trans e, fun h'' hs'' => ?_⟩
  have keep : ∀ b o, b ≠ L → g'.get? b = some o → h''.get? b = some o := fun b o hb e => by
    rw [hs''.2 b (Nat.ne_of_lt (Nat.lt_succ_of_lt (Heap.lt_size (hout b o e))))]
    exact (hs₂.2 b hb).trans (F'.keep b o e)
  have hgL : ∀ b o, g.get? b = some o → b ≠ L := fun b o e q => by
    have h1 := Heap.lt_size e
    rw [q] at h1
    exact absurd h1 (Nat.not_lt.mpr F.above)
  refine done led' out k h'' _ hj ⟨hn₂.at' fun o e => (hs''.2 _ hLC).trans e, fun b o e => keep b o (hgL b o e) (hgg b o e), F.above⟩ (fun p hp => ?_) fun b o h1 h3 h2 e => keep b o h3 (hin b o h1 h2 e)
  have hpL : p.1 ≠ L := fun q => by
    have h1 := (N' p hp).2.2
    obtain ⟨o, _, _, e, _⟩ := hLg
    rw [q, e] at h1; cases h1
  have hp1 : p.1 ≠ s₂.heap.objs.size + 1 := by
    rcases List.mem_cons.mp hp with rfl | hp
    · exact Nat.ne_of_lt (Nat.lt_succ_self _)
    · exact hne p hp
  refine ⟨(hs''.2 p.1 hp1).trans ((hs₂.2 p.1 hpL).trans (N' p hp).1), fun q => ?_, ?_⟩
  · obtain ⟨o, _, _, e, _⟩ := hLg
    have := (N' p hp).2.2
    rw [q, e] at this; cases this
  · cases q : g.get? p.1 with
    | none => rfl
    | some o => have := (N' p hp).2.2; rw [hgg _ _ q] at this; cases this
noncomputable def CompDoneA (g : Heap) (L : Addr) (m : Str → Option Value) (led : List (Addr × Obj)) (n : Nat) (J : Nat → List Value → List (Addr × Obj) → Prop) (y : Str) (Q : Flow → Shared → Prop) (s : Shared) : Prop :=
  ∀ (D : Addr) (led' : List (Addr × Obj)) (out : List Value) (k : Nat) (h : Heap) (tk : Nat), s.heap.objs.size ≤ D → J n out led' → Fr g L h (fun z => if z = y then some (.ref D) else m z) → News g L h ((D, listOf out.toArray k) :: led') → (∀ b o, b ≠ L → b ∉ led.map (·.1) → s.heap.get? b = some o → h.get? b = some o) → Q .next { s with heap := h, toks := tk }
theorem comp_pushA {o : Obj} {scope : Scope} {cl : List (Str × Addr)} {x : Str} {tst : Option Expr} {elt : Expr} {y : Str} {Q : Flow → Shared → Prop} {fp : List Addr} {n : Nat} {P : Nat → Value → Prop} {St : Nat → Heap → Prop} {L : Addr} {m : Str → Option Value} {led : List (Addr × Obj)}
    (hLe : L = env.locals) (J : Nat → List Value → List (Addr × Obj) → Prop)
    (W : Walks prog w A s.heap.objs.size fp [s.heap.objs.size] n P St) (st : St 0 (s.heap.push o)) (F : Fr g L s.heap m) (N : News g L s.heap led) (hfp : ∀ b ∈ fp, b ≤ s.heap.objs.size) (hn : n < sizeLine) (hJ : J 0 [] led)
    (turn : CompTurn prog w A env scope cl x tst elt g L m led n P J s) (done : CompDoneA g L m led n J y Q s) :
    CompAtA prog w A env scope cl x tst elt y Q (.ref s.heap.objs.size) { s with heap := s.heap.push o } := by
  have hL : L < s.heap.objs.size := F.ns.lt
  have hlt : ∀ p ∈ led, p.1 < s.heap.objs.size := fun p hp => Heap.lt_size (N p hp).1
  have hsz : (s.heap.push o).objs.size = s.heap.objs.size + 1 := Heap.size_push ..
  have gI : g.get? s.heap.objs.size = none := by
    cases e : g.get? s.heap.objs.size with
    | none => rfl
    | some o => exact absurd (Heap.lt_size (F.keep _ _ e)) (Nat.lt_irrefl _)
  have keep : ∀ b o', s.heap.get? b = some o' → (s.heap.push o).get? b = some o' := fun b o' e => Heap.get?_push_of_some _ e
  have ne : ∀ b o', s.heap.get? b = some o' → b ≠ s.heap.objs.size := fun b o' e => Nat.ne_of_lt (Heap.lt_size e)
  refine ⟨s.heap.objs.size, fp, n, P, St, g, L, m, led, J, rfl, hLe, W, st, F.push o, fun p hp => ⟨keep _ _ (N p hp).1, (N p hp).2⟩, fun p hp => Nat.ne_of_lt (hlt p hp), gI, Nat.ne_of_lt hL, by rw [hsz]; exact Nat.lt_succ_self _, fun b hb => by rw [hsz]; exact Nat.lt_succ_of_le (hfp b hb), hn, hJ, ?_, ?_⟩
  · intro g' i v out k led₁ h tk mC own a1 a2 a3 a4 a5 a6 a7 a8 a9 a10
    exact turn (s.heap.push o).objs.size s.heap.objs.size { s with heap := s.heap.push o } g' i v out k led₁ h tk mC own (Nat.le_refl _) (by rw [hsz]; exact Nat.lt_succ_self _) ⟨_, _, rfl⟩ a1 a2 (fun b o' hb e => a3 b o' (ne b o' e) hb (keep _ _ e)) a4 a5 a6 a7 a8 a9 a10
  · intro led' out k h tk a1 a2 a3 a4
    exact done (s.heap.push o).objs.size led' out k h tk (by rw [hsz]; exact Nat.le_succ _) a1 a2 a3 fun b o' hL' hb e => a4 b o' (ne b o' e) hL' hb (keep _ _ e)
theorem comp_listA {scope : Scope} {cl : List (Str × Addr)} {x y : Str} {tst : Option Expr} {elt : Expr} {Q : Flow → Shared → Prop} {L : Addr} {m : Str → Option Value} {led : List (Addr × Obj)} {J : Nat → List Value → List (Addr × Obj) → Prop} {l : Addr} {items : Array Value} (hLe : L = env.locals) (hh : A.handled = none) (hl : s.heap.IsList l items) (F : Fr g L s.heap m) (N : News g L s.heap led) (hn : items.size < sizeLine) (hJ : J 0 [] led)
    (turn : CompTurn prog w A env scope cl x tst elt g L m led items.size (fun i v => items[i]? = some v) J s) (done : CompDoneA g L m led items.size J y Q s) :
    wpAny (model prog w) A (pyIter (.ref l)) (fun it s₂ => CompAtA prog w A env scope cl x tst elt y Q it s₂) (fun _ _ => False) s := by
  have hlt : l < s.heap.objs.size := hl.elim fun _ e => Heap.lt_size e.1
  refine wpAny_pyIter_list hl (comp_pushA hLe J (Walks.list hh _ l (Nat.ne_of_lt hlt) items) ⟨⟨_, Heap.get?_push_size _ rfl, rfl, rfl⟩, hl.at fun o e => Heap.get?_push_of_some _ e⟩ F N (fun b hb => ?_) hn hJ turn done)
  rcases List.mem_cons.mp hb with rfl | hb
  · exact Nat.le_refl _
  · rw [List.mem_singleton.mp hb]; exact Nat.le_of_lt hlt
end
end Mine
end
section
open PySem PySem.W PyProof.Rows PySem.Calls PySem.Spec PyProof
namespace Mine
local macro_rules | `(tactic| walk_at $s:str) => Mine.hl [] [] s
local macro_rules | `(tactic| walk_at $s:str) => Mine.hl ["exec For Name Call cons cons nil", "exec For Name Call cons nil", "exec While Compare cons nil", "exec While", "call builtin:list.append", "call type:int", "pyIter ref", "exec Assign cons ListComp", "subscriptTail Call Constant ref int", "subscriptTail Name BinOp ref int", "subscriptTail Name Name ref int"] [("call builtin:len", "@len")] s
theorem del_K {M : Model} {A : Around} {E : Value → Shared → Prop} {s : Shared} {K : Frag} {x C L f : Addr} {h₀ : Heap} {m : Str → Option Value} {ox : Obj} {od : Option Obj} {i : Value} {Q : Unit → Shared → Prop} (F : Fr h₀ L s.heap m) (X₀ : K.In h₀) (I : InstAt s.heap x ox C od) (hq : noSeq K C = true) (hs : findIn K (.ref C) "__delitem__" = some (some (.ref f))) (hf : isFn K (.ref f) = true)
    (h : wpAny M A (call (.ref f) [.ref x, i]) (fun _ s' => Q () s') E s) : wpAny M A (delItem (.ref x) i) Q E s := by
  have X := X₀.keeps F.keep
  unfold delItem sequenceKey
  refine wpAny_holding (wpAny_bind (wpAny_bind (I.type.here ?_)))
  refine wpAny_bind ((anyM_none X hq).here ?_)
  rw [if_pos (show (!false) = true from rfl)]
  exact wpAny_pure (wpAny_bind (special_fn X I hs (beq_iff_eq.mp hf) (wpAny_mono h (fun _ _ z => wpAny_pure z) fun _ _ z => z)))
noncomputable def oddI (ds p : List Nat) (st : List Nat) : Nat → List (List Nat)
  | 0 => []
  | k + 1 => oddI ds p st k ++ if sub ds (st.getD k 0 - p.length) (st.getD (k + 1) 0) = (sub ds (st.getD k 0 - p.length) (st.getD (k + 1) 0)).reverse then [] else [sub ds (st.getD k 0 - p.length) (st.getD (k + 1) 0)]
noncomputable def br (r : List Nat) (n : Nat) : Nat := bis (fun i => !decide (n < r.getD i 0)) r.length 0 r.length
noncomputable def insR (r : List Nat) (n : Nat) : List Nat := r.take (br r n) ++ n :: r.drop (br r n)
noncomputable def stopsOf (p : List Nat) (E : List (List Nat × Nat)) : List Nat := (E.filter (·.1 == p)).map (·.2)
noncomputable def tko (ds : List Nat) : Nat → List (List Nat × Nat) → List Nat → List (List Nat) → List Nat × List (List Nat)
  | 0, _, ns, od => (ns, od)
  | _ + 1, [], ns, od => (ns, od)
  | n + 1, e :: E, ns, od => tko ds n (E.filter (·.1 != e.1)) (insR ns (num e.1)) (od ++ oddI ds e.1 (stopsOf e.1 (e :: E)) ((stopsOf e.1 (e :: E)).length - 1))
theorem insR_len {r : List Nat} {n : Nat} : (insR r n).length = r.length + 1 := by
  unfold insR
  rw [List.length_append, List.length_cons, List.length_take, List.length_drop]; exact (LI2 (.eq (.a (.mi V0 V1) (.a (.s V1 V0) O1)) (.a V1 O1)))
theorem oddI_len (ds p st : List Nat) : ∀ k, (oddI ds p st k).length ≤ k := fun k => by
  induction k with
  | zero => exact Nat.le_refl _
  | succ k this =>
    show (oddI ds p st k ++ (if sub ds (st.getD k 0 - p.length) (st.getD (k + 1) 0) = (sub ds (st.getD k 0 - p.length) (st.getD (k + 1) 0)).reverse then _ else _)).length ≤ _
    rw [List.length_append]
    split
    · exact Nat.le_succ_of_le this
    · exact Nat.succ_le_succ this
theorem oddI_D3 {ds : List Nat} (hd : D3 ds) (p st : List Nat) : ∀ k, ∀ q ∈ oddI ds p st k, D3 q := fun k => by
  induction k with
  | zero => exact fun _ h => absurd h List.not_mem_nil
  | succ k ih =>
    intro q h
    replace h : q ∈ oddI ds p st k ++ (if sub ds (st.getD k 0 - p.length) (st.getD (k + 1) 0) = (sub ds (st.getD k 0 - p.length) (st.getD (k + 1) 0)).reverse then _ else _) := h
    rcases List.mem_append.mp h with h | h
    · exact ih q h
    · split at h
      · cases h
      · rw [List.mem_singleton.mp h]; exact sub_D3 hd _ _
theorem len_part (p : List Nat) : ∀ E : List (List Nat × Nat), (E.filter (·.1 == p)).length + (E.filter (·.1 != p)).length = E.length := fun E => by
  induction E with
  | nil => rfl
  | cons e E this =>
    by_cases q : e.1 = p
    · rw [List.filter_cons_of_pos (p := fun x : List Nat × Nat => x.1 == p) (beq_iff_eq.mpr q), List.filter_cons_of_neg (p := fun x : List Nat × Nat => x.1 != p) (fun h => bne_iff_ne.mp h q), List.length_cons, List.length_cons]; exact (LI3 (.im (.eq (.a V0 V1) V2) (.eq (.a (.a V0 O1) V1) (.a V2 O1)))) this
    · rw [List.filter_cons_of_neg (p := fun x : List Nat × Nat => x.1 == p) (fun h => q (beq_iff_eq.mp h)), List.filter_cons_of_pos (p := fun x : List Nat × Nat => x.1 != p) (bne_iff_ne.mpr q), List.length_cons, List.length_cons]; exact (LI3 (.im (.eq (.a V0 V1) V2) (.eq (.a V0 (.a V1 O1)) (.a V2 O1)))) this
theorem tko_nil (ds : List Nat) : ∀ n ns od, tko ds n [] ns od = (ns, od)
  | 0, _, _ => rfl
  | _ + 1, _, _ => rfl
theorem Tbl.but {h h' : Heap} {its : Array Value} {l : List (Str × Str)} (x : Tbl h its l) (k : But [] h h') : Tbl h' its l := x.keeps k (fun _ ha => by cases ha)
theorem tbl_base {P : Params} {x dx hl : Addr} {t : Tok} {its its2 : Array Value} {k : Nat} {ps : Array Value} {ex : List (Addr × Obj)} {l : List (Str × Str)} {h g : Heap} {qual : Str} {ln cl : Nat} (ok : TabOk ln cl qual ps ex)
    (N : ∀ p ∈ hdrL P x dx hl t its k ++ (47, tabObj ps) :: ex, h.get? p.1 = some p.2) (hg : ∀ b o, b ∉ (hdrL P x dx hl t its k ++ (47, tabObj ps) :: ex).map (·.1) → h.get? b = some o → g.get? b = some o) (tb : Tbl h its2 l) : Tbl g its2 l :=
  ⟨tb.1, fun i hi => by
    obtain ⟨T, t1, t2, e, o, ho, hc, n, hdt⟩ := tb.2 i hi
    refine ⟨T, t1, t2, e, o, hg T o (fun q => ?_) ho, hc, n, hdt⟩
    obtain ⟨p, hp, rfl⟩ := List.mem_map.mp q
    have e1 := N p hp
    rw [ho] at e1
    have e2 : o = p.2 := Option.some.inj e1
    rcases List.mem_append.mp hp with r | r
    · exact hdrL_off (fun p hp => N p (List.mem_append_left _ hp)) p.1 (List.mem_map_of_mem r) o ho hc
    rcases List.mem_cons.mp r with r | r
    · rw [e2, r] at hc; cases hc
    · rcases ok with ⟨_, rfl⟩ | ⟨c, oc, vs, tt, _, rfl, hv, _⟩
      · cases r
      · rw [e2, List.mem_singleton.mp r] at hdt
        rw [hv] at hdt; cases hdt⟩
theorem sub_keys {P : Params} {x dx hl : Addr} {t : Tok} {its its2 : Array Value} {k k2 : Nat} {o o2 : Obj} {ex ex2 : List (Addr × Obj)} {a : Addr} (xa : ∀ p ∈ ex, p ∈ ex2) (h : a ∈ (hdrL P x dx hl t its k ++ (47, o) :: ex).map (·.1)) : a ∈ (hdrL P x dx hl t its2 k2 ++ (47, o2) :: ex2).map (·.1) := by
  rw [List.map_append] at h ⊢
  rcases List.mem_append.mp h with h | h
  · exact List.mem_append_left _ h
  rcases List.mem_cons.mp h with h | h
  · exact List.mem_append_right _ (h ▸ .head _)
  · obtain ⟨p, hp, e⟩ := List.mem_map.mp h
    exact List.mem_append_right _ (.tail _ (List.mem_map.mpr ⟨p, xa p hp, e⟩))
theorem filter_txE {E : List (List Nat × Nat)} {p : List Nat} (hE : ∀ e ∈ E, D3 e.1) (hp : D3 p) : (E.map txE).filter (·.1 == tx p) = (E.filter (·.1 == p)).map txE := by
  rw [List.filter_map]
  congr 1
  apply List.filter_congr
  intro e he
  show (tx e.1 == tx p) = (e.1 == p)
  rw [tx_beq (hE e he) hp]
  by_cases q : e.1 = p
  · rw [decide_eq_true q, q]; simp
  · rw [decide_eq_false q]; simp [q]
theorem filter_txE_ne {E : List (List Nat × Nat)} {p : List Nat} (hE : ∀ e ∈ E, D3 e.1) (hp : D3 p) : (E.map txE).filter (·.1 != tx p) = (E.filter (·.1 != p)).map txE := by
  rw [List.filter_map]
  congr 1
  apply List.filter_congr
  intro e he
  show (!(tx e.1 == tx p)) = (!(e.1 == p))
  rw [tx_beq (hE e he) hp]
  by_cases q : e.1 = p
  · rw [decide_eq_true q, q]; simp
  · rw [decide_eq_false q]; simp [q]
set_option maxHeartbeats 4000000 in
theorem law_taken_out_spec {prog : Program} {w : World} {A₀ : Around} {dp un : Nat} {gd : Option (List Code)} {s : Shared} {base h₀ : Heap} {outer : List Env} {L : Addr} {m mg mb : Str → Option Value} {env : Env}
    {p : Program} {loose : List Str} {mean : ExcName → Option Value} {Q E' : Value → Shared → Prop}
    {ds : List Nat} {E0 : List (List Nat × Nat)} {tw : Tok} {x dx hl : Addr} {t : Tok} {its : Array Value} {k : Nat} {ps : Array Value} {ex : List (Addr × Obj)}
    (B : Below A₀ base outer h₀) (F : Fr h₀ L s.heap m) (X₀ : (hd.heap_39 w.params).In h₀) (T : Top p loose mean mg mb h₀) (hf : env.frame = some L) (hke : env.scope.kind = .function)
    (hroom : dp + 40 < recursionLimit) (hun : un + 400 < cLine)
    (N : News h₀ L s.heap (hdrL w.params x dx hl t its k ++ (47, tabObj ps) :: ex)) (nd : ((hdrL w.params x dx hl t its k ++ (47, tabObj ps) :: ex).map (·.1)).Nodup) (ok : TabOk 24 4 "_digits2int.<locals>.inner" ps ex)
    (tb : Tbl s.heap its (E0.map txE)) (hd : D3 ds) (hz : ds.length ≤ 10) (hE : ∀ e ∈ E0, D3 e.1 ∧ e.1 ≠ [] ∧ e.1.length ≤ e.2 ∧ e.2 ≤ ds.length) (hEs : E0.Pairwise fun a b => a.2 ≤ b.2) (hEz : E0.length ≤ 900)
    (ret : ∀ D nl nits nk ol oits ok' h' tk ps' ex', But [hl, 47] s.heap h' → TabOk 24 4 "_digits2int.<locals>.inner" ps' ex' → h'.get? 47 = some (tabObj ps') → (∀ p ∈ ex', h'.get? p.1 = some p.2 ∧ (p ∈ ex ∨ s.heap.get? p.1 = none)) → (∀ p ∈ ex, p ∈ ex') →
      (∀ p ∈ [(D, tupO (.ref nl) (.ref ol)), (nl, listOf nits nk), (ol, listOf oits ok')], h'.get? p.1 = some p.2 ∧ s.heap.get? p.1 = none) → IntsAre nits.toList ((tko ds E0.length E0 [] []).1.map Int.ofNat) → StrsAre oits.toList ((tko ds E0.length E0 [] []).2.map tx) → Q (.ref D) { s with heap := h', toks := tk }) :
    wpAny (model prog w) (Ar dp un gd (env :: outer)) (call (.ref 308) [.str (tx ds) tw, .ref x] []) Q E' s := by
  have hXl := tx_len ds
  obtain ⟨X, hX⟩ : ∃ X, tx ds = X := ⟨_, rfl⟩
  rw [hX] at hXl ⊢
  have hXz : X.length ≤ 10 := by exact (LI2 (.im (.eq V0 V1) (.im (.le V1 OX) (.le V0 OX)))) hXl hz
  refine enter (args := ⟨[.str X tw, .ref x], []⟩) (binds := [(Str.ofString "word", .str X tw), (Str.ofString "table", .ref x)]) B F X₀ T N hf hke (by exact (LI2 (.im (.lt (.a V0 (.n 40)) V1) (.lt V0 V1))) hroom) (by k_is) (by k_is) (BindsTo.of_eq rfl) (locs rfl) (fun g h₁ hg hg' F' N' B' X' T' hlow => ?_) rfl rfl rfl (by decide)
  try dsimp only
  have l1 := hlow
  simp only [hdrL, List.cons_append, List.nil_append] at N' l1
  k_lt l1
  k_steps
  rename Fr _ _ _ _ => F2
  rename News _ _ _ _ => N2
  refine go ?_
  rename_i nl h2 ln h3 tk3 ol h4 lo h5
  have tg : Tbl g its (E0.map txE) := tbl_base ok (fun p hp => (N p hp).1) hg tb
  have N3 : News g s.heap.objs.size h5 ((ol, listOf #[] 0) :: (nl, listOf #[] 0) :: (hdrL w.params x dx hl t its k ++ (47, tabObj ps) :: (ex ++ []))) := news_eq N2 (by simp only [hdrL, List.cons_append, List.nil_append, List.append_nil])
  have nd3 : (((ol, listOf #[] 0) :: (nl, listOf #[] 0) :: (hdrL w.params x dx hl t its k ++ (47, tabObj ps) :: (ex ++ []))).map (·.1)).Nodup := by
    rw [List.append_nil]
    obtain ⟨l1, l2, l3, l4, l5⟩ := ln
    obtain ⟨m0, m1, m2, m3, m4, m5⟩ := lo
    have key : ∀ D, @LT.lt Nat _ x D → @LT.lt Nat _ dx D → @LT.lt Nat _ hl D → @LT.lt Nat _ 47 D → AllLt D ex → D ∉ (hdrL w.params x dx hl t its k ++ (47, tabObj ps) :: ex).map (·.1) := fun D a b c d e q => by
      obtain ⟨p, hp, e1⟩ := List.mem_map.mp q
      rcases List.mem_append.mp hp with r | r
      · rcases List.mem_cons.mp r with r | r
        · rw [r] at e1; exact absurd e1 (Nat.ne_of_lt a)
        rcases List.mem_cons.mp r with r | r
        · rw [r] at e1; exact absurd e1 (Nat.ne_of_lt b)
        rcases List.mem_cons.mp r with r | r
        · rw [r] at e1; exact absurd e1 (Nat.ne_of_lt c)
        · cases r
      rcases List.mem_cons.mp r with r | r
      · rw [r] at e1; exact absurd e1 (Nat.ne_of_lt d)
      · exact absurd e1 (Nat.ne_of_lt (allLt_mem e p r))
    refine List.nodup_cons.mpr ⟨fun q => ?_, List.nodup_cons.mpr ⟨key nl l1 l2 l3 l4 l5, nd⟩⟩
    rcases List.mem_cons.mp q with q | q
    · exact absurd q (Nat.ne_of_gt m0)
    · exact key ol m1 m2 m3 m4 m5 q
  refine while_rule (fun n s' => E14 fun h tk m' its k ps ex2 E ns od nits nk oits ok2 => A17 (s' = { s with heap := h, toks := tk }) (Fr g s.heap.objs.size h m') (News g s.heap.objs.size h ((ol, listOf oits ok2) :: (nl, listOf nits nk) :: (hdrL w.params x dx hl t its k ++ (47, tabObj ps) :: (ex2 ++ [])))) ((((ol, listOf oits ok2) :: (nl, listOf nits nk) :: (hdrL w.params x dx hl t its k ++ (47, tabObj ps) :: (ex2 ++ []))).map (·.1)).Nodup) (TabOk 24 4 "_digits2int.<locals>.inner" ps ex2) (∀ p ∈ ex, p ∈ ex2) (∀ p ∈ ex2, p ∈ ex ∨ s.heap.get? p.1 = none) (Has m' [(Str.ofString "odd", .ref ol), (Str.ofString "names", .ref nl), (Str.ofString "table", .ref x), (Str.ofString "word", .str X tw)]) (IntsAre nits.toList (ns.map Int.ofNat)) (StrsAre oits.toList (od.map tx)) (Tbl g its (E.map txE)) (∀ e ∈ E, D3 e.1 ∧ e.1 ≠ [] ∧ e.1.length ≤ e.2 ∧ e.2 ≤ ds.length) (E.Pairwise fun a b => a.2 ≤ b.2) (E.length ≤ n) (ns.length + E.length ≤ 900) (od.length + E.length ≤ 900) (tko ds n E ns od = tko ds E0.length E0 [] [])) ?_ E0.length ?_
  · rintro n s' ⟨h, tk, m', its, k, ps, ex2, E, ns, od, nits, nk, oits, ok2, rfl, F4, N4, nd4, ok4, xa4, xb4, hm4, hn4, ho4, tb4, hE4, hEs4, hEn4, hz4, hw4, hf4⟩ R1 S1 hR1 hS1
    have F4 := fr_has F4 [(Str.ofString "odd", .ref ol), (Str.ofString "names", .ref nl), (Str.ofString "table", .ref x), (Str.ofString "word", .str X tw)] ⟨hm4.1, hm4.2.1, hm4.2.2.1, hm4.2.2.2.1, trivial⟩
    have N5 := N4
    simp only [hdrL, List.cons_append, List.nil_append, List.append_nil] at N4
    have hsz : its.size = E.length := by rw [tb4.1, List.length_map]
    clear N5
    k_steps
    refine go ?_
    rename Fr _ _ _ _ => F5
    rename News _ _ _ _ => N5
    refine hlen_spec (dp := dp + 1) (un := un + 3 + 1) (its := its) (k := k) (t := t) (dx := dx) (hl := hl) B' F5 X' T' rfl rfl (by exact (LI2 (.im (.lt (.a V0 (.n 40)) V1) (.lt (.a (.a V0 O1) (.n 3)) V1))) hroom) (news_sub N5 (fun p hp => .tail _ (.tail _ (by
      rcases List.mem_cons.mp hp with rfl | hp
      · exact .head _
      rcases List.mem_cons.mp hp with rfl | hp
      · exact .tail _ (.head _)
      rcases List.mem_cons.mp hp with rfl | hp
      · exact .tail _ (.tail _ (.head _))
      · cases hp)))) (by exact (LI3 (.im (.le (.a V0 V1) (.n 900)) (.im (.eq V2 V1) (.le V2 (.n 1000))))) hz4 hsz) (fun h6 tk6 t6 b6 => ?_)
    have F6 := fr_keep F5 b6
    have N6 := news_keep N5 b6
    clear F5 N5
    refine ⟨⟨by exact (LI1 (.il O0 (.ca V0))), by exact (LI3 (.im (.le (.a V0 V1) (.n 900)) (.im (.eq V2 V1) (.jl (.ca V2) (.pw 2 63))))) hz4 hsz⟩, ?_⟩
    have hdr : ∀ {hh : Heap} {l : List (Addr × Obj)}, News g s.heap.objs.size hh (l ++ ((ol, listOf oits ok2) :: (nl, listOf nits nk) :: (hdrL w.params x dx hl t its k ++ (47, tabObj ps) :: (ex2 ++ [])))) → News g s.heap.objs.size hh (hdrL w.params x dx hl t its k) := fun N => news_sub N fun p hp => List.mem_append_right _ (.tail _ (.tail _ (List.mem_append_left _ hp)))
    k_steps
    · refine go ?_
      rename Fr _ _ _ _ => F7
      rename News _ _ _ _ => N7
      have N7a := news_eq (led' := [] ++ ((ol, listOf oits ok2) :: (nl, listOf nits nk) :: (hdrL w.params x dx hl t its k ++ (47, tabObj ps) :: (ex2 ++ [])))) N7 (by simp only [hdrL, List.cons_append, List.nil_append, List.append_nil])
      have hE0 : 0 < E.length := by exact (LI2 (.im (.jl O0 (.ca V0)) (.im (.eq V0 V1) (.lt O0 V1)))) (by assumption) hsz
      obtain ⟨⟨p0, j0⟩, E1, rfl⟩ : ∃ e E1, E = e :: E1 := by cases E with | nil => exact absurd hE0 (Nat.lt_irrefl _) | cons e E1 => exact ⟨e, E1, rfl⟩
      have hp0 := hE4 _ (.head _)
      have hD0 : ∀ e ∈ (p0, j0) :: E1, D3 e.1 := fun e he => (hE4 e he).1
      have hlz : (((p0, j0) :: E1).map txE).length ≤ 1000 := by rw [List.length_map]; exact (LI2 (.im (.le (.a V0 V1) (.n 900)) (.le V1 (.n 1000)))) hz4
      have hpz : p0.length ≤ 10 := Nat.le_trans hp0.2.2.1 (Nat.le_trans hp0.2.2.2 hz)
      have hsafe : ∀ q ∈ ((p0, j0) :: E1).map txE, (∀ c ∈ q.1.cps.toList, R.Safe c) ∧ q.1.cps.size ≤ 1000 := fun q hq => by
        obtain ⟨e, he, rfl⟩ := List.mem_map.mp hq
        have := hE4 e he
        refine ⟨tx_safe, ?_⟩
        show (tx e.1).length ≤ 1000
        rw [tx_len]
        exact Nat.le_trans this.2.2.1 (Nat.le_trans this.2.2.2 (Nat.le_trans hz (by decide)))
      dsimp only [List.cons_append, List.nil_append]
      refine keys_spec (l := ((p0, j0) :: E1).map txE) B' F7 X' T' rfl rfl (by exact (LI2 (.im (.lt (.a V0 (.n 40)) V1) (.lt (.a (.a V0 O1) (.n 3)) V1))) hroom) (hdr N7a) (tb4.but fun b o _ e => F7.keep b o e) hlz (fun D1 vs n1 h8 tk8 b8 f8 e8 s8 => ?_)
      have F8 := fr_keep F7 b8
      have N8 := news_fresh (xs := [(D1, listOf vs.toArray n1)]) F7 (news_keep N7a b8) (fun p hp => by rw [List.mem_singleton.mp hp]; exact ⟨e8, f8⟩)
      clear N7 N7a F7
      obtain ⟨v0, vs', rfl, u0, rfl⟩ : ∃ v0 vs', vs = v0 :: vs' ∧ ∃ u, v0 = .str (tx p0) u := by
        cases s8 with
        | cons a u r => exact ⟨_, _, rfl, _, rfl⟩
      have N9 := N8
      simp only [hdrL, List.cons_append, List.nil_append, List.append_nil] at N8
      clear N9
      k_steps
      refine go ?_
      rename Fr _ _ _ _ => F9
      rename News _ _ _ _ => N9
      refine comp_ruleA (tst := none) (cl := []) rfl (by with_unfolding_all rfl) rfl rfl rfl rfl (by decide) (by decide) rfl ?_
      k_steps
      refine go ?_
      rename Fr _ _ _ _ => F10
      rename News _ _ _ _ => N10
      have N10a := news_eq (led' := [(D1, listOf (Value.str (tx p0) u0 :: vs').toArray n1)] ++ ((ol, listOf oits ok2) :: (nl, listOf nits nk) :: (hdrL w.params x dx hl t its k ++ (47, tabObj ps) :: (ex2 ++ [])))) N10 (by simp only [hdrL, List.cons_append, List.nil_append, List.append_nil])
      have hsafe0 := hsafe _ (.head _)
      refine get_all_spec (l := ((p0, j0) :: E1).map txE) (y := tx p0) B' F10 X' T' rfl rfl (by exact (LI2 (.im (.lt (.a V0 (.n 40)) V1) (.lt (.a (.a V0 O1) (.n 6)) V1))) hroom) (hdr N10a) (tb4.but fun b o _ e => F10.keep b o e) hlz hsafe hsafe0.1 hsafe0.2 (fun D2 vs2 n2 h11 tk11 b11 f11 e11 s11 => ?_)
      rw [filter_txE hD0 hp0.1] at s11
      have F11 := fr_keep F10 b11
      have N11 := news_fresh (xs := [(D2, listOf vs2.toArray n2)]) F10 (news_keep N10a b11) (fun p hp => by rw [List.mem_singleton.mp hp]; exact ⟨e11, f11⟩)
      clear F10 N10 N10a
      k_steps
      refine go ?_
      have hst : StrsAre vs2 ((stopsOf p0 ((p0, j0) :: E1)).map fun n : Nat => dec (n : Int)) := by
        unfold stopsOf
        rw [List.map_map] at s11 ⊢
        exact s11
      have hstz : ∀ n ∈ stopsOf p0 ((p0, j0) :: E1), p0.length ≤ n ∧ n ≤ ds.length := fun n hn => by
        obtain ⟨e, he, rfl⟩ := List.mem_map.mp hn
        have h1 := List.mem_filter.mp he
        have h2 := hE4 e h1.1
        have h3 : e.1 = p0 := by simpa using h1.2
        exact ⟨h3 ▸ h2.2.2.1, h2.2.2.2⟩
      have hstl : (stopsOf p0 ((p0, j0) :: E1)).length ≤ 900 := by
        unfold stopsOf
        rw [List.length_map]
        exact Nat.le_trans (List.length_filter_le _ _) (by exact (LI2 (.im (.le (.a V0 V1) (.n 900)) (.le V1 (.n 900)))) hz4)
      have hv2 : vs2.length = (stopsOf p0 ((p0, j0) :: E1)).length := by have := hst.length; rwa [List.length_map] at this
      obtain ⟨st, hste⟩ : ∃ st, stopsOf p0 ((p0, j0) :: E1) = st := ⟨_, rfl⟩
      rw [hste] at hst hstz hstl hv2
      refine comp_listA (J := fun i out led => led = [] ∧ IntsAre out ((st.take i).map Int.ofNat)) rfl rfl (News.isList N11 (.head _)) F11 (fun _ h => by cases h) (by rw [sizeLine_eq, List.size_toArray]; exact (LI2 (.im (.eq V0 V1) (.im (.le V1 (.n 900)) (.lt V0 (.n 16777216))))) hv2 hstl) ⟨rfl, .nil⟩ ?_ ?_
      · rintro D I s₂ g' i v out e0 led₁ h tk mC own hsI hID ⟨hh, tt, rfl⟩ hgg hL hk hi hv hle ⟨rfl, hI⟩ ho F3 N3
        refine wpAny_pure ?_
        rw [if_pos rfl]
        rw [List.size_toArray] at hi
        have hi' : i < st.length := by exact (LI3 (.im (.lt V0 V1) (.im (.eq V1 V2) (.lt V0 V2)))) hi hv2
        obtain ⟨u, hu⟩ : ∃ u, v = .str (Str.ofString (toString (st[i] : Int))) u := by
          rw [List.getElem?_toArray] at hv
          obtain ⟨y, u, rfl, hy⟩ := StrsAre.item hst i v hv
          rw [List.getElem?_map, List.getElem?_eq_getElem hi'] at hy
          exact ⟨u, by rw [← Option.some.inj hy]; rfl⟩
        subst hu
        have hn1 := hstz _ (List.getElem_mem hi')
        obtain ⟨m0, hm0⟩ : ∃ m0 : Nat, st[i] = m0 := ⟨_, rfl⟩
        rw [hm0] at F3 hn1
        have hm1 : (m0 : Int) ≤ 10 := (LI2 (.im (.le V0 V1) (.im (.le V1 OX) (.il (.ca V0) OX)))) hn1.2 hz
        have hm2 : (0 : Int) ≤ (m0 : Int) := Int.natCast_nonneg m0
        have T'' := T'.keeps hgg
        have X'' := X'.keeps hgg
        k_steps
        · exact (0 : Nat)
        · exact Str.ofString ""
        · exact Value.none
        · exact []
        refine go ?_
        refine KIN.call_num hm2 ((LI1 (.im (.il (.ca V0) OX) (.jl (.ca V0) (.pw 10 10)))) hm1) ?_
        refine go ⟨h, _, _, _, rfl, F3, N3, ho, rfl, ?_⟩
        rw [List.take_add_one, List.getElem?_eq_getElem hi', List.map_append, hm0]
        exact intsAre_snoc hI _ _
      · rintro D3 led0 led' n3 h12 tk12 hD ⟨rfl, hI⟩ F12 N12 hk12
        rw [List.take_of_length_le (by rw [List.size_toArray]; exact (LI2 (.im (.eq V0 V1) (.le V1 V0))) hv2)] at hI
        have N12a : News g s.heap.objs.size h12 ([(D3, listOf led'.toArray n3)] ++ ((ol, listOf oits ok2) :: (nl, listOf nits nk) :: (hdrL w.params x dx hl t its k ++ (47, tabObj ps) :: (ex2 ++ [])))) := news_app (fun p hp => N12 p hp) (fun p hp => ⟨hk12 _ _ (N11 p (.tail _ (.tail _ hp))).2.1 (fun q => by cases q) (N11 p (.tail _ (.tail _ hp))).1, (N11 p (.tail _ (.tail _ hp))).2⟩)
        have F12 := fr_has F12 [(Str.ofString "stops", .ref D3), (Str.ofString "name", .str (tx p0) u0), (Str.ofString "odd", .ref ol), (Str.ofString "names", .ref nl), (Str.ofString "table", .ref x), (Str.ofString "word", .str X tw)] ⟨rfl, rfl, rfl, rfl, rfl, rfl, trivial⟩
        have hD3 : D3 ∉ ((ol, listOf oits ok2) :: (nl, listOf nits nk) :: (hdrL w.params x dx hl t its k ++ (47, tabObj ps) :: (ex2 ++ []))).map (·.1) := fun q => by
          obtain ⟨p, hp, e⟩ := List.mem_map.mp q
          have h1 := Heap.lt_size (N11 p (.tail _ (.tail _ hp))).1
          rw [e] at h1
          exact absurd h1 (Nat.not_lt.mpr hD)
        clear N11 F11 N12
        have N12 := N12a
        simp only [hdrL, List.cons_append, List.nil_append, List.append_nil] at N12
        clear N12a
        k_steps
        dsimp only
        refine del_K F12 X' (InstAt.of_news N12 (x := x) (dx := dx) (by k_mem) (by k_mem)) (by k_is) (f := 185) (by k_is) (by k_is) ?_
        have N13a := news_eq (led' := [(D3, listOf led'.toArray n3)] ++ ((ol, listOf oits ok2) :: (nl, listOf nits nk) :: (hdrL w.params x dx hl t its k ++ (47, tabObj ps) :: (ex2 ++ [])))) N12 (by simp only [hdrL, List.cons_append, List.nil_append, List.append_nil])
        refine delitem_spec (l := ((p0, j0) :: E1).map txE) (y := tx p0) B' F12 X' T' rfl rfl (by exact (LI2 (.im (.lt (.a V0 (.n 40)) V1) (.lt (.a (.a V0 O1) (.n 6)) V1))) hroom) (hdr N13a) (tb4.but fun b o _ e => F12.keep b o e) hlz hsafe hsafe0.1 hsafe0.2 (fun its13 k13 h13 tk13 b13 l13 _ tb13 => ?_)
        rw [filter_txE_ne hD0 hp0.1] at tb13
        rw [show ((p0, j0) :: E1).filter (·.1 != p0) = E1.filter (·.1 != p0) from List.filter_cons_of_neg (by simp)] at tb13
        have F13 := fr_one F12 N13a ⟨_, .tail _ (.tail _ (.tail _ (.tail _ (.tail _ (.head _)))))⟩ b13
        have nd12 : (((D3, listOf led'.toArray n3) :: (ol, listOf oits ok2) :: (nl, listOf nits nk) :: (hdrL w.params x dx hl t its k ++ (47, tabObj ps) :: (ex2 ++ []))).map (·.1)).Nodup := List.nodup_cons.mpr ⟨hD3, nd4⟩
        have N13 := news_mid (pre := [(D3, listOf led'.toArray n3), (ol, listOf oits ok2), (nl, listOf nits nk), (x, instObj 265 dx), (dx, dictOf [⟨PyData.keyHash w.params (Str.ofString "_headers"), .str (Str.ofString "_headers") t, .ref hl⟩] 1)]) (post := (47, tabObj ps) :: (ex2 ++ [])) N13a nd12 b13 l13
        have nd13 : (((D3, listOf led'.toArray n3) :: (ol, listOf oits ok2) :: (nl, listOf nits nk) :: (hdrL w.params x dx hl t its13 k13 ++ (47, tabObj ps) :: (ex2 ++ []))).map (·.1)).Nodup := nd12
        simp only [List.cons_append, List.nil_append, List.append_nil] at N13
        clear N13a F12 N12
        k_steps
        refine go ?_
        rename Fr _ _ _ _ => F14
        rename News _ _ _ _ => N14
        have N14a := news_eq (led' := ((D3, listOf led'.toArray n3) :: (ol, listOf oits ok2) :: (nl, listOf nits nk) :: hdrL w.params x dx hl t its13 k13) ++ (47, tabObj ps) :: (ex2 ++ [])) N14 (by simp only [hdrL, List.cons_append, List.nil_append, List.append_nil])
        have N47 : News g _ _ ((47, tabObj ps) :: ex2) := news_sub N14a fun p hp => List.mem_append_right _ (by rw [List.append_nil]; exact hp)
        have hnum : num ((tx p0).cps.toList.map dig) = num p0 := by rw [tx_list, dig_chr hp0.1]
        have hpl : (tx p0).cps.size = p0.length := tx_len _
        have hp1 : 0 < p0.length := List.length_pos_iff.mpr hp0.2.1
        refine law_number_spec B' F14 X' T' rfl rfl (by exact (LI2 (.im (.lt (.a V0 (.n 40)) V1) (.lt (.a (.a V0 O1) (.n 30)) V1))) hroom) (by exact (LI2 (.im (.lt (.a V0 (.n 400)) V1) (.lt (.a (.a V0 (.n 3)) (.n 200)) V1))) hun) N47 ok4 tx_sg (by exact (LI2 (.im (.eq V0 V1) (.im (.le V1 OX) (.le V0 OX)))) hpl hpz) (by exact (LI2 (.im (.lt O0 V0) (.im (.eq V1 V0) (.lt O0 V1)))) hp1 hpl) (fun h15 tk15 t15 ps15 ex15 b15 ok15 g15 e15 x15 => ?_)
        have xa15 : ∀ p ∈ ex, p ∈ ex15 := fun p hp => x15 p (xa4 p hp)
        have xb15 : ∀ p ∈ ex15, p ∈ ex ∨ s.heap.get? p.1 = none := fun p hp => (e15 p hp).2.elim (xb4 p) fun e => .inr (by
          cases q : s.heap.get? p.1 with
          | none => rfl
          | some o =>
            exfalso
            by_cases hk : p.1 ∈ (hdrL w.params x dx hl t its13 k13 ++ (47, tabObj ps) :: ex2).map (·.1)
            · obtain ⟨p', hp', e'⟩ := List.mem_map.mp hk
              have h1 := (N14a p' (by rw [List.append_nil]; exact .tail _ (.tail _ (.tail _ hp')))).1
              rw [e', e] at h1; cases h1
            · have h2 := hg p.1 o (fun z => hk (sub_keys xa4 z)) q
              have h3 := F14.keep _ _ h2
              rw [e] at h3; cases h3)
        rw [hnum]
        obtain ⟨N15, nd15⟩ := tab_led (pre := (D3, listOf led'.toArray n3) :: (ol, listOf oits ok2) :: (nl, listOf nits nk) :: hdrL w.params x dx hl t its13 k13) (ps := ps) (ex := ex2) (post := []) N14a nd13 F14 b15 g15 e15 ok15
        have F15 := fr_one F14 N14a ⟨_, List.mem_append_right _ (.head _)⟩ b15
        clear N14 N14a N47 F14 nd12 nd13
        have N15s := N15
        simp only [hdrL, List.cons_append, List.nil_append, List.append_nil] at N15s
        clear N15
        k_steps
        refine go ?_
        rename Fr _ _ _ _ => F16
        rename News _ _ _ _ => N16
        have hnz : nits.size = ns.length := by have := hn4.length; simpa using this
        have hEl : E1.length + 1 + ns.length ≤ 900 := by have := hz4; simp at this; exact (LI2 (.im (.le (.a V0 (.a V1 O1)) (.n 900)) (.le (.a (.a V1 O1) V0) (.n 900)))) this
        refine insort_right_spec (D := nl) (its := nits) (n := nk) (t := fun i => !decide (num p0 < ns.getD i 0)) B' F16 X' T' rfl rfl (by exact (LI2 (.im (.lt (.a V0 (.n 40)) V1) (.lt (.a (.a V0 O1) O2) V1))) hroom) (by exact (LI2 (.im (.lt (.a V0 (.n 400)) V1) (.lt (.a (.a V0 (.n 3)) (.n 16)) V1))) hun) (news_one (N16 _ (.tail _ (.tail _ (.head _))))) (by exact (LI3 (.im (.le (.a V0 V1) (.n 900)) (.im (.eq V2 V0) (.lt V2 (.n 1000))))) hz4 hnz) (fun i v hi => ?_) (fun h17 tk17 b17 l17 => ?_)
        · have hi' : i < ns.length := by
            rcases Nat.lt_or_ge i nits.size with q | q
            · exact (LI3 (.im (.lt V0 V1) (.im (.eq V1 V2) (.lt V0 V2)))) q hnz
            · rw [Array.getElem?_eq_none q] at hi; cases hi
          obtain ⟨u, hu⟩ := ints_at hn4 hi'
          rw [Array.getElem?_toList, hi] at hu
          cases hu
          rw [Bool.not_not, List.getD_eq_getElem?_getD, List.getElem?_eq_getElem hi', Option.getD_some]
          rw [show decide (num p0 < ns[i]) = decide ((num p0 : Int) < (ns[i] : Int)) by simp only [Int.ofNat_lt]]
          exact ltIs_int
        rw [hnz] at l17
        have hbr : bis (fun i => !decide (num p0 < ns.getD i 0)) ns.length 0 ns.length = br ns (num p0) := rfl
        rw [hbr] at l17
        obtain ⟨nits2, hnits2⟩ : ∃ q, (nits.toList.take (br ns (num p0)) ++ Value.int (num p0 : Nat) t15 :: nits.toList.drop (br ns (num p0))).toArray = q := ⟨_, rfl⟩
        rw [hnits2] at l17
        have hn17 : IntsAre nits2.toList ((insR ns (num p0)).map Int.ofNat) := by
          rw [← hnits2]
          show IntsAre (_ : List Value) _
          unfold insR
          rw [List.map_append, List.map_cons, List.map_take, List.map_drop]
          exact intsAre_ins hn4 _
        have N16a := news_eq (led' := [(D3, listOf led'.toArray n3), (ol, listOf oits ok2)] ++ (nl, listOf nits nk) :: (hdrL w.params x dx hl t its13 k13 ++ (47, tabObj ps15) :: (ex15 ++ []))) N16 (by simp only [hdrL, List.cons_append, List.nil_append, List.append_nil])
        have F17 := fr_one F16 N16a ⟨_, .tail _ (.tail _ (.head _))⟩ b17
        have N17 := news_mid N16a nd15 b17 l17
        have nd17 : (((D3, listOf led'.toArray n3) :: (ol, listOf oits ok2) :: (nl, listOf nits2 (nk + 1)) :: (hdrL w.params x dx hl t its13 k13 ++ (47, tabObj ps15) :: (ex15 ++ []))).map (·.1)).Nodup := nd15
        clear N16 N16a F16 nd15
        have N17s := N17
        simp only [hdrL, List.cons_append, List.nil_append, List.append_nil] at N17s
        clear N17
        have hlz3 : led'.toArray.size = st.length := by have := hI.length; rw [List.size_toArray]; simpa using this
        have hpz : (tx p0).length = p0.length := tx_len _
        k_steps
        refine go ?_
        refine For_invV g rfl rfl ?_
        k_steps
        refine go ?_
        rename IsRange _ _ _ _ _ _ _ _ => hR
        rename Fr _ _ _ _ => F18
        rename News _ _ _ _ => N18
        have N18a := news_eq (led' := (D3, listOf led'.toArray n3) :: (ol, listOf oits ok2) :: (nl, listOf nits2 (nk + 1)) :: (hdrL w.params x dx hl t its13 k13 ++ (47, tabObj ps15) :: (ex15 ++ []))) N18 (by simp only [hdrL, List.cons_append, List.nil_append, List.append_nil])
        have hstE : st.Pairwise (· ≤ ·) := by
          rw [← hste]
          unfold stopsOf
          exact List.pairwise_map.mpr (hEs4.filter _)
        have hst0 : 0 < st.length := by
          rw [← hste]
          unfold stopsOf
          rw [List.filter_cons_of_pos (by simp)]
          simp
        have hoz : od.length + st.length + (E1.filter (·.1 != p0)).length ≤ 900 := by
          have h1 := len_part p0 ((p0, j0) :: E1)
          rw [show ((p0, j0) :: E1).filter (·.1 != p0) = E1.filter (·.1 != p0) from List.filter_cons_of_neg (by simp)] at h1
          have h2 : st.length = (((p0, j0) :: E1).filter (·.1 == p0)).length := by rw [← hste]; unfold stopsOf; rw [List.length_map]
          exact (LI5 (.im (.eq (.a V0 V1) V2) (.im (.le (.a V3 V2) (.n 900)) (.im (.eq V4 V0) (.le (.a (.a V3 V4) V1) (.n 900)))))) h1 hw4 h2
        have hnd := List.nodup_cons.mp nd17
        have hnd2 := List.nodup_cons.mp hnd.2
        clear N18
        refine for_range1 rfl hR (by exact (LI0 (.il (.ng (.n 1000)) O1))) (by exact (LI0 (.il O1 (.n 1000)))) (by exact (LI1 (.il (.ng (.n 1000)) (.ca V0)))) (by exact (LI1 (.im (.le V0 (.n 900)) (.il (.ca V0) (.n 1000)))) hstl) (st.length - 1) (by exact (LI1 (.eq (.tn (.s (.ca V0) O1)) (.s V0 O1)))) F18 N18a (fun i m led => Has m [(Str.ofString "stops", .ref D3), (Str.ofString "name", .str (tx p0) u0), (Str.ofString "odd", .ref ol), (Str.ofString "names", .ref nl), (Str.ofString "table", .ref x), (Str.ofString "word", .str X tw)] ∧ ∃ oits3 ok3, led = (D3, listOf led'.toArray n3) :: (ol, listOf oits3 ok3) :: (nl, listOf nits2 (nk + 1)) :: (hdrL w.params x dx hl t its13 k13 ++ (47, tabObj ps15) :: (ex15 ++ [])) ∧ StrsAre oits3.toList ((od ++ oddI ds p0 st i).map tx)) ?_ ?_ ?_
        · exact ⟨⟨rfl, rfl, rfl, rfl, rfl, rfl, trivial⟩, oits, ok2, rfl, by rw [show oddI ds p0 st 0 = [] from rfl, List.append_nil]; exact ho4⟩
        · rintro I i v m₁ led₁ h tk own hI' hi ⟨tv, rfl⟩ ⟨hm, oits3, ok3, rfl, hs3⟩ ho hown F19 N19 ⟨oI, hoI⟩ R2 hR2
          have F19 := fr_has (m := fun y => if y = Str.ofString "k" then some (Value.int (1 + i) tv) else m₁ y) F19 [(Str.ofString "k", .int (1 + i) tv), (Str.ofString "stops", .ref D3), (Str.ofString "name", .str (tx p0) u0), (Str.ofString "odd", .ref ol), (Str.ofString "names", .ref nl), (Str.ofString "table", .ref x), (Str.ofString "word", .str X tw)] ⟨rfl, hm.1, hm.2.1, hm.2.2.1, hm.2.2.2.1, hm.2.2.2.2.1, hm.2.2.2.2.2.1, trivial⟩
          simp only [hdrL, List.cons_append, List.nil_append, List.append_assoc] at N19
          have hi1 : i < st.length := by exact (LI2 (.im (.lt V0 (.s V1 O1)) (.lt V0 V1))) hi
          have hi2 : i + 1 < st.length := by exact (LI2 (.im (.lt V0 (.s V1 O1)) (.lt (.a V0 O1) V1))) hi
          have h1 := hstz _ (List.getElem_mem hi1)
          have h2 := hstz _ (List.getElem_mem hi2)
          have h3 : st[i] ≤ st[i + 1] := List.pairwise_iff_getElem.mp hstE i (i + 1) hi1 hi2 (Nat.lt_succ_self _)
          obtain ⟨u1, hu1⟩ := ints_at hI hi1
          obtain ⟨u2, hu2⟩ := ints_at hI hi2
          have ho3z : oits3.size ≤ 2000 := by
            have a := hs3.length
            have b := oddI_len ds p0 st i
            rw [List.length_map, List.length_append, Array.length_toList] at a
            exact (LI6 (.im (.le (.a (.a V0 V1) V2) (.n 900)) (.im (.lt V3 V1) (.im (.eq V4 (.a V0 V5)) (.im (.le V5 V3) (.le V4 (.n 2000))))))) hoz hi1 a b
          have hg1 : st.getD i 0 = st[i] := by rw [List.getD_eq_getElem?_getD, List.getElem?_eq_getElem hi1, Option.getD_some]
          have hg2 : st.getD (i + 1) 0 = st[i + 1] := by rw [List.getD_eq_getElem?_getD, List.getElem?_eq_getElem hi2, Option.getD_some]
          have hod : oddI ds p0 st (i + 1) = oddI ds p0 st i ++ if sub ds (st[i] - p0.length) st[i + 1] = (sub ds (st[i] - p0.length) st[i + 1]).reverse then [] else [sub ds (st[i] - p0.length) st[i + 1]] := by rw [oddI, hg1, hg2]
          obtain ⟨a0, ha0⟩ : ∃ a : Nat, st[i] = a := ⟨_, rfl⟩
          obtain ⟨b0, hb0⟩ : ∃ b : Nat, st[i + 1] = b := ⟨_, rfl⟩
          rw [ha0] at h1 h3 hu1 hod
          rw [hb0] at h2 h3 hu2 hod
          clear hg1 hg2
          have hsl : Txt.slice X (some ((a0 : Int) - ((tx p0).length : Nat))) (some (b0 : Int)) = tx (sub ds (a0 - p0.length) b0) := by
            rw [hpz, show (a0 : Int) - (p0.length : Nat) = ((a0 - p0.length : Nat) : Int) from (Int.ofNat_sub h1.1).symm, ← hX]
            exact slice_tx (Nat.le_trans (Nat.sub_le _ _) h3) h2.2
          have hrv := fun u => rev_tx (sub ds (a0 - p0.length) b0) u
          have hDD := sub_D3 hd (a0 - p0.length) b0
          have hbq := tx_beq hDD (rev_D3 hDD)
          have hsz1 : led'.toArray.size = st.length := hlz3
          k_steps
          refine go ?_
          rename Fr _ _ _ _ => F20
          rename News _ _ _ _ => N20
          refine item_list (News.isList N20 (.head _)) (by exact (LI1 (.il O0 (.s (.a O1 (.ca V0)) O1)))) (by exact (LI2 (.im (.lt V0 V1) (.im (.le V1 (.n 900)) (.jl (.s (.a O1 (.ca V0)) O1) (.pw 2 63))))) hi1 hstl) (x := .int (a0 : Nat) u1) (by rw [show (1 + (i : Int) - 1).toNat = i by exact (LI1 (.eq (.tn (.s (.a O1 (.ca V0)) O1)) V0)), List.getElem?_toArray]; exact hu1) ?_
          k_steps
          refine go ?_
          rename Fr _ _ _ _ => F20
          rename News _ _ _ _ => N20
          refine item_list (News.isList N20 (.head _)) (by exact (LI1 (.il O0 (.a O1 (.ca V0))))) (by exact (LI2 (.im (.lt V0 V1) (.im (.le V1 (.n 900)) (.jl (.a O1 (.ca V0)) (.pw 2 63))))) hi1 hstl) (x := .int (b0 : Nat) u2) (by rw [show (1 + (i : Int)).toNat = i + 1 by exact (LI1 (.eq (.tn (.a O1 (.ca V0))) (.a V0 O1))), List.getElem?_toArray]; exact hu2) ?_
          k_steps
          · refine go ?_
            rename Fr _ _ _ _ => F21
            rename News _ _ _ _ => N21
            rename (_ != _) = true => hne
            rw [hsl, hrv, bne, hbq] at hne
            have hz : ¬sub ds (a0 - p0.length) b0 = (sub ds (a0 - p0.length) b0).reverse := by simpa using hne
            rw [hsl]
            refine append_K (D := ol) (its := oits3) (n := ok3) F21 N21 (.tail (fun q => hnd.1 (q ▸ .head _)) (.head fun p hp q => ?_)) (fun h22 F22 N22 => ?_) (by rw [sizeLine_eq]; exact (LI1 (.im (.le V0 (.n 2000)) (.le V0 (.n 16777216)))) ho3z)
            · have hp' : p ∈ ((nl, listOf nits2 (nk + 1)) :: (hdrL w.params x dx hl t its13 k13 ++ (47, tabObj ps15) :: (ex15 ++ []))) ++ own := by
                simpa only [hdrL, List.cons_append, List.nil_append, List.append_assoc, List.append_nil] using hp
              rcases List.mem_append.mp hp' with r | r
              · exact hnd2.1 (List.mem_map.mpr ⟨p, r, q⟩)
              · exact ho (ol, listOf oits3 ok3) (.tail _ (.head _)) (q.symm.trans (hown p r))
            · k_steps
              rename Fr _ _ _ _ => F23
              rename News _ _ _ _ => N23
              refine hR2 _ _ ?_
              refine go ⟨_, _, _, (D3, listOf led'.toArray n3) :: (ol, listOf (oits3.push (.str (tx (sub ds (a0 - p0.length) b0)) _)) (ok3 + 1)) :: (nl, listOf nits2 (nk + 1)) :: (hdrL w.params x dx hl t its13 k13 ++ (47, tabObj ps15) :: (ex15 ++ [])), rfl, F23, news_eq N23 (by simp only [hdrL, List.cons_append, List.nil_append, List.append_assoc]; rfl), fun p hp => ?_, ⟨rfl, rfl, rfl, rfl, rfl, rfl, trivial⟩, _, _, rfl, ?_⟩
              · rcases List.mem_cons.mp hp with rfl | hp
                · exact ho (D3, listOf led'.toArray n3) (.head _)
                rcases List.mem_cons.mp hp with rfl | hp
                · exact ho (ol, listOf oits3 ok3) (.tail _ (.head _))
                · exact ho p (.tail _ (.tail _ hp))
              · rw [hod, if_neg hz, ← List.append_assoc, List.map_append, Array.toList_push]
                exact strsAre_snoc hs3 _ _
          · rename (_ != _) = false => hne
            rename Fr _ _ _ _ => F23
            rename News _ _ _ _ => N23
            rw [hsl, hrv, bne, hbq] at hne
            have hz : sub ds (a0 - p0.length) b0 = (sub ds (a0 - p0.length) b0).reverse := by simpa using hne
            refine hR2 _ _ ?_
            refine go ⟨_, _, _, (D3, listOf led'.toArray n3) :: (ol, listOf oits3 ok3) :: (nl, listOf nits2 (nk + 1)) :: (hdrL w.params x dx hl t its13 k13 ++ (47, tabObj ps15) :: (ex15 ++ [])), rfl, F23, news_eq N23 (by simp only [hdrL, List.cons_append, List.nil_append, List.append_assoc]), ho, ⟨rfl, rfl, rfl, rfl, rfl, rfl, trivial⟩, oits3, ok3, rfl, ?_⟩
            rw [hod, if_pos hz, List.append_nil]; exact hs3
        · rintro m' led₁ h tk ⟨hm, oits3, ok3, rfl, hs3⟩ F19 N19
          have F20 := fr_has F19 [(Str.ofString "odd", .ref ol), (Str.ofString "names", .ref nl), (Str.ofString "table", .ref x), (Str.ofString "word", .str X tw)] ⟨hm.2.2.1, hm.2.2.2.1, hm.2.2.2.2.1, hm.2.2.2.2.2.1, trivial⟩
          have N20 := news_sub N19 (news' := (ol, listOf oits3 ok3) :: (nl, listOf nits2 (nk + 1)) :: (hdrL w.params x dx hl t its13 k13 ++ (47, tabObj ps15) :: (ex15 ++ []))) (fun p hp => .tail _ hp)
          obtain ⟨n', rfl⟩ : ∃ n', n = n' + 1 := ⟨n - 1, by simp at hEn4; exact (LI2 (.im (.le (.a V0 O1) V1) (.eq V1 (.a (.s V1 O1) O1)))) hEn4⟩
          have hfl := List.length_filter_le (fun e : List Nat × Nat => e.1 != p0) E1
          have hol := oddI_len ds p0 st (st.length - 1)
          clear F19 N19 N18a F18
          k_steps
          refine hR1 _ _ ?_
          refine go ⟨n', Nat.lt_succ_self _, h, _, _, its13, k13, ps15, ex15, E1.filter (·.1 != p0), insR ns (num p0), od ++ oddI ds p0 st (st.length - 1), nits2, nk + 1, oits3, ok3, rfl, F20, N20, hnd.2, ok15, xa15, xb15, ⟨rfl, rfl, rfl, rfl, trivial⟩, hn17, hs3, tb13 g tb4, fun e he => hE4 e (.tail _ ((List.mem_filter.mp he).1)), (List.pairwise_cons.mp hEs4).2.filter _, ?_, ?_, ?_, ?_⟩
          · simp at hEn4; exact (LI3 (.im (.le V0 V1) (.im (.le V2 V0) (.le V2 V1)))) hEn4 hfl
          · rw [insR_len]; exact (LI3 (.im (.le (.a (.a V0 O1) V1) (.n 900)) (.im (.le V2 V0) (.le (.a (.a V1 O1) V2) (.n 900))))) hEl hfl
          · rw [List.length_append]; exact (LI4 (.im (.le (.a (.a V0 V1) V2) (.n 900)) (.im (.le V3 (.s V1 O1)) (.le (.a (.a V0 V3) V2) (.n 900))))) hoz hol
          · rw [← hste]; exact hf4
    · refine hS1 _ ?_
      k_steps
      rename Fr _ _ _ _ => F7
      rename News _ _ _ _ => N7
      rename_i D h7 lD
      have hE0 : E = [] := List.eq_nil_of_length_eq_zero (by exact (LI2 (.im (.eq V0 V1) (.im (.im (.jl O0 (.ca V0)) .ff) (.eq V1 O0)))) hsz (by assumption))
      subst hE0
      rw [tko_nil] at hf4
      rw [← hf4] at ret
      have sub0 : ∀ a, a ∉ (hdrL w.params x dx hl t its k ++ (47, tabObj ps) :: (ex2 ++ [])).map Prod.fst → g.get? a = none → s.heap.get? a = none := fun a n e => by
        cases q : s.heap.get? a with
        | none => rfl
        | some o =>
          rw [hg a o (fun z => n (by rw [List.append_nil]; exact sub_keys xa4 z)) q] at e; cases e
      have nd5 := List.nodup_cons.mp nd4
      have nd6 := List.nodup_cons.mp nd5.2
      have hDk : D ∉ (hdrL w.params x dx hl t its k ++ (47, tabObj ps) :: (ex2 ++ [])).map Prod.fst := fun q => by
        obtain ⟨p, hp, e⟩ := List.mem_map.mp q
        rw [List.append_nil] at hp
        obtain ⟨_, _, z1, z2, z3, z4, z5⟩ := lD
        rcases List.mem_append.mp hp with r | r
        · rcases List.mem_cons.mp r with r | r
          · rw [r] at e; exact absurd e (Nat.ne_of_lt z1)
          rcases List.mem_cons.mp r with r | r
          · rw [r] at e; exact absurd e (Nat.ne_of_lt z2)
          rcases List.mem_cons.mp r with r | r
          · rw [r] at e; exact absurd e (Nat.ne_of_lt z3)
          · cases r
        rcases List.mem_cons.mp r with r | r
        · rw [r] at e; exact absurd e (Nat.ne_of_lt z4)
        · exact absurd e (Nat.ne_of_lt (allLt_mem z5 p r))
      have h47 := (N7 (47, tabObj ps) (.tail _ (.tail _ (.tail _ (.tail _ (.tail _ (.tail _ (.head _)))))))).1
      refine go (ret D nl nits nk ol oits ok2 h7 _ ps ex2 (fun b o nb e => ?_) ok4 h47 (fun p hp => ⟨(N7 p (.tail _ (.tail _ (.tail _ (.tail _ (.tail _ (.tail _ (.tail _ hp)))))))).1, xb4 p hp⟩) xa4 (fun p hp => ?_) hn4 ho4)
      · by_cases hb : b = x ∨ b = dx ∨ ∃ p ∈ ex, p.1 = b
        · rcases hb with rfl | rfl | ⟨p, hp, rfl⟩
          · rw [(N _ (.head _)).1] at e; cases e
            exact (N7 _ (.tail _ (.tail _ (.tail _ (.head _))))).1
          · rw [(N _ (.tail _ (.head _))).1] at e; cases e
            exact (N7 _ (.tail _ (.tail _ (.tail _ (.tail _ (.head _)))))).1
          · rw [(N p (List.mem_append_right _ (.tail _ hp))).1] at e; cases e
            exact (N7 p (.tail _ (.tail _ (.tail _ (.tail _ (.tail _ (.tail _ (.tail _ (xa4 p hp))))))))).1
        · refine F7.keep b o (hg b o (fun z => ?_) e)
          obtain ⟨p, hp, e1⟩ := List.mem_map.mp z
          rcases List.mem_append.mp hp with r | r
          · rcases List.mem_cons.mp r with r | r
            · rw [r] at e1; exact hb (.inl e1.symm)
            rcases List.mem_cons.mp r with r | r
            · rw [r] at e1; exact hb (.inr (.inl e1.symm))
            rcases List.mem_cons.mp r with r | r
            · rw [r] at e1; exact nb (e1 ▸ .head _)
            · cases r
          rcases List.mem_cons.mp r with r | r
          · rw [r] at e1; exact nb (e1 ▸ .tail _ (.head _))
          · exact hb (.inr (.inr ⟨p, r, e1⟩))
      · rcases List.mem_cons.mp hp with rfl | hp
        · exact ⟨(N7 _ (.head _)).1, sub0 D hDk (N7 _ (.head _)).2.2⟩
        rcases List.mem_cons.mp hp with rfl | hp
        · exact ⟨(N7 _ (.tail _ (.tail _ (.head _)))).1, sub0 nl nd6.1 (N7 _ (.tail _ (.tail _ (.head _)))).2.2⟩
        · rw [List.mem_singleton.mp hp]
          exact ⟨(N7 _ (.tail _ (.head _))).1, sub0 ol (fun q => nd5.1 (.tail _ q)) (N7 _ (.tail _ (.head _))).2.2⟩
  · exact ⟨_, _, _, its, k, ps, ex, E0, [], [], _, _, _, _, rfl, F2, N3, nd3, ok, fun _ h => h, fun _ h => .inl h, ⟨rfl, rfl, rfl, rfl, trivial⟩, .nil, .nil, tg, hE, hEs, Nat.le_refl _, by simpa using hEz, by simpa using hEz, rfl⟩
end Mine
end
section
open PySem PySem.W PyProof.Rows PySem.Calls PySem.Spec PyProof
namespace Mine
section
variable {prog : Program} {w : World} {A : Around} {E : Value → Shared → Prop} {s : Shared}
theorem next_tup_item {it l : Addr} {i : Nat} {items : Array Value} {x : Value} {Q : Value → Shared → Prop} (hit : s.heap.IsTupleIter it l i) (hl : s.heap.IsTuple l items) (hx : items[i]? = some x)
    (hQ : ∀ h', h'.IsTupleIter it l (i + 1) → Heap.SameBut it s.heap h' → Q x { s with heap := h' }) : wpAny (model prog w) A (Builtin.SmallTypes.nextOf (.ref it)) Q E s := by
  obtain ⟨o, ho, hc, hd⟩ := id hit
  obtain ⟨ol, hol, _, nl, hdl⟩ := hl
  unfold Builtin.SmallTypes.nextOf
  refine wpAny_bind (wpAny_callSpecial?_slot (name := Str.ofString "__next__") hit.typeIs F.slot_tuple_iterator_next
    (wpAny_call_entry F.slot_tuple_iterator_next hit.typeIs F.entry_tuple_iterator_next ?_ (F.args_tuple_iterator_next_1 _)))
  show wpAny _ _ (field (.ref it) 0 >>= _) _ _ s
  refine wpAny_bind (wpAny_field ho hd (x := .ref l) rfl ?_)
  show wpAny _ _ (if (Value.ref l == Value.none) = true then _ else _) _ _ s
  rw [if_neg (show ¬ ((Value.ref l == Value.none) = true) from Bool.false_ne_true)]
  show wpAny _ _ (field (.ref it) 1 >>= _) _ _ s
  refine wpAny_bind (wpAny_field ho hd (x := .int i 0) rfl ?_)
  show wpAny _ _ (seqItems? (.ref l) >>= _) _ _ s
  refine wpAny_bind (wpAny_seqItems hol hdl ?_)
  simp only [Int.toNat_natCast, hx]
  refine wpAny_bind (wpAny_setField ho hd (by simp) (wpAny_pure ⟨x, rfl, wpAny_pure (hQ _ ?_ (Heap.SameBut.update ..))⟩))
  exact ⟨_, Heap.get?_update_self _ ho (Obj.isFreed_of_fields (Obj.data_mapFields hd _)), (Obj.cls_mapFields ..).trans hc, by
    rw [Obj.data_mapFields hd]; simp [rawInt]⟩
theorem next_tup_end {it l : Addr} {i : Nat} {items : Array Value} {Q : Value → Shared → Prop} (hh : A.handled = none) (hit : s.heap.IsTupleIter it l i) (hl : s.heap.IsTuple l items) (hx : items[i]? = none)
    (hE : ∀ h' e, Heap.ExtBut it s.heap h' → (∃ o, h'.get? e = some o ∧ o.cls = .type "StopIteration") → E (.ref e) { s with heap := h' }) : wpAny (model prog w) A (Builtin.SmallTypes.nextOf (.ref it)) Q E s := by
  obtain ⟨o, ho, hc, hd⟩ := id hit
  obtain ⟨ol, hol, _, nl, hdl⟩ := hl
  unfold Builtin.SmallTypes.nextOf
  refine wpAny_bind (wpAny_callSpecial?_slot (name := Str.ofString "__next__") hit.typeIs F.slot_tuple_iterator_next
    (wpAny_call_entry F.slot_tuple_iterator_next hit.typeIs F.entry_tuple_iterator_next ?_ (F.args_tuple_iterator_next_1 _)))
  show wpAny _ _ (field (.ref it) 0 >>= _) _ _ s
  refine wpAny_bind (wpAny_field ho hd (x := .ref l) rfl ?_)
  show wpAny _ _ (if (Value.ref l == Value.none) = true then _ else _) _ _ s
  rw [if_neg (show ¬ ((Value.ref l == Value.none) = true) from Bool.false_ne_true)]
  show wpAny _ _ (field (.ref it) 1 >>= _) _ _ s
  refine wpAny_bind (wpAny_field ho hd (x := .int i 0) rfl ?_)
  show wpAny _ _ (seqItems? (.ref l) >>= _) _ _ s
  refine wpAny_bind (wpAny_seqItems hol hdl ?_)
  simp only [Int.toNat_natCast, hx]
  refine wpAny_bind (wpAny_rule (wpAny_bind (wpAny_setField ho hd (by simp) ?_)))
  show wpAny _ _ (newExc (.type "StopIteration") [] >>= _) _ _ _
  refine wpAny_bind ?_
  simp only [newExc, newTuple]
  refine wpAny_bind (wpAny_newObj_type ?_ (by size_fits))
  refine wpAny_bind (m := firstArgMember _ _) (wpAny_of_eq (a := Value.none) (by first | rfl | (simp only [firstArgMember]; rfl)) ?_)
  refine wpAny_newObj_type ?_ (by size_fits)
  simp only [raiseNew]
  refine wpAny_bind (wpAny_handled ?_)
  first | rw [show A.in1.handled = none from hh] | rw [hh]
  refine wpAny_bind (wpAny_pure (wpAny_throw ?_))
  exact hE _ _ (((Heap.SameBut.update ..).extBut.push _).push _) ⟨_, Heap.get?_push_size _ rfl, rfl⟩
end
theorem draws_tup {prog : Program} {w : World} {A : Around} (hh : A.handled = none) (it l : Addr) (hne : l ≠ it) (items : Array Value) :
    Draws prog w A it [it, l] items.size (fun i v => items[i]? = some v) (fun i h => h.IsTupleIter it l i ∧ h.IsTuple l items) where
  live := fun _ _ st => let ⟨o, ho, _⟩ := st.1; ⟨o, ho⟩
  frame := fun _ _ _ st hk => ⟨let ⟨o, e, r⟩ := st.1; ⟨o, hk it (by simp) o e, r⟩, let ⟨o, e, r⟩ := st.2; ⟨o, hk l (by simp) o e, r⟩⟩
  item := fun i s Q E hi st hQ => by
    refine next_tup_item st.1 st.2 (x := items[i]) (by simp [hi]) fun h' hit' hs' => ?_
    exact hQ _ h' s.toks (by simp [hi]) ⟨hit', let ⟨o, e, r⟩ := st.2; ⟨o, (hs'.2 l hne).trans e, r⟩⟩ hs'
  done := fun s Q E st hE => next_tup_end hh st.1 st.2 (by simp) hE
theorem meets_enum_tup (l : Addr) (items : Array Value) (n : Nat) :
    Meets (Builtin.«enumerate.__new__» ⟨[.type "enumerate", .ref l], []⟩) (fun _ R s => s.heap.get? l = some { cls := .type "tuple", dict := none, data := .seq items n, slots := #[] } ∧
      R (.ok (.ret (.ref (s.heap.push { cls := .type "tuple_iterator", data := .fields #[.ref l, .int 0 0] }).objs.size)))
        { s with heap := (s.heap.push { cls := .type "tuple_iterator", data := .fields #[.ref l, .int 0 0] }).push { cls := .type "enumerate", data := .fields #[.none, .bool false, .ref s.heap.objs.size, rawInt 0, .none, .none] } }) :=
  .of_wp fun prog w A R s h => by
    obtain ⟨hp, g, d, tk, os⟩ := s; obtain ⟨hl, h⟩ := h
    have hsub := sub_enumerate
    have hL : Heap.IsTuple (Shared.heap ⟨hp, g, d, tk, os⟩) l items := ⟨_, hl, rfl, n, rfl⟩
    wp_walk using wpAny_loadPart' hl
    refine wpAny_stack_any fun st => wpAny_pure ?_
    split
    · rename_i c _ _ _ _ _
      cases (c == Value.type "enumerate")
      · wp_walk using wpAny_loadPart' hl, wpAny_pyIter_tuple hL
        exact ⟨_, rfl, h⟩
      · wp_walk using wpAny_loadPart' hl, wpAny_pyIter_tuple hL
        exact ⟨_, rfl, h⟩
    · wp_walk using wpAny_loadPart' hl, wpAny_pyIter_tuple hL
      exact ⟨_, rfl, h⟩
section
variable {prog : Program} {w : World} {A : Around} {E : Value → Shared → Prop} {s : Shared}
theorem call_enum_tup {l : Addr} {items : Array Value} {n : Nat} {Q : Value → Shared → Prop} (hl : s.heap.get? l = some { cls := .type "tuple", dict := none, data := .seq items n, slots := #[] })
    (h : ∀ h', IsEnum h' (s.heap.objs.size + 1) s.heap.objs.size 0 .none → h'.IsTupleIter s.heap.objs.size l 0 → h'.objs.size = s.heap.objs.size + 2 →
      (∀ b o, s.heap.get? b = some o → h'.get? b = some o) → Q (.ref (s.heap.objs.size + 1)) { s with heap := h' }) :
    wpAny (model prog w) A (call (.type "enumerate") [.ref l]) Q E s := by
  refine callType_new F.called_enumerate (by decide) (F.typeCall_enumerate_1 _) (F.newCall_enumerate_1 _) (fun obj => F.args_object_init_2 obj _) F.entry_enumerate_new
    (meets_enum_tup l items n) ⟨hl, ?_⟩
  have hz : (s.heap.push { cls := .type "tuple_iterator", data := .fields #[.ref l, .int 0 0] }).objs.size = s.heap.objs.size + 1 := Heap.size_push ..
  show _ ∧ _
  rw [hz]
  have he : IsEnum ((s.heap.push { cls := .type "tuple_iterator", data := .fields #[.ref l, .int 0 0] }).push
      { cls := .type "enumerate", data := .fields #[.none, .bool false, .ref s.heap.objs.size, rawInt 0, .none, .none] }) (s.heap.objs.size + 1) s.heap.objs.size 0 .none := by
    have := Heap.get?_push_size (s.heap.push { cls := .type "tuple_iterator", data := .fields #[.ref l, .int 0 0] })
      (o := { cls := .type "enumerate", data := .fields #[.none, .bool false, .ref s.heap.objs.size, rawInt 0, .none, .none] }) rfl
    rw [hz] at this; exact this
  exact ⟨⟨_, he, rfl⟩, h _ he ⟨_, Heap.get?_push_of_some _ (Heap.get?_push_size _ rfl), rfl, rfl⟩ (by rw [Heap.size_push, hz]) fun b o x => Heap.get?_push_of_some _ (Heap.get?_push_of_some _ x)⟩
end
section
variable {prog : Program} {w : World} {A : Around} {env : Env} {s s₂ : Shared}
noncomputable def EnEnd (g' : Heap) (D : Addr) (out : List Value) (c : Nat) (own : List (Addr × Obj)) (J : Prop) (s₂ s' : Shared) : Prop :=
  E3 fun h' tk' m' => A4 (s' = { s₂ with heap := h', toks := tk' }) (Fr g' (D + 1) h' m') (News g' (D + 1) h' ((D, listOf out.toArray c) :: own)) J
noncomputable def EnumAt (prog : Program) (w : World) (A : Around) (env : Env) (scope : Scope) (cl : List (Str × Addr)) (a b : Str) (elt : Expr) (Q : Value → Shared → Prop) (it : Value) (s₂ : Shared) : Prop :=
  E9 fun (e ti l : Addr) (items : Array Value) (g : Heap) (L : Addr) (m : Str → Option Value) (led : List (Addr × Obj)) (J : Nat → List Value → Prop) => A18 (it = .ref e) (e ≠ ti) (l ≠ e) (l ≠ ti) (IsEnum s₂.heap e ti 0 .none) (s₂.heap.IsTupleIter ti l 0) (s₂.heap.IsTuple l items) (Fr g L s₂.heap m) (News g L s₂.heap led) (∀ p ∈ led, p.1 ≠ e ∧ p.1 ≠ ti) (g.get? e = none) (g.get? ti = none) (L ≠ e) (L ≠ ti) (items.size < 1000) (J 0 []) (∀ (g' : Heap) (D i : Nat) (x : Value) (out : List Value) (c : Nat) (h : Heap) (tk t : Nat) (mC : Str → Option Value) (own : List (Addr × Obj)), (∀ y o, g.get? y = some o → g'.get? y = some o) → (∀ y o, y ≠ e → y ≠ ti → s₂.heap.get? y = some o → g'.get? y = some o) → i < items.size → items[i]? = some x → J i out →
      Fr g' (D + 1) h (fun y => if y = b then some x else if y = a then some (.int i t) else mC y) → News g' (D + 1) h ((D, listOf out.toArray c) :: own) →
      wpAny (model prog w) A (eval elt (cEnv env scope (D + 1) cl)) (fun r s' => Halt (EnEnd g' D out c own (J (i + 1) (out ++ [r])) s₂ s')) (fun _ _ => False) { s₂ with heap := h, toks := tk }) (∀ D out c h tk, J items.size out → s₂.heap.get? D = none → Fr g L h m → News g L h ((D, listOf (out : List Value).toArray c) :: led) → (∀ y o, y ≠ e → y ≠ ti → s₂.heap.get? y = some o → h.get? y = some o) → Q (.ref D) { s₂ with heap := h, toks := tk })
set_option maxHeartbeats 1000000 in
theorem comp_enum {elt iter : Expr} {a b : Str} {pa pb pt : Pos} {kk : Nat} {scope : Scope} {pos : Pos} {cl : List (Str × Addr)} {Q : Value → Shared → Prop}
    (hh : A.handled = none) (hclos : closureFor scope env = pure cl) (hkind : scope.kind = .function) (hcell : ∀ y ∈ scope.names, y.2 ≠ .cell) (hnames : ∀ y ∈ scope.names, y.2 = .local → scope.names.lookup y.1 = some .local) (ha : scope.names.lookup a = some .local) (hb : scope.names.lookup b = some .local)
    (h : wpAny (model prog w) A (eval iter env) (fun xv s₁ => wpAny (model prog w) A (pyIter xv) (fun it s₂ => EnumAt prog w A env scope cl a b elt Q it s₂) (fun _ _ => False) s₁) (fun _ _ => False) s)
    (hs : ∀ x, foldedSetIterable iter env x = pure x := by intro _; rfl) :
    wpAny (model prog w) A (eval (.ListComp elt [⟨.Tuple [.Name a pa, .Name b pb] kk pt, iter, [], 0⟩] scope pos) env) Q (fun _ _ => False) s := by
  rw [eval_ListComp]
  refine wpAny_comprehension_free (use := none) rfl hs hclos hkind hnames (wpAny_mono h (fun xv s₁ h₁ => wpAny_mono h₁ (fun it s₂ h₂ => ?_) fun _ _ e => e) fun _ _ e => e)
  obtain ⟨e, ti, l, items, g, L, m, led, J, rfl, hne, hle, hli, he, hti, hl, F, N, hoff, ge, gt, hLe, hLt, hz, hJ0, turn, done⟩ := h₂
  refine wpAny_newObj_type ?_ (by size_fits)
  refine wpAny_newFunctionEnv hcell (by simp) (fun h₄ hns hsb => ?_) hkind
  have hC : (s₂.heap.push ({ cls := .type "list", data := .seq #[] } : Obj)).objs.size = s₂.heap.objs.size + 1 := Heap.size_push ..
  have hes : e < s₂.heap.objs.size := Heap.lt_size he
  have hts : ti < s₂.heap.objs.size := let ⟨_, q, _⟩ := hti; Heap.lt_size q
  have hls : l < s₂.heap.objs.size := let ⟨_, q, _⟩ := hl; Heap.lt_size q
  have hLs : L < s₂.heap.objs.size := F.ns.lt
  generalize hg' : hideAll s₂.heap [e, ti] = g'
  have hin : ∀ y o, y ≠ e → y ≠ ti → s₂.heap.get? y = some o → g'.get? y = some o := fun y o h1 h2 q => by
    rw [← hg']; exact hideAll_get _ q (fun z => (List.mem_cons.mp z).elim h1 fun z => h2 (List.mem_singleton.mp z))
  have hout : ∀ y o, g'.get? y = some o → s₂.heap.get? y = some o := fun y o q => by rw [← hg'] at q; exact of_hideAll _ q
  have hhe : g'.get? e = none := by rw [← hg']; exact hideAll_none _ (.head _)
  have hht : g'.get? ti = none := by rw [← hg']; exact hideAll_none _ (.tail _ (.head _))
  have hsz' : g'.objs.size = s₂.heap.objs.size := by rw [← hg']; exact hideAll_size _ _
  clear hg'
  have hgg : ∀ y o, g.get? y = some o → g'.get? y = some o := fun y o q => hin y o (fun z => by rw [z, ge] at q; cases q) (fun z => by rw [z, gt] at q; cases q) (F.keep y o q)
  have old4 : ∀ y o, s₂.heap.get? y = some o → h₄.get? y = some o := fun y o q => by
    rw [hsb.2 y (by rw [hC]; exact Nat.ne_of_lt (Nat.lt_succ_of_lt (Heap.lt_size q)))]
    exact Heap.get?_push_of_some _ (Heap.get?_push_of_some _ q)
  have hD4 : h₄.get? s₂.heap.objs.size = some (listOf #[] 0) := by
    rw [hsb.2 _ (by rw [hC]; exact neN (by exact (LI1 (.im (.eq V0 (.a V0 O1)) .ff))))]
    exact Heap.get?_push_of_some _ (Heap.get?_push_size _ rfl)
  rw [hC] at hns
  have fresh : ∀ y, s₂.heap.objs.size ≤ y → s₂.heap.get? y = none := fun y hy => by
    cases q : s₂.heap.get? y with
    | none => rfl
    | some o => exact absurd (Heap.lt_size q) (Nat.not_lt.mpr hy)
  have fresh' : ∀ y, s₂.heap.objs.size ≤ y → g'.get? y = none := fun y hy => by
    cases q : g'.get? y with
    | none => rfl
    | some o => have := hout _ _ q; rw [fresh y hy] at this; cases this
  have F4 : Fr g' (s₂.heap.objs.size + 1) h₄ (fun x => ([] : List (Str × Value)).reverse.lookup x) := ⟨hns, fun y o q => old4 y o (hout y o q), by rw [hsz']; exact (LI1 (.le V0 (.a V0 O1)))⟩
  have N4 : News g' (s₂.heap.objs.size + 1) h₄ [(s₂.heap.objs.size, listOf ([] : List Value).toArray 0)] := fun p hp => by
    rw [List.mem_singleton.mp hp]
    exact ⟨hD4, Nat.ne_of_lt (Nat.lt_succ_self _), fresh' _ (Nat.le_refl _)⟩
  have W := WalksT.enumerateD (prog := prog) (w := w) (A := A) (draws_tup (prog := prog) (w := w) (A := A.in1) hh ti l hli items) e hne (by simp [hne, hle.symm]) (by simp)
  show codeAny (model prog w) A (.compStart _ 0 (.ref e) (.ref s₂.heap.objs.size) (cEnv env scope (s₂.heap.push ({ cls := .type "list", data := .seq #[] } : Obj)).objs.size cl)) (compPost (model prog w) A (fun _ _ => False) none Q (.ref s₂.heap.objs.size) (s₂.heap.push ({ cls := .type "list", data := .seq #[] } : Obj)).objs.size) _
  rw [hC]
  dsimp only
  generalize hR : compPost (model prog w) A (fun _ _ => False) none Q (.ref s₂.heap.objs.size) (s₂.heap.objs.size + 1) = R
  have fin : ∀ out c h tk m', J items.size out → Fr g' (s₂.heap.objs.size + 1) h m' → News g' (s₂.heap.objs.size + 1) h [(s₂.heap.objs.size, listOf (out : List Value).toArray c)] → R (.ok .next) { s₂ with heap := h, toks := tk } := by
    intro out c h tk m' hj F' N'
    rw [← hR]
    refine ⟨m', F'.ns, fun h'' hs'' => ?_⟩
    have keep : ∀ y o, g'.get? y = some o → h''.get? y = some o := fun y o q => by
      rw [hs''.2 y (Nat.ne_of_lt (Nat.lt_succ_of_lt (Heap.lt_size (hout y o q))))]
      exact F'.keep y o q
    refine done s₂.heap.objs.size out c h'' tk hj (fresh _ (Nat.le_refl _)) ⟨F.ns.at' fun o q => keep L o (hin L o hLe hLt q), fun y o q => keep y o (hgg y o q), F.above⟩ (fun p hp => ?_) fun y o h1 h2 q => keep y o (hin y o h1 h2 q)
    rcases List.mem_cons.mp hp with rfl | hp
    · exact ⟨(hs''.2 _ (Nat.ne_of_lt (Nat.lt_succ_self _))).trans (N' _ (.head _)).1, Nat.ne_of_gt hLs, by
        cases q : g.get? s₂.heap.objs.size with
        | none => rfl
        | some o => have := hgg _ _ q; rw [fresh' _ (Nat.le_refl _)] at this; cases this⟩
    · exact ⟨keep _ _ (hin _ _ (hoff p hp).1 (hoff p hp).2 (N p hp).1), (N p hp).2⟩
  clear hR done
  have hCf : s₂.heap.objs.size + 1 ∉ [e, ti, l] := fun q => by
    rcases List.mem_cons.mp q with q | q
    · exact absurd q.symm (Nat.ne_of_lt (Nat.lt_succ_of_lt hes))
    rcases List.mem_cons.mp q with q | q
    · exact absurd q.symm (Nat.ne_of_lt (Nat.lt_succ_of_lt hts))
    · exact absurd (List.mem_singleton.mp q).symm (Nat.ne_of_lt (Nat.lt_succ_of_lt hls))
  have hwr : ∀ y, y ≠ e → y ≠ ti → y ∉ [e, ti] := fun y h1 h2 q => (List.mem_cons.mp q).elim h1 fun q => h2 (List.mem_singleton.mp q)
  have hlg : ∃ o, g'.get? l = some o ∧ s₂.heap.get? l = some o := by
    obtain ⟨o, q, _⟩ := hl
    exact ⟨o, hin l o hle hli q, q⟩
  have main : ∀ tk₄, codeAny (model prog w) A (.compLoop (.ListComp elt [⟨.Tuple [.Name a pa, .Name b pb] kk pt, iter, [], 0⟩] scope pos) 0 (.ref e) (.ref s₂.heap.objs.size) (cEnv env scope (s₂.heap.objs.size + 1) cl)) R { s₂ with heap := h₄, toks := tk₄ } := by
    intro tk₄
    refine compLoop_T (tst := none) (fun k s' => E6 fun (h : Heap) (tk : Nat) (mC : Str → Option Value) (out : List Value) (c i : Nat) => A8 (s' = { s₂ with heap := h, toks := tk }) ((∃ old, IsEnum h e ti (i : Int) old) ∧ h.IsTupleIter ti l i ∧ h.IsTuple l items) (Fr g' (s₂.heap.objs.size + 1) h mC) (News g' (s₂.heap.objs.size + 1) h [(s₂.heap.objs.size, listOf (out : List Value).toArray c)]) (J i out) (out.length ≤ i) (i ≤ items.size) (k = items.size + 1 - i)) ?_ (items.size + 1)
      ⟨h₄, tk₄, _, [], 0, 0, rfl, ⟨⟨_, old4 _ _ he⟩, let ⟨o, q, r⟩ := hti; ⟨o, old4 _ _ q, r⟩, let ⟨o, q, r⟩ := hl; ⟨o, old4 _ _ q, r⟩⟩, F4, N4, hJ0, Nat.le_refl _, Nat.zero_le _, rfl⟩
    rintro k s' ⟨h, tk, mC, out, c, i, rfl, st, F', N', hj, hol, hi, rfl⟩
    by_cases hlt : i < items.size
    · refine W.item i _ _ _ hlt st fun T vals h₁ tk₁ hP hTs tup mid k₁ => ?_
      obtain ⟨t, x, hx, rfl⟩ := hP
      have hT1 := W.apart i T h₁ mid
      refine W.go _ _ _ i T _ _ _ mid fun h₂ st₂ k₂ => ?_
      have k12 : ∀ y o, y ≠ e → y ≠ ti → h.get? y = some o → h₂.get? y = some o := fun y o q1 q2 q => k₂ y o (hwr y q1 q2) (k₁ y o (hwr y q1 q2) q)
      have hgne : ∀ y o, g'.get? y = some o → y ≠ e ∧ y ≠ ti := fun y o q => ⟨fun z => (by rw [z, hhe] at q; cases q), fun z => (by rw [z, hht] at q; cases q)⟩
      have tup₂ : h₂.IsTuple T #[.int i t, x] := by
        obtain ⟨o, q, r⟩ := tup
        exact ⟨o, k₂ T o hT1 q, r⟩
      have hCe : s₂.heap.objs.size + 1 ≠ e := Nat.ne_of_gt (Nat.lt_succ_of_lt hes)
      have hCt : s₂.heap.objs.size + 1 ≠ ti := Nat.ne_of_gt (Nat.lt_succ_of_lt hts)
      refine kcp_assign hh tup₂ (lookup_relabel_local ha) (lookup_relabel_local hb) ?_ (F'.ns.at' fun o q => k12 _ o hCe hCt q) fun h₃ tk₃ hn₃ hk₃ => ?_
      · show (scope.kind == .class || (scope.kind == .module && _)) = false
        rw [hkind]; rfl
      have st₃ := W.frame (i + 1) h₂ h₃ st₂ fun y hy o q => hk₃ y o (fun (z : y = s₂.heap.objs.size + 1) => hCf (z ▸ hy)) q
      obtain ⟨⟨old, e3⟩, ⟨ot, t3, tr⟩, l3⟩ := st₃
      have hDe : s₂.heap.objs.size ≠ e := Nat.ne_of_gt hes
      have hDt : s₂.heap.objs.size ≠ ti := Nat.ne_of_gt hts
      have F3 : Fr g' (s₂.heap.objs.size + 1) h₃ _ := ⟨hn₃, fun y o q => hk₃ y o (fun (z : y = s₂.heap.objs.size + 1) => by
        have h5 := fresh' (s₂.heap.objs.size + 1) (Nat.le_succ _)
        rw [z, h5] at q; cases q) (k12 y o (hgne y o q).1 (hgne y o q).2 (F'.keep y o q)), F'.above⟩
      have N3 : News g' (s₂.heap.objs.size + 1) h₃ ((s₂.heap.objs.size, listOf out.toArray c) :: [(e, _), (ti, ot)]) := fun p hp => by
        rcases List.mem_cons.mp hp with rfl | hp
        · exact ⟨hk₃ _ _ (Nat.ne_of_lt (Nat.lt_succ_self _)) (k12 _ _ hDe hDt (N' _ (.head _)).1), (N' _ (.head _)).2⟩
        rcases List.mem_cons.mp hp with rfl | hp
        · exact ⟨e3, hCe.symm, hhe⟩
        · rw [List.mem_singleton.mp hp]; exact ⟨t3, hCt.symm, hht⟩
      refine wpAny_pure ?_
      rw [if_pos rfl]
      refine wpAny_mono (turn g' s₂.heap.objs.size i x out c h₃ tk₃ t mC _ hgg hin hlt hx hj F3 N3) (fun r s' hr => ?_) fun _ _ q => q
      obtain ⟨h', tk', m', rfl, F5, N5, hj5⟩ := hr
      refine append_K (D := s₂.heap.objs.size) (its := out.toArray) (n := c) F5 N5 (.head fun p hp => ?_) (fun h'' F6 N6 => ?_) (by rw [List.size_toArray, sizeLine_eq]; exact (LI3 (.im (.lt V0 (.n 1000)) (.im (.lt V1 V0) (.im (.le V2 V1) (.le V2 (.n 16777216)))))) hz hlt hol)
      · rcases List.mem_cons.mp hp with rfl | hp
        · exact hDe.symm
        · rw [List.mem_singleton.mp hp]; exact hDt.symm
      · obtain ⟨o, l4, l5⟩ := hlg
        obtain ⟨o', l6, l7⟩ := hl
        rw [l5] at l6; cases l6
        refine ⟨items.size + 1 - (i + 1), by exact (LI2 (.im (.lt V0 V1) (.lt (.s (.a V1 O1) (.a V0 O1)) (.s (.a V1 O1) V0)))) hlt, h'', _, m', out ++ [r], c + 1, i + 1, rfl, ⟨⟨old, (N6 _ (.tail _ (.head _))).1⟩, ⟨ot, (N6 _ (.tail _ (.tail _ (.head _)))).1, tr⟩, ⟨o, F6.keep _ _ l4, l7⟩⟩, F6, fun p hp => ?_, hj5, by rw [List.length_append, List.length_singleton]; exact (LI2 (.im (.le V0 V1) (.le (.a V0 O1) (.a V1 O1)))) hol, hlt, rfl⟩
        rw [List.mem_singleton.mp hp]
        have := N6 _ (.head _)
        rw [List.push_toArray] at this
        exact this
    · have hin' : i = items.size := by exact (LI2 (.im (.le V0 V1) (.im (.im (.lt V0 V1) .ff) (.eq V0 V1)))) hi hlt
      subst hin'
      refine W.done _ _ _ st fun h₁ tk₁ k₁ => ?_
      have k2 : ∀ y o, y ≠ e → y ≠ ti → h.get? y = some o → h₁.get? y = some o := fun y o q1 q2 q => k₁ y o (hwr y q1 q2) q
      have hgne : ∀ y o, g'.get? y = some o → y ≠ e ∧ y ≠ ti := fun y o q => ⟨fun z => (by rw [z, hhe] at q; cases q), fun z => (by rw [z, hht] at q; cases q)⟩
      refine fin out c h₁ tk₁ mC hj ⟨F'.ns.at' fun o q => k2 _ o (Nat.ne_of_gt (Nat.lt_succ_of_lt hes)) (Nat.ne_of_gt (Nat.lt_succ_of_lt hts)) q, fun y o q => k2 y o (hgne y o q).1 (hgne y o q).2 (F'.keep y o q), F'.above⟩ fun p hp => ?_
      rw [List.mem_singleton.mp hp]
      exact ⟨k2 _ _ (Nat.ne_of_gt hes) (Nat.ne_of_gt hts) (N' _ (.head _)).1, (N' _ (.head _)).2⟩
  exact codeAny_compStart_list (main _) (W.self 0 _ _ _ ⟨⟨_, old4 _ _ he⟩, let ⟨o, q, r⟩ := hti; ⟨o, old4 _ _ q, r⟩, let ⟨o, q, r⟩ := hl; ⟨o, old4 _ _ q, r⟩⟩ (main _))
end
end Mine
end
section
open PySem PySem.W PyProof.Rows PySem.Calls PySem.Spec PyProof
namespace Mine
set_option maxHeartbeats 4000000 in
local macro_rules | `(tactic| walk_at $s:str) => Mine.hl ["eval Subscript Name Slice", "subscriptTail Name Slice ref ref", "eval ListComp", "eval ListComp BinOp", "eval ListComp Call", "call type:enumerate", "pyIter ref", "exec Return some ListComp"] [] s
theorem law_cells_spec {prog : Program} {w : World} {A₀ : Around} {dp un : Nat} {gd : Option (List Code)} {s : Shared} {base h₀ : Heap} {outer : List Env} {L : Addr} {m mg mb : Str → Option Value} {env : Env}
    {p : Program} {loose : List Str} {mean : ExcName → Option Value} {Q E : Value → Shared → Prop} {S : Addr} {its : Array Value} {ks : List Int}
    (B : Below A₀ base outer h₀) (F : Fr h₀ L s.heap m) (X₀ : (hd.heap_39 w.params).In h₀) (T : Top p loose mean mg mb h₀) (hf : env.frame = some L) (hke : env.scope.kind = .function)
    (hroom : dp + 3 < recursionLimit) (hl : h₀.IsList S its) (hi0 : IntsAre its.toList ks) (hz : its.size ≤ 63)
    (ret : ∀ D (out : List Value) c (cs : List Int) h' tk, But [] s.heap h' → h'.get? D = some (listOf out.toArray c) → s.heap.get? D = none → cs.length = 10 → IntsAre out cs → Q (.ref D) { s with heap := h', toks := tk }) :
    wpAny (model prog w) (Ar dp un gd (env :: outer)) (call (.ref 281) [.ref S] []) Q E s := by
  refine enterC (args := ⟨[.ref S], []⟩) (mod := []) (binds := [(Str.ofString "script", .ref S)]) B F X₀ T (fun _ h => by cases h) hf hke (by exact (LI2 (.im (.lt (.a V0 (.n 3)) V1) (.lt V0 V1))) hroom) (by k_is) (by k_is) (BindsTo.of_eq rfl) rfl (by decide +kernel) (fun g h₁ tk cells hg hg' F' N' Y' B' X' T' hlow => ?_) rfl rfl rfl
  k_cells Y'
  simp only [List.cons_append, List.nil_append] at N'
  try dsimp only
  have gl : g.IsList S its := let ⟨o, e, r⟩ := hl; ⟨o, hg _ _ (fun q => by cases q) (F.keep _ _ e), r⟩
  k_steps
  refine go ?_
  rename Fr _ _ _ _ => F2
  rename News _ _ _ _ => N2
  rename_i D2 _ lD2 h3
  refine comp_enum (cl := [(Str.ofString "script", s.heap.objs.size + 1)]) rfl rfl rfl (by decide) (by decide) rfl rfl ?_
  k_steps
  refine go ?_
  refine call_enum_tup (N2 _ (.head _)).1 (fun h4 he ht hz4 k4 => ?_)
  k_steps
  refine go ?_
  rename _ = Data.cell _ => dc
  have hD2 : @LT.lt Nat _ D2 h3.objs.size := ltN (Heap.lt_size (N2 _ (.head _)).1)
  have hne : h3.objs.size + 1 ≠ h3.objs.size := Nat.ne_of_gt (Nat.lt_succ_self _)
  have top : ∀ a o, h3.get? a = some o → a ≠ h3.objs.size + 1 ∧ a ≠ h3.objs.size := fun a o q => ⟨Nat.ne_of_lt (Nat.lt_succ_of_lt (Heap.lt_size q)), Nat.ne_of_lt (Heap.lt_size q)⟩
  have gtop : ∀ a, h3.objs.size ≤ a → g.get? a = none := fun a ha => by
    cases q : g.get? a with
    | none => rfl
    | some o => exact absurd (Heap.lt_size (F2.keep _ _ q)) (Nat.not_lt.mpr ha)
  obtain ⟨oL, esL, epL, eL, _⟩ := id F2.ns
  refine wpAny_pyIter_enum he ?_
  refine ⟨h3.objs.size + 1, h3.objs.size, D2, _, g, _, _, _, fun i out => ∃ cs : List Int, cs.length = i ∧ IntsAre out cs, rfl, hne, (top _ _ (N2 _ (.head _)).1).1, (top _ _ (N2 _ (.head _)).1).2, he, ht, ⟨_, k4 _ _ (N2 _ (.head _)).1, rfl, _, rfl⟩, fr_keep F2 (fun b o _ q => k4 b o q), news_keep N2 (fun b o _ q => k4 b o q), fun p hp => top _ _ (N2 p hp).1, gtop _ (Nat.le_succ _), gtop _ (Nat.le_refl _), (top _ _ eL).1, (top _ _ eL).2, (by show 10 < 1000; decide), ⟨[], rfl, .nil⟩, ?_, ?_⟩
  · rintro g' D i x out c h tk t mC own hgg hin hi hx ⟨cs, hcs, hI⟩ F3 N3
    have hxi : ∃ (z : Int) (u : Tok), x = .int z u := by
      have hm : x ∈ _ := Array.mem_of_getElem? hx
      simp only [List.mem_toArray, List.mem_cons, List.not_mem_nil, or_false] at hm
      rcases hm with rfl | rfl | rfl | rfl | rfl | rfl | rfl | rfl | rfl | rfl <;> exact ⟨_, _, rfl⟩
    obtain ⟨z, u, rfl⟩ := hxi
    have T'' := T'.keeps hgg
    have X'' := X'.keeps hgg
    have gl' : g'.IsList S its := let ⟨o, e, r⟩ := gl; ⟨o, hgg _ _ e, r⟩
    have gc : g'.IsCell (s.heap.objs.size + 1) (some (.ref S)) := by
      have q := (N2 _ (.tail _ (.head _))).1
      exact ⟨_, hin _ _ (top _ _ q).1 (top _ _ q).2 (k4 _ _ q), dc⟩
    k_steps
    try any_goals (first | exact (0 : Nat) | exact Str.ofString "" | exact Value.none | exact ([] : List (Str × Addr)))
    refine go ?_
    refine Subscript_ ?_
    have gcc : h.IsCell (s.heap.objs.size + 1) (some (.ref S)) := let ⟨o, e, r⟩ := gc; ⟨o, F3.keep _ _ e, r⟩
    refine wpAny_Name (wpAny_loadName_cell rfl rfl rfl gcc ?_) (by decide)
    k_steps
    try any_goals (first | exact (0 : Nat) | exact Str.ofString "" | exact Value.none | exact ([] : List (Str × Addr)))
    refine go ?_
    have hsl : h.IsList S its := let ⟨o, e, r⟩ := gl'; ⟨o, F3.keep _ _ e, r⟩
    refine slice_list3 (items := its) F3 N3 hsl (.int _ _) (.int _ _) (.int _ _) (by decide) (fun h5 F5 N5 => ?_) (hsz := by rw [sizeLine_eq]; exact (LI1 (.im (.le V0 (.n 63)) (.le V0 (.n 16777216)))) hz)
    have hpk := hi0.pick (some (i : Int)) (some 20) (some 10)
    k_steps
    try any_goals (first | exact (0 : Nat) | exact Str.ofString "" | exact Value.none | exact ([] : List (Str × Addr)))
    rename Fr _ _ _ _ => F6
    rename News _ _ _ _ => N6
    exact go ⟨_, _, _, rfl, F6, news_sub N6 (fun p hp => .tail _ hp), cs ++ [_], by rw [List.length_append, hcs]; rfl, intsAre_snoc hI _ _⟩
  · rintro D out c h tk ⟨cs, hcs, hI⟩ hD F3 N3 hk
    k_steps
    have hDs : s.heap.get? D = none := by
      cases q : s.heap.get? D with
      | none => rfl
      | some o =>
        have := k4 _ _ (F2.keep _ _ (hg D o (fun z => by cases z) q))
        rw [hD] at this; cases this
    exact go (ret D out c cs h _ (fun b o _ e => F3.keep b o (hg b o (fun z => by cases z) e)) (N3 _ (.head _)).1 hDs hcs hI)
end Mine
end
section
namespace Mine
noncomputable def PalI (w : Nat → Nat) (a b : Nat) : Prop := ∀ i, a ≤ i → i < b → w i = w (a + b - 1 - i)
noncomputable def EqI (w : Nat → Nat) (a c l : Nat) : Prop := ∀ i, i < l → w (a + i) = w (c + i)
noncomputable def RevI (w : Nat → Nat) (a c l : Nat) : Prop := ∀ i, i < l → w (a + i) = w (c + (l - 1 - i))
section
variable {w : Nat → Nat}
theorem EqI.refl (a l : Nat) : EqI w a a l := fun _ _ => rfl
theorem EqI.symm {a c l : Nat} (h : EqI w a c l) : EqI w c a l := fun i hi => (h i hi).symm
theorem EqI.trans {a c e l : Nat} (h : EqI w a c l) (k : EqI w c e l) : EqI w a e l := fun i hi => (h i hi).trans (k i hi)
theorem EqI.part {a c l : Nat} (h : EqI w a c l) {k m : Nat} (hk : k + m ≤ l) : EqI w (a + k) (c + k) m := fun i hi => by
  have := h (k + i) (by exact (LI4 (.im (.le (.a V0 V1) V2) (.im (.lt V3 V1) (.lt (.a V0 V3) V2)))) hk hi)
  rwa [← Nat.add_assoc, ← Nat.add_assoc] at this
theorem EqI.take {a c l : Nat} (h : EqI w a c l) {m : Nat} (hm : m ≤ l) : EqI w a c m := fun i hi => h i (by exact (LI3 (.im (.lt V0 V1) (.im (.le V1 V2) (.lt V0 V2)))) hi hm)
theorem EqI.at {a c l a' c' m : Nat} (h : EqI w a c l) (k : Nat) (ha : a' = a + k) (hc : c' = c + k) (hk : k + m ≤ l) : EqI w a' c' m := by
  subst ha hc; exact h.part hk
theorem pal_iff {a b : Nat} : PalI w a b ↔ RevI w a a (b - a) := by
  constructor
  · intro h i hi
    rw [h (a + i) (by exact (LI2 (.le V0 (.a V0 V1)))) (by exact (LI3 (.im (.lt V0 (.s V1 V2)) (.lt (.a V2 V0) V1))) hi)]; congr 1; exact (LI3 (.im (.lt V0 (.s V1 V2)) (.eq (.s (.s (.a V2 V1) O1) (.a V2 V0)) (.a V2 (.s (.s (.s V1 V2) O1) V0))))) hi
  · intro h i h1 h2
    have := h (i - a) (by exact (LI3 (.im (.lt V0 V1) (.im (.le V2 V0) (.lt (.s V0 V2) (.s V1 V2))))) h2 h1)
    rw [show a + (i - a) = i by exact (LI2 (.im (.le V0 V1) (.eq (.a V0 (.s V1 V0)) V1))) h1] at this
    rw [this]; congr 1; exact (LI3 (.im (.lt V0 V1) (.im (.le V2 V0) (.eq (.a V2 (.s (.s (.s V1 V2) O1) (.s V0 V2))) (.s (.s (.a V2 V1) O1) V0))))) h2 h1
theorem PalI.rev {a l : Nat} (h : PalI w a (a + l)) : RevI w a a l := by
  have := pal_iff.mp h
  rwa [show a + l - a = l by exact (LI2 (.eq (.s (.a V0 V1) V0) V1))] at this
theorem RevI.pal {a l : Nat} (h : RevI w a a l) : PalI w a (a + l) := by
  refine pal_iff.mpr ?_
  rwa [show a + l - a = l by exact (LI2 (.eq (.s (.a V0 V1) V0) V1))]
theorem RevI.symm {a c l : Nat} (h : RevI w a c l) : RevI w c a l := fun i hi => by
  rw [h (l - 1 - i) (by exact (LI2 (.im (.lt V0 V1) (.lt (.s (.s V1 O1) V0) V1))) hi)]; congr 1; exact (LI3 (.im (.lt V0 V1) (.eq (.a V2 V0) (.a V2 (.s (.s V1 O1) (.s (.s V1 O1) V0)))))) hi
theorem RevI.rev {a c e l : Nat} (h : RevI w a c l) (k : RevI w c e l) : EqI w a e l := fun i hi => by
  rw [h i hi, k (l - 1 - i) (by exact (LI2 (.im (.lt V0 V1) (.lt (.s (.s V1 O1) V0) V1))) hi)]; congr 1; exact (LI3 (.im (.lt V0 V1) (.eq (.a V2 (.s (.s V1 O1) (.s (.s V1 O1) V0))) (.a V2 V0)))) hi
theorem RevI.eq {a c e l : Nat} (h : RevI w a c l) (k : EqI w c e l) : RevI w a e l := fun i hi => by
  rw [h i hi, k (l - 1 - i) (by exact (LI2 (.im (.lt V0 V1) (.lt (.s (.s V1 O1) V0) V1))) hi)]
theorem EqI.rev {a c e l : Nat} (h : EqI w a c l) (k : RevI w c e l) : RevI w a e l := fun i hi => by rw [h i hi, k i hi]
theorem RevI.part {a c l k m : Nat} (h : RevI w a c l) (hk : k + m ≤ l) : RevI w (a + k) (c + (l - k - m)) m := fun i hi => by
  rw [Nat.add_assoc, h (k + i) (by exact (LI4 (.im (.le (.a V0 V1) V2) (.im (.lt V3 V1) (.lt (.a V0 V3) V2)))) hk hi), Nat.add_assoc]; congr 2; exact (LI4 (.im (.le (.a V0 V1) V2) (.im (.lt V3 V1) (.eq (.s (.s V2 O1) (.a V0 V3)) (.a (.s (.s V2 V0) V1) (.s (.s V1 O1) V3)))))) hk hi
theorem RevI.at {a c l a' c' m : Nat} (h : RevI w a c l) (k : Nat) (ha : a' = a + k) (hk : k + m ≤ l) (hc : c' = c + (l - k - m)) : RevI w a' c' m := by
  subst ha hc; exact h.part hk
theorem EqI.pal {a c l : Nat} (h : EqI w a c l) (p : PalI w a (a + l)) : PalI w c (c + l) := ((h.symm.rev p.rev).eq h).pal
theorem PalI.of {a b : Nat} (l : Nat) (e : b = a + l) (h : PalI w a b) : PalI w a (a + l) := e ▸ h
noncomputable def CR (w : Nat → Nat) (n : Nat) : Prop := ∀ a c l, 0 < l → a < c → c + l ≤ n → PalI w a (a + l) → EqI w a c l → (∀ e, a < e → e < c → ¬EqI w a e l) → PalI w a (c + l)
structure Lps (w : Nat → Nat) (a j q : Nat) : Prop where
  pos : 0 < q
  le : a + q ≤ j
  pal : PalI w (j - q) j
  long : ∀ k, k ≤ j - a → PalI w (j - k) j → k ≤ q
structure Lpp (w : Nat → Nat) (a j q : Nat) : Prop where
  pos : 0 < q
  le : a + q ≤ j
  pal : PalI w a (a + q)
  long : ∀ k, k ≤ j - a → PalI w a (a + k) → k ≤ q
noncomputable def Rich (w : Nat → Nat) (n : Nat) : Prop := ∀ j q, j ≤ n → Lps w 0 j q → ∀ e, e + q < j → ¬EqI w e (j - q) q
theorem pal_one (a : Nat) : PalI w a (a + 1) := fun i h1 h2 => by congr 1; exact (LI2 (.im (.lt V0 (.a V1 O1)) (.im (.le V1 V0) (.eq V0 (.s (.s (.a V1 (.a V1 O1)) O1) V0))))) h2 h1
theorem pal_zero (a : Nat) : PalI w a a := fun i h1 h2 => by exact (LI4 (.im (.lt V0 V1) (.im (.le V1 V0) (.eq V2 V3)))) h2 h1
theorem last_of (P : Nat → Prop) : ∀ b, (∃ e, e < b ∧ P e) → ∃ e, e < b ∧ P e ∧ ∀ k, e < k → k < b → ¬P k := fun b => by
  induction b with
  | zero => exact fun h => h.elim fun e h => absurd h.1 (Nat.not_lt_zero _)
  | succ b ih =>
    rintro ⟨e, h, p⟩
    by_cases pb : P b
    · exact ⟨b, by exact (LI1 (.lt V0 (.a V0 O1))), pb, fun k h1 h2 => by exact ((LI2 (.im (.lt V0 (.a V1 O1)) (.im (.lt V1 V0) .ff))) h2 h1).elim⟩
    · have hne : e ≠ b := fun q => pb (q ▸ p)
      obtain ⟨e', h', p', m'⟩ := ih ⟨e, by exact (LI2 (.im (.lt V0 (.a V1 O1)) (.im (.im (.eq V0 V1) .ff) (.lt V0 V1)))) h hne, p⟩
      refine ⟨e', by exact (LI2 (.im (.lt V0 V1) (.lt V0 (.a V1 O1)))) h', p', fun k h1 h2 => ?_⟩
      by_cases hk : k = b
      · exact hk ▸ pb
      · exact m' k h1 (by exact (LI2 (.im (.lt V0 (.a V1 O1)) (.im (.im (.eq V0 V1) .ff) (.lt V0 V1)))) h2 hk)
theorem first_of (P : Nat → Prop) (a b : Nat) (h : ∃ e, a < e ∧ e ≤ b ∧ P e) : ∃ e, A4 (a < e) (e ≤ b) (P e) (∀ k, a < k → k < e → ¬P k) := by
  obtain ⟨e, h1, h2, p⟩ := h
  obtain ⟨k, hk, pk, mk⟩ := last_of (fun k => P (b - k)) (b - a) ⟨b - e, by exact (LI3 (.im (.lt V0 V1) (.im (.le V1 V2) (.lt (.s V2 V1) (.s V2 V0))))) h1 h2, by rwa [show b - (b - e) = e by exact (LI2 (.im (.le V0 V1) (.eq (.s V1 (.s V1 V0)) V0))) h2]⟩
  exact ⟨b - k, by exact (LI3 (.im (.lt V0 (.s V1 V2)) (.lt V2 (.s V1 V0)))) hk, by exact (LI2 (.le (.s V0 V1) V0)), pk, fun i h1 h2 q => mk (b - i) (by exact (LI3 (.im (.lt V0 (.s V1 V2)) (.lt V2 (.s V1 V0)))) h2) (by exact (LI4 (.im (.lt V0 (.s V1 V2)) (.im (.lt V2 V3) (.lt (.s V1 V3) (.s V1 V2))))) hk h1) (by rwa [show b - (b - i) = i by exact (LI3 (.im (.lt V0 (.s V1 V2)) (.eq (.s V1 (.s V1 V0)) V0))) h2])⟩
theorem lps_ex (w : Nat → Nat) {a j : Nat} (h : a < j) : ∃ q, Lps w a j q := by
  obtain ⟨k, hk, pk, mk⟩ := last_of (fun k => PalI w (j - k) j) (j - a + 1) ⟨1, by exact (LI2 (.im (.lt V0 V1) (.lt O1 (.a (.s V1 V0) O1)))) h, by
    have := pal_one (w := w) (j - 1)
    rwa [show j - 1 + 1 = j by exact (LI2 (.im (.lt V0 V1) (.eq (.a (.s V1 O1) O1) V1))) h] at this⟩
  refine ⟨k, ?_, by exact (LI3 (.im (.lt V0 (.a (.s V1 V2) O1)) (.im (.lt V2 V1) (.le (.a V2 V0) V1)))) hk h, pk, fun i h1 h2 => ?_⟩
  · rcases Nat.eq_zero_or_pos k with e | e
    · refine absurd ?_ (mk 1 (by exact (LI1 (.im (.eq V0 O0) (.lt V0 O1))) e) (by exact (LI2 (.im (.lt V0 V1) (.lt O1 (.a (.s V1 V0) O1)))) h))
      have := pal_one (w := w) (j - 1)
      rwa [show j - 1 + 1 = j by exact (LI2 (.im (.lt V0 V1) (.eq (.a (.s V1 O1) O1) V1))) h] at this
    · exact e
  · rcases Nat.lt_or_ge k i with h3 | h3
    · exact absurd h2 (mk i h3 (by exact (LI3 (.im (.le V0 (.s V1 V2)) (.lt V0 (.a (.s V1 V2) O1)))) h1))
    · exact h3
theorem rich_of_cr {n : Nat} (h : CR w n) : Rich w n := by
  intro j q hj L e he hE
  obtain ⟨e', h1, h2, h3⟩ := last_of (fun e => EqI w e (j - q) q) (j - q) ⟨e, by exact (LI3 (.im (.lt (.a V0 V1) V2) (.lt V0 (.s V2 V1)))) he, hE⟩
  have hle := L.le
  have hp : PalI w e' (e' + q) := h2.symm.pal (by have := L.pal; rwa [show j = j - q + q by exact (LI2 (.im (.le (.a O0 V0) V1) (.eq V1 (.a (.s V1 V0) V0)))) hle, show j - q + q - q = j - q by exact (LI2 (.eq (.s (.a (.s V0 V1) V1) V1) (.s V0 V1)))] at this)
  have := h e' (j - q) q L.pos (by assumption) (by exact (LI3 (.im (.le (.a O0 V0) V1) (.im (.le V1 V2) (.le (.a (.s V1 V0) V0) V2)))) hle hj) hp h2 fun k k1 k2 kE => h3 k k1 (by assumption) (kE.symm.trans h2)
  rw [show j - q + q = j by exact (LI2 (.im (.le (.a O0 V0) V1) (.eq (.a (.s V1 V0) V0) V1))) hle] at this
  have := L.long (j - e') (by exact (LI2 (.le (.s V0 V1) (.s V0 O0)))) (by rwa [show j - (j - e') = e' by exact (LI3 (.im (.lt V0 (.s V1 V2)) (.eq (.s V1 (.s V1 V0)) V0))) h1])
  exact (LI3 (.im (.le (.s V0 V1) V2) (.im (.lt V1 (.s V0 V2)) .ff))) this h1
theorem cr_of_rich {n : Nat} (h : Rich w n) : CR w n := by
  suffices H : ∀ N a c l, c + l ≤ N → 0 < l → a < c → c + l ≤ n → PalI w a (a + l) → EqI w a c l → (∀ e, a < e → e < c → ¬EqI w a e l) → PalI w a (c + l) from
    fun a c l => H (c + l) a c l (Nat.le_refl _)
  intro N
  induction N with
  | zero => intro a c l h1 h2; exact ((LI2 (.im (.le (.a V0 V1) O0) (.im (.lt O0 V1) .ff))) h1 h2).elim
  | succ N ih =>
    intro a c l hN h0 hac hn hp hE hno
    obtain ⟨q, L⟩ := lps_ex w (a := 0) (j := c + l) (by exact (LI3 (.im (.lt V0 V1) (.lt O0 (.a V1 V2)))) hac)
    have hle := L.le
    have hql : l ≤ q := L.long l (by exact (LI2 (.le V0 (.s (.a V1 V0) O0)))) (by rw [show c + l - l = c by exact (LI2 (.eq (.s (.a V0 V1) V1) V0))]; exact hE.pal hp)
    have hq := PalI.of q (by exact (LI3 (.im (.le (.a O0 V0) (.a V1 V2)) (.eq (.a V1 V2) (.a (.s (.a V1 V2) V0) V0)))) hle) L.pal
    rcases Nat.lt_trichotomy q (c + l - a) with hlt | heq | hgt
    · exfalso
      by_cases e : q = l
      · subst e
        exact h (c + q) q hn L a (by exact (LI3 (.im (.lt V0 V1) (.lt (.a V0 V2) (.a V1 V2)))) hac) (by rwa [show c + q - q = c by exact (LI2 (.eq (.s (.a V0 V1) V1) V0))])
      · -- p stands at the start of the longest end too
        have r1 : RevI w (c + l - q) c l := hq.rev.at 0 (by exact (LI3 (.eq (.s (.a V0 V1) V2) (.a (.s (.a V0 V1) V2) O0)))) (by exact (LI2 (.im (.le V0 V1) (.le (.a O0 V0) V1))) hql) (by exact (LI3 (.im (.le (.a O0 V0) (.a V1 V2)) (.im (.le V2 V0) (.eq V1 (.a (.s (.a V1 V2) V0) (.s (.s V0 O0) V2)))))) hle hql)
        have r2 : RevI w a c l := (hp.rev.eq hE)
        exact hno (c + l - q) (by exact (LI4 (.im (.lt V0 (.s (.a V1 V2) V3)) (.lt V3 (.s (.a V1 V2) V0)))) hlt) (by exact (LI3 (.im (.le (.a O0 V0) (.a V1 V2)) (.im (.le V2 V0) (.im (.im (.eq V0 V2) .ff) (.lt (.s (.a V1 V2) V0) V1))))) hle hql e) ((r2.rev r1.symm))
    · rw [show a = c + l - q by exact (LI4 (.im (.lt O0 V0) (.im (.eq V1 (.s (.a V2 V0) V3)) (.im (.le V0 V1) (.eq V3 (.s (.a V2 V0) V1)))))) h0 heq hql]; exact L.pal
    · -- the return, read from its end, stands earlier
      have hN' := ih (c + l - q) (c + l - q + (c - a)) l (by exact (LI5 (.im (.lt (.s (.a V0 V1) V2) V3) (.im (.le (.a O0 V3) (.a V0 V1)) (.im (.le (.a V0 V1) (.a V4 O1)) (.im (.lt V2 V0) (.le (.a (.a (.s (.a V0 V1) V3) (.s V0 V2)) V1) V4)))))) hgt hle hN hac) h0 (by exact (LI4 (.im (.lt V0 V1) (.lt (.s (.a V1 V2) V3) (.a (.s (.a V1 V2) V3) (.s V1 V0))))) hac) (by exact (LI5 (.im (.lt (.s (.a V0 V1) V2) V3) (.im (.le (.a V0 V1) V4) (.im (.lt V2 V0) (.le (.a (.a (.s (.a V0 V1) V3) (.s V0 V2)) V1) V4))))) hgt hn hac)
      have r0 : RevI w (c + l - q) a (c + l - a) := hq.rev.at 0 (by exact (LI3 (.eq (.s (.a V0 V1) V2) (.a (.s (.a V0 V1) V2) O0)))) (by exact (LI4 (.im (.lt (.s (.a V0 V1) V2) V3) (.le (.a O0 (.s (.a V0 V1) V2)) V3))) hgt) (by exact (LI4 (.im (.lt (.s (.a V0 V1) V2) V3) (.im (.le (.a O0 V3) (.a V0 V1)) (.im (.lt V2 V0) (.eq V2 (.a (.s (.a V0 V1) V3) (.s (.s V3 O0) (.s (.a V0 V1) V2)))))))) hgt hle hac)
      have r1 : RevI w (c + l - q) c l := r0.at 0 (by exact (LI3 (.eq (.s (.a V0 V1) V2) (.a (.s (.a V0 V1) V2) O0)))) (by exact (LI3 (.im (.lt V0 V1) (.le (.a O0 V2) (.s (.a V1 V2) V0)))) hac) (by exact (LI3 (.im (.lt V0 V1) (.eq V1 (.a V0 (.s (.s (.s (.a V1 V2) V0) O0) V2))))) hac)
      have r2 : RevI w (c + l - q + (c - a)) a l := r0.at (c - a) (by exact (LI4 (.eq (.a (.s (.a V0 V1) V2) (.s V0 V3)) (.a (.s (.a V0 V1) V2) (.s V0 V3))))) (by exact (LI3 (.im (.lt V0 V1) (.le (.a (.s V1 V0) V2) (.s (.a V1 V2) V0)))) hac) (by exact (LI3 (.eq V0 (.a V0 (.s (.s (.s (.a V1 V2) V0) (.s V1 V0)) V2)))))
      have e1 : EqI w (c + l - q) a l := (r1.eq hE.symm).rev hp.rev
      have e2 : EqI w (c + l - q) (c + l - q + (c - a)) l := e1.trans ((r2.rev hp.rev).symm)
      have p1 := hN' (e1.symm.pal hp) e2 fun e h1 h2 he => by
        have r3 : RevI w e (a + (c - a - (e - (c + l - q)))) l := r0.at (e - (c + l - q)) (by exact (LI4 (.im (.lt (.s (.a V0 V1) V2) V3) (.eq V3 (.a (.s (.a V0 V1) V2) (.s V3 (.s (.a V0 V1) V2)))))) h1) (by exact (LI5 (.im (.lt V0 (.a (.s (.a V1 V2) V3) (.s V1 V4))) (.im (.lt V4 V1) (.le (.a (.s V0 (.s (.a V1 V2) V3)) V2) (.s (.a V1 V2) V4))))) h2 hac) (by exact (LI5 (.eq (.a V0 (.s (.s V1 V0) (.s V2 (.s (.a V1 V3) V4)))) (.a V0 (.s (.s (.s (.a V1 V3) V0) (.s V2 (.s (.a V1 V3) V4))) V3)))))
        refine hno (a + (c - a - (e - (c + l - q)))) (by exact (LI5 (.im (.lt V0 (.a (.s (.a V1 V2) V3) (.s V1 V4))) (.im (.lt V4 V1) (.lt V4 (.a V4 (.s (.s V1 V4) (.s V0 (.s (.a V1 V2) V3)))))))) h2 hac) (by exact (LI5 (.im (.lt (.s (.a V0 V1) V2) V3) (.im (.lt V4 V0) (.lt (.a V4 (.s (.s V0 V4) (.s V3 (.s (.a V0 V1) V2)))) V0)))) h1 hac) ?_
        exact ((hp.rev.eq e1.symm).eq he).rev r3
      have p2 : PalI w (c + l - q) (c + l - q + (c + l - a)) := by
        have := p1; rwa [show c + l - q + (c - a) + l = c + l - q + (c + l - a) by exact (LI4 (.im (.lt V0 V1) (.eq (.a (.a (.s (.a V1 V2) V3) (.s V1 V0)) V2) (.a (.s (.a V1 V2) V3) (.s (.a V1 V2) V0))))) hac] at this
      have r5 : EqI w (c + l - q) a (c + l - a) := p2.rev.rev r0
      have := r5.pal p2
      rwa [show a + (c + l - a) = c + l by exact (LI3 (.im (.lt V0 V1) (.eq (.a V0 (.s (.a V1 V2) V0)) (.a V1 V2)))) hac] at this
end
end Mine
end
section
namespace Mine
section
variable {w : Nat → Nat}
theorem lpp_once {n a b p : Nat} (h : CR w n) (hb : b ≤ n) (L : Lpp w a b p) : ∀ e, a < e → e + p ≤ b → ¬EqI w a e p := by
  intro e he hep hE
  obtain ⟨e', h1, h2, h3, h4⟩ := first_of (fun e => EqI w a e p) a e ⟨e, he, Nat.le_refl _, hE⟩
  have := h a e' p L.pos h1 (by exact (LI5 (.im (.le (.a V0 V1) V2) (.im (.le V3 V0) (.im (.le V2 V4) (.le (.a V3 V1) V4))))) hep h2 hb) L.pal h3 fun k k1 k2 => h4 k k1 k2
  have := L.long (e' + p - a) (by exact (LI5 (.im (.le (.a V0 V1) V2) (.im (.le V3 V0) (.le (.s (.a V3 V1) V4) (.s V2 V4))))) hep h2) (by rwa [show a + (e' + p - a) = e' + p by exact (LI3 (.im (.lt V0 V1) (.eq (.a V0 (.s (.a V1 V2) V0)) (.a V1 V2)))) h1])
  exact (LI3 (.im (.le (.s (.a V0 V1) V2) V1) (.im (.lt V2 V0) .ff))) this h1
theorem lps_once {n a b q : Nat} (h : CR w n) (hb : b ≤ n) (L : Lps w a b q) : ∀ e, a ≤ e → e + q < b → ¬EqI w e (b - q) q := by
  intro e he heq hE
  have hle := L.le
  obtain ⟨e', h1, ⟨h2, h3⟩, h4⟩ := last_of (fun e => a ≤ e ∧ EqI w e (b - q) q) (b - q) ⟨e, by exact (LI3 (.im (.lt (.a V0 V1) V2) (.lt V0 (.s V2 V1)))) heq, he, hE⟩
  have hp : PalI w e' (e' + q) := h3.symm.pal (PalI.of q (by exact (LI3 (.im (.lt V0 (.s V1 V2)) (.eq V1 (.a (.s V1 V2) V2)))) h1) L.pal)
  have := h e' (b - q) q L.pos h1 (by exact (LI4 (.im (.lt V0 (.s V1 V2)) (.im (.le V1 V3) (.le (.a (.s V1 V2) V2) V3)))) h1 hb) hp h3 fun k k1 k2 kE => h4 k k1 k2 ⟨by exact (LI3 (.im (.lt V0 V1) (.im (.le V2 V0) (.le V2 V1)))) k1 h2, kE.symm.trans h3⟩
  rw [show b - q + q = b by exact (LI3 (.im (.lt V0 (.s V1 V2)) (.eq (.a (.s V1 V2) V2) V1))) h1] at this
  have := L.long (b - e') (by exact (LI3 (.im (.le V0 V1) (.le (.s V2 V1) (.s V2 V0)))) h2) (by rwa [show b - (b - e') = e' by exact (LI3 (.im (.lt V0 (.s V1 V2)) (.eq (.s V1 (.s V1 V0)) V0))) h1])
  exact (LI3 (.im (.le (.s V0 V1) V2) (.im (.lt V1 (.s V0 V2)) .ff))) this h1
theorem RevI.lps {a s l q b : Nat} (hb : b = a + l) (h : RevI w a s l) (L : Lps w a b q) : Lpp w s (s + l) q := by
  subst hb
  have hle := L.le
  refine ⟨L.pos, by exact (LI4 (.im (.le (.a V0 V1) (.a V0 V2)) (.le (.a V3 V1) (.a V3 V2)))) hle, ?_, fun k hk hp => ?_⟩
  · have r : RevI w (a + l - q) s q := h.at (l - q) (by exact (LI3 (.im (.le (.a V0 V1) (.a V0 V2)) (.eq (.s (.a V0 V2) V1) (.a V0 (.s V2 V1))))) hle) (by exact (LI3 (.im (.le (.a V0 V1) (.a V0 V2)) (.le (.a (.s V2 V1) V1) V2))) hle) (by exact (LI3 (.eq V0 (.a V0 (.s (.s V1 (.s V1 V2)) V2)))))
    have p : RevI w (a + l - q) (a + l - q) q := (PalI.of q (by exact (LI3 (.im (.le (.a V0 V1) (.a V0 V2)) (.eq (.a V0 V2) (.a (.s (.a V0 V2) V1) V1)))) hle) L.pal).rev
    exact (p.rev r).pal (PalI.of q (by exact (LI3 (.im (.le (.a V0 V1) (.a V0 V2)) (.eq (.a V0 V2) (.a (.s (.a V0 V2) V1) V1)))) hle) L.pal)
  · have r : RevI w (a + l - k) s k := h.at (l - k) (by exact (LI4 (.im (.le V0 (.s (.a V1 V2) V1)) (.eq (.s (.a V3 V2) V0) (.a V3 (.s V2 V0))))) hk) (by exact (LI3 (.im (.le V0 (.s (.a V1 V2) V1)) (.le (.a (.s V2 V0) V0) V2))) hk) (by exact (LI3 (.eq V0 (.a V0 (.s (.s V1 (.s V1 V2)) V2)))))
    have := ((hp.rev.rev r.symm)).pal hp
    rw [show a + l - k + k = a + l by exact (LI4 (.im (.le V0 (.s (.a V1 V2) V1)) (.eq (.a (.s (.a V3 V2) V0) V0) (.a V3 V2)))) hk] at this
    exact L.long k (by exact (LI4 (.im (.le V0 (.s (.a V1 V2) V1)) (.le V0 (.s (.a V3 V2) V3)))) hk) this
theorem RevI.lpp {a s l p b : Nat} (hb : b = a + l) (h : RevI w a s l) (L : Lpp w a b p) : Lps w s (s + l) p := by
  subst hb
  have hle := L.le
  refine ⟨L.pos, by exact (LI4 (.im (.le (.a V0 V1) (.a V0 V2)) (.le (.a V3 V1) (.a V3 V2)))) hle, ?_, fun k hk hp => ?_⟩
  · have r : RevI w a (s + l - p) p := h.at 0 (by exact (LI1 (.eq V0 (.a V0 O0)))) (by exact (LI3 (.im (.le (.a V0 V1) (.a V0 V2)) (.le (.a O0 V1) V2))) hle) (by exact (LI4 (.im (.le (.a V0 V1) (.a V0 V2)) (.eq (.s (.a V3 V2) V1) (.a V3 (.s (.s V2 O0) V1))))) hle)
    have := (L.pal.rev.rev r).pal L.pal
    rwa [show s + l - p + p = s + l by exact (LI4 (.im (.le (.a V0 V1) (.a V0 V2)) (.eq (.a (.s (.a V3 V2) V1) V1) (.a V3 V2)))) hle] at this
  · have r : RevI w a (s + l - k) k := h.at 0 (by exact (LI1 (.eq V0 (.a V0 O0)))) (by exact (LI3 (.im (.le V0 (.s (.a V1 V2) V1)) (.le (.a O0 V0) V2))) hk) (by exact (LI3 (.im (.le V0 (.s (.a V1 V2) V1)) (.eq (.s (.a V1 V2) V0) (.a V1 (.s (.s V2 O0) V0))))) hk)
    have hp' : PalI w (s + l - k) (s + l - k + k) := PalI.of k (by exact (LI3 (.im (.le V0 (.s (.a V1 V2) V1)) (.eq (.a V1 V2) (.a (.s (.a V1 V2) V0) V0)))) hk) hp
    exact L.long k (by exact (LI4 (.im (.le V0 (.s (.a V1 V2) V1)) (.le V0 (.s (.a V3 V2) V3)))) hk) ((hp'.rev.rev r.symm).pal hp')
noncomputable def Alone (w : Nat → Nat) (n : Nat) : Prop := ∀ a b c d p q, b ≤ n → d ≤ n → Lpp w a b p → Lpp w c d p → EqI w a c p → Lps w a b q → Lps w c d q → EqI w (b - q) (d - q) q → b - a = d - c ∧ EqI w a c (b - a)
theorem cr_of_alone {n : Nat} (h : Alone w n) : CR w n := by
  intro a c l h0 hac hn hp hE hno
  refine Classical.byContradiction fun hnp => ?_
  have hpc : PalI w c (c + l) := hE.pal hp
  have := h a (c + l) a (a + l) l l hn (by exact (LI4 (.im (.le (.a V0 V1) V2) (.im (.lt V3 V0) (.le (.a V3 V1) V2)))) hn hac) ⟨h0, by exact (LI3 (.im (.lt V0 V1) (.le (.a V0 V2) (.a V1 V2)))) hac, hp, fun k hk kp => ?_⟩ ⟨h0, by exact (LI2 (.le (.a V0 V1) (.a V0 V1))), hp, fun k hk kp => by exact (LI3 (.im (.le V0 (.s (.a V1 V2) V1)) (.le V0 V2))) hk⟩ (EqI.refl _ _) ⟨h0, by exact (LI3 (.im (.lt V0 V1) (.le (.a V0 V2) (.a V1 V2)))) hac, by rwa [show c + l - l = c by exact (LI2 (.eq (.s (.a V0 V1) V1) V0))], fun k hk kp => ?_⟩ ⟨h0, by exact (LI2 (.le (.a V0 V1) (.a V0 V1))), by rwa [show a + l - l = a by exact (LI2 (.eq (.s (.a V0 V1) V1) V0))], fun k hk kp => by exact (LI3 (.im (.le V0 (.s (.a V1 V2) V1)) (.le V0 V2))) hk⟩ (by
    rw [show c + l - l = c by exact (LI2 (.eq (.s (.a V0 V1) V1) V0)), show a + l - l = a by exact (LI2 (.eq (.s (.a V0 V1) V1) V0))]; exact hE.symm)
  · exact (LI3 (.im (.eq (.s (.a V0 V1) V2) (.s (.a V2 V1) V2)) (.im (.lt V2 V0) .ff))) this.1 hac
  · refine Nat.le_of_not_lt fun hlt => ?_
    by_cases e : k = c + l - a
    · subst e; exact hnp (by rwa [show a + (c + l - a) = c + l by exact (LI3 (.im (.lt V0 V1) (.eq (.a V0 (.s (.a V1 V2) V0)) (.a V1 V2)))) hac] at kp)
    · have r : RevI w a (a + k - l) l := kp.rev.at 0 (by exact (LI1 (.eq V0 (.a V0 O0)))) (by exact (LI2 (.im (.lt V0 V1) (.le (.a O0 V0) V1))) hlt) (by exact (LI3 (.im (.lt V0 V1) (.eq (.s (.a V2 V1) V0) (.a V2 (.s (.s V1 O0) V0))))) hlt)
      exact hno (a + k - l) (by exact (LI3 (.im (.lt V0 V1) (.lt V2 (.s (.a V2 V1) V0)))) hlt) (by exact (LI4 (.im (.lt V0 V1) (.im (.le V1 (.s (.a V2 V0) V3)) (.im (.im (.eq V1 (.s (.a V2 V0) V3)) .ff) (.lt (.s (.a V3 V1) V0) V2))))) hlt hk e) (hp.rev.rev r)
  · refine Nat.le_of_not_lt fun hlt => ?_
    by_cases e : k = c + l - a
    · subst e; exact hnp (by rwa [show c + l - (c + l - a) = a by exact (LI3 (.im (.lt V0 V1) (.eq (.s (.a V1 V2) (.s (.a V1 V2) V0)) V0))) hac] at kp)
    · have kp' : PalI w (c + l - k) (c + l - k + k) := PalI.of k (by exact (LI4 (.im (.le V0 (.s (.a V1 V2) V3)) (.eq (.a V1 V2) (.a (.s (.a V1 V2) V0) V0)))) hk) kp
      have r : RevI w (c + l - k) c l := kp'.rev.at 0 (by exact (LI3 (.eq (.s (.a V0 V1) V2) (.a (.s (.a V0 V1) V2) O0)))) (by exact (LI2 (.im (.lt V0 V1) (.le (.a O0 V0) V1))) hlt) (by exact (LI4 (.im (.lt V0 V1) (.im (.le V1 (.s (.a V2 V0) V3)) (.eq V2 (.a (.s (.a V2 V0) V1) (.s (.s V1 O0) V0)))))) hlt hk)
      exact hno (c + l - k) (by exact (LI4 (.im (.le V0 (.s (.a V1 V2) V3)) (.im (.im (.eq V0 (.s (.a V1 V2) V3)) .ff) (.lt V3 (.s (.a V1 V2) V0))))) hk e) (by exact (LI4 (.im (.lt V0 V1) (.im (.lt V2 V3) (.lt (.s (.a V3 V0) V1) V3)))) hlt hac) (((hp.rev.eq hE)).rev r.symm)
theorem alone_of_cr {n : Nat} (h : CR w n) : Alone w n := by
  suffices H : ∀ N a b c d p q, a ≤ c → d ≤ a + N → b ≤ a + N → b ≤ n → d ≤ n → Lpp w a b p → Lpp w c d p → EqI w a c p → Lps w a b q → Lps w c d q → EqI w (b - q) (d - q) q → b - a = d - c ∧ EqI w a c (b - a) by
    intro a b c d p q hb hd L1 L2 hE M1 M2 hF
    rcases Nat.le_total a c with hac | hac
    · exact H (b + d) a b c d p q hac (by exact (LI3 (.le V0 (.a V1 (.a V2 V0))))) (by exact (LI3 (.le V0 (.a V1 (.a V0 V2))))) hb hd L1 L2 hE M1 M2 hF
    · obtain ⟨e1, e2⟩ := H (b + d) c d a b p q hac (by exact (LI3 (.le V0 (.a V1 (.a V0 V2))))) (by exact (LI3 (.le V0 (.a V1 (.a V2 V0))))) hd hb L2 L1 hE.symm M2 M1 hF.symm
      exact ⟨e1.symm, e1 ▸ e2.symm⟩
  intro N
  induction N with
  | zero => intro a b c d p q h1 h2 h3 h4 h5 L1 L2 hE M1; have := L1.le; have := L1.pos; exact ((LI3 (.im (.le (.a V0 V1) V2) (.im (.lt O0 V1) (.im (.le V2 (.a V0 O0)) .ff)))) (by assumption) this h3).elim
  | succ N ih =>
    intro a b c d p q hac hdN hbN hb hd L1 L2 hE M1 M2 hF
    have l1 := L1.le; have l2 := L2.le; have l3 := M1.le; have l4 := M2.le
    have p1 := L1.pos; have p2 := M1.pos
    rcases Nat.eq_or_lt_of_le hac with e | hac
    · subst e
      rcases Nat.lt_trichotomy b d with hlt | heq | hgt
      · exact absurd hF (lps_once h hd M2 (b - q) (by exact (LI3 (.im (.le (.a V0 V1) V2) (.le V0 (.s V2 V1)))) l3) (by exact (LI4 (.im (.le (.a V0 V1) V2) (.im (.lt V2 V3) (.lt (.a (.s V2 V1) V1) V3)))) l3 hlt))
      · subst heq; exact ⟨rfl, EqI.refl _ _⟩
      · exact absurd hF.symm (lps_once h hb M1 (d - q) (by exact (LI3 (.im (.le (.a V0 V1) V2) (.le V0 (.s V2 V1)))) l4) (by exact (LI4 (.im (.le (.a V0 V1) V2) (.im (.lt V2 V3) (.lt (.a (.s V2 V1) V1) V3)))) l4 hgt))
    rcases Nat.lt_or_ge b d with hbd | hbd
    rotate_left
    · exact absurd hE (lpp_once h hb L1 c hac (by exact (LI4 (.im (.le (.a V0 V1) V2) (.im (.le V2 V3) (.le (.a V0 V1) V3)))) l2 hbd))
    by_cases hu : b - q = a
    · -- u reads the same from both ends
      have pu : PalI w a b := by have := M1.pal; rwa [hu] at this
      have e1 : b - a ≤ p := L1.long (b - a) (Nat.le_refl _) (by rwa [show a + (b - a) = b by exact (LI3 (.im (.eq (.s V0 V1) V2) (.eq (.a V2 (.s V0 V2)) V0))) hu])
      have epq : p = q := by exact (LI4 (.im (.le (.a V0 V1) V2) (.im (.le (.a V0 V3) V2) (.im (.eq (.s V2 V1) V0) (.im (.le (.s V2 V0) V3) (.eq V3 V1)))))) l3 l1 hu e1
      have e2 : EqI w c (d - q) p := by rw [hu, ← epq] at hF; rw [← epq]; exact hE.symm.trans hF
      by_cases hv : c < d - q
      · exact absurd e2 (lpp_once h hd L2 (d - q) hv (by exact (LI4 (.im (.lt V0 (.s V1 V2)) (.im (.eq V3 V2) (.le (.a (.s V1 V2) V3) V1)))) hv epq))
      · have : d - q = c := by exact (LI4 (.im (.le (.a V0 V1) V2) (.im (.eq V1 V3) (.im (.im (.lt V0 (.s V2 V3)) .ff) (.eq (.s V2 V3) V0))))) l2 epq hv
        refine ⟨by exact (LI6 (.im (.le (.a V0 V1) V2) (.im (.le (.a V3 V1) V4) (.im (.eq (.s V2 V5) V0) (.im (.le (.s V4 V3) V1) (.im (.eq V1 V5) (.eq (.s V4 V3) (.s V2 V0)))))))) l2 l1 this e1 epq, ?_⟩
        rw [show b - a = p by exact (LI3 (.im (.le (.a V0 V1) V2) (.im (.le (.s V2 V0) V1) (.eq (.s V2 V0) V1)))) l1 e1]; exact hE
    by_cases hv : c + p = d
    · have e1 : d - c ≤ q := M2.long (d - c) (Nat.le_refl _) (by rw [show d - (d - c) = c by exact (LI3 (.im (.eq (.a V0 V1) V2) (.eq (.s V2 (.s V2 V0)) V0))) hv, ← hv]; exact L2.pal)
      have epq : p = q := by exact (LI4 (.im (.eq (.a V0 V1) V2) (.im (.le (.a V0 V3) V2) (.im (.le (.s V2 V0) V3) (.eq V1 V3))))) hv l4 e1
      have e2 : EqI w a (b - q) p := by
        have : EqI w (b - q) c q := by rwa [show d - q = c by exact (LI4 (.im (.eq (.a V0 V1) V2) (.im (.eq V1 V3) (.eq (.s V2 V3) V0)))) hv epq] at hF
        rw [epq] at hE ⊢; exact hE.trans this.symm
      exact absurd e2 (lpp_once h hb L1 (b - q) (by exact (LI4 (.im (.le (.a V0 V1) V2) (.im (.eq V1 V3) (.im (.im (.eq (.s V2 V3) V0) .ff) (.lt V0 (.s V2 V3)))))) l1 epq hu) (by exact (LI4 (.im (.le (.a V0 V1) V2) (.im (.eq V1 V3) (.le (.a (.s V2 V3) V1) V2)))) l1 epq))
    obtain ⟨a', h1, h2, h3, h4⟩ := first_of (fun e => EqI w a e p) a c ⟨c, hac, Nat.le_refl _, hE⟩
    have hab : b < a' + p := Nat.lt_of_not_le fun q => lpp_once h hb L1 a' h1 q h3
    have P1 := h a a' p p1 h1 (by exact (LI5 (.im (.le (.a V0 V1) V2) (.im (.le V3 V0) (.im (.le V2 V4) (.le (.a V3 V1) V4))))) l2 h2 hd) L1.pal h3 fun k k1 k2 => h4 k k1 k2
    obtain ⟨e0, g1, ⟨g2, g3⟩, g4⟩ := last_of (fun e => b - q ≤ e ∧ EqI w e (d - q) q) (d - q) ⟨b - q, by exact (LI4 (.im (.le (.a V0 V1) V2) (.im (.lt V2 V3) (.lt (.s V2 V1) (.s V3 V1))))) l3 hbd, Nat.le_refl _, hF⟩
    have hec : e0 < c := Nat.lt_of_not_le fun q => lps_once h hd M2 e0 q (by exact (LI3 (.im (.lt V0 (.s V1 V2)) (.lt (.a V0 V2) V1))) g1) g3
    have pd : PalI w (d - q) (d - q + q) := PalI.of q (by exact (LI3 (.im (.lt V0 (.s V1 V2)) (.eq V1 (.a (.s V1 V2) V2)))) g1) M2.pal
    have P2 := h e0 (d - q) q p2 g1 (by exact (LI4 (.im (.lt V0 (.s V1 V2)) (.im (.le V1 V3) (.le (.a (.s V1 V2) V2) V3)))) g1 hd) (g3.symm.pal pd) g3 fun k k1 k2 kE => g4 k k1 k2 ⟨by exact (LI4 (.im (.le (.s V0 V1) V2) (.im (.lt V2 V3) (.le (.s V0 V1) V3)))) g2 k1, kE.symm.trans g3⟩
    have R1 : RevI w a (a' + p - (b - a)) (b - a) := (PalI.of (a' + p - a) (by exact (LI5 (.im (.le (.a V0 V1) V2) (.im (.lt V2 (.a V3 V4)) (.eq (.a V3 V4) (.a V0 (.s (.a V3 V4) V0)))))) l3 hab) P1).rev.at 0 (by exact (LI1 (.eq V0 (.a V0 O0)))) (by exact (LI4 (.im (.lt V0 (.a V1 V2)) (.le (.a O0 (.s V0 V3)) (.s (.a V1 V2) V3)))) hab) (by exact (LI4 (.im (.lt V0 (.a V1 V2)) (.im (.lt V3 V1) (.eq (.s (.a V1 V2) (.s V0 V3)) (.a V3 (.s (.s (.s (.a V1 V2) V3) O0) (.s V0 V3))))))) hab h1)
    have R2 : RevI w c e0 (d - c) := (PalI.of (d - e0) (by exact (LI3 (.im (.lt V0 (.s V1 V2)) (.eq (.a (.s V1 V2) V2) (.a V0 (.s V1 V0))))) g1) P2).rev.at (c - e0) (by exact (LI2 (.im (.lt V0 V1) (.eq V1 (.a V0 (.s V1 V0))))) hec) (by exact (LI4 (.im (.le (.a V0 V1) V2) (.im (.lt V3 V0) (.le (.a (.s V0 V3) (.s V2 V0)) (.s V2 V3))))) l4 hec) (by exact (LI3 (.eq V0 (.a V0 (.s (.s (.s V1 V0) (.s V2 V0)) (.s V1 V2))))))
    have K1 : EqI w (a' + p - (b - a)) e0 q := by
      have r1 : RevI w (b - q) (a' + p - (b - a)) q := R1.at (b - a - q) (by exact (LI3 (.im (.le (.a V0 V1) V2) (.eq (.s V2 V1) (.a V0 (.s (.s V2 V0) V1))))) l3) (by exact (LI3 (.im (.le (.a V0 V1) V2) (.le (.a (.s (.s V2 V0) V1) V1) (.s V2 V0)))) l3) (by exact (LI5 (.eq (.s (.a V0 V1) (.s V2 V3)) (.a (.s (.a V0 V1) (.s V2 V3)) (.s (.s (.s V2 V3) (.s (.s V2 V3) V4)) V4)))))
      have r2 : RevI w (d - q) e0 q := R2.at (d - c - q) (by exact (LI3 (.im (.le (.a V0 V1) V2) (.eq (.s V2 V1) (.a V0 (.s (.s V2 V0) V1))))) l4) (by exact (LI3 (.im (.le (.a V0 V1) V2) (.le (.a (.s (.s V2 V0) V1) V1) (.s V2 V0)))) l4) (by exact (LI4 (.eq V0 (.a V0 (.s (.s (.s V1 V2) (.s (.s V1 V2) V3)) V3)))))
      exact (r1.symm.eq hF).rev r2
    have K2 : EqI w (a' + p - (b - a) + (b - a) - p) (e0 + (d - c) - p) p := by
      have r1 : RevI w a (a' + p - (b - a) + (b - a) - p) p := R1.at 0 (by exact (LI1 (.eq V0 (.a V0 O0)))) (by exact (LI3 (.im (.le (.a V0 V1) V2) (.le (.a O0 V1) (.s V2 V0)))) l1) (by exact (LI4 (.im (.le (.a V0 V1) V2) (.eq (.s (.a (.s (.a V3 V1) (.s V2 V0)) (.s V2 V0)) V1) (.a (.s (.a V3 V1) (.s V2 V0)) (.s (.s (.s V2 V0) O0) V1))))) l1)
      have r2 : RevI w c (e0 + (d - c) - p) p := R2.at 0 (by exact (LI1 (.eq V0 (.a V0 O0)))) (by exact (LI3 (.im (.le (.a V0 V1) V2) (.le (.a O0 V1) (.s V2 V0)))) l2) (by exact (LI4 (.im (.le (.a V0 V1) V2) (.eq (.s (.a V3 (.s V2 V0)) V1) (.a V3 (.s (.s (.s V2 V0) O0) V1))))) l2)
      exact (r1.symm.eq hE).rev r2
    have A1 := R1.lps (by exact (LI3 (.im (.le (.a V0 V1) V2) (.eq V2 (.a V0 (.s V2 V0))))) l1) M1
    have A2 := R2.lps (by exact (LI3 (.im (.le (.a V0 V1) V2) (.eq V2 (.a V0 (.s V2 V0))))) l2) M2
    have B1 := R1.lpp (by exact (LI3 (.im (.le (.a V0 V1) V2) (.eq V2 (.a V0 (.s V2 V0))))) l1) L1
    have B2 := R2.lpp (by exact (LI3 (.im (.le (.a V0 V1) V2) (.eq V2 (.a V0 (.s V2 V0))))) l2) L2
    have fin : b - a = d - c ∧ EqI w (a' + p - (b - a)) e0 (b - a) := by
      rcases Nat.le_total (a' + p - (b - a)) e0 with o | o
      · have := ih _ _ _ _ q p o (by exact (LI8 (.im (.le (.a V0 V1) V2) (.im (.le (.a V3 V1) V4) (.im (.lt V2 (.a V5 V1)) (.im (.lt V6 V3) (.im (.le V4 (.a V0 (.a V7 O1))) (.le (.a V6 (.s V4 V3)) (.a (.s (.a V5 V1) (.s V2 V0)) V7)))))))) l1 l2 hab hec hdN) (by exact (LI6 (.im (.lt V0 V1) (.im (.le V1 (.a V2 (.a V3 O1))) (.le (.a (.s (.a V4 V5) (.s V0 V2)) (.s V0 V2)) (.a (.s (.a V4 V5) (.s V0 V2)) V3))))) hbd hdN) (by exact (LI7 (.im (.le (.a V0 V1) V2) (.im (.le V3 V4) (.im (.le V5 V0) (.im (.le V2 V4) (.le (.a (.s (.a V5 V1) (.s V3 V6)) (.s V3 V6)) V4)))))) l2 hb h2 hd) (by exact (LI5 (.im (.le (.a V0 V1) V2) (.im (.lt V3 V0) (.im (.le V2 V4) (.le (.a V3 (.s V2 V0)) V4))))) l2 hec hd) A1 A2 K1 B1 B2 K2
        rwa [show a' + p - (b - a) + (b - a) - (a' + p - (b - a)) = b - a by exact (LI4 (.eq (.s (.a (.s (.a V0 V1) (.s V2 V3)) (.s V2 V3)) (.s (.a V0 V1) (.s V2 V3))) (.s V2 V3))), show e0 + (d - c) - e0 = d - c by exact (LI3 (.eq (.s (.a V0 (.s V1 V2)) V0) (.s V1 V2)))] at this
      · have := ih _ _ _ _ q p o (by exact (LI9 (.im (.le (.a V0 V1) V2) (.im (.le (.a V3 V4) V5) (.im (.le (.s V5 V4) V6) (.im (.lt V6 (.s V2 V4)) (.im (.le V2 (.a V3 (.a V7 O1))) (.im (.le V8 V0) (.im (.im (.eq (.a V0 V1) V2) .ff) (.le (.a (.s (.a V8 V1) (.s V5 V3)) (.s V5 V3)) (.a V6 V7)))))))))) l2 l3 g2 g1 hdN h2 hv) (by exact (LI5 (.im (.lt V0 V1) (.im (.le V2 (.a V0 (.a V3 O1))) (.le (.a V4 (.s V2 V1)) (.a V4 V3))))) hac hdN) (by exact (LI5 (.im (.le (.a V0 V1) V2) (.im (.lt V3 V0) (.im (.le V2 V4) (.le (.a V3 (.s V2 V0)) V4))))) l2 hec hd) (by exact (LI7 (.im (.le (.a V0 V1) V2) (.im (.le V3 V0) (.im (.le V2 V4) (.im (.le V5 V4) (.le (.a (.s (.a V3 V1) (.s V5 V6)) (.s V5 V6)) V4)))))) l2 h2 hd hb) A2 A1 K1.symm B2 B1 K2.symm
        rw [show a' + p - (b - a) + (b - a) - (a' + p - (b - a)) = b - a by exact (LI4 (.eq (.s (.a (.s (.a V0 V1) (.s V2 V3)) (.s V2 V3)) (.s (.a V0 V1) (.s V2 V3))) (.s V2 V3))), show e0 + (d - c) - e0 = d - c by exact (LI3 (.eq (.s (.a V0 (.s V1 V2)) V0) (.s V1 V2)))] at this
        exact ⟨this.1.symm, (this.1 ▸ this.2).symm⟩
    refine ⟨fin.1, ?_⟩
    exact (R1.eq fin.2).rev ((fin.1 ▸ R2).symm)
end
end Mine
end
section
namespace Mine
noncomputable def at' (ds : List Nat) (i : Nat) : Nat := ds.getD i 0
section
variable {ds : List Nat}
theorem sub_get {a b i : Nat} (hb : b ≤ ds.length) (hi : i < b - a) : (sub ds a b)[i]? = some (at' ds (a + i)) := by
  have h : a + i < ds.length := by exact (LI4 (.im (.lt V0 (.s V1 V2)) (.im (.le V1 V3) (.lt (.a V2 V0) V3)))) hi hb
  unfold sub at'
  rw [List.getElem?_drop, List.getElem?_take_of_lt (by exact (LI3 (.im (.lt V0 (.s V1 V2)) (.lt (.a V2 V0) V1))) hi), List.getElem?_eq_getElem h, List.getD_eq_getElem?_getD, List.getElem?_eq_getElem h, Option.getD_some]
theorem sub_len' {a b : Nat} (hb : b ≤ ds.length) : (sub ds a b).length = b - a := by rw [sub_len]; exact (LI3 (.im (.le V0 V1) (.eq (.s (.mi V0 V1) V2) (.s V0 V2)))) hb
theorem sub_eq_iff {a b c d : Nat} (hb : b ≤ ds.length) (hd : d ≤ ds.length) : sub ds a b = sub ds c d ↔ b - a = d - c ∧ EqI (at' ds) a c (b - a) := by
  constructor
  · intro h
    have hl := congrArg List.length h
    rw [sub_len' hb, sub_len' hd] at hl
    refine ⟨hl, fun i hi => ?_⟩
    have : (sub ds a b)[i]? = (sub ds c d)[i]? := congrArg (fun l => l[i]?) h
    rw [sub_get hb hi, sub_get hd (by exact (LI5 (.im (.eq (.s V0 V1) (.s V2 V3)) (.im (.lt V4 (.s V0 V1)) (.lt V4 (.s V2 V3))))) hl hi)] at this
    exact Option.some.inj this
  · rintro ⟨hl, h⟩
    apply List.ext_getElem?
    intro i
    by_cases hi : i < b - a
    · rw [sub_get hb hi, sub_get hd (by exact (LI5 (.im (.eq (.s V0 V1) (.s V2 V3)) (.im (.lt V4 (.s V0 V1)) (.lt V4 (.s V2 V3))))) hl hi), h i hi]
    · rw [List.getElem?_eq_none (by rw [sub_len' hb]; exact (LI3 (.im (.im (.lt V0 (.s V1 V2)) .ff) (.le (.s V1 V2) V0))) hi), List.getElem?_eq_none (by rw [sub_len' hd]; exact (LI5 (.im (.eq (.s V0 V1) (.s V2 V3)) (.im (.im (.lt V4 (.s V0 V1)) .ff) (.le (.s V2 V3) V4)))) hl hi)]
theorem sub_pal {a b : Nat} (hb : b ≤ ds.length) (hab : a ≤ b) : sub ds a b = (sub ds a b).reverse ↔ PalI (at' ds) a b := by
  constructor
  · intro h i h1 h2
    have : (sub ds a b)[i - a]? = (sub ds a b).reverse[i - a]? := congrArg (fun l => l[i - a]?) h
    rw [List.getElem?_reverse (by rw [sub_len' hb]; exact (LI3 (.im (.lt V0 V1) (.im (.le V2 V0) (.lt (.s V0 V2) (.s V1 V2))))) h2 h1), sub_len' hb, sub_get hb (by exact (LI3 (.im (.lt V0 V1) (.im (.le V2 V0) (.lt (.s V0 V2) (.s V1 V2))))) h2 h1), sub_get hb (by exact (LI3 (.im (.lt V0 V1) (.im (.le V2 V0) (.lt (.s (.s (.s V1 V2) O1) (.s V0 V2)) (.s V1 V2))))) h2 h1)] at this
    have := Option.some.inj this
    rw [show a + (i - a) = i by exact (LI2 (.im (.le V0 V1) (.eq (.a V0 (.s V1 V0)) V1))) h1, show a + (b - a - 1 - (i - a)) = a + b - 1 - i by exact (LI3 (.im (.lt V0 V1) (.im (.le V2 V0) (.eq (.a V2 (.s (.s (.s V1 V2) O1) (.s V0 V2))) (.s (.s (.a V2 V1) O1) V0))))) h2 h1] at this
    exact this
  · intro h
    apply List.ext_getElem?
    intro i
    by_cases hi : i < b - a
    · rw [List.getElem?_reverse (by rw [sub_len' hb]; assumption), sub_len' hb, sub_get hb hi, sub_get hb (by exact (LI3 (.im (.lt V0 (.s V1 V2)) (.lt (.s (.s (.s V1 V2) O1) V0) (.s V1 V2)))) hi)]
      have := h (a + i) (by exact (LI2 (.le V0 (.a V0 V1)))) (by exact (LI3 (.im (.lt V0 (.s V1 V2)) (.lt (.a V2 V0) V1))) hi)
      rw [this]; congr 2; exact (LI3 (.im (.lt V0 (.s V1 V2)) (.eq (.s (.s (.a V2 V1) O1) (.a V2 V0)) (.a V2 (.s (.s (.s V1 V2) O1) V0))))) hi
    · rw [List.getElem?_eq_none (by rw [sub_len' hb]; exact (LI3 (.im (.im (.lt V0 (.s V1 V2)) .ff) (.le (.s V1 V2) V0))) hi), List.getElem?_eq_none (by rw [List.length_reverse, sub_len' hb]; exact (LI3 (.im (.im (.lt V0 (.s V1 V2)) .ff) (.le (.s V1 V2) V0))) hi)]
theorem lp_first {j : Nat} (hj : j ≤ ds.length) : ∀ B, B ≤ j → (lp ds j B = [] ∧ ∀ b < B, ¬PalI (at' ds) b j) ∨ ∃ b < B, PalI (at' ds) b j ∧ (∀ b' < b, ¬PalI (at' ds) b' j) ∧ lp ds j B = sub ds b j := fun B => by
  induction B with
  | zero => exact fun _ => .inl ⟨rfl, fun _ h => absurd h (Nat.not_lt_zero _)⟩
  | succ B ih =>
    intro h
    rcases ih (Nat.le_of_lt h) with ⟨e, n⟩ | ⟨b, hb, p, n, e⟩
    · by_cases q : sub ds B j = (sub ds B j).reverse
      · refine .inr ⟨B, Nat.lt_succ_self _, (sub_pal hj (Nat.le_of_lt h)).mp q, n, lp_new q e⟩
      · refine .inl ⟨by rw [lp_old fun z => q z.1]; exact e, fun b hb => ?_⟩
        by_cases hbB : b = B
        · subst hbB; exact fun z => q ((sub_pal hj (Nat.le_of_lt h)).mpr z)
        · exact n b (by exact (LI2 (.im (.lt V0 (.a V1 O1)) (.im (.im (.eq V0 V1) .ff) (.lt V0 V1)))) hb hbB)
    · refine .inr ⟨b, by exact (LI2 (.im (.lt V0 V1) (.lt V0 (.a V1 O1)))) hb, p, n, ?_⟩
      rw [lp_old fun z => ?_, e]
      have := z.2
      rw [e] at this
      have hl := congrArg List.length this
      rw [sub_len' hj] at hl
      simp at hl; exact (LI3 (.im (.le (.a V0 O1) V1) (.im (.eq (.s V1 V2) O0) (.im (.lt V2 V0) .ff)))) h hl hb
theorem lp_lps {j : Nat} (hj : j ≤ ds.length) (h0 : 0 < j) : ∃ q, Lps (at' ds) 0 j q ∧ lp ds j j = sub ds (j - q) j := by
  rcases lp_first hj j (Nat.le_refl _) with ⟨_, n⟩ | ⟨b, hb, p, n, e⟩
  · refine absurd ?_ (n (j - 1) (by exact (LI1 (.im (.lt O0 V0) (.lt (.s V0 O1) V0))) h0))
    have := pal_one (w := at' ds) (j - 1)
    rwa [show j - 1 + 1 = j by exact (LI1 (.im (.lt O0 V0) (.eq (.a (.s V0 O1) O1) V0))) h0] at this
  · refine ⟨j - b, ⟨by exact (LI2 (.im (.lt V0 V1) (.lt O0 (.s V1 V0)))) hb, by exact (LI2 (.le (.a O0 (.s V0 V1)) V0)), by rwa [show j - (j - b) = b by exact (LI2 (.im (.lt V0 V1) (.eq (.s V1 (.s V1 V0)) V0))) hb], fun k hk hp => ?_⟩, by rw [e, show j - (j - b) = b by exact (LI2 (.im (.lt V0 V1) (.eq (.s V1 (.s V1 V0)) V0))) hb]⟩
    refine Nat.le_of_not_lt fun hlt => n (j - k) (by exact (LI3 (.im (.lt (.s V0 V1) V2) (.im (.le V2 (.s V0 O0)) (.lt (.s V0 V2) V1)))) hlt hk) hp
theorem Lps.uniq {w : Nat → Nat} {a j q q' : Nat} (h : Lps w a j q) (h' : Lps w a j q') : q = q' := by
  have h1 := h.le; have h2 := h'.le
  have := h.long q' (by exact (LI3 (.im (.le (.a V0 V1) V2) (.le V1 (.s V2 V0)))) h2) h'.pal
  have := h'.long q (by exact (LI3 (.im (.le (.a V0 V1) V2) (.le V1 (.s V2 V0)))) h1) h.pal
  exact (LI2 (.im (.le V0 V1) (.im (.le V1 V0) (.eq V0 V1)))) this (by assumption)
theorem first_lps {w : Nat → Nat} {e q : Nat} (h0 : 0 < q) (hp : PalI w e (e + q)) (hf : ∀ e' < e, ¬EqI w e' e q) : Lps w 0 (e + q) q := by
  obtain ⟨q', L⟩ := lps_ex w (a := 0) (j := e + q) (by exact (LI2 (.im (.lt O0 V0) (.lt O0 (.a V1 V0)))) h0)
  have hle := L.le
  have h1 : q ≤ q' := L.long q (by exact (LI2 (.le V0 (.s (.a V1 V0) O0)))) (by rwa [show e + q - q = e by exact (LI2 (.eq (.s (.a V0 V1) V1) V0))])
  rcases Nat.eq_or_lt_of_le h1 with h2 | h2
  · rw [h2]; rw [h2] at L; exact h2 ▸ L
  · exfalso
    have hq := PalI.of q' (by exact (LI3 (.im (.le (.a O0 V0) (.a V1 V2)) (.eq (.a V1 V2) (.a (.s (.a V1 V2) V0) V0)))) hle) L.pal
    have r : RevI w (e + q - q') e q := hq.rev.at 0 (by exact (LI3 (.eq (.s (.a V0 V1) V2) (.a (.s (.a V0 V1) V2) O0)))) (by exact (LI2 (.im (.lt V0 V1) (.le (.a O0 V0) V1))) h2) (by exact (LI3 (.im (.le (.a O0 V0) (.a V1 V2)) (.im (.lt V2 V0) (.eq V1 (.a (.s (.a V1 V2) V0) (.s (.s V0 O0) V2)))))) hle h2)
    exact hf (e + q - q') (by exact (LI3 (.im (.le (.a O0 V0) (.a V1 V2)) (.im (.lt V2 V0) (.lt (.s (.a V1 V2) V0) V1)))) hle h2) (r.rev hp.rev)
theorem least_of (P : Nat → Prop) : ∀ e, P e → ∃ e', e' ≤ e ∧ P e' ∧ ∀ k < e', ¬P k := fun e => by
  cases e with
  | zero => exact fun h => ⟨0, Nat.le_refl _, h, fun _ q => absurd q (Nat.not_lt_zero _)⟩
  | succ e =>
    intro h
    by_cases q : ∃ k, k < e + 1 ∧ P k
    · obtain ⟨k, hk, pk, mk⟩ := last_of P (e + 1) q
      obtain ⟨k', h1, h2, h3⟩ := last_of (fun i => P (e - i)) (e + 1) ⟨e - k, by exact (LI2 (.lt (.s V0 V1) (.a V0 O1))), by rwa [show e - (e - k) = k by exact (LI2 (.im (.lt V0 (.a V1 O1)) (.eq (.s V1 (.s V1 V0)) V0))) hk]⟩
      exact ⟨e - k', by exact (LI2 (.le (.s V0 V1) (.a V0 O1))), h2, fun i hi z => h3 (e - i) (by exact (LI3 (.im (.lt V0 (.s V1 V2)) (.lt V2 (.s V1 V0)))) hi) (by exact (LI2 (.lt (.s V0 V1) (.a V0 O1)))) (by rwa [show e - (e - i) = i by exact (LI3 (.im (.lt V0 (.s V1 V2)) (.eq (.s V1 (.s V1 V0)) V0))) hi])⟩
    · exact ⟨e + 1, Nat.le_refl _, h, fun k hk z => q ⟨k, hk, z⟩⟩
noncomputable def IsPal (ds p : List Nat) : Prop := E2 fun a b => A4 (a < b) (b ≤ ds.length) (PalI (at' ds) a b) (p = sub ds a b)
theorem pal_stop {p : List Nat} (h : IsPal ds p) : ∃ j, 0 < j ∧ j ≤ ds.length ∧ p = lp ds j j := by
  obtain ⟨a, b, hab, hb, hp, rfl⟩ := h
  obtain ⟨e, he, hE, hm⟩ := least_of (fun e => EqI (at' ds) e a (b - a)) a (EqI.refl _ _)
  have hpe : PalI (at' ds) e (e + (b - a)) := hE.symm.pal (by rwa [show a + (b - a) = b by exact (LI2 (.im (.lt V0 V1) (.eq (.a V0 (.s V1 V0)) V1))) hab])
  have L := first_lps (by exact (LI2 (.im (.lt V0 V1) (.lt O0 (.s V1 V0)))) hab) hpe (fun e' h' z => hm e' h' (z.trans hE))
  obtain ⟨q, L2, e2⟩ := lp_lps (ds := ds) (j := e + (b - a)) (by exact (LI4 (.im (.lt V0 V1) (.im (.le V2 V0) (.im (.le V1 V3) (.le (.a V2 (.s V1 V0)) V3))))) hab he hb) (by exact (LI3 (.im (.lt V0 V1) (.lt O0 (.a V2 (.s V1 V0))))) hab)
  refine ⟨e + (b - a), by exact (LI3 (.im (.lt V0 V1) (.lt O0 (.a V2 (.s V1 V0))))) hab, by exact (LI4 (.im (.lt V0 V1) (.im (.le V2 V0) (.im (.le V1 V3) (.le (.a V2 (.s V1 V0)) V3))))) hab he hb, ?_⟩
  rw [e2, ← L.uniq L2, show e + (b - a) - (b - a) = e by exact (LI3 (.eq (.s (.a V0 (.s V1 V2)) (.s V1 V2)) V0))]
  exact (sub_eq_iff hb (by exact (LI4 (.im (.lt V0 V1) (.im (.le V2 V0) (.im (.le V1 V3) (.le (.a V2 (.s V1 V0)) V3))))) hab he hb)).mpr ⟨by exact (LI3 (.eq (.s V0 V1) (.s (.a V2 (.s V0 V1)) V2))), hE.symm⟩
theorem stop_pal {j : Nat} (h0 : 0 < j) (hj : j ≤ ds.length) : IsPal ds (lp ds j j) := by
  obtain ⟨q, L, e⟩ := lp_lps hj h0
  have := L.pos; have := L.le
  exact ⟨j - q, j, by exact (LI2 (.im (.le (.a O0 V0) V1) (.im (.lt O0 V0) (.lt (.s V1 V0) V1)))) this (by assumption), hj, L.pal, e⟩
theorem rich_iff : Rich (at' ds) ds.length ↔ ∀ i j, 0 < i → i < j → j ≤ ds.length → lp ds i i ≠ lp ds j j := by
  constructor
  · intro h i j hi hij hj e
    obtain ⟨q, L, e1⟩ := lp_lps hj (by exact (LI2 (.im (.lt V0 V1) (.lt O0 V1))) hij)
    obtain ⟨q', L', e2⟩ := lp_lps (ds := ds) (j := i) (by exact (LI3 (.im (.lt V0 V1) (.im (.le V1 V2) (.le V0 V2)))) hij hj) hi
    have := L.le; have := L'.le
    rw [e1, e2] at e
    obtain ⟨h1, h2⟩ := (sub_eq_iff (by exact (LI3 (.im (.lt V0 V1) (.im (.le V1 V2) (.le V0 V2)))) hij hj) hj).mp e
    have hq : q' = q := by exact (LI4 (.im (.le (.a O0 V0) V1) (.im (.le (.a O0 V2) V3) (.im (.eq (.s V1 (.s V1 V0)) (.s V3 (.s V3 V2))) (.eq V0 V2))))) this (by assumption) h1
    subst hq
    exact h j q' hj L (i - q') (by exact (LI3 (.im (.le (.a O0 V0) V1) (.im (.lt V1 V2) (.lt (.a (.s V1 V0) V0) V2)))) (by assumption) hij) (by rwa [show i - (i - q') = q' by exact (LI3 (.im (.le (.a O0 V0) V1) (.im (.eq (.s V2 (.s V2 V0)) (.s V1 (.s V1 V0))) (.eq (.s V2 (.s V2 V0)) V0)))) this h1] at h2)
  · intro h j q hj L e he hE
    have h1 := L.le; have h2 := L.pos
    obtain ⟨e', he', hE', hm⟩ := least_of (fun e => EqI (at' ds) e (j - q) q) e hE
    have hpe : PalI (at' ds) e' (e' + q) := hE'.symm.pal (PalI.of q (by exact (LI2 (.im (.le (.a O0 V0) V1) (.eq V1 (.a (.s V1 V0) V0)))) h1) L.pal)
    have L' := first_lps h2 hpe (fun k hk z => hm k hk (z.trans hE'))
    obtain ⟨q1, L1, e1⟩ := lp_lps hj (by exact (LI2 (.im (.le (.a O0 V0) V1) (.im (.lt O0 V0) (.lt O0 V1)))) h1 h2)
    obtain ⟨q2, L2, e2⟩ := lp_lps (ds := ds) (j := e' + q) (by exact (LI5 (.im (.lt (.a V0 V1) V2) (.im (.le V3 V0) (.im (.le V2 V4) (.le (.a V3 V1) V4))))) he he' hj) (by exact (LI2 (.im (.lt O0 V0) (.lt O0 (.a V1 V0)))) h2)
    have hq1 := L.uniq L1
    have hq2 := L'.uniq L2
    refine h (e' + q) j (by exact (LI2 (.im (.lt O0 V0) (.lt O0 (.a V1 V0)))) h2) (by exact (LI4 (.im (.lt (.a V0 V1) V2) (.im (.le V3 V0) (.lt (.a V3 V1) V2)))) he he') hj ?_
    rw [e1, e2, ← hq1, ← hq2]
    exact (sub_eq_iff (by exact (LI5 (.im (.lt (.a V0 V1) V2) (.im (.le V2 V3) (.im (.le V4 V0) (.le (.a V4 V1) V3))))) he hj he') hj).mpr ⟨by exact (LI3 (.im (.le (.a O0 V0) V1) (.eq (.s (.a V2 V0) (.s (.a V2 V0) V0)) (.s V1 (.s V1 V0))))) h1, by rw [show e' + q - q = e' by exact (LI2 (.eq (.s (.a V0 V1) V1) V0)), show e' + q - e' = q by exact (LI2 (.eq (.s (.a V0 V1) V0) V1))]; exact hE'⟩
end
end Mine
end
section
namespace Mine
theorem bis_border (p : Nat → Bool) (n : Nat) (mono : ∀ i j, i ≤ j → j < n → p j = true → p i = true) : ∀ f lo hi, lo ≤ hi → hi ≤ n → hi - lo ≤ f → (∀ i < lo, p i = true) → (∀ i, hi ≤ i → i < n → p i = false) →
    bis p f lo hi ≤ n ∧ (∀ i < bis p f lo hi, p i = true) ∧ ∀ i, bis p f lo hi ≤ i → i < n → p i = false := fun f => by
  induction f with
  | zero =>
    intro lo hi h1 h2 h3 h4 h5
    exact ⟨by exact (LI3 (.im (.le V0 V1) (.im (.le V2 V0) (.le V2 V1)))) h2 h1, h4, fun i a b => h5 i (by exact (LI3 (.im (.le (.s V0 V1) O0) (.im (.le V1 V2) (.le V0 V2)))) h3 a) b⟩
  | succ f ih =>
    intro lo hi h1 h2 h3 h4 h5
    by_cases q : lo < hi
    · rw [bis_in q]
      cases hp : p ((lo + hi) / 2) with
      | true =>
        rw [if_pos rfl]
        exact ih _ _ (by exact (LI3 (.im (.dv (.a V0 V1) 2 2) (.im (.lt V0 V1) (.le (.a V2 O1) V1)))) rfl q) h2 (by exact (LI4 (.im (.dv (.a V1 V0) 2 3) (.im (.le (.s V0 V1) (.a V2 O1)) (.le (.s V0 (.a V3 O1)) V2)))) rfl h3) (fun i hi' => mono i ((lo + hi) / 2) (by exact (LI4 (.im (.dv (.a V1 V2) 2 3) (.im (.lt V0 (.a V3 O1)) (.le V0 V3)))) rfl hi') (by exact (LI4 (.im (.dv (.a V0 V1) 2 3) (.im (.lt V0 V1) (.im (.le V1 V2) (.lt V3 V2))))) rfl q h2) hp) h5
      | false =>
        rw [if_neg (by decide)]
        refine ih _ _ (by exact (LI3 (.im (.dv (.a V0 V1) 2 2) (.im (.lt V0 V1) (.le V0 V2)))) rfl q) (by exact (LI4 (.im (.dv (.a V0 V1) 2 3) (.im (.lt V0 V1) (.im (.le V1 V2) (.le V3 V2))))) rfl q h2) (by exact (LI4 (.im (.dv (.a V1 V0) 2 3) (.im (.le (.s V0 V1) (.a V2 O1)) (.le (.s V3 V1) V2)))) rfl h3) h4 (fun i a b => ?_)
        cases hq : p i with
        | false => rfl
        | true => rw [mono _ i a b hq] at hp; cases hp
    · rw [bis_out q]
      exact ⟨by exact (LI3 (.im (.le V0 V1) (.im (.le V2 V0) (.le V2 V1)))) h2 h1, h4, fun i a b => h5 i (by exact (LI3 (.im (.le V0 V1) (.im (.im (.lt V0 V2) .ff) (.le V2 V1)))) a q) b⟩
noncomputable def SSort (r : List Nat) : Prop := r.Pairwise (· < ·)
theorem ss_get {r : List Nat} (h : r.Pairwise (· ≤ ·)) {i j : Nat} (hij : i ≤ j) (hj : j < r.length) : r.getD i 0 ≤ r.getD j 0 := by
  rcases Nat.eq_or_lt_of_le hij with e | e
  · rw [e]; exact Nat.le_refl _
  · rw [List.getD_eq_getElem?_getD, List.getD_eq_getElem?_getD, List.getElem?_eq_getElem (by exact (LI3 (.im (.lt V0 V1) (.im (.lt V1 V2) (.lt V0 V2)))) e hj), List.getElem?_eq_getElem hj]
    exact List.pairwise_iff_getElem.mp h i j (by exact (LI3 (.im (.lt V0 V1) (.im (.lt V1 V2) (.lt V0 V2)))) e hj) hj e
theorem bl_border {r : List Nat} (h : r.Pairwise (· ≤ ·)) (n : Nat) : bl r n ≤ r.length ∧ (∀ i < bl r n, r.getD i 0 < n) ∧ ∀ i, bl r n ≤ i → i < r.length → n ≤ r.getD i 0 := by
  obtain ⟨a, b, c⟩ := bis_border (fun i => decide (r.getD i 0 < n)) r.length (fun i j h1 h2 h3 => decide_eq_true (Nat.lt_of_le_of_lt (ss_get h h1 h2) (of_decide_eq_true h3))) r.length 0 r.length (Nat.zero_le _) (Nat.le_refl _) (by exact (LI1 (.le (.s V0 O0) V0))) (fun i q => absurd q (Nat.not_lt_zero _)) (fun i a b => absurd b (by exact (LI2 (.im (.le V0 V1) (.im (.lt V1 V0) .ff))) a))
  exact ⟨a, fun i q => of_decide_eq_true (b i q), fun i q1 q2 => Nat.le_of_not_lt (of_decide_eq_false (c i q1 q2))⟩
theorem br_border {r : List Nat} (h : r.Pairwise (· ≤ ·)) (n : Nat) : br r n ≤ r.length ∧ (∀ i < br r n, r.getD i 0 ≤ n) ∧ ∀ i, br r n ≤ i → i < r.length → n < r.getD i 0 := by
  obtain ⟨a, b, c⟩ := bis_border (fun i => !decide (n < r.getD i 0)) r.length (fun i j h1 h2 h3 => by
    have := ss_get h h1 h2
    simp only [Bool.not_eq_true', decide_eq_false_iff_not] at h3 ⊢
    exact (LI3 (.im (.le V0 V1) (.im (.im (.lt V2 V1) .ff) (.im (.lt V2 V0) .ff)))) this h3) r.length 0 r.length (Nat.zero_le _) (Nat.le_refl _) (by exact (LI1 (.le (.s V0 O0) V0))) (fun i q => absurd q (Nat.not_lt_zero _)) (fun i a b => absurd b (by exact (LI2 (.im (.le V0 V1) (.im (.lt V1 V0) .ff))) a))
  refine ⟨a, fun i q => ?_, fun i q1 q2 => ?_⟩
  · have := b i q
    simp only [Bool.not_eq_true', decide_eq_false_iff_not] at this
    exact (LI2 (.im (.im (.lt V0 V1) .ff) (.le V1 V0))) this
  · have := c i q1 q2
    simpa using this
theorem mem_take_get {r : List Nat} {k x : Nat} (h : x ∈ r.take k) : ∃ i, i < k ∧ i < r.length ∧ r.getD i 0 = x := by
  obtain ⟨i, hi, e⟩ := List.mem_iff_getElem.mp h
  rw [List.length_take] at hi
  have hi2 : i < r.length := Nat.lt_of_lt_of_le hi (Nat.min_le_right _ _)
  refine ⟨i, by exact (LI3 (.im (.lt V0 (.mi V1 V2)) (.lt V0 V1))) hi, hi2, ?_⟩
  rw [List.getD_eq_getElem?_getD, List.getElem?_eq_getElem hi2, Option.getD_some, ← e, List.getElem_take]
theorem mem_drop_get {r : List Nat} {k x : Nat} (h : x ∈ r.drop k) : ∃ i, k ≤ i ∧ i < r.length ∧ r.getD i 0 = x := by
  obtain ⟨i, hi, e⟩ := List.mem_iff_getElem.mp h
  rw [List.length_drop] at hi
  have hi2 : k + i < r.length := (LI3 (.im (.lt V0 (.s V1 V2)) (.lt (.a V2 V0) V1))) hi
  refine ⟨k + i, by exact (LI2 (.le V0 (.a V0 V1))), hi2, ?_⟩
  rw [List.getD_eq_getElem?_getD, List.getElem?_eq_getElem hi2, Option.getD_some, ← e, List.getElem_drop]
theorem ins_sorted {r : List Nat} {k n : Nat} (R : Nat → Nat → Prop) (h : r.Pairwise R) (h1 : ∀ i < k, i < r.length → R (r.getD i 0) n) (h2 : ∀ i, k ≤ i → i < r.length → R n (r.getD i 0)) : (r.take k ++ n :: r.drop k).Pairwise R := by
  have hs : (r.take k ++ r.drop k).Pairwise R := by rw [List.take_append_drop]; exact h
  obtain ⟨a, b, c⟩ := List.pairwise_append.mp hs
  refine List.pairwise_append.mpr ⟨a, List.pairwise_cons.mpr ⟨fun x hx => ?_, b⟩, fun x hx y hy => ?_⟩
  · obtain ⟨i, q1, q2, e⟩ := mem_drop_get hx
    exact e ▸ h2 i q1 q2
  · rcases List.mem_cons.mp hy with rfl | hy
    · obtain ⟨i, q1, q2, e⟩ := mem_take_get hx
      exact e ▸ h1 i q1 q2
    · exact c x hx y hy
theorem mem_ins {r : List Nat} {k n x : Nat} : x ∈ r.take k ++ n :: r.drop k ↔ x ∈ r ∨ x = n := by
  constructor
  · intro h
    rcases List.mem_append.mp h with h | h
    · exact .inl (List.mem_of_mem_take h)
    rcases List.mem_cons.mp h with h | h
    · exact .inr h
    · exact .inl (List.mem_of_mem_drop h)
  · rintro (h | h)
    · rw [← List.take_append_drop k r] at h
      rcases List.mem_append.mp h with h | h
      · exact List.mem_append_left _ h
      · exact List.mem_append_right _ (.tail _ h)
    · exact List.mem_append_right _ (h ▸ .head _)
theorem ss_le {r : List Nat} (h : SSort r) : r.Pairwise (· ≤ ·) := h.imp Nat.le_of_lt
theorem rowStep_cond {r : List Nat} (h : SSort r) (n : Nat) : (bl r n = r.length ∨ r.getD (bl r n) 0 ≠ n) ↔ n ∉ r := by
  obtain ⟨a, b, c⟩ := bl_border (ss_le h) n
  constructor
  · intro q hm
    obtain ⟨i, hi, e⟩ := List.mem_iff_getElem.mp hm
    have hg : r.getD i 0 = n := by rw [List.getD_eq_getElem?_getD, List.getElem?_eq_getElem hi]; exact e
    have h1 : bl r n ≤ i := Nat.le_of_not_lt fun z => by have := b i z; exact (LI2 (.im (.lt V0 V1) (.im (.eq V0 V1) .ff))) this hg
    rcases q with q | q
    · exact (LI3 (.im (.lt V0 V1) (.im (.eq V2 V1) (.im (.le V2 V0) .ff)))) hi q h1
    · have h2 : bl r n < r.length := by exact (LI3 (.im (.lt V0 V1) (.im (.le V2 V0) (.lt V2 V1)))) hi h1
      have h3 := c (bl r n) (Nat.le_refl _) h2
      have h4 := ss_get (ss_le h) h1 hi
      exact (LI3 (.im (.eq V0 V1) (.im (.im (.eq V2 V1) .ff) (.im (.le V2 V0) (.im (.le V1 V2) .ff))))) hg q h4 h3
  · intro q
    rcases Nat.eq_or_lt_of_le a with e | e
    · exact .inl e
    · refine .inr fun z => q ?_
      rw [← z, List.getD_eq_getElem?_getD, List.getElem?_eq_getElem e]
      exact List.getElem_mem e
theorem rowStep_sorted {r : List Nat} (h : SSort r) (n : Nat) : SSort (rowStep r n) := by
  by_cases q : bl r n = r.length ∨ r.getD (bl r n) 0 ≠ n
  · rw [rowStep_in q]
    obtain ⟨a, b, c⟩ := bl_border (ss_le h) n
    have hn := (rowStep_cond h n).mp q
    refine ins_sorted (· < ·) h (fun i h1 _ => b i h1) (fun i h1 h2 => ?_)
    have := c i h1 h2
    refine Nat.lt_of_le_of_ne this fun z => hn ?_
    rw [z, List.getD_eq_getElem?_getD, List.getElem?_eq_getElem h2]
    exact List.getElem_mem h2
  · rw [rowStep_out q]; exact h
theorem rowStep_mem {r : List Nat} (h : SSort r) (n x : Nat) : x ∈ rowStep r n ↔ x ∈ r ∨ x = n := by
  by_cases q : bl r n = r.length ∨ r.getD (bl r n) 0 ≠ n
  · rw [rowStep_in q]; exact mem_ins
  · rw [rowStep_out q]
    have hn : n ∈ r := Classical.byContradiction fun z => q ((rowStep_cond h n).mpr z)
    exact ⟨.inl, fun z => z.elim id fun z => z ▸ hn⟩
theorem rowStep_length {r : List Nat} (h : SSort r) (n : Nat) : (rowStep r n).length = r.length + if n ∈ r then 0 else 1 := by
  by_cases q : bl r n = r.length ∨ r.getD (bl r n) 0 ≠ n
  · rw [rowStep_in q, if_neg ((rowStep_cond h n).mp q)]
    rw [List.length_append, List.length_cons, List.length_take, List.length_drop]
    have := (bl_border (ss_le h) n).1
    exact (LI2 (.eq (.a (.mi V0 V1) (.a (.s V1 V0) O1)) (.a V1 O1)))
  · rw [rowStep_out q, if_pos (Classical.byContradiction fun z => q ((rowStep_cond h n).mpr z))]; exact (LI1 (.eq V0 (.a V0 O0)))
theorem ss_ext : ∀ {a b : List Nat}, SSort a → SSort b → (∀ x, x ∈ a ↔ x ∈ b) → a = b := fun {a} => by
  induction a with
  | nil =>
    intro b _ _ h
    cases b with
    | nil => rfl
    | cons y b => exact absurd ((h y).mpr (.head _)) List.not_mem_nil
  | cons x a ih =>
   intro b ha hb h
   cases b with
   | nil => exact absurd ((h x).mp (.head _)) List.not_mem_nil
   | cons y b =>
    obtain ⟨ha1, ha2⟩ := List.pairwise_cons.mp ha
    obtain ⟨hb1, hb2⟩ := List.pairwise_cons.mp hb
    have hxy : x = y := by
      rcases List.mem_cons.mp ((h x).mp (.head _)) with e | e
      · exact e
      rcases List.mem_cons.mp ((h y).mpr (.head _)) with e' | e'
      · exact e'.symm
      · have := hb1 x e; have := ha1 y e'; exact (LI2 (.im (.lt V0 V1) (.im (.lt V1 V0) (.eq V0 V1)))) this (by assumption)
    subst hxy
    rw [ih ha2 hb2 fun z => ⟨fun hz => ?_, fun hz => ?_⟩]
    · rcases List.mem_cons.mp ((h z).mp (.tail _ hz)) with e | e
      · have := ha1 z hz; exact ((LI2 (.im (.lt V0 V1) (.im (.eq V1 V0) .ff))) this e).elim
      · exact e
    · rcases List.mem_cons.mp ((h z).mpr (.tail _ hz)) with e | e
      · have := hb1 z hz; exact ((LI2 (.im (.lt V0 V1) (.im (.eq V1 V0) .ff))) this e).elim
      · exact e
theorem insR_sorted {r : List Nat} (h : SSort r) {n : Nat} (hn : n ∉ r) : SSort (insR r n) := by
  obtain ⟨a, b, c⟩ := br_border (ss_le h) n
  refine ins_sorted (· < ·) h (fun i h1 h2 => ?_) (fun i h1 h2 => c i h1 h2)
  refine Nat.lt_of_le_of_ne (b i h1) fun z => hn ?_
  rw [← z, List.getD_eq_getElem?_getD, List.getElem?_eq_getElem h2]
  exact List.getElem_mem h2
theorem insR_mem {r : List Nat} {n x : Nat} : x ∈ insR r n ↔ x ∈ r ∨ x = n := mem_ins
end Mine
end
section
namespace Mine
theorem num_inj : ∀ {a b : List Nat}, D3 a → D3 b → num a = num b → a = b := fun {a} => by
  induction a with
  | nil =>
    intro b _ hb h
    cases b with
    | nil => rfl
    | cons d b => exact ((LI2 (.im (.eq O0 (.a V0 (.m 4 V1))) (.im (.le O1 V0) .ff))) (show 0 = d + 4 * num b from h) (hb d (.head _)).1).elim
  | cons d a ih =>
   intro b ha hb h
   have h1 := ha d (.head _)
   cases b with
   | nil => exact ((LI2 (.im (.eq (.a V0 (.m 4 V1)) O0) (.im (.le O1 V0) .ff))) (show d + 4 * num a = 0 from h) h1.1).elim
   | cons e b =>
    have h2 := hb e (.head _)
    replace h : d + 4 * num a = e + 4 * num b := h
    have h3 : d = e := by rw [← Nat.mod_eq_of_lt (Nat.lt_succ_of_le h1.2), ← Nat.add_mul_mod_self_left d 4 (num a), h, Nat.add_mul_mod_self_left, Nat.mod_eq_of_lt (Nat.lt_succ_of_le h2.2)]
    rw [h3, ih (fun x hx => ha x (.tail _ hx)) (fun x hx => hb x (.tail _ hx)) (by exact (LI4 (.im (.eq (.a V0 (.m 4 V1)) (.a V2 (.m 4 V3))) (.im (.eq V0 V2) (.eq V1 V3)))) h h3)]
section
variable {ds : List Nat}
theorem row_sorted (ds : List Nat) : ∀ i, SSort (rowOf ds i) := fun i => Nat.rec List.Pairwise.nil (fun _ ih => rowStep_sorted ih _) i
theorem row_mem (ds : List Nat) : ∀ i x, x ∈ rowOf ds i ↔ ∃ j, 0 < j ∧ j ≤ i ∧ x = num (lp ds j j) := fun i => by
  induction i with
  | zero => exact fun x => ⟨fun h => absurd h List.not_mem_nil, fun h => h.elim fun j h => absurd h.1 (Nat.not_lt_of_le h.2.1)⟩
  | succ i ih =>
    intro x
    show x ∈ rowStep _ _ ↔ _
    rw [rowStep_mem (row_sorted ds i), ih x]
    constructor
    · rintro (⟨j, h1, h2, h3⟩ | h)
      · exact ⟨j, h1, by exact (LI2 (.im (.le V0 V1) (.le V0 (.a V1 O1)))) h2, h3⟩
      · exact ⟨i + 1, by exact (LI1 (.lt O0 (.a V0 O1))), Nat.le_refl _, h⟩
    · rintro ⟨j, h1, h2, h3⟩
      by_cases q : j = i + 1
      · subst q; exact .inr h3
      · exact .inl ⟨j, h1, by exact (LI2 (.im (.le V0 (.a V1 O1)) (.im (.im (.eq V0 (.a V1 O1)) .ff) (.le V0 V1)))) h2 q, h3⟩
theorem row_full (ds : List Nat) : ∀ n, (rowOf ds n).length = n ↔ ∀ j < n, num (lp ds (j + 1) (j + 1)) ∉ rowOf ds j := fun n => by
  induction n with
  | zero => exact ⟨fun _ j h => absurd h (Nat.not_lt_zero _), fun _ => rfl⟩
  | succ n ih =>
    have hl : (rowOf ds (n + 1)).length = (rowOf ds n).length + if num (lp ds (n + 1) (n + 1)) ∈ rowOf ds n then 0 else 1 := rowStep_length (row_sorted ds n) _
    have hb := rowOf_len ds n
    constructor
    · intro h
      have hn : num (lp ds (n + 1) (n + 1)) ∉ rowOf ds n := fun q => by rw [if_pos q] at hl; exact (LI3 (.im (.eq V0 (.a V1 O0)) (.im (.eq V0 (.a V2 O1)) (.im (.le V1 V2) .ff)))) hl h hb
      rw [if_neg hn] at hl
      replace ih := ih.mp (by exact (LI3 (.im (.eq V0 (.a V1 O1)) (.im (.eq V0 (.a V2 O1)) (.eq V2 V1)))) h hl)
      intro j hj
      by_cases q : j = n
      · subst q; exact hn
      · exact ih j (by exact (LI2 (.im (.lt V0 (.a V1 O1)) (.im (.im (.eq V0 V1) .ff) (.lt V0 V1)))) hj q)
    · intro h
      rw [if_neg (h n (Nat.lt_succ_self _))] at hl
      have := ih.mpr fun j hj => h j (by exact (LI2 (.im (.lt V0 V1) (.lt V0 (.a V1 O1)))) hj)
      exact (LI3 (.im (.eq V0 (.a V1 O1)) (.im (.eq V1 V2) (.eq V0 (.a V2 O1))))) hl this
theorem full_iff (hd : D3 ds) : (rowOf ds ds.length).length = ds.length ↔ Rich (at' ds) ds.length := by
  rw [row_full, rich_iff]
  constructor
  · intro h i j hi hij hj e
    refine h (j - 1) (by exact (LI3 (.im (.lt V0 V1) (.im (.le V1 V2) (.lt (.s V1 O1) V2)))) hij hj) ((row_mem ds (j - 1) _).mpr ⟨i, hi, by exact (LI2 (.im (.lt V0 V1) (.le V0 (.s V1 O1)))) hij, ?_⟩)
    rw [show j - 1 + 1 = j by exact (LI2 (.im (.lt V0 V1) (.eq (.a (.s V1 O1) O1) V1))) hij, e]
  · intro h j hj q
    obtain ⟨i, h1, h2, h3⟩ := (row_mem ds j _).mp q
    exact h i (j + 1) h1 (by exact (LI2 (.im (.le V0 V1) (.lt V0 (.a V1 O1)))) h2) (by exact (LI2 (.im (.lt V0 V1) (.le (.a V0 O1) V1))) hj) (num_inj (lp_D3 hd _ _) (lp_D3 hd _ _) h3).symm
theorem ents_mem {j : Nat} (hj : j ≤ ds.length) : ∀ B, B ≤ j → ∀ e, e ∈ ents ds j B ↔ ∃ b < B, PalI (at' ds) b j ∧ e = (sub ds b j, j) := fun B => by
  induction B with
  | zero => exact fun _ e => ⟨fun h => absurd h List.not_mem_nil, fun h => h.elim fun b h => absurd h.1 (Nat.not_lt_zero _)⟩
  | succ B ih =>
    intro hB e
    have hB' := Nat.le_of_lt hB
    replace ih := ih hB' e
    by_cases q : sub ds B j = (sub ds B j).reverse
    · rw [ents_new q, List.mem_append, ih, List.mem_singleton]
      constructor
      · rintro (⟨b, h1, h2⟩ | rfl)
        · exact ⟨b, by exact (LI2 (.im (.lt V0 V1) (.lt V0 (.a V1 O1)))) h1, h2⟩
        · exact ⟨B, Nat.lt_succ_self _, (sub_pal hj hB').mp q, rfl⟩
      · rintro ⟨b, h1, h2, h3⟩
        by_cases z : b = B
        · subst z; exact .inr h3
        · exact .inl ⟨b, by exact (LI2 (.im (.lt V0 (.a V1 O1)) (.im (.im (.eq V0 V1) .ff) (.lt V0 V1)))) h1 z, h2, h3⟩
    · rw [ents_old q, ih]
      constructor
      · rintro ⟨b, h1, h2⟩
        exact ⟨b, by exact (LI2 (.im (.lt V0 V1) (.lt V0 (.a V1 O1)))) h1, h2⟩
      · rintro ⟨b, h1, h2, h3⟩
        by_cases z : b = B
        · subst z; exact absurd ((sub_pal hj hB').mpr h2) q
        · exact ⟨b, by exact (LI2 (.im (.lt V0 (.a V1 O1)) (.im (.im (.eq V0 V1) .ff) (.lt V0 V1)))) h1 z, h2, h3⟩
theorem allE_mem : ∀ n, n ≤ ds.length → ∀ e, e ∈ allE ds n ↔ ∃ b j, b < j ∧ j ≤ n ∧ PalI (at' ds) b j ∧ e = (sub ds b j, j) := fun n => by
  induction n with
  | zero => exact fun _ e => ⟨fun h => absurd h List.not_mem_nil, fun h => h.elim fun b h => h.elim fun j h => absurd (Nat.lt_of_lt_of_le h.1 h.2.1) (Nat.not_lt_zero _)⟩
  | succ n ih =>
    intro hn e
    show e ∈ allE ds n ++ ents ds (n + 1) (n + 1) ↔ _
    rw [List.mem_append, ih (Nat.le_of_lt hn) e, ents_mem hn _ (Nat.le_refl _)]
    constructor
    · rintro (⟨b, j, h1, h2, h3⟩ | ⟨b, h1, h2⟩)
      · exact ⟨b, j, h1, by exact (LI2 (.im (.le V0 V1) (.le V0 (.a V1 O1)))) h2, h3⟩
      · exact ⟨b, n + 1, h1, Nat.le_refl _, h2⟩
    · rintro ⟨b, j, h1, h2, h3⟩
      by_cases q : j = n + 1
      · subst q; exact .inr ⟨b, h1, h3⟩
      · exact .inl ⟨b, j, h1, by exact (LI2 (.im (.le V0 (.a V1 O1)) (.im (.im (.eq V0 (.a V1 O1)) .ff) (.le V0 V1)))) h2 q, h3⟩
theorem names_pal (p : List Nat) : (∃ e ∈ allE ds ds.length, e.1 = p) ↔ IsPal ds p := by
  constructor
  · rintro ⟨e, he, rfl⟩
    obtain ⟨b, j, h1, h2, h3, rfl⟩ := (allE_mem _ (Nat.le_refl _) e).mp he
    exact ⟨b, j, h1, h2, h3, rfl⟩
  · rintro ⟨b, j, h1, h2, h3, rfl⟩
    exact ⟨_, (allE_mem _ (Nat.le_refl _) _).mpr ⟨b, j, h1, h2, h3, rfl⟩, rfl⟩
open Classical in
theorem stops_ents {j : Nat} (hj : j ≤ ds.length) {p : List Nat} : ∀ B, B ≤ j → stopsOf p (ents ds j B) = if ∃ b < B, PalI (at' ds) b j ∧ sub ds b j = p then [j] else [] := fun B => by
  induction B with
  | zero => exact fun _ => by rw [if_neg (fun h => h.elim fun b h => absurd h.1 (Nat.not_lt_zero _))]; rfl
  | succ B ih =>
    intro hB
    have hB' := Nat.le_of_lt hB
    replace ih := ih hB'
    by_cases q : sub ds B j = (sub ds B j).reverse
    · have hp := (sub_pal hj hB').mp q
      rw [ents_new q]
      have h1 : stopsOf p (ents ds j B ++ [(sub ds B j, j)]) = stopsOf p (ents ds j B) ++ stopsOf p [(sub ds B j, j)] := by
        show List.map _ (List.filter _ (ents ds j B ++ [(sub ds B j, j)])) = _; rw [List.filter_append, List.map_append]; rfl
      rw [h1, ih]
      by_cases z : sub ds B j = p
      · have h2 : ¬∃ b < B, PalI (at' ds) b j ∧ sub ds b j = p := fun h => by
          obtain ⟨b, h3, _, h4⟩ := h
          have := congrArg List.length (h4.trans z.symm)
          rw [sub_len' hj, sub_len' hj] at this
          exact (LI3 (.im (.le (.a V0 O1) V1) (.im (.eq (.s V1 V2) (.s V1 V0)) (.im (.lt V2 V0) .ff)))) hB this h3
        rw [if_neg h2, if_pos ⟨B, Nat.lt_succ_self _, hp, z⟩]
        show _ ++ List.map _ (List.filter _ [(sub ds B j, j)]) = _
        rw [List.filter_cons_of_pos (p := fun x : List Nat × Nat => x.1 == p) (beq_iff_eq.mpr z)]; rfl
      · have h2 : stopsOf p [(sub ds B j, j)] = [] := by show List.map _ (List.filter _ [(sub ds B j, j)]) = _; rw [List.filter_cons_of_neg (p := fun x : List Nat × Nat => x.1 == p) (fun h => z (beq_iff_eq.mp h))]; rfl
        rw [h2, List.append_nil]
        by_cases y : ∃ b < B, PalI (at' ds) b j ∧ sub ds b j = p
        · obtain ⟨b, h3, h4⟩ := y
          rw [if_pos ⟨b, h3, h4⟩, if_pos ⟨b, by exact (LI2 (.im (.lt V0 V1) (.lt V0 (.a V1 O1)))) h3, h4⟩]
        · rw [if_neg y, if_neg]
          rintro ⟨b, h3, h4, h5⟩
          by_cases x : b = B
          · subst x; exact z h5
          · exact y ⟨b, by exact (LI2 (.im (.lt V0 (.a V1 O1)) (.im (.im (.eq V0 V1) .ff) (.lt V0 V1)))) h3 x, h4, h5⟩
    · rw [ents_old q, ih]
      have hn : ¬PalI (at' ds) B j := fun z => q ((sub_pal hj hB').mpr z)
      by_cases y : ∃ b < B, PalI (at' ds) b j ∧ sub ds b j = p
      · obtain ⟨b, h3, h4⟩ := y
        rw [if_pos ⟨b, h3, h4⟩, if_pos ⟨b, by exact (LI2 (.im (.lt V0 V1) (.lt V0 (.a V1 O1)))) h3, h4⟩]
      · rw [if_neg y, if_neg]
        rintro ⟨b, h3, h4, h5⟩
        by_cases x : b = B
        · subst x; exact hn h4
        · exact y ⟨b, by exact (LI2 (.im (.lt V0 (.a V1 O1)) (.im (.im (.eq V0 V1) .ff) (.lt V0 V1)))) h3 x, h4, h5⟩
open Classical in
theorem stops_all {p : List Nat} : ∀ n, n ≤ ds.length → (stopsOf p (allE ds n)).Pairwise (· < ·) ∧ ∀ j, j ∈ stopsOf p (allE ds n) ↔ j ≤ n ∧ ∃ b < j, PalI (at' ds) b j ∧ sub ds b j = p := fun n => by
  induction n with
  | zero => exact fun _ => ⟨List.Pairwise.nil, fun j => ⟨fun h => absurd h List.not_mem_nil, fun h => h.2.elim fun b h1 => absurd (Nat.lt_of_lt_of_le h1.1 h.1) (Nat.not_lt_zero _)⟩⟩
  | succ n ih =>
    intro hn
    obtain ⟨ih1, ih2⟩ := ih (Nat.le_of_lt hn)
    have h1 : stopsOf p (allE ds (n + 1)) = stopsOf p (allE ds n) ++ stopsOf p (ents ds (n + 1) (n + 1)) := by
      show List.map _ (List.filter _ (allE ds n ++ ents ds (n + 1) (n + 1))) = _
      rw [List.filter_append, List.map_append]; rfl
    rw [h1, stops_ents hn _ (Nat.le_refl _)]
    by_cases y : ∃ b < n + 1, PalI (at' ds) b (n + 1) ∧ sub ds b (n + 1) = p
    · rw [if_pos y]
      refine ⟨List.pairwise_append.mpr ⟨ih1, List.pairwise_singleton _ _, fun a ha b hb => ?_⟩, fun j => ?_⟩
      · rw [List.mem_singleton.mp hb]
        have := ((ih2 a).mp ha).1
        exact (LI2 (.im (.le V0 V1) (.lt V0 (.a V1 O1)))) this
      · rw [List.mem_append, ih2, List.mem_singleton]
        constructor
        · rintro (⟨h3, h4⟩ | rfl)
          · exact ⟨by exact (LI2 (.im (.le V0 V1) (.le V0 (.a V1 O1)))) h3, h4⟩
          · exact ⟨Nat.le_refl _, y⟩
        · rintro ⟨h3, h4⟩
          by_cases q : j = n + 1
          · exact .inr q
          · exact .inl ⟨by exact (LI2 (.im (.le V0 (.a V1 O1)) (.im (.im (.eq V0 (.a V1 O1)) .ff) (.le V0 V1)))) h3 q, h4⟩
    · rw [if_neg y, List.append_nil]
      refine ⟨ih1, fun j => ?_⟩
      rw [ih2]
      constructor
      · rintro ⟨h3, h4⟩; exact ⟨by exact (LI2 (.im (.le V0 V1) (.le V0 (.a V1 O1)))) h3, h4⟩
      · rintro ⟨h3, h4⟩
        by_cases q : j = n + 1
        · subst q; exact absurd h4 y
        · exact ⟨by exact (LI2 (.im (.le V0 (.a V1 O1)) (.im (.im (.eq V0 (.a V1 O1)) .ff) (.le V0 V1)))) h3 q, h4⟩
end
end Mine
end
section
namespace Mine
theorem stopsOf_rest {p q : List Nat} (h : q ≠ p) (E : List (List Nat × Nat)) : stopsOf q (E.filter (·.1 != p)) = stopsOf q E := by
  unfold stopsOf
  rw [List.filter_filter]
  congr 1
  apply List.filter_congr
  intro e _
  by_cases z : e.1 = q
  · simp [z, h]
  · simp [z]
theorem tko_names (ds : List Nat) : ∀ n E ns od, E.length ≤ n → SSort ns → (∀ e ∈ E, D3 e.1) → (∀ e ∈ E, num e.1 ∉ ns) → SSort (tko ds n E ns od).1 ∧ ∀ x, x ∈ (tko ds n E ns od).1 ↔ x ∈ ns ∨ ∃ e ∈ E, x = num e.1 := fun n => by
  have h0 : ∀ n ns od, SSort ns → SSort (tko ds n [] ns od).1 ∧ ∀ x, x ∈ (tko ds n [] ns od).1 ↔ x ∈ ns ∨ ∃ e ∈ ([] : List (List Nat × Nat)), x = num e.1 := fun n ns od hs => by
    rw [tko_nil]
    exact ⟨hs, fun x => ⟨.inl, fun h => h.elim id fun h => h.elim fun e h => absurd h.1 List.not_mem_nil⟩⟩
  induction n with
  | zero =>
    intro E ns od h hs _ _
    cases List.length_eq_zero_iff.mp (Nat.le_zero.mp h)
    exact h0 0 ns od hs
  | succ n ih =>
   intro E ns od h hs hd hn
   cases E with
   | nil => exact h0 _ ns od hs
   | cons e E =>
    have hfl := List.length_filter_le (fun x : List Nat × Nat => x.1 != e.1) E
    have hl : E.length ≤ n := Nat.le_of_succ_le_succ h
    obtain ⟨ih1, ih2⟩ := ih (E.filter (·.1 != e.1)) (insR ns (num e.1)) (od ++ oddI ds e.1 (stopsOf e.1 (e :: E)) ((stopsOf e.1 (e :: E)).length - 1)) (by exact (LI3 (.im (.le V0 V1) (.im (.le V2 V0) (.le V2 V1)))) hl hfl) (insR_sorted hs (hn e (.head _)))
      (fun e' he => hd e' (.tail _ (List.mem_filter.mp he).1)) (fun e' he q => by
        have h1 := List.mem_filter.mp he
        rcases insR_mem.mp q with q | q
        · exact hn e' (.tail _ h1.1) q
        · have := num_inj (hd e' (.tail _ h1.1)) (hd e (.head _)) q
          simp [this] at h1)
    refine ⟨ih1, fun x => (ih2 x).trans ?_⟩
    rw [insR_mem]
    constructor
    · rintro ((h1 | h1) | ⟨e', h1, h2⟩)
      · exact .inl h1
      · exact .inr ⟨e, .head _, h1⟩
      · exact .inr ⟨e', .tail _ (List.mem_filter.mp h1).1, h2⟩
    · rintro (h1 | ⟨e', h1, h2⟩)
      · exact .inl (.inl h1)
      · by_cases z : e'.1 = e.1
        · exact .inl (.inr (z ▸ h2))
        · rcases List.mem_cons.mp h1 with rfl | h1
          · exact absurd rfl z
          · exact .inr ⟨e', List.mem_filter.mpr ⟨h1, by simpa using z⟩, h2⟩
theorem tko_odd (ds : List Nat) : ∀ n E ns od, E.length ≤ n → ((tko ds n E ns od).2 = [] ↔ od = [] ∧ ∀ e ∈ E, oddI ds e.1 (stopsOf e.1 E) ((stopsOf e.1 E).length - 1) = []) := fun n => by
  have h0 : ∀ n ns od, ((tko ds n [] ns od).2 = [] ↔ od = [] ∧ ∀ e ∈ ([] : List (List Nat × Nat)), oddI ds e.1 (stopsOf e.1 []) ((stopsOf e.1 []).length - 1) = []) := fun n ns od => by
    rw [tko_nil]
    exact ⟨fun h => ⟨h, fun e he => absurd he List.not_mem_nil⟩, fun h => h.1⟩
  induction n with
  | zero =>
    intro E ns od h
    cases List.length_eq_zero_iff.mp (Nat.le_zero.mp h)
    exact h0 0 ns od
  | succ n ih =>
   intro E ns od h
   cases E with
   | nil => exact h0 _ ns od
   | cons e E =>
    have hfl := List.length_filter_le (fun x : List Nat × Nat => x.1 != e.1) E
    have hl : E.length ≤ n := Nat.le_of_succ_le_succ h
    refine (ih (E.filter (·.1 != e.1)) (insR ns (num e.1)) (od ++ oddI ds e.1 (stopsOf e.1 (e :: E)) ((stopsOf e.1 (e :: E)).length - 1)) (by exact (LI3 (.im (.le V0 V1) (.im (.le V2 V0) (.le V2 V1)))) hl hfl)).trans ?_
    rw [List.append_eq_nil_iff]
    have hst : ∀ e' : List Nat × Nat, e'.1 ≠ e.1 → stopsOf e'.1 (E.filter (·.1 != e.1)) = stopsOf e'.1 (e :: E) := fun e' z => by
      rw [stopsOf_rest z]
      unfold stopsOf
      rw [List.filter_cons_of_neg (by simpa using fun q => z q.symm)]
    constructor
    · rintro ⟨⟨h1, h2⟩, h3⟩
      refine ⟨h1, fun e' he => ?_⟩
      by_cases z : e'.1 = e.1
      · rw [z]; exact h2
      · rcases List.mem_cons.mp he with rfl | he
        · exact absurd rfl z
        · have := h3 e' (List.mem_filter.mpr ⟨he, by simpa using z⟩)
          rwa [hst e' z] at this
    · rintro ⟨h1, h2⟩
      refine ⟨⟨h1, h2 e (.head _)⟩, fun e' he => ?_⟩
      have h3 := List.mem_filter.mp he
      have z : e'.1 ≠ e.1 := by simpa using h3.2
      rw [hst e' z]
      exact h2 e' (.tail _ h3.1)
theorem oddI_nil (ds p st : List Nat) : ∀ K, oddI ds p st K = [] ↔ ∀ k < K, sub ds (st.getD k 0 - p.length) (st.getD (k + 1) 0) = (sub ds (st.getD k 0 - p.length) (st.getD (k + 1) 0)).reverse := fun K => by
  induction K with
  | zero => exact ⟨fun _ k h => absurd h (Nat.not_lt_zero _), fun _ => rfl⟩
  | succ K ih =>
    show oddI ds p st K ++ (if _ then _ else _) = _ ↔ _
    rw [List.append_eq_nil_iff, ih]
    constructor
    · rintro ⟨h1, h2⟩ k hk
      by_cases q : k = K
      · subst q
        split at h2
        · assumption
        · cases h2
      · exact h1 k (by exact (LI2 (.im (.lt V0 (.a V1 O1)) (.im (.im (.eq V0 V1) .ff) (.lt V0 V1)))) hk q)
    · intro h
      refine ⟨fun k hk => h k (by exact (LI2 (.im (.lt V0 V1) (.lt V0 (.a V1 O1)))) hk), ?_⟩
      rw [if_pos (h K (Nat.lt_succ_self _))]
theorem neighbours {x y : Nat} : ∀ {st : List Nat}, st.Pairwise (· < ·) → x ∈ st → y ∈ st → x < y → (∀ z ∈ st, ¬(x < z ∧ z < y)) → ∃ k, k + 1 < st.length ∧ st.getD k 0 = x ∧ st.getD (k + 1) 0 = y := fun {st} => by
  induction st with
  | nil => exact fun _ h => absurd h List.not_mem_nil
  | cons a st ih =>
   intro hs h1 h2 h3 h4
   cases st with
   | nil => exact absurd h3 ((List.mem_singleton.mp h1).trans (List.mem_singleton.mp h2).symm ▸ Nat.lt_irrefl _)
   | cons b r =>
    obtain ⟨p1, p2⟩ := List.pairwise_cons.mp hs
    by_cases q : x = a
    · subst q
      have hb := p1 b (.head _)
      have hby : y = b := by
        rcases List.mem_cons.mp h2 with e | e
        · exact (LI3 (.im (.lt V0 V1) (.im (.eq V1 V0) (.eq V1 V2)))) h3 e
        rcases List.mem_cons.mp e with e | e
        · exact e
        · have := (List.pairwise_cons.mp p2).1 y e
          exact absurd ⟨hb, this⟩ (h4 b (.tail _ (.head _)))
      exact ⟨0, Nat.succ_lt_succ (Nat.succ_pos _), rfl, hby.symm⟩
    · have hx : x ∈ b :: r := (List.mem_cons.mp h1).resolve_left q
      have hax := p1 x hx
      have hy : y ∈ b :: r := (List.mem_cons.mp h2).resolve_left (by exact (LI3 (.im (.lt V0 V1) (.im (.lt V1 V2) (.im (.eq V2 V0) .ff)))) hax h3)
      obtain ⟨k, e1, e2, e3⟩ := ih p2 hx hy h3 fun z hz => h4 z (.tail _ hz)
      exact ⟨k + 1, Nat.succ_lt_succ e1, e2, e3⟩
section
variable {ds : List Nat}
theorem mem_stops {l a : Nat} (h0 : 0 < l) (ha : a + l ≤ ds.length) (hp : PalI (at' ds) a (a + l)) (j : Nat) : j ∈ stopsOf (sub ds a (a + l)) (allE ds ds.length) ↔ j ≤ ds.length ∧ l ≤ j ∧ EqI (at' ds) (j - l) a l := by
  rw [(stops_all _ (Nat.le_refl _)).2]
  constructor
  · rintro ⟨h1, b, h2, h3, h4⟩
    obtain ⟨e1, e2⟩ := (sub_eq_iff h1 ha).mp h4
    refine ⟨h1, by exact (LI4 (.im (.eq (.s V0 V1) (.s (.a V2 V3) V2)) (.le V3 V0))) e1, ?_⟩
    rw [show j - l = b by exact (LI4 (.im (.eq (.s V0 V1) (.s (.a V2 V3) V2)) (.im (.lt V1 V0) (.eq (.s V0 V3) V1)))) e1 h2, show l = j - b by exact (LI4 (.im (.eq (.s V0 V1) (.s (.a V2 V3) V2)) (.eq V3 (.s V0 V1)))) e1]; exact e2
  · rintro ⟨h1, h2, h3⟩
    refine ⟨h1, j - l, by exact (LI2 (.im (.lt O0 V0) (.im (.le V0 V1) (.lt (.s V1 V0) V1)))) h0 h2, ?_, (sub_eq_iff h1 ha).mpr ⟨by exact (LI3 (.im (.le V0 V1) (.eq (.s V1 (.s V1 V0)) (.s (.a V2 V0) V2)))) h2, ?_⟩⟩
    · have := h3.symm.pal hp
      rwa [show j - l + l = j by exact (LI2 (.im (.le V0 V1) (.eq (.a (.s V1 V0) V0) V1))) h2] at this
    · rw [show j - (j - l) = l by exact (LI2 (.im (.le V0 V1) (.eq (.s V1 (.s V1 V0)) V0))) h2]; exact h3
theorem odd_iff (ds : List Nat) : (tko ds (allE ds ds.length).length (allE ds ds.length) [] []).2 = [] ↔ CR (at' ds) ds.length := by
  rw [tko_odd ds _ _ _ _ (Nat.le_refl _)]
  constructor
  · rintro ⟨_, h⟩ a c l h0 hac hcl hp hE hno
    have hal : a + l ≤ ds.length := by exact (LI4 (.im (.le (.a V0 V1) V2) (.im (.lt V3 V0) (.le (.a V3 V1) V2)))) hcl hac
    have hm := (allE_mem (ds := ds) _ (Nat.le_refl _) (sub ds a (a + l), a + l)).mpr ⟨a, a + l, by exact (LI2 (.im (.lt O0 V0) (.lt V1 (.a V1 V0)))) h0, hal, hp, rfl⟩
    have h1 := (oddI_nil _ _ _ _).mp (h _ hm)
    have hms := mem_stops h0 hal hp
    have hx : a + l ∈ stopsOf (sub ds a (a + l)) (allE ds ds.length) := (hms _).mpr ⟨hal, by exact (LI2 (.le V0 (.a V1 V0))), by rw [show a + l - l = a by exact (LI2 (.eq (.s (.a V0 V1) V1) V0))]; exact EqI.refl _ _⟩
    have hy : c + l ∈ stopsOf (sub ds a (a + l)) (allE ds ds.length) := (hms _).mpr ⟨hcl, by exact (LI2 (.le V0 (.a V1 V0))), by rw [show c + l - l = c by exact (LI2 (.eq (.s (.a V0 V1) V1) V0))]; exact hE.symm⟩
    obtain ⟨k, k1, k2, k3⟩ := neighbours (stops_all (p := sub ds a (a + l)) _ (Nat.le_refl ds.length)).1 hx hy (by exact (LI3 (.im (.lt V0 V1) (.lt (.a V0 V2) (.a V1 V2)))) hac) fun z hz hzz => by
      obtain ⟨z1, z2, z3⟩ := (hms z).mp hz
      exact hno (z - l) (by exact (LI3 (.im (.lt (.a V0 V1) V2) (.lt V0 (.s V2 V1)))) hzz.1) (by exact (LI3 (.im (.lt V0 (.a V1 V2)) (.im (.le V2 V0) (.lt (.s V0 V2) V1)))) hzz.2 z2) z3.symm
    have := h1 k (by dsimp only; exact (LI2 (.im (.lt (.a V0 O1) V1) (.lt V0 (.s V1 O1)))) k1)
    dsimp only at this
    rw [k2, k3, sub_len' hal, show a + l - (a + l - a) = a by exact (LI2 (.eq (.s (.a V0 V1) (.s (.a V0 V1) V0)) V0))] at this
    exact (sub_pal hcl (by exact (LI3 (.im (.lt V0 V1) (.le V0 (.a V1 V2)))) hac)).mp this
  · intro h
    refine ⟨rfl, fun e he => (oddI_nil _ _ _ _).mpr fun k hk => ?_⟩
    obtain ⟨a, j, h1, h2, hp, rfl⟩ := (allE_mem _ (Nat.le_refl _) e).mp he
    dsimp only at hk ⊢
    obtain ⟨l, rfl⟩ : ∃ l, j = a + l := ⟨j - a, by exact (LI2 (.im (.lt V0 V1) (.eq V1 (.a V0 (.s V1 V0))))) h1⟩
    have hms := mem_stops (ds := ds) (by exact (LI2 (.im (.lt V0 (.a V0 V1)) (.lt O0 V1))) h1) h2 hp
    have hst := (stops_all (p := sub ds a (a + l)) _ (Nat.le_refl ds.length)).1
    obtain ⟨st, hste⟩ : ∃ st, stopsOf (sub ds a (a + l)) (allE ds ds.length) = st := ⟨_, rfl⟩
    rw [hste] at hk hst hms ⊢
    have hk1 : k < st.length := by exact (LI2 (.im (.lt V0 (.s V1 O1)) (.lt V0 V1))) hk
    have hk2 : k + 1 < st.length := by exact (LI2 (.im (.lt V0 (.s V1 O1)) (.lt (.a V0 O1) V1))) hk
    have hg1 : st.getD k 0 = st[k] := by rw [List.getD_eq_getElem?_getD, List.getElem?_eq_getElem hk1, Option.getD_some]
    have hg2 : st.getD (k + 1) 0 = st[k + 1] := by rw [List.getD_eq_getElem?_getD, List.getElem?_eq_getElem hk2, Option.getD_some]
    have hlt := List.pairwise_iff_getElem.mp hst k (k + 1) hk1 hk2 (Nat.lt_succ_self _)
    obtain ⟨x1, x2, x3⟩ := (hms _).mp (List.getElem_mem hk1)
    obtain ⟨y1, y2, y3⟩ := (hms _).mp (List.getElem_mem hk2)
    rw [hg1, hg2, sub_len' h2, show a + l - a = l by exact (LI2 (.eq (.s (.a V0 V1) V0) V1))]
    refine (sub_pal y1 (by exact (LI3 (.im (.lt V0 V1) (.le (.s V0 V2) V1))) hlt)).mpr ?_
    have hpx : PalI (at' ds) (st[k] - l) (st[k] - l + l) := x3.symm.pal hp
    have := h (st[k] - l) (st[k + 1] - l) l (by exact (LI2 (.im (.lt V0 (.a V0 V1)) (.lt O0 V1))) h1) (by exact (LI3 (.im (.lt V0 V1) (.im (.le V2 V0) (.lt (.s V0 V2) (.s V1 V2))))) hlt x2) (by exact (LI3 (.im (.le V0 V1) (.im (.le V1 V2) (.le (.a (.s V1 V0) V0) V2)))) y2 y1) hpx (x3.trans y3.symm) fun z z1 z2 z3 => by
      have hz : z + l ∈ st := (hms _).mpr ⟨(LI4 (.im (.lt V0 (.s V1 V2)) (.im (.le V1 V3) (.le (.a V0 V2) V3)))) z2 y1, by exact (LI2 (.le V0 (.a V1 V0))), by rw [show z + l - l = z by exact (LI2 (.eq (.s (.a V0 V1) V1) V0))]; exact z3.symm.trans x3⟩
      obtain ⟨i, hi, e⟩ := List.mem_iff_getElem.mp hz
      rcases Nat.lt_or_ge i (k + 1) with q | q
      · have : st[i] ≤ st[k] := by
          rcases Nat.eq_or_lt_of_le (Nat.le_of_lt_succ q) with r | r
          · subst r; exact Nat.le_refl _
          · exact Nat.le_of_lt (List.pairwise_iff_getElem.mp hst i k hi hk1 r)
        exact (LI4 (.im (.lt (.s V0 V1) V2) (.im (.eq V3 (.a V2 V1)) (.im (.le V3 V0) .ff)))) z1 e this
      · have : st[k + 1] ≤ st[i] := by
          rcases Nat.eq_or_lt_of_le q with r | r
          · subst r; exact Nat.le_refl _
          · exact Nat.le_of_lt (List.pairwise_iff_getElem.mp hst (k + 1) i hk2 hi r)
        exact (LI4 (.im (.lt V0 (.s V1 V2)) (.im (.eq V3 (.a V0 V2)) (.im (.le V1 V3) .ff)))) z2 e this
    rwa [show st[k + 1] - l + l = st[k + 1] by exact (LI2 (.im (.le V0 V1) (.eq (.a (.s V1 V0) V0) V1))) y2] at this
theorem names_row (hd : D3 ds) : (tko ds (allE ds ds.length).length (allE ds ds.length) [] []).1 = rowOf ds ds.length := by
  have hD : ∀ e ∈ allE ds ds.length, D3 e.1 := fun e he => by
    obtain ⟨b, j, _, _, _, rfl⟩ := (allE_mem _ (Nat.le_refl _) e).mp he
    exact sub_D3 hd _ _
  obtain ⟨h1, h2⟩ := tko_names ds _ (allE ds ds.length) [] [] (Nat.le_refl _) List.Pairwise.nil hD fun _ _ h => by cases h
  refine ss_ext h1 (row_sorted ds _) fun x => ?_
  rw [h2, row_mem]
  constructor
  · rintro (h | ⟨e, he, rfl⟩)
    · cases h
    · obtain ⟨j, j1, j2, j3⟩ := pal_stop ((names_pal e.1).mp ⟨e, he, rfl⟩)
      exact ⟨j, j1, j2, by rw [j3]⟩
  · rintro ⟨j, j1, j2, rfl⟩
    obtain ⟨e, he, e1⟩ := (names_pal _).mpr (stop_pal (ds := ds) j1 j2)
    exact .inr ⟨e, he, by rw [e1]⟩
end
end Mine
end
section
namespace Mine
section
variable {ds : List Nat}
theorem grow_mem (ds : List Nat) : ∀ lf r f p, p ∈ grow ds lf r f ↔ p ∈ f ∨ ∃ k, 1 ≤ k ∧ k ≤ lf ∧ r + k ≤ ds.length ∧ (∀ i < k, at' ds (lf - 1 - i) = at' ds (r + i)) ∧ p = sub ds (lf - k) (r + k) := fun lf => by
  induction lf with
  | zero => exact fun r f p => ⟨.inl, fun h => h.elim id fun h => h.elim fun k h => absurd (Nat.le_trans h.1 h.2.1) (by decide)⟩
  | succ lf ih =>
    intro r f p
    show p ∈ (if _ then _ else _) ↔ _
    by_cases q : r < ds.length ∧ ds.getD lf 0 = ds.getD r 0
    · rw [if_pos q, ih (r + 1)]
      have hin : ∀ x, x ∈ (if sub ds lf (r + 1) ∈ f then f else f ++ [sub ds lf (r + 1)]) ↔ x ∈ f ∨ x = sub ds lf (r + 1) := fun x => by
        split
        · rename_i h
          exact ⟨.inl, fun z => z.elim id fun z => z ▸ h⟩
        · rw [List.mem_append, List.mem_singleton]
      rw [hin]
      constructor
      · rintro ((h | h) | ⟨k, h1, h2, h3, h4, h5⟩)
        · exact .inl h
        · refine .inr ⟨1, Nat.le_refl _, by exact (LI1 (.le O1 (.a V0 O1))), by exact (LI2 (.im (.lt V0 V1) (.le (.a V0 O1) V1))) q.1, fun i hi => ?_, by rw [h]; rfl⟩
          rw [show i = 0 by exact (LI1 (.im (.lt V0 O1) (.eq V0 O0))) hi]; exact q.2
        · refine .inr ⟨k + 1, by exact (LI1 (.le O1 (.a V0 O1))), by exact (LI2 (.im (.le V0 V1) (.le (.a V0 O1) (.a V1 O1)))) h2, by exact (LI3 (.im (.le (.a (.a V0 O1) V1) V2) (.le (.a V0 (.a V1 O1)) V2))) h3, fun i hi => ?_, by rw [h5]; congr 1 <;> (first | exact (LI2 (.eq (.s V0 V1) (.s (.a V0 O1) (.a V1 O1)))) | exact (LI2 (.eq (.a (.a V0 O1) V1) (.a V0 (.a V1 O1)))))⟩
          by_cases z : i = 0
          · subst z; exact q.2
          · have := h4 (i - 1) (by exact (LI2 (.im (.le O1 V0) (.im (.lt V1 (.a V0 O1)) (.lt (.s V1 O1) V0)))) h1 hi)
            rwa [show lf - 1 - (i - 1) = lf + 1 - 1 - i by exact (LI2 (.im (.im (.eq V0 O0) .ff) (.eq (.s (.s V1 O1) (.s V0 O1)) (.s (.s (.a V1 O1) O1) V0)))) z, show r + 1 + (i - 1) = r + i by exact (LI2 (.im (.im (.eq V0 O0) .ff) (.eq (.a (.a V1 O1) (.s V0 O1)) (.a V1 V0)))) z] at this
      · rintro (h | ⟨k, h1, h2, h3, h4, h5⟩)
        · exact .inl (.inl h)
        · by_cases z : k = 1
          · subst z; exact .inl (.inr (by rw [h5]; rfl))
          · refine .inr ⟨k - 1, by exact (LI1 (.im (.le O1 V0) (.im (.im (.eq V0 O1) .ff) (.le O1 (.s V0 O1))))) h1 z, by exact (LI2 (.im (.le V0 (.a V1 O1)) (.le (.s V0 O1) V1))) h2, by exact (LI3 (.im (.le (.a V0 V1) V2) (.im (.le O1 V1) (.le (.a (.a V0 O1) (.s V1 O1)) V2)))) h3 h1, fun i hi => ?_, by rw [h5]; congr 1 <;> (first | exact (LI2 (.im (.le O1 V0) (.eq (.s (.a V1 O1) V0) (.s V1 (.s V0 O1))))) h1 | exact (LI2 (.im (.le O1 V0) (.eq (.a V1 V0) (.a (.a V1 O1) (.s V0 O1))))) h1)⟩
            have := h4 (i + 1) (by exact (LI2 (.im (.lt V0 (.s V1 O1)) (.lt (.a V0 O1) V1))) hi)
            rwa [show lf + 1 - 1 - (i + 1) = lf - 1 - i by exact (LI2 (.eq (.s (.s (.a V0 O1) O1) (.a V1 O1)) (.s (.s V0 O1) V1))), show r + (i + 1) = r + 1 + i by exact (LI2 (.eq (.a V0 (.a V1 O1)) (.a (.a V0 O1) V1)))] at this
    · rw [if_neg q]
      refine ⟨.inl, fun h => h.elim id fun h => ?_⟩
      obtain ⟨k, h1, h2, h3, h4, h5⟩ := h
      exact absurd ⟨Nat.lt_of_lt_of_le (Nat.lt_add_of_pos_right h1) h3, h4 0 h1⟩ q
theorem grow_nodup (ds : List Nat) : ∀ lf r f, f.Nodup → (grow ds lf r f).Nodup := fun lf => by
  induction lf with
  | zero => exact fun r f h => h
  | succ lf ih =>
    intro r f h
    show List.Nodup (if _ then _ else _)
    split
    · refine ih (r + 1) _ ?_
      split
      · exact h
      · rename_i hn
        rw [List.nodup_append]
        exact ⟨h, by simp, fun a ha b hb e => hn (by rw [← List.mem_singleton.mp hb, ← e]; exact ha)⟩
    · exact h
theorem outw_nodup (ds : List Nat) : ∀ n, (outw ds n).Nodup := fun n => Nat.rec List.Pairwise.nil (fun n ih => grow_nodup ds _ _ _ ih) n
theorem outw_mem (ds : List Nat) : ∀ n p, p ∈ outw ds n ↔ ∃ m < n, ∃ k, 1 ≤ k ∧ k ≤ m / 2 + 1 ∧ (m + 1) / 2 + k ≤ ds.length ∧ (∀ i < k, at' ds (m / 2 - i) = at' ds ((m + 1) / 2 + i)) ∧ p = sub ds (m / 2 + 1 - k) ((m + 1) / 2 + k) := fun n => by
  induction n with
  | zero => exact fun p => ⟨fun h => absurd h List.not_mem_nil, fun h => h.elim fun m h => absurd h.1 (Nat.not_lt_zero _)⟩
  | succ n ih =>
    intro p
    show p ∈ grow ds (n / 2 + 1) ((n + 1) / 2) (outw ds n) ↔ _
    rw [grow_mem, ih p]
    constructor
    · rintro (⟨m, h1, h2⟩ | ⟨k, h2⟩)
      · exact ⟨m, by exact (LI2 (.im (.lt V0 V1) (.lt V0 (.a V1 O1)))) h1, h2⟩
      · exact ⟨n, Nat.lt_succ_self _, k, h2⟩
    · rintro ⟨m, h1, k, h2⟩
      by_cases z : m = n
      · subst z; exact .inr ⟨k, h2⟩
      · exact .inl ⟨m, by exact (LI2 (.im (.lt V0 (.a V1 O1)) (.im (.im (.eq V0 V1) .ff) (.lt V0 V1)))) h1 z, k, h2⟩
theorem outw_pal (ds : List Nat) (p : List Nat) : p ∈ outw ds (2 * ds.length - 1) ↔ IsPal ds p := by
  rw [outw_mem]
  constructor
  · rintro ⟨m, h1, k, h2, h3, h4, h5, rfl⟩
    refine ⟨m / 2 + 1 - k, (m + 1) / 2 + k, by exact (LI4 (.im (.dv V1 2 2) (.im (.dv (.a V1 O1) 2 3) (.im (.le O1 V0) (.lt (.s (.a V2 O1) V0) (.a V3 V0)))))) rfl rfl h2, h4, fun i hi1 hi2 => ?_, rfl⟩
    rcases Nat.lt_or_ge i (m / 2 + 1) with q | q
    · have := h5 (m / 2 - i) (by exact (LI4 (.im (.dv V0 2 1) (.im (.le (.s (.a V1 O1) V2) V3) (.im (.lt V3 (.a V1 O1)) (.lt (.s V1 V3) V2))))) rfl hi1 q)
      rw [show m / 2 - (m / 2 - i) = i by exact (LI3 (.im (.dv V1 2 2) (.im (.lt V0 (.a V2 O1)) (.eq (.s V2 (.s V2 V0)) V0)))) rfl q] at this
      rw [this]; congr 1; exact (LI5 (.im (.dv V1 2 2) (.im (.dv (.a V1 O1) 2 4) (.im (.lt V0 (.a V2 O1)) (.im (.le V3 (.a V2 O1)) (.eq (.a V4 (.s V2 V0)) (.s (.s (.a (.s (.a V2 O1) V3) (.a V4 V3)) O1) V0))))))) rfl rfl q h3
    · have := h5 (i - (m + 1) / 2) (by exact (LI4 (.im (.dv (.a V2 O1) 2 3) (.im (.le O1 V0) (.im (.lt V1 (.a V3 V0)) (.lt (.s V1 V3) V0))))) rfl h2 hi2)
      rw [show (m + 1) / 2 + (i - (m + 1) / 2) = i by exact (LI4 (.im (.dv V0 2 1) (.im (.dv (.a V0 O1) 2 3) (.im (.le (.a V1 O1) V2) (.eq (.a V3 (.s V2 V3)) V2))))) rfl rfl q] at this
      rw [← this]; congr 1; exact (LI5 (.im (.dv V1 2 2) (.im (.dv (.a V1 O1) 2 4) (.im (.le V0 (.a V2 O1)) (.im (.le (.a V2 O1) V3) (.eq (.s V2 (.s V3 V4)) (.s (.s (.a (.s (.a V2 O1) V0) (.a V4 V0)) O1) V3))))))) rfl rfl h3 q
  · rintro ⟨a, b, hab, hb, hp, rfl⟩
    refine ⟨a + b - 1, by exact (LI3 (.im (.lt V0 V1) (.im (.le V1 V2) (.lt (.s (.a V0 V1) O1) (.s (.m 2 V2) O1))))) hab hb, b - (a + b) / 2, by exact (LI3 (.im (.dv (.a V0 V1) 2 2) (.im (.lt V0 V1) (.le O1 (.s V1 V2))))) rfl hab, by exact (LI4 (.im (.dv (.a V1 V0) 2 2) (.im (.dv (.s (.a V1 V0) O1) 2 3) (.le (.s V0 V2) (.a V3 O1))))) rfl rfl, by exact (LI5 (.im (.dv (.a (.s (.a V0 V1) O1) O1) 2 3) (.im (.dv (.a V0 V1) 2 4) (.im (.lt V0 V1) (.im (.le V1 V2) (.le (.a V3 (.s V1 V4)) V2)))))) rfl rfl hab hb, fun i hi => ?_, ?_⟩
    · have := hp ((a + b - 1) / 2 - i) (by exact (LI5 (.im (.dv (.a V2 V1) 2 3) (.im (.dv (.s (.a V2 V1) O1) 2 4) (.im (.lt V0 (.s V1 V3)) (.le V2 (.s V4 V0)))))) rfl rfl hi) (by exact (LI4 (.im (.dv (.s (.a V0 V1) O1) 2 2) (.im (.lt V0 V1) (.lt (.s V2 V3) V1)))) rfl hab)
      rw [this, show a + b - 1 + 1 = a + b by exact (LI2 (.im (.lt V0 V1) (.eq (.a (.s (.a V0 V1) O1) O1) (.a V0 V1)))) hab]
      exact congrArg _ ((LI5 (.im (.eq (.a V2 V3) (.s (.a V0 V1) O1)) (.im (.lt V4 (.s V1 V2)) (.eq (.s (.s (.a V0 V1) O1) (.s V3 V4)) (.a V2 V4))))) ((LI4 (.im (.dv (.a V0 V1) 2 2) (.im (.dv (.s (.a V0 V1) O1) 2 3) (.im (.lt V0 V1) (.eq (.a V2 V3) (.s (.a V0 V1) O1)))))) rfl rfl hab) hi)
    · congr 1 <;> (first | exact (LI4 (.im (.dv (.s (.a V0 V1) O1) 2 2) (.im (.dv (.a V0 V1) 2 3) (.im (.lt V0 V1) (.eq V0 (.s (.a V2 O1) (.s V1 V3))))))) rfl rfl hab | exact (LI4 (.im (.dv (.a (.s (.a V0 V1) O1) O1) 2 2) (.im (.dv (.a V0 V1) 2 3) (.im (.lt V0 V1) (.eq V1 (.a V2 (.s V1 V3))))))) rfl rfl hab)
theorem row_words (ds : List Nat) : ∃ W : List (List Nat), W.map num = rowOf ds ds.length ∧ (∀ p ∈ W, IsPal ds p) := by
  have h : ∀ r : List Nat, (∀ x ∈ r, ∃ p, IsPal ds p ∧ num p = x) → ∃ W : List (List Nat), W.map num = r ∧ ∀ p ∈ W, IsPal ds p := by
    intro r
    induction r with
    | nil => exact fun _ => ⟨[], rfl, fun _ h => by cases h⟩
    | cons x r ih =>
      intro hx
      obtain ⟨p, h1, h2⟩ := hx x (.head _)
      obtain ⟨W, h3, h4⟩ := ih fun y hy => hx y (.tail _ hy)
      exact ⟨p :: W, by rw [List.map_cons, h2, h3], fun q hq => (List.mem_cons.mp hq).elim (fun e => e ▸ h1) (h4 q)⟩
  refine h _ fun x hx => ?_
  obtain ⟨j, h1, h2, h3⟩ := (row_mem ds _ x).mp hx
  exact ⟨lp ds j j, stop_pal h1 h2, h3.symm⟩
theorem isPal_D3 (hd : D3 ds) {p : List Nat} (h : IsPal ds p) : D3 p := by
  obtain ⟨a, b, _, _, _, rfl⟩ := h
  exact sub_D3 hd _ _
theorem isPal_len {p : List Nat} (h : IsPal ds p) : p ≠ [] ∧ p.length ≤ ds.length := by
  obtain ⟨a, b, h1, h2, _, rfl⟩ := h
  have := sub_len' (ds := ds) (a := a) h2
  refine ⟨fun e => ?_, by exact (LI4 (.im (.eq V0 (.s V1 V2)) (.im (.le V1 V3) (.le V0 V3)))) this h2⟩
  rw [e] at this
  simp at this; exact (LI2 (.im (.eq O0 (.s V0 V1)) (.im (.lt V1 V0) .ff))) this h1
theorem perm_nodup {α : Type} [DecidableEq α] : ∀ {a b : List α}, a.Nodup → b.Nodup → (∀ x, x ∈ a ↔ x ∈ b) → a.Perm b := fun {a} => by
  induction a with
  | nil =>
    intro b _ _ h
    cases b with
    | nil => exact List.Perm.refl _
    | cons y b => exact absurd ((h y).mpr (.head _)) List.not_mem_nil
  | cons x a ih =>
    intro b ha hb h
    obtain ⟨a1, a2⟩ := List.nodup_cons.mp ha
    have hx := (h x).mp (.head _)
    refine List.Perm.trans (List.Perm.cons x (ih a2 (hb.erase x) fun y => ?_)) (List.perm_cons_erase hx).symm
    rw [hb.mem_erase_iff]
    constructor
    · intro hy
      exact ⟨fun e => a1 (e ▸ hy), (h y).mp (.tail _ hy)⟩
    · rintro ⟨h1, h2⟩
      exact (List.mem_cons.mp ((h y).mpr h2)).resolve_left h1
theorem words_perm (hd : D3 ds) {W : List (List Nat)} (hW : W.map num = rowOf ds ds.length) (hp : ∀ p ∈ W, IsPal ds p) : W.Perm (outw ds (2 * ds.length - 1)) := by
  have hnd : W.Nodup := by
    have h1 : (W.map num).Nodup := by
      rw [hW]
      exact (row_sorted ds _).imp Nat.ne_of_lt
    exact List.Pairwise.imp (fun {a b} h e => h (by rw [e])) (List.pairwise_map.mp h1)
  refine perm_nodup hnd (outw_nodup ds _) fun p => ?_
  rw [outw_pal]
  refine ⟨hp p, fun h => ?_⟩
  obtain ⟨j, j1, j2, j3⟩ := pal_stop h
  have hm : num p ∈ W.map num := by
    rw [hW]
    exact (row_mem ds _ _).mpr ⟨j, j1, j2, by rw [← j3]⟩
  obtain ⟨q, hq, e⟩ := List.mem_map.mp hm
  rw [← num_inj (isPal_D3 hd (hp q hq)) (isPal_D3 hd h) e]
  exact hq
end
end Mine
end
section
namespace Mine
theorem chr_cases {d : Nat} (h : 1 ≤ d ∧ d ≤ 3) : chr d = 97 ∨ chr d = 34 ∨ chr d = 92 := by
  unfold chr
  split
  · exact .inl rfl
  · split
    · exact .inr (.inl rfl)
    · exact .inr (.inr rfl)
theorem gP_esc : ∀ (ds : List Nat) (r t : List Nat), gP (ds.flatMap (esc true) ++ r) t = gP r (t ++ ds.map chr) := fun ds => by
  induction ds with
  | nil => exact fun r t => by rw [List.map_nil, List.append_nil]; rfl
  | cons d ds ih =>
    intro r t
    show gP (92 :: chr d :: (ds.flatMap (esc true) ++ r)) t = _
    rw [gP_cons, if_neg (by decide), if_pos rfl]
    show gP (ds.flatMap (esc true) ++ r) (t ++ [chr d]) = _
    rw [ih r, List.append_assoc]; rfl
theorem gQ_esc : ∀ (ds : List Nat) (r t : List Nat), gQ (ds.flatMap (esc false) ++ r) t = gQ r (t ++ ds.map chr) := fun ds => by
  induction ds with
  | nil => exact fun r t => by rw [List.map_nil, List.append_nil]; rfl
  | cons d ds ih =>
    intro r t
    by_cases h : d = 1
    · subst h
      show gQ (97 :: (ds.flatMap (esc false) ++ r)) t = _
      rw [gQ_cons, if_neg (by decide), if_neg (by decide), ih r, List.append_assoc]; rfl
    · have e : (d :: ds).flatMap (esc false) ++ r = 92 :: chr d :: (ds.flatMap (esc false) ++ r) := by simp [esc, h]
      rw [e, gQ_cons, if_neg (by decide), if_pos rfl]
      show gQ (ds.flatMap (esc false) ++ r) (t ++ [chr d]) = _
      rw [ih r, List.append_assoc]; rfl
noncomputable def behind (b : Bool) : List Nat := if b then [101, 110, 100] else [32, 101, 110, 100]
theorem gO_word (b : Bool) {ds : List Nat} (hne : ds ≠ []) : gO (txt b ds) = (ds.map chr, behind b) := by
  cases b with
  | true =>
    obtain ⟨d, r, rfl⟩ := List.exists_cons_of_ne_nil hne
    have e : txt true (d :: r) = 92 :: chr d :: (r.flatMap (esc true) ++ [10, 101, 110, 100]) := by simp [txt, esc]
    rw [e, gO, if_neg (by decide), if_neg (by decide), if_pos rfl, List.tail_cons]
    show gP _ [chr d] = _
    rw [gP_esc, gP_cons, if_pos (by decide)]
    rfl
  | false =>
    have e : txt false ds = 34 :: (ds.flatMap (esc false) ++ [34, 32, 101, 110, 100]) := by simp [txt]
    rw [e, gO, if_neg (by decide), if_pos rfl, gQ_esc, gQ_cons, if_pos rfl]
    rfl
theorem gO_end (b : Bool) : gO (behind b) = ([101, 110, 100], []) := by cases b <;> decide
theorem txt_ok (b : Bool) {ds : List Nat} (hd : D3 ds) : ∀ c ∈ txt b ds, Okc c := by
  have h : ∀ b, ∀ c ∈ ds.flatMap (esc b), Okc c := fun b c hc => by
    obtain ⟨d, h1, h2⟩ := List.mem_flatMap.mp hc
    unfold esc at h2
    have h3 := chr_cases (hd d h1)
    split at h2
    · rw [List.mem_singleton.mp h2]; unfold Okc; simp
    · rcases List.mem_cons.mp h2 with rfl | h2
      · unfold Okc; simp
      · rw [List.mem_singleton.mp h2]
        rcases h3 with e | e | e <;> rw [e] <;> unfold Okc <;> simp
  intro c hc
  unfold txt at hc
  cases b with
  | true =>
    rw [if_pos rfl] at hc
    rcases List.mem_append.mp hc with hc | hc
    · exact h _ c hc
    · unfold Okc; simp at hc ⊢; exact (LI1 (.im (.or (.eq V0 OX) (.or (.eq V0 (.n 101)) (.or (.eq V0 (.n 110)) (.eq V0 (.n 100))))) (.or (.eq V0 (.n 97)) (.or (.eq V0 (.n 34)) (.or (.eq V0 (.n 92)) (.or (.eq V0 OX) (.or (.eq V0 (.n 32)) (.or (.eq V0 (.n 101)) (.or (.eq V0 (.n 110)) (.eq V0 (.n 100))))))))))) hc
  | false =>
    rw [if_neg (by decide)] at hc
    rcases List.mem_append.mp hc with hc | hc
    · rcases List.mem_append.mp hc with hc | hc
      · rw [List.mem_singleton.mp hc]; unfold Okc; simp
      · exact h _ c hc
    · unfold Okc; simp at hc ⊢; exact (LI1 (.im (.or (.eq V0 (.n 34)) (.or (.eq V0 (.n 32)) (.or (.eq V0 (.n 101)) (.or (.eq V0 (.n 110)) (.eq V0 (.n 100)))))) (.or (.eq V0 (.n 97)) (.or (.eq V0 (.n 34)) (.or (.eq V0 (.n 92)) (.or (.eq V0 OX) (.or (.eq V0 (.n 32)) (.or (.eq V0 (.n 101)) (.or (.eq V0 (.n 110)) (.eq V0 (.n 100))))))))))) hc
noncomputable def palB (y : List Nat) : Bool := y == y.reverse
noncomputable def heads (z : List Nat) : List (List Nat) := ((List.range z.length).map fun k => z.take (k + 1)).filter palB
noncomputable def tails (z : List Nat) : List (List Nat) := ((List.range z.length).map fun k => z.drop k).filter palB
theorem filter_last (f : Nat → List Nat) (P : List Nat → Bool) (k0 : Nat) (hP : P (f k0) = true) : ∀ m, k0 < m → (∀ k, k0 < k → k < m → P (f k) = false) → ∃ i, ((List.range m).map f).filter P = i ++ [f k0] := fun m => by
  induction m with
  | zero => exact fun h => absurd h (Nat.not_lt_zero _)
  | succ m ih =>
    intro h hn
    rw [List.range_succ, List.map_append, List.filter_append]
    by_cases q : k0 = m
    · subst q
      exact ⟨((List.range k0).map f).filter P, by simp [hP]⟩
    · obtain ⟨i, e⟩ := ih (by exact (LI2 (.im (.lt V0 (.a V1 O1)) (.im (.im (.eq V0 V1) .ff) (.lt V0 V1)))) h q) fun k h1 h2 => hn k h1 (by exact (LI2 (.im (.lt V0 V1) (.lt V0 (.a V1 O1)))) h2)
      refine ⟨i, ?_⟩
      rw [e]
      simp [hn m (by exact (LI2 (.im (.lt V0 (.a V1 O1)) (.im (.im (.eq V0 V1) .ff) (.lt V0 V1)))) h q) (Nat.lt_succ_self _)]
theorem filter_none (f : Nat → List Nat) (P : List Nat → Bool) : ∀ m, (∀ k < m, P (f k) = false) → ((List.range m).map f).filter P = [] := fun m => by
  induction m with
  | zero => exact fun _ => rfl
  | succ m ih =>
    intro h
    rw [List.range_succ, List.map_append, List.filter_append, ih fun k hk => h k (by exact (LI2 (.im (.lt V0 V1) (.lt V0 (.a V1 O1)))) hk)]
    simp [h m (Nat.lt_succ_self _)]
theorem filter_first (f : Nat → List Nat) (P : List Nat → Bool) (k0 : Nat) (hP : P (f k0) = true) (hn : ∀ k < k0, P (f k) = false) : ∀ m, k0 < m → ∃ i, ((List.range m).map f).filter P = f k0 :: i := fun m => by
  induction m with
  | zero => exact fun h => absurd h (Nat.not_lt_zero _)
  | succ m ih =>
    intro h
    rw [List.range_succ, List.map_append, List.filter_append]
    by_cases q : k0 = m
    · subst q
      rw [filter_none f P k0 hn]
      exact ⟨[], by simp [hP]⟩
    · obtain ⟨i, e⟩ := ih (by exact (LI2 (.im (.lt V0 (.a V1 O1)) (.im (.im (.eq V0 V1) .ff) (.lt V0 V1)))) h q)
      exact ⟨i ++ ([m].map f).filter P, by rw [e]; rfl⟩
section
variable {ds : List Nat}
theorem palB_iff {a b : Nat} (hb : b ≤ ds.length) (hab : a ≤ b) : palB (sub ds a b) = true ↔ PalI (at' ds) a b := by
  rw [← sub_pal hb hab]
  unfold palB
  exact ⟨fun h => eq_of_beq h, fun h => by rw [← h]; exact beq_self_eq_true _⟩
theorem palB_not {a b : Nat} (hb : b ≤ ds.length) (hab : a ≤ b) (h : ¬PalI (at' ds) a b) : palB (sub ds a b) = false := by
  cases e : palB (sub ds a b) with
  | false => rfl
  | true => exact absurd ((palB_iff hb hab).mp e) h
theorem take_sub {a b k : Nat} (h : a + k ≤ b) : (sub ds a b).take k = sub ds a (a + k) := by
  unfold sub
  rw [List.take_drop, List.take_take, Nat.min_eq_left h]
theorem drop_sub {a b k : Nat} : (sub ds a b).drop k = sub ds (a + k) b := by
  unfold sub
  rw [List.drop_drop]
theorem heads_last {a b q : Nat} (hb : b ≤ ds.length) (L : Lpp (at' ds) a b q) : ∃ i, heads (sub ds a b) = i ++ [sub ds a (a + q)] := by
  have h1 := L.pos; have h2 := L.le
  unfold heads
  rw [sub_len' hb]
  obtain ⟨i, e⟩ := filter_last (fun k => (sub ds a b).take (k + 1)) palB (q - 1) (by
    show palB ((sub ds a b).take (q - 1 + 1)) = true
    rw [show q - 1 + 1 = q by exact (LI1 (.im (.lt O0 V0) (.eq (.a (.s V0 O1) O1) V0))) h1, take_sub h2]
    exact (palB_iff (by exact (LI4 (.im (.le (.a V0 V1) V2) (.im (.le V2 V3) (.le (.a V0 V1) V3)))) h2 hb) (by exact (LI2 (.le V0 (.a V0 V1))))).mpr L.pal) (b - a) (by exact (LI3 (.im (.le (.a V0 V1) V2) (.im (.lt O0 V1) (.lt (.s V1 O1) (.s V2 V0))))) h2 h1) (fun k k1 k2 => by
    show palB ((sub ds a b).take (k + 1)) = false
    rw [take_sub (by exact (LI3 (.im (.lt V0 (.s V1 V2)) (.le (.a V2 (.a V0 O1)) V1))) k2)]
    refine palB_not (by exact (LI4 (.im (.lt V0 (.s V1 V2)) (.im (.le V1 V3) (.le (.a V2 (.a V0 O1)) V3)))) k2 hb) (by exact (LI2 (.le V0 (.a V0 (.a V1 O1))))) fun z => ?_
    have := L.long (k + 1) (by exact (LI3 (.im (.lt V0 (.s V1 V2)) (.le (.a V0 O1) (.s V1 V2)))) k2) z
    exact (LI2 (.im (.le (.a V0 O1) V1) (.im (.lt (.s V1 O1) V0) .ff))) this k1)
  refine ⟨i, e.trans ?_⟩
  show i ++ [(sub ds a b).take (q - 1 + 1)] = _
  rw [show q - 1 + 1 = q by exact (LI1 (.im (.lt O0 V0) (.eq (.a (.s V0 O1) O1) V0))) h1, take_sub h2]
theorem tails_first {a b q : Nat} (hb : b ≤ ds.length) (L : Lps (at' ds) a b q) : ∃ i, tails (sub ds a b) = sub ds (b - q) b :: i := by
  have h1 := L.pos; have h2 := L.le
  unfold tails
  rw [sub_len' hb]
  have e0 : a + (b - a - q) = b - q := by exact (LI3 (.im (.le (.a V0 V1) V2) (.eq (.a V0 (.s (.s V2 V0) V1)) (.s V2 V1)))) h2
  obtain ⟨i, e⟩ := filter_first (fun k => (sub ds a b).drop k) palB (b - a - q) (by
    show palB ((sub ds a b).drop (b - a - q)) = true
    rw [drop_sub, e0]
    exact (palB_iff hb (by exact (LI2 (.le (.s V0 V1) V0)))).mpr L.pal) (fun k k1 => by
    show palB ((sub ds a b).drop k) = false
    rw [drop_sub]
    refine palB_not hb (by exact (LI4 (.im (.lt V0 (.s (.s V1 V2) V3)) (.le (.a V2 V0) V1))) k1) fun z => ?_
    have := L.long (b - (a + k)) (by exact (LI3 (.le (.s V0 (.a V1 V2)) (.s V0 V1)))) (by rwa [show b - (b - (a + k)) = a + k by exact (LI4 (.im (.lt V0 (.s (.s V1 V2) V3)) (.eq (.s V1 (.s V1 (.a V2 V0))) (.a V2 V0)))) k1])
    exact (LI4 (.im (.le (.s V0 (.a V1 V2)) V3) (.im (.lt V2 (.s (.s V0 V1) V3)) .ff))) this k1) (b - a) (by exact (LI3 (.im (.le (.a V0 V1) V2) (.im (.lt O0 V1) (.lt (.s (.s V2 V0) V1) (.s V2 V0))))) h2 h1)
  refine ⟨i, e.trans ?_⟩
  show (sub ds a b).drop (b - a - q) :: i = _
  rw [drop_sub, e0]
theorem lpp_ex (w : Nat → Nat) {a b : Nat} (h : a < b) : ∃ q, Lpp w a b q := by
  obtain ⟨k, hk, pk, mk⟩ := last_of (fun k => PalI w a (a + k)) (b - a + 1) ⟨1, by exact (LI2 (.im (.lt V0 V1) (.lt O1 (.a (.s V1 V0) O1)))) h, pal_one a⟩
  refine ⟨k, ?_, by exact (LI3 (.im (.lt V0 (.a (.s V1 V2) O1)) (.im (.lt V2 V1) (.le (.a V2 V0) V1)))) hk h, pk, fun i h1 h2 => ?_⟩
  · rcases Nat.eq_zero_or_pos k with e | e
    · exact absurd (pal_one a) (mk 1 (by exact (LI1 (.im (.eq V0 O0) (.lt V0 O1))) e) (by exact (LI2 (.im (.lt V0 V1) (.lt O1 (.a (.s V1 V0) O1)))) h))
    · exact e
  · rcases Nat.lt_or_ge k i with h3 | h3
    · exact absurd h2 (mk i h3 (by exact (LI3 (.im (.le V0 (.s V1 V2)) (.lt V0 (.a (.s V1 V2) O1)))) h1))
    · exact h3
noncomputable def headOf (z : List Nat) : List Nat := (heads z).getLastD []
noncomputable def tailOf (z : List Nat) : List Nat := (tails z).headD []
theorem headOf_eq {a b q : Nat} (hb : b ≤ ds.length) (L : Lpp (at' ds) a b q) : headOf (sub ds a b) = sub ds a (a + q) := by
  obtain ⟨i, e⟩ := heads_last hb L
  unfold headOf; rw [e]; simp
theorem tailOf_eq {a b q : Nat} (hb : b ≤ ds.length) (L : Lps (at' ds) a b q) : tailOf (sub ds a b) = sub ds (b - q) b := by
  obtain ⟨i, e⟩ := tails_first hb L
  unfold tailOf; rw [e]; rfl
theorem alone_iff (ds : List Nat) : Alone (at' ds) ds.length ↔ ∀ a b c d, a < b → b ≤ ds.length → c < d → d ≤ ds.length → headOf (sub ds a b) = headOf (sub ds c d) → tailOf (sub ds a b) = tailOf (sub ds c d) → sub ds a b = sub ds c d := by
  constructor
  · intro h a b c d hab hb hcd hd e1 e2
    obtain ⟨p, L1⟩ := lpp_ex (at' ds) hab
    obtain ⟨p', L2⟩ := lpp_ex (at' ds) hcd
    obtain ⟨q, M1⟩ := lps_ex (at' ds) hab
    obtain ⟨q', M2⟩ := lps_ex (at' ds) hcd
    have l1 := L1.le; have l2 := L2.le; have m1 := M1.le; have m2 := M2.le
    rw [headOf_eq hb L1, headOf_eq hd L2] at e1
    rw [tailOf_eq hb M1, tailOf_eq hd M2] at e2
    obtain ⟨f1, f2⟩ := (sub_eq_iff (by exact (LI4 (.im (.le (.a V0 V1) V2) (.im (.le V2 V3) (.le (.a V0 V1) V3)))) l1 hb) (by exact (LI4 (.im (.le (.a V0 V1) V2) (.im (.le V2 V3) (.le (.a V0 V1) V3)))) l2 hd)).mp e1
    obtain ⟨f3, f4⟩ := (sub_eq_iff hb hd).mp e2
    obtain rfl : p = p' := by exact (LI4 (.im (.eq (.s (.a V0 V1) V0) (.s (.a V2 V3) V2)) (.eq V1 V3))) f1
    obtain rfl : q = q' := by exact (LI6 (.im (.le (.a V0 V1) V2) (.im (.le (.a V3 V4) V5) (.im (.eq (.s V2 (.s V2 V1)) (.s V5 (.s V5 V4))) (.eq V1 V4))))) m1 m2 f3
    obtain ⟨g1, g2⟩ := h a b c d p q hb hd L1 L2 (by rwa [show a + p - a = p by exact (LI2 (.eq (.s (.a V0 V1) V0) V1))] at f2) M1 M2 (by rwa [show b - (b - q) = q by exact (LI4 (.im (.le (.a V0 V1) V2) (.im (.eq (.s V3 (.s V3 V1)) (.s V2 (.s V2 V1))) (.eq (.s V3 (.s V3 V1)) V1)))) m2 f3] at f4)
    exact (sub_eq_iff hb hd).mpr ⟨g1, g2⟩
  · intro h a b c d p q hb hd L1 L2 hE M1 M2 hF
    have l1 := L1.le; have l2 := L2.le; have m1 := M1.le; have m2 := M2.le; have p0 := L1.pos
    have := h a b c d (by exact (LI3 (.im (.le (.a V0 V1) V2) (.im (.lt O0 V1) (.lt V0 V2)))) l1 p0) hb (by exact (LI3 (.im (.le (.a V0 V1) V2) (.im (.lt O0 V1) (.lt V0 V2)))) l2 p0) hd
      (by rw [headOf_eq hb L1, headOf_eq hd L2]; exact (sub_eq_iff (by exact (LI4 (.im (.le (.a V0 V1) V2) (.im (.le V2 V3) (.le (.a V0 V1) V3)))) l1 hb) (by exact (LI4 (.im (.le (.a V0 V1) V2) (.im (.le V2 V3) (.le (.a V0 V1) V3)))) l2 hd)).mpr ⟨by exact (LI3 (.eq (.s (.a V0 V1) V0) (.s (.a V2 V1) V2))), by rw [show a + p - a = p by exact (LI2 (.eq (.s (.a V0 V1) V0) V1))]; exact hE⟩)
      (by rw [tailOf_eq hb M1, tailOf_eq hd M2]; exact (sub_eq_iff hb hd).mpr ⟨by exact (LI5 (.im (.le (.a V0 V1) V2) (.im (.le (.a V3 V1) V4) (.eq (.s V4 (.s V4 V1)) (.s V2 (.s V2 V1)))))) m2 m1, by rw [show b - (b - q) = q by exact (LI3 (.im (.le (.a V0 V1) V2) (.eq (.s V2 (.s V2 V1)) V1))) m1]; exact hF⟩)
    exact (sub_eq_iff hb hd).mp this
theorem full_odd (hd : D3 ds) : (rowOf ds ds.length).length = ds.length ↔ (tko ds (allE ds ds.length).length (allE ds ds.length) [] []).2 = [] := by
  rw [full_iff hd, odd_iff]
  exact ⟨cr_of_rich, rich_of_cr⟩
theorem full_alone (hd : D3 ds) : (rowOf ds ds.length).length = ds.length ↔ Alone (at' ds) ds.length := by
  rw [full_iff hd]
  exact ⟨fun h => alone_of_cr (cr_of_rich h), fun h => rich_of_cr (cr_of_alone h)⟩
end
end Mine
end
section
namespace Mine
section
variable {K α : Type} [DecidableEq K] (lt : K → K → Bool)
structure Order : Prop where
  irr : ∀ a, lt a a = false
  trans : ∀ a b c, lt a b = true → lt b c = true → lt a c = true
  tot : ∀ a b, lt a b = true ∨ a = b ∨ lt b a = true
noncomputable def blK (r : List K) (x : K) : Nat := bis (fun i => (r[i]?).any fun y => lt y x) r.length 0 r.length
noncomputable def insK (r : List K) (x : K) : List K := r.take (blK lt r x) ++ x :: r.drop (blK lt r x)
noncomputable def shr (key : α → K) : List α → List K → List α → List α
  | [], _, sh => sh
  | p :: ps, r, sh => shr key ps (insK lt r (key p)) (if blK lt r (key p) < r.length ∧ r[blK lt r (key p)]? = some (key p) then sh ++ [p] else sh)
noncomputable def SortK (r : List K) : Prop := r.Pairwise fun a b => lt b a = false
variable {lt}
theorem blK_border (O : Order lt) {r : List K} (h : SortK lt r) (x : K) : blK lt r x ≤ r.length ∧ (∀ i (hi : i < r.length), i < blK lt r x → lt r[i] x = true) ∧ ∀ i (hi : i < r.length), blK lt r x ≤ i → lt r[i] x = false := by
  have hget : ∀ i (hi : i < r.length), ((r[i]?).any fun y => lt y x) = lt r[i] x := fun i hi => by rw [List.getElem?_eq_getElem hi]; rfl
  obtain ⟨a, b, c⟩ := bis_border (fun i => (r[i]?).any fun y => lt y x) r.length (fun i j h1 h2 h3 => by
    have hi : i < r.length := by exact (LI3 (.im (.lt V0 V1) (.im (.le V2 V0) (.lt V2 V1)))) h2 h1
    show ((r[i]?).any fun y => lt y x) = true
    have h3 : ((r[j]?).any fun y => lt y x) = true := h3
    rw [hget j h2] at h3
    rw [hget i hi]
    rcases Nat.eq_or_lt_of_le h1 with e | e
    · subst e; exact h3
    · have h4 := List.pairwise_iff_getElem.mp h i j hi h2 e
      rcases O.tot r[i] r[j] with q | q | q
      · exact O.trans _ _ _ q h3
      · rw [q]; exact h3
      · rw [q] at h4; cases h4) r.length 0 r.length (Nat.zero_le _) (Nat.le_refl _) (by exact (LI1 (.le (.s V0 O0) V0))) (fun i q => absurd q (Nat.not_lt_zero _)) (fun i q1 q2 => absurd q2 (by exact (LI2 (.im (.le V0 V1) (.im (.lt V1 V0) .ff))) q1))
  exact ⟨a, fun i hi q => by have : ((r[i]?).any fun y => lt y x) = true := b i q; rwa [hget i hi] at this, fun i hi q => by have : ((r[i]?).any fun y => lt y x) = false := c i q hi; rwa [hget i hi] at this⟩
theorem memK (O : Order lt) {r : List K} (h : SortK lt r) (x : K) : (blK lt r x < r.length ∧ r[blK lt r x]? = some x) ↔ x ∈ r := by
  obtain ⟨a, b, c⟩ := blK_border O h x
  constructor
  · rintro ⟨_, h2⟩
    exact List.mem_of_getElem? h2
  · intro hm
    obtain ⟨i, hi, e⟩ := List.mem_iff_getElem.mp hm
    have h1 : blK lt r x ≤ i := Nat.le_of_not_lt fun q => by
      have := b i hi q
      rw [e, O.irr] at this; cases this
    have h2 : blK lt r x < r.length := by exact (LI3 (.im (.lt V0 V1) (.im (.le V2 V0) (.lt V2 V1)))) hi h1
    refine ⟨h2, ?_⟩
    have h3 := c _ h2 (Nat.le_refl _)
    rcases Nat.eq_or_lt_of_le h1 with q | q
    · rw [q, List.getElem?_eq_getElem hi, e]
    · rw [List.getElem?_eq_getElem h2]
      have h4 := List.pairwise_iff_getElem.mp h _ i h2 hi q
      rw [e] at h4
      rcases O.tot r[blK lt r x] x with z | z | z
      · rw [z] at h3; cases h3
      · rw [z]
      · rw [z] at h4; cases h4
theorem mem_insK {r : List K} {x y : K} : y ∈ insK lt r x ↔ y ∈ r ∨ y = x := by
  unfold insK
  constructor
  · intro h
    rcases List.mem_append.mp h with h | h
    · exact .inl (List.mem_of_mem_take h)
    rcases List.mem_cons.mp h with h | h
    · exact .inr h
    · exact .inl (List.mem_of_mem_drop h)
  · rintro (h | h)
    · rw [← List.take_append_drop (blK lt r x) r] at h
      rcases List.mem_append.mp h with h | h
      · exact List.mem_append_left _ h
      · exact List.mem_append_right _ (.tail _ h)
    · exact List.mem_append_right _ (h ▸ .head _)
theorem sort_insK (O : Order lt) {r : List K} (h : SortK lt r) (x : K) : SortK lt (insK lt r x) := by
  obtain ⟨a, b, c⟩ := blK_border O h x
  have hs : SortK lt (r.take (blK lt r x) ++ r.drop (blK lt r x)) := by rw [List.take_append_drop]; exact h
  obtain ⟨p1, p2, p3⟩ := List.pairwise_append.mp hs
  refine List.pairwise_append.mpr ⟨p1, List.pairwise_cons.mpr ⟨fun y hy => ?_, p2⟩, fun y hy z hz => ?_⟩
  · obtain ⟨i, hi, e⟩ := List.mem_iff_getElem.mp hy
    rw [List.getElem_drop] at e
    rw [List.length_drop] at hi
    rw [← e]
    exact c _ (by exact (LI3 (.im (.lt V0 (.s V1 V2)) (.lt (.a V2 V0) V1))) hi) (by exact (LI2 (.le V0 (.a V0 V1))))
  · rcases List.mem_cons.mp hz with rfl | hz
    · obtain ⟨i, hi, e⟩ := List.mem_iff_getElem.mp hy
      rw [List.getElem_take] at e
      rw [List.length_take] at hi
      have h1 := b i (Nat.lt_of_lt_of_le hi (Nat.min_le_right _ _)) (by exact (LI3 (.im (.lt V0 (.mi V1 V2)) (.lt V0 V1))) hi)
      rw [e] at h1
      cases q : lt z y with
      | false => rfl
      | true => have := O.trans _ _ _ h1 q; rw [O.irr] at this; cases this
    · exact p3 y hy z hz
theorem shr_nil (O : Order lt) (key : α → K) : ∀ (ps : List α) (r : List K) (sh : List α), SortK lt r → (shr lt key ps r sh = [] ↔ sh = [] ∧ (∀ p ∈ ps, key p ∉ r) ∧ ps.Pairwise fun a b => key a ≠ key b) := fun ps => by
  induction ps with
  | nil => exact fun r sh h => ⟨fun e => ⟨e, fun _ q => absurd q List.not_mem_nil, List.Pairwise.nil⟩, fun e => e.1⟩
  | cons p ps ih =>
    intro r sh h
    show shr lt key ps _ (if _ then _ else _) = _ ↔ _
    rw [ih _ _ (sort_insK O h (key p))]
    have hm := memK O h (key p)
    constructor
    · rintro ⟨h1, h2, h3⟩
      have hn : key p ∉ r := fun q => by
        rw [if_pos (hm.mpr q)] at h1
        exact List.append_ne_nil_of_right_ne_nil _ (List.cons_ne_nil _ _) h1
      rw [if_neg fun q => hn (hm.mp q)] at h1
      refine ⟨h1, fun q hq => ?_, List.pairwise_cons.mpr ⟨fun q hq e => ?_, h3⟩⟩
      · rcases List.mem_cons.mp hq with rfl | hq
        · exact hn
        · exact fun z => h2 q hq (mem_insK.mpr (.inl z))
      · exact h2 q hq (mem_insK.mpr (.inr e.symm))
    · rintro ⟨h1, h2, h3⟩
      obtain ⟨h4, h5⟩ := List.pairwise_cons.mp h3
      rw [if_neg fun q => h2 p (.head _) (hm.mp q)]
      refine ⟨h1, fun q hq z => ?_, h5⟩
      rcases mem_insK.mp z with z | z
      · exact h2 q (.tail _ hq) z
      · exact h4 q hq z.symm
end
end Mine
end
section
open PySem PySem.W PyProof.Rows PySem.Calls PySem.Spec
namespace Mine
section
variable {prog : Program} {w : World} {A : Around} {s : Shared} {elt i1 i2 : Expr} {x1 x2 : Str} {p1 p2 : Pos} {scope : Scope} {pos : Pos} {it acc : Value} {env : Env} {R : Result → Shared → Prop}
noncomputable abbrev two (elt : Expr) (x1 : Str) (p1 : Pos) (i1 : Expr) (x2 : Str) (p2 : Pos) (i2 : Expr) (scope : Scope) (pos : Pos) : Expr := .ListComp elt [⟨.Name x1 p1, i1, [], 0⟩, ⟨.Name x2 p2, i2, [], 0⟩] scope pos
theorem comp2_inner (I : Nat → Shared → Prop)
    (turn : ∀ n s, I n s → wpAny (model prog w) A (pyNext it) (fun r s₁ => match r with
      | none => R (.ok .next) s₁
      | some v => wpAny (model prog w) A (assign (.Name x2 p2) env v) (fun _ s₂ => wpAny (model prog w) A (eval elt env) (fun x s₃ =>
            wpAny (model prog w) A (call (.builtin "list.append") [acc, x]) (fun _ s₄ => ∃ m, m < n ∧ I m s₄) (fun _ _ => False) s₃) (fun _ _ => False) s₂) (fun _ _ => False) s₁) (fun _ _ => False) s)
    (n : Nat) (h : I n s) :
    codeAny (model prog w) A (.compLoop (two elt x1 p1 i1 x2 p2 i2 scope pos) 1 it acc env) R s := by
  refine codeAny_loop rfl I (fun n s hI => ?_) n h
  show wpAny _ _ ((compTurn (two elt x1 p1 i1 x2 p2 i2 scope pos) 1 it acc env).onRaise (fun x => do noteFrame x env; theTreesLotGoes x)) _ _ s
  refine wpAny_noted ?_
  refine wpAny_mono (Q := fun fin s' => match fin with | .done f => R (.ok f) s' | .again c' => c' = Code.compLoop (two elt x1 p1 i1 x2 p2 i2 scope pos) 1 it acc env ∧ ∃ m, m < n ∧ I m s') ?_ (fun _ _ h => h) (fun _ _ (h : False) => h.elim)
  show wpAny _ _ (standAt i2.pos >>= fun _ => pyNext it >>= _) _ _ s
  refine wpAny_bind (wpAny_standAt (wpAny_bind (wpAny_mono (turn n s hI) (fun r s₁ h₁ => ?_) fun _ _ h' => h')))
  cases r with
  | none => exact wpAny_pure h₁
  | some v =>
    refine wpAny_bind (wpAny_of_eq (rfl : letOwnedTupleGo (.Name x2 p2) it v = pure ()) ?_)
    refine wpAny_bind (wpAny_mono h₁ (fun _ s₂ h₂ => ?_) fun _ _ h' => h')
    show wpAny _ A (_ >>= _) _ _ _
    refine wpAny_bind ?_
    show wpAny _ A (forIn [] true _) _ _ _
    rw [List.forIn_nil]
    refine wpAny_pure ?_
    rw [if_pos rfl]
    exact wpAny_bind (wpAny_bind (wpAny_mono h₂ (fun x s₄ h₄ => wpAny_bind (wpAny_mono h₄ (fun _ s₅ h₅ => wpAny_pure (wpAny_pure ⟨rfl, h₅⟩)) fun _ _ h' => h')) fun _ _ h' => h'))
theorem comp2_outer (I : Nat → Shared → Prop) (hh : A.handled = none)
    (hs : ∀ x, foldedSetIterable i2 env x = pure x)
    (turn : ∀ n s, I n s → wpAny (model prog w) A (pyNext it) (fun r s₁ => match r with
      | none => R (.ok .next) s₁
      | some v => wpAny (model prog w) A (assign (.Name x1 p1) env v) (fun _ s₂ => wpAny (model prog w) A (eval i2 env) (fun x s₃ =>
            wpAny (model prog w) A (pyIter x) (fun it2 s₄ => codeAny (model prog w) A (.compStart (two elt x1 p1 i1 x2 p2 i2 scope pos) 1 it2 acc env) (fun r s' => match r with | .ok _ => ∃ m, m < n ∧ I m s' | .error _ => False) s₄) (fun _ _ => False) s₃) (fun _ _ => False) s₂) (fun _ _ => False) s₁) (fun _ _ => False) s)
    (n : Nat) (h : I n s) :
    codeAny (model prog w) A (.compLoop (two elt x1 p1 i1 x2 p2 i2 scope pos) 0 it acc env) R s := by
  refine codeAny_loop rfl I (fun n s hI => ?_) n h
  show wpAny _ _ ((compTurn (two elt x1 p1 i1 x2 p2 i2 scope pos) 0 it acc env).onRaise (fun x => do noteFrame x env; theTreesLotGoes x)) _ _ s
  refine wpAny_noted ?_
  refine wpAny_mono (Q := fun fin s' => match fin with | .done f => R (.ok f) s' | .again c' => c' = Code.compLoop (two elt x1 p1 i1 x2 p2 i2 scope pos) 0 it acc env ∧ ∃ m, m < n ∧ I m s') ?_ (fun _ _ h => h) (fun _ _ (h : False) => h.elim)
  show wpAny _ _ (standAt i1.pos >>= fun _ => pyNext it >>= _) _ _ s
  refine wpAny_bind (wpAny_standAt (wpAny_bind (wpAny_mono (turn n s hI) (fun r s₁ h₁ => ?_) fun _ _ h' => h')))
  cases r with
  | none => exact wpAny_pure h₁
  | some v =>
    refine wpAny_bind (wpAny_of_eq (rfl : letOwnedTupleGo (.Name x1 p1) it v = pure ()) ?_)
    refine wpAny_bind (wpAny_mono h₁ (fun _ s₂ h₂ => ?_) fun _ _ h' => h')
    show wpAny _ A (_ >>= _) _ _ _
    refine wpAny_bind ?_
    show wpAny _ A (forIn [] true _) _ _ _
    rw [List.forIn_nil]
    refine wpAny_pure ?_
    rw [if_pos rfl]
    refine wpAny_bind ?_
    refine wpAny_mono h₂ (fun x s₃ h₃ => ?_) fun _ _ h' => h'
    show wpAny _ A (standAt i2.pos >>= fun _ => _) _ _ _
    refine wpAny_bind (wpAny_standAt (wpAny_bind ?_))
    show wpAny _ A (foldedSetIterable i2 env x) _ _ _
    refine wpAny_of_eq (hs x) ?_
    refine wpAny_bind (wpAny_holding (wpAny_mono h₃ (fun it2 s₄ h₄ => ?_) fun _ _ h' => h'))
    refine wpAny_bind (wpAny_runOwn ?_)
    rw [Around.mark_none]
    refine codeAny_mono h₄ fun r s' hr => ?_
    cases r with
    | ok f => exact wpAny_pure ⟨rfl, hr⟩
    | error e => exact hr.elim
theorem comp2_start
    (h0 : codeAny (model prog w) A (.compLoop (two elt x1 p1 i1 x2 p2 i2 scope pos) 1 it acc env) R s)
    (h : wpAny (model prog w) A (pyIter it) (fun it' s' => codeAny (model prog w) A (.compLoop (two elt x1 p1 i1 x2 p2 i2 scope pos) 1 it' acc env) R s')
      (fun _ _ => False) s) :
    codeAny (model prog w) A (.compStart (two elt x1 p1 i1 x2 p2 i2 scope pos) 1 it acc env) R s := by
  refine codeAny_of_tree ?_
  show wpAny _ _ ((compStart (two elt x1 p1 i1 x2 p2 i2 scope pos) 1 it acc env).onRaise (fun x => do noteFrame x env; standAt theWindowsPlace)) _ _ s
  refine wpAny_notedAt ?_
  unfold compStart
  show wpAny _ _ (ask >>= _) _ _ s
  refine wpAny_bind (wpAny_askSetting (wpAny_ite ?_))
  split
  · first
      | exact wpAny_bind (wpAny_pure (wpAny_pure (And.intro rfl h0)))
      | exact wpAny_pure (And.intro rfl h0)
  · first
      | exact wpAny_bind (wpAny_rule (wpAny_bind (wpAny_standAt (wpAny_bind (wpAny_mono h (fun it' s' h' => wpAny_pure (And.intro rfl h')) fun _ _ x => x.elim)))))
      | (refine wpAny_bind (wpAny_rule ?_); show wpAny _ _ (standAt i2.pos >>= _) _ _ s; exact wpAny_bind (wpAny_standAt (wpAny_bind (wpAny_mono h (fun it' s' h' => wpAny_pure (And.intro rfl h')) fun _ _ x => x.elim))))
end
section
variable {prog : Program} {w : World} {A : Around} {env : Env} {s : Shared} {elt i1 i2 : Expr} {x1 x2 : Str} {p1 p2 : Pos} {scope : Scope} {pos : Pos} {cl : List (Str × Addr)}
noncomputable def C2End (g' : Heap) (D : Addr) (x1 : Str) (v1 : Value) (out : List Value) (k : Nat) (own : List (Addr × Obj)) (J : Prop) (s₁ s' : Shared) : Prop :=
  E3 fun h' tk' m' => A5 (s' = { s₁ with heap := h', toks := tk' }) (Fr g' (D + 1) h' m') (m' x1 = some v1) (News g' (D + 1) h' ((D, listOf out.toArray k) :: own)) J
noncomputable def Turn2 (prog : Program) (w : World) (A : Around) (env : Env) (scope : Scope) (cl : List (Str × Addr)) (elt : Expr) (x1 x2 : Str) (g' : Heap) (D : Addr) (v1 : Value) (a2 : Int) (n2 : Nat) (J2 : Nat → List Value → Prop) (s₁ : Shared) : Prop :=
  ∀ (j : Nat) (t : Tok) (out : List Value) (k : Nat) (h : Heap) (tk : Nat) (mC : Str → Option Value) (own : List (Addr × Obj)), j < n2 → J2 j out →
    Fr g' (D + 1) h (fun y => if y = x2 then some (.int (a2 + j) t) else if y = x1 then some v1 else mC y) → News g' (D + 1) h ((D, listOf out.toArray k) :: own) →
    wpAny (model prog w) A (eval elt (cEnv env scope (D + 1) cl)) (fun r s' => Halt (C2End g' D x1 v1 out k own (J2 (j + 1) (out ++ [r])) s₁ s')) (fun _ _ => False) { s₁ with heap := h, toks := tk }
noncomputable def C2Mid (prog : Program) (w : World) (A : Around) (env : Env) (scope : Scope) (cl : List (Str × Addr)) (elt : Expr) (x1 x2 : Str) (g' : Heap) (D : Addr) (a : Int) (i : Nat) (t : Tok) (out : List Value) (k : Nat) (own : List (Addr × Obj)) (n : Nat) (J : List Value → Prop) (s₁ : Shared) (xv : Value) (s' : Shared) : Prop :=
  E11 fun (r2 : Addr) (a2 b2 : Int) (n2 : Nat) (t2 u2 v2 : Tok) (h' : Heap) (tk' : Nat) (m' : Str → Option Value) (J2 : Nat → List Value → Prop) => A12 (xv = .ref r2) (s' = { s₁ with heap := h', toks := tk' }) (IsRange h' r2 a2 b2 1 t2 u2 v2) (Builtin.Range.small a2 b2 1 = true) (Builtin.Range.rangeSize a2 b2 1 = (n2 : Int)) (Fr g' (D + 1) h' m') (m' x1 = some (.int (a + i) t)) (News g' (D + 1) h' ((D, listOf out.toArray k) :: own)) (J2 0 out) (∀ out', J2 n2 out' → J out') (∀ j out', J2 j out' → out'.length ≤ sizeLine) (Turn2 prog w A env scope cl elt x1 x2 g' D (.int (a + i) t) a2 n2 J2 s₁)
noncomputable def Turn1 (prog : Program) (w : World) (A : Around) (env : Env) (scope : Scope) (cl : List (Str × Addr)) (elt i2 : Expr) (x1 x2 : Str) (g : Heap) (L : Addr) (m : Str → Option Value) (a : Int) (n : Nat) (J : Nat → List Value → Prop) (s₁ : Shared) : Prop :=
  ∀ (D I : Addr) (g' : Heap) (i : Nat) (t : Tok) (out : List Value) (k : Nat) (h : Heap) (tk : Nat) (mC : Str → Option Value) (own : List (Addr × Obj)), s₁.heap.objs.size ≤ I → I < D → (∀ b o, g.get? b = some o → g'.get? b = some o) → g'.Ns L m → (∀ b o, s₁.heap.get? b = some o → g'.get? b = some o) → i < n → J i out →
    Fr g' (D + 1) h (fun y => if y = x1 then some (.int (a + i) t) else mC y) → News g' (D + 1) h ((D, listOf out.toArray k) :: own) →
    wpAny (model prog w) A (eval i2 (cEnv env scope (D + 1) cl)) (fun xv s' => Halt (C2Mid prog w A env scope cl elt x1 x2 g' D a i t out k own n (J (i + 1)) s₁ xv s')) (fun _ _ => False) { s₁ with heap := h, toks := tk }
noncomputable def Comp2At (prog : Program) (w : World) (A : Around) (env : Env) (scope : Scope) (cl : List (Str × Addr)) (elt i2 : Expr) (x1 x2 : Str) (Q : Value → Shared → Prop) (xv : Value) (s₁ : Shared) : Prop :=
  E11 fun (r : Addr) (a b : Int) (t u v : Tok) (n : Nat) (g : Heap) (L : Addr) (m : Str → Option Value) (J : Nat → List Value → Prop) => A8 (xv = .ref r) (IsRange s₁.heap r a b 1 t u v) (Builtin.Range.small a b 1 = true) (Builtin.Range.rangeSize a b 1 = (n : Int)) (Fr g L s₁.heap m) (J 0 []) (Turn1 prog w A env scope cl elt i2 x1 x2 g L m a n J s₁) (∀ (D : Addr) (out : List Value) (k : Nat) (h : Heap) (tk : Nat), s₁.heap.objs.size ≤ D → J n out → Fr g L h m → News g L h [(D, listOf out.toArray k)] → (∀ b o, s₁.heap.get? b = some o → h.get? b = some o) → Q (.ref D) { s₁ with heap := h, toks := tk })
theorem comp2_rule {Q : Value → Shared → Prop} (hh : A.handled = none) (hclos : closureFor scope env = pure cl) (hkind : scope.kind = .function) (hcell : ∀ y ∈ scope.names, y.2 ≠ .cell) (hnames : ∀ y ∈ scope.names, y.2 = .local → scope.names.lookup y.1 = some .local) (hx1 : scope.names.lookup x1 = some .local) (hx2 : scope.names.lookup x2 = some .local) (hne : x1 ≠ x2)
    (h : wpAny (model prog w) A (eval i1 env) (fun xv s₁ => Halt (Comp2At prog w A env scope cl elt i2 x1 x2 Q xv s₁)) (fun _ _ => False) s)
    (hs : ∀ x, foldedSetIterable i1 env x = pure x := by intro _; rfl) (hs2 : ∀ e x, foldedSetIterable i2 e x = pure x := by intro _ _; rfl) :
    wpAny (model prog w) A (eval (two elt x1 p1 i1 x2 p2 i2 scope pos) env) Q (fun _ _ => False) s := by
  rw [eval_ListComp]
  refine wpAny_comprehension_free (use := none) rfl hs hclos hkind hnames (wpAny_mono h (fun xv s₁ h₁ => ?_) fun _ _ e => e)
  obtain ⟨r, a, b, t, u, v, n, g, L, m, J, rfl, hr, hsm, hn0, F, hJ, turn, done⟩ := h₁
  refine wpAny_pyIter_range hr hsm ?_
  rw [hn0]
  obtain ⟨I, hIe⟩ : ∃ I, s₁.heap.objs.size = I := ⟨_, rfl⟩
  obtain ⟨s₂, hs₂⟩ : ∃ s₂ : Shared, s₂ = { s₁ with heap := s₁.heap.push { cls := .type "range_iterator", data := .fields #[rawInt a, rawInt (n : Int), rawInt 1] } } := ⟨_, rfl⟩
  have eqs : ∀ h tk, ({ s₂ with heap := h, toks := tk } : Shared) = { s₁ with heap := h, toks := tk } := fun h tk => by rw [hs₂]
  have hI : IsRangeIter s₂.heap I a n 1 := by rw [hs₂, ← hIe]; exact Heap.get?_push_size _ rfl
  have old : ∀ b o, s₁.heap.get? b = some o → s₂.heap.get? b = some o := fun b o e => by rw [hs₂]; exact Heap.get?_push_of_some _ e
  have hsz : s₂.heap.objs.size = I + 1 := by rw [hs₂, ← hIe]; exact Heap.size_push ..
  rw [← hs₂, hIe]
  have hLI : L < I := by rw [← hIe]; exact F.ns.lt
  have gI : g.get? I = none := by
    cases e : g.get? I with
    | none => rfl
    | some o => exact absurd (Heap.lt_size (F.keep _ _ e)) (by rw [hIe]; exact Nat.lt_irrefl _)
  have F₂ : Fr g L s₂.heap m := ⟨F.ns.at' fun o e => old _ _ e, fun b o e => old b o (F.keep b o e), F.above⟩
  clear hs₂
  refine wpAny_newObj_type ?_ (by size_fits)
  refine wpAny_newFunctionEnv hcell (by simp) (fun h₄ hns hsb => ?_) hkind
  have hC : (s₂.heap.push ({ cls := .type "list", data := .seq #[] } : Obj)).objs.size = s₂.heap.objs.size + 1 := Heap.size_push ..
  rw [hsz] at hC
  generalize hg' : hideAll s₂.heap [I] = g'
  have hin : ∀ b o, b ≠ I → s₂.heap.get? b = some o → g'.get? b = some o := fun b o h1 e => by
    rw [← hg']; exact hideAll_get _ e (fun q => h1 (List.mem_singleton.mp q))
  have hout : ∀ b o, g'.get? b = some o → s₂.heap.get? b = some o := fun b o e => by rw [← hg'] at e; exact of_hideAll _ e
  have hgI : g'.get? I = none := by rw [← hg']; exact hideAll_none _ (.head _)
  have hsz' : g'.objs.size = I + 1 := by rw [← hg', ← hsz]; exact hideAll_size _ _
  clear hg'
  have hin1 : ∀ b o, s₁.heap.get? b = some o → g'.get? b = some o := fun b o e => hin b o (Nat.ne_of_lt (by rw [← hIe]; exact Heap.lt_size e)) (old b o e)
  have hgg : ∀ b o, g.get? b = some o → g'.get? b = some o := fun b o e => hin1 b o (F.keep b o e)
  have hLg : g'.Ns L m := F.ns.at' fun o e => hin1 L o e
  have old4 : ∀ b o, s₂.heap.get? b = some o → h₄.get? b = some o := fun b o e => by
    rw [hsb.2 b (by rw [hC]; have := Heap.lt_size e; rw [hsz] at this; exact Nat.ne_of_lt (Nat.lt_succ_of_lt this))]
    exact Heap.get?_push_of_some _ (Heap.get?_push_of_some _ e)
  have hD4 : h₄.get? (I + 1) = some (listOf #[] 0) := by
    rw [hsb.2 _ (by rw [hC]; exact neN (by exact (LI1 (.im (.eq (.a V0 O1) (.a (.a V0 O1) O1)) .ff)))), ← hsz]
    exact Heap.get?_push_of_some _ (Heap.get?_push_size _ rfl)
  rw [hC] at hns
  have F4 : Fr g' (I + 1 + 1) h₄ (fun x => ([] : List (Str × Value)).reverse.lookup x) := ⟨hns, fun b o e => old4 b o (hout b o e), by rw [hsz']; exact (LI1 (.le (.a V0 O1) (.a (.a V0 O1) O1)))⟩
  have fresh : ∀ b, I + 1 ≤ b → g'.get? b = none := fun b hb => by
    cases e : g'.get? b with
    | none => rfl
    | some o => exact absurd (Heap.lt_size (hout b o e)) (Nat.not_lt.mpr (by rw [hsz]; exact hb))
  show codeAny (model prog w) A (.compStart _ 0 (.ref I) (.ref s₂.heap.objs.size) (cEnv env scope (s₂.heap.push ({ cls := .type "list", data := .seq #[] } : Obj)).objs.size cl)) (compPost (model prog w) A (fun _ _ => False) none Q (.ref s₂.heap.objs.size) (s₂.heap.push ({ cls := .type "list", data := .seq #[] } : Obj)).objs.size) _
  rw [hC, hsz]
  dsimp only
  generalize hR : compPost (model prog w) A (fun _ _ => False) none Q (.ref (I + 1)) (I + 1 + 1) = R
  have fin : ∀ out k h tk m', J n out → Fr g' (I + 1 + 1) h m' → News g' (I + 1 + 1) h [(I + 1, listOf out.toArray k)] → R (.ok .next) { s₂ with heap := h, toks := tk } := by
    intro out k h tk m' hj F' N'
    rw [← hR]
    refine ⟨m', F'.ns, fun h'' hs'' => ?_⟩
    have keep : ∀ b o, g'.get? b = some o → h''.get? b = some o := fun b o e => by
      have := Heap.lt_size (hout b o e)
      rw [hsz] at this
      rw [hs''.2 b (Nat.ne_of_lt (Nat.lt_succ_of_lt this))]
      exact F'.keep b o e
    have q := done (I + 1) out k h'' tk (by rw [hIe]; exact Nat.le_succ _) hj ⟨hLg.at' fun o e => keep L o e, fun b o e => keep b o (hgg b o e), F.above⟩ (fun p hp => ?_) fun b o e => keep b o (hin1 b o e)
    · rw [← eqs] at q; exact q
    · rw [List.mem_singleton.mp hp]
      refine ⟨(hs''.2 _ (Nat.ne_of_lt (Nat.lt_succ_self _))).trans (N' _ (.head _)).1, Nat.ne_of_gt (Nat.lt_succ_of_lt hLI), ?_⟩
      cases q : g.get? (I + 1) with
      | none => rfl
      | some o => have := fresh (I + 1) (Nat.le_refl _); rw [hgg _ _ q] at this; cases this
  clear hR done
  have hxk1 : (cEnv env scope (I + 1 + 1) cl).kindOf x1 = some .local := lookup_relabel_local hx1
  have hxk2 : (cEnv env scope (I + 1 + 1) cl).kindOf x2 = some .local := lookup_relabel_local hx2
  have hp0 : ((cEnv env scope (I + 1 + 1) cl).scope.kind == .class || ((cEnv env scope (I + 1 + 1) cl).scope.kind == .module && (cEnv env scope (I + 1 + 1) cl).locals != (cEnv env scope (I + 1 + 1) cl).globals)) = false := by
    show (scope.kind == .class || (scope.kind == .module && _)) = false
    rw [hkind]; rfl
  have hDI : I + 1 ≠ I := Nat.succ_ne_self _
  have hCI : I + 1 + 1 ≠ I := neN (by exact (LI1 (.im (.eq (.a (.a V0 O1) O1) V0) .ff)))
  have hCD : I + 1 ≠ I + 1 + 1 := neN (by exact (LI1 (.im (.eq (.a V0 O1) (.a (.a V0 O1) O1)) .ff)))
  have main : ∀ tk₄, codeAny (model prog w) A (.compLoop (two elt x1 p1 i1 x2 p2 i2 scope pos) 0 (.ref I) (.ref (I + 1)) (cEnv env scope (I + 1 + 1) cl)) R { s₂ with heap := h₄, toks := tk₄ } := by
    intro tk₄
    let Inv : Nat → Shared → Prop := fun k s' => E6 fun h tk mC out e i => A7 (s' = { s₂ with heap := h, toks := tk }) (IsRangeIter h I (a + (i : Nat)) ((n : Int) - (i : Nat)) 1) (Fr g' (I + 1 + 1) h mC) (News g' (I + 1 + 1) h [(I + 1, listOf out.toArray e)]) (J i out) (i ≤ n) (k = n + 1 - i)
    refine comp2_outer Inv hh (hs2 _) ?_ (n + 1) ⟨h₄, tk₄, _, [], 0, 0, rfl, by simpa using old4 _ _ hI, F4, fun p hp => by rw [List.mem_singleton.mp hp]; exact ⟨hD4, hCD, fresh _ (Nat.le_refl _)⟩, hJ, Nat.zero_le _, rfl⟩
    rintro k s' ⟨h, tk, mC, out, e, i, rfl, hit, F', N', hj, hi, rfl⟩
    have hD := (N' _ (.head _)).1
    by_cases hlt : i < n
    · refine wpAny_pyNext_range_item hit (by exact (LI2 (.im (.lt V0 V1) (.jl O0 (.s (.ca V1) (.ca V0))))) hlt) fun h₁ hit₁ hs₁ => ?_
      dsimp only
      have F1 : Fr g' (I + 1 + 1) h₁ mC := ⟨F'.ns.at' fun o e => (hs₁.2 _ hCI).trans e, fun b o e => (hs₁.2 b (fun q => by rw [q, hgI] at e; cases e)).trans (F'.keep b o e), F'.above⟩
      have hD1 : h₁.get? (I + 1) = some (listOf out.toArray e) := (hs₁.2 _ hDI).trans hD
      refine wpAny_assign_Name (wpAny_storeName_local hxk1 F1.ns (fun h₂ hn₂ hs₂ => ?_) hp0)
      have F2 := F1.set hn₂ hs₂
      have hD2 : h₂.get? (I + 1) = some (listOf out.toArray e) := (hs₂.2 _ hCD).trans hD1
      have hI2 : IsRangeIter h₂ I (a + (i : Nat) + 1) ((n : Int) - (i : Nat) - 1) 1 := (hs₂.2 _ (Ne.symm hCI)).trans hit₁
      have N2 : News g' (I + 1 + 1) h₂ [(I + 1, listOf out.toArray e), (I, { cls := .type "range_iterator", data := .fields #[rawInt (a + (i : Nat) + 1), rawInt ((n : Int) - (i : Nat) - 1), rawInt 1] })] := fun p hp => by
        rcases List.mem_cons.mp hp with rfl | hp
        · exact ⟨hD2, hCD, fresh _ (Nat.le_refl _)⟩
        · rw [List.mem_singleton.mp hp]
          exact ⟨hI2, Ne.symm hCI, hgI⟩
      have tt := turn (I + 1) I g' i tk out e h₂ (tk + 1 + 1) mC _ (Nat.le_of_eq hIe) (Nat.lt_succ_self _) hgg hLg hin1 hlt hj F2 N2
      rw [← eqs] at tt
      refine wpAny_mono tt (fun xv s' hx => ?_) fun _ _ x => x
      obtain ⟨r2, a2, b2, n2, t2, u2, v2, h₃, tk₃, m₃, J2, rfl, rfl, hr2, hsm2, hn2, F3, hm3, N3, hJ2, hend, hlen, turn2⟩ := hx
      rw [← eqs]
      refine wpAny_pyIter_range hr2 hsm2 ?_
      rw [hn2]
      dsimp only
      obtain ⟨I2, hI2e⟩ : ∃ I2, h₃.objs.size = I2 := ⟨_, rfl⟩
      rw [hI2e]
      obtain ⟨H, hH⟩ : ∃ H : Heap, H = h₃.push { cls := .type "range_iterator", data := .fields #[rawInt a2, rawInt (n2 : Int), rawInt 1] } := ⟨_, rfl⟩
      have hIt2 : IsRangeIter H I2 a2 n2 1 := by rw [hH, ← hI2e]; exact Heap.get?_push_size _ rfl
      have old5 : ∀ b o, h₃.get? b = some o → H.get? b = some o := fun b o e => by rw [hH]; exact Heap.get?_push_of_some _ e
      rw [← hH]
      clear hH
      have lt3 : ∀ b o, h₃.get? b = some o → b ≠ I2 := fun b o e => Nat.ne_of_lt (by rw [← hI2e]; exact Heap.lt_size e)
      have hgI2 : g'.get? I2 = none := by
        cases q : g'.get? I2 with
        | none => rfl
        | some o => exact absurd rfl (lt3 _ _ (F3.keep _ _ q))
      have hDI2 : I + 1 ≠ I2 := lt3 _ _ (N3 _ (.head _)).1
      have hII2 : I ≠ I2 := lt3 _ _ (N3 _ (.tail _ (.head _))).1
      have hCI2 : I + 1 + 1 ≠ I2 := let ⟨o, _, _, ho, _⟩ := F3.ns; lt3 _ _ ho
      have inner : ∀ tk₅, codeAny (model prog w) A (.compLoop (two elt x1 p1 i1 x2 p2 i2 scope pos) 1 (.ref I2) (.ref (I + 1)) (cEnv env scope (I + 1 + 1) cl)) (fun r s' => match r with | .ok _ => ∃ m, m < n + 1 - i ∧ Inv m s' | .error _ => False) { s₂ with heap := H, toks := tk₅ } := by
        intro tk₅
        let Inv2 : Nat → Shared → Prop := fun k s' => E6 fun h tk' mC out e j => A9 (s' = { s₂ with heap := h, toks := tk' }) (IsRangeIter h I2 (a2 + (j : Nat)) ((n2 : Int) - (j : Nat)) 1) (IsRangeIter h I (a + (i : Nat) + 1) ((n : Int) - (i : Nat) - 1) 1) (Fr g' (I + 1 + 1) h mC) (mC x1 = some (.int (a + i) tk)) (News g' (I + 1 + 1) h [(I + 1, listOf out.toArray e)]) (J2 j out) (j ≤ n2) (k = n2 + 1 - j)
        have step : ∀ k s', Inv2 k s' → wpAny (model prog w) A (pyNext (.ref I2)) (fun r s₁ => match r with
            | none => ∃ m, m < n + 1 - i ∧ Inv m s₁
            | some v => wpAny (model prog w) A (assign (.Name x2 p2) (cEnv env scope (I + 1 + 1) cl) v) (fun _ s₂ => wpAny (model prog w) A (eval elt (cEnv env scope (I + 1 + 1) cl)) (fun x s₃ =>
              wpAny (model prog w) A (call (.builtin "list.append") [.ref (I + 1), x]) (fun _ s₄ => ∃ m, m < k ∧ Inv2 m s₄) (fun _ _ => False) s₃) (fun _ _ => False) s₂) (fun _ _ => False) s₁) (fun _ _ => False) s' := by
          rintro k s' ⟨h, tk', mC', out', e', j, rfl, hit2, hit1, F', hmx, N', hj', hj2, rfl⟩
          have hD := (N' _ (.head _)).1
          by_cases hlt2 : j < n2
          · refine wpAny_pyNext_range_item hit2 (by exact (LI2 (.im (.lt V0 V1) (.jl O0 (.s (.ca V1) (.ca V0))))) hlt2) fun h₅ hit₅ hs₅ => ?_
            dsimp only
            have F5 : Fr g' (I + 1 + 1) h₅ mC' := ⟨F'.ns.at' fun o e => (hs₅.2 _ hCI2).trans e, fun b o e => (hs₅.2 b (fun q => by rw [q, hgI2] at e; cases e)).trans (F'.keep b o e), F'.above⟩
            have hD5 : h₅.get? (I + 1) = some (listOf out'.toArray e') := (hs₅.2 _ hDI2).trans hD
            have hI5 : IsRangeIter h₅ I (a + (i : Nat) + 1) ((n : Int) - (i : Nat) - 1) 1 := (hs₅.2 _ hII2).trans hit1
            refine wpAny_assign_Name (wpAny_storeName_local hxk2 F5.ns (fun h₆ hn₆ hs₆ => ?_) hp0)
            have F6 := F5.set hn₆ hs₆
            have hD6 : h₆.get? (I + 1) = some (listOf out'.toArray e') := (hs₆.2 _ hCD).trans hD5
            have hI6 : IsRangeIter h₆ I (a + (i : Nat) + 1) ((n : Int) - (i : Nat) - 1) 1 := (hs₆.2 _ (Ne.symm hCI)).trans hI5
            have hJ6 : IsRangeIter h₆ I2 (a2 + (j : Nat) + 1) ((n2 : Int) - (j : Nat) - 1) 1 := (hs₆.2 _ (Ne.symm hCI2)).trans hit₅
            have N6 : News g' (I + 1 + 1) h₆ [(I + 1, listOf out'.toArray e'), (I, { cls := .type "range_iterator", data := .fields #[rawInt (a + (i : Nat) + 1), rawInt ((n : Int) - (i : Nat) - 1), rawInt 1] }), (I2, { cls := .type "range_iterator", data := .fields #[rawInt (a2 + (j : Nat) + 1), rawInt ((n2 : Int) - (j : Nat) - 1), rawInt 1] })] := fun p hp => by
              rcases List.mem_cons.mp hp with rfl | hp
              · exact ⟨hD6, hCD, fresh _ (Nat.le_refl _)⟩
              rcases List.mem_cons.mp hp with rfl | hp
              · exact ⟨hI6, Ne.symm hCI, hgI⟩
              · rw [List.mem_singleton.mp hp]
                exact ⟨hJ6, Ne.symm hCI2, hgI2⟩
            have em : (fun y => if y = x2 then some (Value.int (a2 + (j : Nat)) tk') else mC' y) = fun y => if y = x2 then some (Value.int (a2 + (j : Nat)) tk') else if y = x1 then some (.int (a + (i : Nat)) tk) else mC' y := funext fun y => by
              by_cases q : y = x1
              · rw [if_pos q, q, hmx]
              · rw [if_neg q]
            rw [em] at F6
            have t2 := turn2 j tk' out' e' h₆ (tk' + 1 + 1) mC' _ hlt2 hj' F6 N6
            rw [← eqs] at t2
            refine wpAny_mono t2 (fun x s' hx => ?_) fun _ _ x => x
            obtain ⟨h₇, tk₇, m₇, rfl, F7, hm7, N7, hJ7⟩ := hx
            rw [← eqs]
            refine append_K (D := I + 1) (its := out'.toArray) (n := e') (news' := (I + 1, listOf (out'.toArray.push x) (e' + 1)) :: [(I, { cls := .type "range_iterator", data := .fields #[rawInt (a + (i : Nat) + 1), rawInt ((n : Int) - (i : Nat) - 1), rawInt 1] }), (I2, { cls := .type "range_iterator", data := .fields #[rawInt (a2 + (j : Nat) + 1), rawInt ((n2 : Int) - (j : Nat) - 1), rawInt 1] })]) F7 N7 (.head fun p hp => ?_) (fun h₈ F8 N8 => ?_) (by rw [List.size_toArray]; exact hlen _ _ hj')
            · rcases List.mem_cons.mp hp with rfl | hp
              · exact Ne.symm hDI
              · rw [List.mem_singleton.mp hp]; exact Ne.symm hDI2
            · refine ⟨n2 + 1 - (j + 1), by exact (LI2 (.im (.lt V0 V1) (.lt (.s (.a V1 O1) (.a V0 O1)) (.s (.a V1 O1) V0)))) hlt2, h₈, tk₇, m₇, out' ++ [x], e' + 1, j + 1, rfl, ?_, (N8 _ (.tail _ (.head _))).1, F8, hm7, fun p hp => ?_, hJ7, hlt2, rfl⟩
              · have z := (N8 _ (.tail _ (.tail _ (.head _)))).1
                have e1 : a2 + ((j + 1 : Nat) : Int) = a2 + (j : Int) + 1 := by push_cast; omega
                have e2 : (n2 : Int) - ((j + 1 : Nat) : Int) = (n2 : Int) - (j : Int) - 1 := by push_cast; exact (LI2 (.je (.s (.ca V0) (.a (.ca V1) O1)) (.s (.s (.ca V0) (.ca V1)) O1)))
                rw [e1, e2]; exact z
              · rw [List.mem_singleton.mp hp]
                have z := N8 _ (.head _)
                rw [List.push_toArray] at z
                exact z
          · have hin' : j = n2 := Nat.le_antisymm hj2 (Nat.not_lt.mp hlt2)
            subst hin'
            refine wpAny_pyNext_range_end hh hit2 (by exact (LI1 (.il (.s (.ca V0) (.ca V0)) O0))) fun h₅ hx => ?_
            dsimp only
            refine ⟨n + 1 - (i + 1), by exact (LI2 (.im (.lt V0 V1) (.lt (.s (.a V1 O1) (.a V0 O1)) (.s (.a V1 O1) V0)))) hlt, h₅, tk', mC', out', e', i + 1, rfl, ?_, ⟨F'.ns.at' fun o e => hx _ o hCI2 e, fun b o e => hx b o (fun q => by rw [q, hgI2] at e; cases e) (F'.keep b o e), F'.above⟩, fun p hp => ?_, hend _ hj', hlt, rfl⟩
            · have e1 : a + ((i + 1 : Nat) : Int) = a + (i : Int) + 1 := by push_cast; omega
              have e2 : (n : Int) - ((i + 1 : Nat) : Int) = (n : Int) - (i : Int) - 1 := by push_cast; exact (LI2 (.je (.s (.ca V0) (.a (.ca V1) O1)) (.s (.s (.ca V0) (.ca V1)) O1)))
              rw [e1, e2]; exact hx _ _ hII2 hit1
            · rw [List.mem_singleton.mp hp]
              exact ⟨hx _ _ hDI2 hD, (N' _ (.head _)).2⟩
        exact comp2_inner Inv2 step (n2 + 1) ⟨H, tk₅, _, out, e, 0, rfl, by simpa using hIt2, old5 _ _ (N3 _ (.tail _ (.head _))).1, ⟨F3.ns.at' fun o e => old5 _ _ e, fun b o e => old5 _ _ (F3.keep b o e), F3.above⟩, hm3, fun p hp => by
          rw [List.mem_singleton.mp hp]
          exact ⟨old5 _ _ (N3 _ (.head _)).1, (N3 _ (.head _)).2⟩, hJ2, Nat.zero_le _, rfl⟩
      exact comp2_start (inner _) ((Walks.range hh I2 a2 1 n2).self 0 _ _ _ (by simpa using hIt2) (inner _))
    · have hin' : i = n := Nat.le_antisymm hi (Nat.not_lt.mp hlt)
      subst hin'
      refine wpAny_pyNext_range_end hh hit (by exact (LI1 (.il (.s (.ca V0) (.ca V0)) O0))) fun h₅ hx => ?_
      exact fin out e h₅ tk mC hj ⟨F'.ns.at' fun o e => hx _ o hCI e, fun b o e => hx b o (fun q => by rw [q, hgI] at e; cases e) (F'.keep b o e), F'.above⟩ fun p hp => by
        rw [List.mem_singleton.mp hp]
        exact ⟨hx _ _ hDI hD, (N' _ (.head _)).2⟩
  exact codeAny_compStart_list (main _) ((Walks.range hh I a 1 n).self 0 _ _ _ (by simpa using old4 _ _ hI) (main _))
end
end Mine
end
section
open PySem PySem.W PyProof.Rows PySem.Calls PySem.Spec
namespace Mine
section
variable {prog : Program} {w : World} {A : Around} {E : Value → Shared → Prop} {s : Shared}
noncomputable def StrSet (w : World) (h : Heap) (a : Addr) (ks : List Str) : Prop :=
  E4 fun o es ep t => h.get? a = some o ∧ A7 o.ExactSet (o.data = .set es ep t) (∀ e ∈ es.toList, ∃ x tk, e = (hashStr w x, .str x tk)) ((es.toList.map fun e => strOf e.2).Perm ks) (es.size < scanBound) (t.fits es.size = true) (es.size ≠ 0 → t.plain = false)
theorem elems_str {es : List (Int × Value)} (h : ∀ e ∈ es, ∃ x tk, e = (hashStr w x, Value.str x tk)) : ElemsOf (PySem.strKind prog w) es := fun e he => by
  obtain ⟨x, tk, rfl⟩ := h e he
  exact ⟨⟨x, by show Value.isStrOf x (.str x tk) = true; simp [Value.isStrOf], rfl⟩, rfl⟩
theorem layNew_plain (t : SetTable) (es : Array (Int × Value)) (h : Int) (x : Value) (hp : t.plain = false) : (layNew t es h x).2.1.plain = false := by
  unfold layNew
  split
  · show (SetTable.orStandIn _ _).plain = false
    unfold SetTable.orStandIn
    split
    · exact hp
    · rfl
  · rfl
theorem relayAll_plain (t : SetTable) (es : Array (Int × Value)) (wanted : Nat) (hp : t.plain = false) : (relayAll t es wanted).2.1.plain = false := by
  unfold relayAll
  split
  · rename_i t' order e
    dsimp only
    split
    · unfold SetTable.relaid SetTable.laid at e
      cases q : SetTable.layClean (SetTable.sizeAbove wanted - 1) (es.map (·.1)) with
      | none => rw [q] at e; cases e
      | some own =>
        rw [q] at e
        have e := (Prod.mk.inj (Option.some.inj e)).1
        rw [← e]
        exact hp
    · rfl
  · rfl
noncomputable def addS (ks : List Str) (x : Str) : List Str := if x ∈ ks then ks else ks ++ [x]
theorem strSet_store {h : Heap} {a : Addr} {o : Obj} {es : Array (Int × Value)} {ep : Nat} {t : SetTable} (ho : h.get? a = some o) (hex : o.ExactSet) (hd : o.data = .set es ep t)
    {es' : Array (Int × Value)} {t' : SetTable} {ks : List Str} (hel : ∀ e ∈ es'.toList, ∃ x tk, e = (hashStr w x, Value.str x tk)) (hmem : (es'.toList.map fun e => strOf e.2).Perm ks) (hb : es'.size < scanBound) (hf : t'.fits es'.size = true) (hp : t'.plain = false) :
    (h.update a (Obj.putSet es' t')).get? a = some { o with data := .set es' (ep + 1) t' } ∧ StrSet w (h.update a (Obj.putSet es' t')) a ks := by
  have hg : (h.update a (Obj.putSet es' t')).get? a = some { o with data := .set es' (ep + 1) t' } := by
    have := Heap.get?_update_self (Obj.putSet es' t') ho (by rw [putSet_of es' t' hd]; rfl)
    rw [putSet_of es' t' hd] at this; exact this
  exact ⟨hg, _, es', ep + 1, t', hg, hex, rfl, hel, hmem, hb, hf, fun _ => hp⟩
theorem addTail_str {g : Bool → Sem Unit} (hg : ∀ (b : Bool) (s₁ : Shared) (Q' : Unit → Shared → Prop), Q' () s₁ → wpAny (model prog w) A (g b) Q' E s₁)
    {a : Addr} {o : Obj} {es : Array (Int × Value)} {ep : Nat} {t : SetTable} (ho : s.heap.get? a = some o) (hex : o.ExactSet) (hd : o.data = .set es ep t)
    {es1 : Array (Int × Value)} {t2 : SetTable} {ks : List Str} (hel1 : ∀ e ∈ es1.toList, ∃ x tk, e = (hashStr w x, Value.str x tk)) (hmem1 : (es1.toList.map fun e => strOf e.2).Perm ks)
    (hb1 : es1.size < scanBound) (hf2 : t2.fits es1.size = true) (hp2 : t2.plain = false) {wasDummy : Bool} {R : Option Bool → Shared → Prop}
    (h : ∀ h', Heap.SameBut a s.heap h' → StrSet w h' a ks → R (some true) { s with heap := h' }) :
    wpAny (model prog w) A (do
        storeSet a es1 t2
        if (!wasDummy && t2.tooFull) = true then do
            g (relayAll t2 es1 (SetTable.grown es1.size)).2.2
            storeSet a (relayAll t2 es1 (SetTable.grown es1.size)).1 (relayAll t2 es1 (SetTable.grown es1.size)).2.1
            pure (some true)
          else pure (some true)) R E s := by
  refine wpAny_bind (wpAny_storeSet_of ho hd ?_ (fits_of_scanBound hb1))
  obtain ⟨ho1, hS1⟩ := strSet_store (w := w) ho hex hd hel1 hmem1 hb1 hf2 hp2
  have hsb1 := Heap.SameBut.update s.heap a (Obj.putSet es1 t2)
  split
  · have hp := relayAll_perm t2 es1 (SetTable.grown es1.size)
    have hfr := relayAll_fits t2 es1 (SetTable.grown es1.size)
    have hpl := relayAll_plain t2 es1 (SetTable.grown es1.size) hp2
    generalize hRl : relayAll t2 es1 (SetTable.grown es1.size) = Rl at hp hfr hpl ⊢
    obtain ⟨es2, t3, gave2⟩ := Rl
    dsimp only at hp hfr hpl ⊢
    have hel2 : ∀ e ∈ es2.toList, ∃ x tk, e = (hashStr w x, Value.str x tk) := fun e he => hel1 e (hp.mem_iff.mp he)
    have hmem2 := (hp.map fun e => strOf e.2).trans hmem1
    have hsz : es2.size = es1.size := by rw [← Array.length_toList, hp.length_eq, Array.length_toList]
    have hb2 : es2.size < scanBound := by rw [hsz]; exact hb1
    refine wpAny_bind (hg _ _ _ ?_)
    refine wpAny_bind (wpAny_storeSet_of ho1 rfl ?_ (fits_of_scanBound hb2))
    obtain ⟨_, hS2⟩ := strSet_store (w := w) ho1 hex rfl hel2 hmem2 hb2 hfr hpl
    exact wpAny_pure (h _ (hsb1.trans (Heap.SameBut.update _ a _)) hS2)
  · exact wpAny_pure (h _ hsb1 hS1)
theorem addHashed_str {a : Addr} {ks : List Str} {x : Str} {tk : Tok} {Q : Bool → Shared → Prop} (hS : StrSet w s.heap a ks) (hroom : ks.length + 1 < scanBound)
    (h : ∀ b h', Heap.SameBut a s.heap h' → StrSet w h' a (addS ks x) → Q b { s with heap := h' }) :
    wpAny (model prog w) A (setAddHashed a (.str x tk) (hashStr w x)) Q E s := by
  obtain ⟨o, es, ep, t, ho, hex, hd, hel0, hmem, hb, hf, hpl⟩ := hS
  have hel := elems_str (prog := prog) hel0
  have hn : es.size = ks.length := by rw [← hmem.length_eq, List.length_map, Array.length_toList]
  have hsc : (Value.str x tk).scannable = true := rfl
  have hkey : (PySem.strKind prog w).is x (.str x tk) = true := by show Value.isStrOf x (.str x tk) = true; simp [Value.isStrOf]
  have hin : ∀ e ∈ es.toList, (PySem.strKind prog w).is x e.2 = true → x ∈ ks := fun e he q => by
    obtain ⟨y, ty, rfl⟩ := hel0 e he
    obtain ⟨t', et⟩ := Value.isStrOf_shape (show Value.isStrOf x (.str y ty) = true from q)
    cases et
    exact hmem.mem_iff.mp (List.mem_map.mpr ⟨_, he, rfl⟩)
  unfold setAddHashed setAddHashedIn
  refine wpAny_holding (wpAny_bind (wpAny_setState_of ho hd hf ?_))
  dsimp only
  rw [byScan_of hsc hb hel]
  simp only [↓reduceIte]
  unfold setAddByScan
  refine wpAny_bind ?_
  refine wpAny_bind (wpAny_rule ?_)
  refine wpAny_bind (wpAny_setScan_of (knd := PySem.strKind prog w) hkey ho hd hf hel ?_)
  cases hr : List.findIdx? (fun e => (PySem.strKind prog w).is x e.2) es.toList with
  | some j =>
    dsimp only
    obtain ⟨hj, hpj, _⟩ := List.findIdx?_eq_some_iff_getElem.mp hr
    have hx : x ∈ ks := hin _ (List.getElem_mem hj) hpj
    refine wpAny_pure (wpAny_pure ?_)
    have e : s = { s with heap := s.heap } := by cases s; rfl
    rw [e]
    exact h _ s.heap (Heap.SameBut.refl a s.heap) ⟨o, es, ep, t, ho, hex, hd, hel0, by unfold addS; rw [if_pos hx]; exact hmem, hb, hf, hpl⟩
  | none =>
    dsimp only
    have hx : x ∉ ks := fun q => by
      obtain ⟨e, he, q⟩ := List.mem_map.mp (hmem.mem_iff.mpr q)
      have := List.findIdx?_eq_none_iff.mp hr e he
      obtain ⟨y, ty, rfl⟩ := hel0 e he
      rw [show y = x from q] at this
      have z : (PySem.strKind prog w).is x (.str x ty) = true := by show Value.isStrOf x (.str x ty) = true; simp [Value.isStrOf]
      rw [z] at this; cases this
    have hgw : ∀ (b : Bool) {s₁ : Shared} {Q' : Unit → Shared → Prop}, Q' () s₁ → wpAny (model prog w) A (match b with | true => rule "set.scan.the-table-gave-way" | false => pure ()) Q' E s₁ :=
      fun b s₁ Q' hq => by cases b <;> first | exact wpAny_pure hq | exact wpAny_rule hq
    have hperm := layNew_perm t es (hashStr w x) (.str x tk)
    have hfits := layNew_fits t es (hashStr w x) (.str x tk)
    have hplain := layNew_plain t es (hashStr w x) (.str x tk)
    generalize hL : layNew t es (hashStr w x) (.str x tk) = LL at hperm hfits hplain
    obtain ⟨es1, t1, wasDummy, gave⟩ := LL
    dsimp only at hperm hfits hplain ⊢
    rw [Array.toList_push] at hperm
    have hel1 : ∀ e ∈ es1.toList, ∃ x tk, e = (hashStr w x, Value.str x tk) := fun e he => by
      rcases List.mem_append.mp (hperm.mem_iff.mp he) with he | he
      · exact hel0 e he
      · exact ⟨x, tk, List.mem_singleton.mp he⟩
    have hmem1 : (es1.toList.map fun e => strOf e.2).Perm (addS ks x) := by
      unfold addS; rw [if_neg hx]
      refine (hperm.map _).trans ?_
      rw [List.map_append]
      exact hmem.append_right _
    have hb1' : es1.size < scanBound := by rw [← Array.length_toList, hperm.length_eq, List.length_append, Array.length_toList, hn]; simpa using hroom
    refine wpAny_bind (hgw _ ?_)
    split
    · refine wpAny_bind ?_
      rw [hashByValue_scannable 8 hsc]
      refine wpAny_pure ?_
      refine addTail_str ?_ ho hex hd hel1 hmem1 hb1' ?_ ?_ ?_
      · intro b s₁ Q' hq; cases b <;> first | exact wpAny_pure hq | exact wpAny_rule hq
      · exact SetTable.fits_plain_off hfits
      · rfl
      · intro h' hsb hS'; dsimp only; exact wpAny_pure (h _ h' hsb hS')
    · rename_i hnp
      refine wpAny_bind (wpAny_pure ?_)
      simp only [↓reduceIte]
      refine addTail_str ?_ ho hex hd hel1 hmem1 hb1' hfits ?_ ?_
      · intro b s₁ Q' hq; cases b <;> first | exact wpAny_pure hq | exact wpAny_rule hq
      · simpa using hnp
      · intro h' hsb hS'; dsimp only; exact wpAny_pure (h _ h' hsb hS')
end
noncomputable def setS (ss : List Str) : List Str := ss.foldl addS []
theorem addS_len (ks : List Str) (x : Str) : (addS ks x).length ≤ ks.length + 1 := by
  unfold addS; split
  · exact Nat.le_succ _
  · rw [List.length_append]; exact Nat.le_refl _
theorem setS_succ {ss : List Str} {i : Nat} (hi : i < ss.length) : setS (ss.take (i + 1)) = addS (setS (ss.take i)) ss[i] := by
  unfold setS; rw [List.take_succ, List.getElem?_eq_getElem hi, Option.toList_some, List.foldl_append]; rfl
theorem foldS_len : ∀ (ss ks : List Str), (ss.foldl addS ks).length ≤ ks.length + ss.length := fun ss => by
  induction ss with
  | nil => exact fun _ => Nat.le_refl _
  | cons x ss ih =>
    intro ks
    have h1 := ih (addS ks x)
    have h2 := addS_len ks x
    show (ss.foldl addS (addS ks x)).length ≤ _
    rw [List.length_cons]; exact (LI4 (.im (.le V0 (.a V1 O1)) (.im (.le V2 (.a V0 V3)) (.le V2 (.a V1 (.a V3 O1)))))) h2 h1
theorem setS_len (ss : List Str) : (setS ss).length ≤ ss.length := by
  have := foldS_len ss []
  simpa [setS] using this
theorem mem_addS {ks : List Str} {x y : Str} : y ∈ addS ks x ↔ y ∈ ks ∨ y = x := by
  unfold addS; split
  · rename_i h
    exact ⟨.inl, fun q => q.elim id fun e => e ▸ h⟩
  · rw [List.mem_append, List.mem_singleton]
theorem mem_foldS {y : Str} : ∀ {ss ks : List Str}, y ∈ ss.foldl addS ks ↔ y ∈ ks ∨ y ∈ ss := fun {ss} => by
  induction ss with
  | nil => exact fun {ks} => (or_iff_left List.not_mem_nil).symm
  | cons x ss ih =>
    intro ks
    show y ∈ ss.foldl addS (addS ks x) ↔ _
    rw [ih, mem_addS, List.mem_cons, or_assoc]
theorem mem_setS {ss : List Str} {y : Str} : y ∈ setS ss ↔ y ∈ ss := by
  unfold setS; rw [mem_foldS]; simp
theorem nodup_addS {ks : List Str} {x : Str} (h : ks.Nodup) : (addS ks x).Nodup := by
  unfold addS; split
  · exact h
  · rename_i hx
    exact List.nodup_append.mpr ⟨h, List.pairwise_singleton _ _, fun a ha b hb e => hx (by rw [List.mem_singleton.mp hb] at e; exact e ▸ ha)⟩
theorem nodup_foldS : ∀ (ss ks : List Str), ks.Nodup → (ss.foldl addS ks).Nodup := fun ss => List.rec (fun _ h => h) (fun _ _ ih _ h => ih _ (nodup_addS h)) ss
theorem nodup_setS (ss : List Str) : (setS ss).Nodup := nodup_foldS ss [] List.nodup_nil
section
variable {prog : Program} {w : World} {A : Around} {R : Result → Shared → Prop} {I : Addr} {fp wr : List Addr} {G : Array GenState → Array GenState → Prop} {P : Nat → Value → Prop} {St : Nat → Shared → Prop}
theorem strSet_keep {h h' : Heap} {a : Addr} {ks : List Str} (S : StrSet w h a ks) (k : ∀ o, h.get? a = some o → h'.get? a = some o) : StrSet w h' a ks := by
  obtain ⟨o, es, ep, t, ho, rest⟩ := S
  exact ⟨o, es, ep, t, k o ho, rest⟩
theorem update_loop_str {ss : List Str} (W : WalksS prog w A.in1 I fp wr G ss.length P St) (S : Addr) (hSf : S ∉ fp)
    (hval : ∀ i v, P i v → ∃ x t, ss[i]? = some x ∧ v = .str x t) (hb : ss.length + 1 < scanBound) :
    ∀ (k i : Nat) (s : Shared), ss.length - i = k → i ≤ ss.length → St i s →
      StrSet w s.heap S (setS (ss.take i)) →
      (∀ s', Moved (S :: wr) G s s' → StrSet w s'.heap S (setS ss) → R (.ok (.ret .none)) s') →
      codeAny (model prog w) A (.builtin "set.update.loop" ⟨[.ref S, .ref I], []⟩) R s := by
  have hSw : S ∉ wr := fun h => hSf (W.sub _ h)
  have hsub : ∀ b ∈ wr, b ∈ S :: wr := fun b hb => List.mem_cons_of_mem _ hb
  intro k
  induction k with
  | zero =>
    intro i s hk hi hst hS hR
    have hin : i = ss.length := by exact (LI2 (.im (.eq (.s V0 V1) O0) (.im (.le V1 V0) (.eq V1 V0)))) hk hi
    subst hin
    rw [List.take_length] at hS
    refine codeAny_builtin F.entry_set_update_loop ?_
    rw [Around.under_plainId F.plain_set_update_loop _]
    show wpAny _ A.in1 (pyNext (.ref I) >>= _) _ _ s
    refine wpAny_bind (W.done s _ _ hst fun s' hm => ?_)
    show wpAny _ A.in1 (ret Value.none) _ _ s'
    exact wpAny_pure (hR s' (hm.mono hsub) (strSet_keep hS fun o e => hm.heap S _ hSw e))
  | succ k ih =>
    intro i s hk hi hst hS hR
    have hlt : i < ss.length := by exact (LI3 (.im (.eq (.s V0 V1) (.a V2 O1)) (.lt V1 V0))) hk
    refine codeAny_builtin F.entry_set_update_loop ?_
    rw [Around.under_plainId F.plain_set_update_loop _]
    show wpAny _ A.in1 (pyNext (.ref I) >>= _) _ _ s
    refine wpAny_bind (W.item i s _ _ hlt hst fun v s' hP hst' hm => ?_)
    obtain ⟨x, t, hx, rfl⟩ := hval i v hP
    have hS' : StrSet w s'.heap S (setS (ss.take i)) := strSet_keep hS fun o e => hm.heap S _ hSw e
    show wpAny _ A.in1 (holding [Value.str x t] (setAdd S (.str x t)) >>= _) _ _ s'
    refine wpAny_bind (wpAny_holding ?_)
    unfold setAdd
    refine wpAny_holding ?_
    refine wpAny_bind ((PySem.strKind prog w).pyHash (k := x) (by show Value.isStrOf x (.str x t) = true; simp [Value.isStrOf]) ?_)
    have hroom : (setS (ss.take i)).length + 1 < scanBound := by
      have h1 := setS_len (ss.take i)
      rw [List.length_take] at h1
      exact (LI4 (.im (.lt (.a V0 O1) V1) (.im (.le V2 (.mi V3 V0)) (.lt (.a V2 O1) V1)))) hb h1
    refine addHashed_str (s := { s' with toks := s'.toks + 1 }) hS' hroom fun b h' hsb hS2 => ?_
    have hSi : StrSet w h' S (setS (ss.take (i + 1))) := by
      rw [setS_succ hlt]
      rw [List.getElem?_eq_getElem hlt] at hx
      cases hx
      exact hS2
    refine wpAny_pure ⟨plainId_quiet F.plain_set_update_loop _, ih (i + 1) _ (by exact (LI3 (.im (.eq (.s V0 V1) (.a V2 O1)) (.eq (.s V0 (.a V1 O1)) V2))) hk) hlt (W.frame _ s' _ _ hst' (Nat.le_succ _) fun b hb o e => ?_) hSi fun s'' hm'' hS'' => ?_⟩
    · rw [hsb.2 b (fun h : b = S => hSf (by rw [← h]; exact hb))]; exact e
    · refine hR s'' (Moved.trans W.gtrans ((hm.mono hsub).then_heap (Nat.le_succ _) fun b o hb e => ?_) hm'') hS''
      rw [hsb.2 b (fun h : b = S => hb (by rw [h]; exact List.mem_cons_self))]; exact e
end
section
variable {prog : Program} {w : World} {A : Around} {E : Value → Shared → Prop} {s : Shared}
theorem strs_at : ∀ {vs : List Value} {ss : List Str}, StrsAre vs ss → ∀ (i : Nat) (v : Value), vs[i]? = some v → ∃ x t, ss[i]? = some x ∧ v = .str x t := fun h => by
  induction h with
  | nil => exact fun i v h => by cases h
  | cons x t _ ih =>
    intro i v h
    cases i with
    | zero => exact ⟨x, t, rfl, (Option.some.inj h).symm⟩
    | succ i => exact ih i v h
set_option maxHeartbeats 3200000 in
theorem call_set_strs {l : Addr} {items : Array Value} {ss : List Str} {Q : Value → Shared → Prop}
    (hh : A.handled = none) (hl : s.heap.IsList l items) (hi : StrsAre items.toList ss) (hb : ss.length + 1 < scanBound)
    (h : ∀ (h' : Heap) (tk : Nat), StrSet w h' s.heap.objs.size (setS ss) →
      (∀ b o, b < s.heap.objs.size → s.heap.get? b = some o → h'.get? b = some o) → Q (.ref s.heap.objs.size) { s with heap := h', toks := tk }) :
    wpAny (model prog w) A (call (.type "set") [.ref l]) Q E s := by
  have hlen : items.size = ss.length := by rw [← hi.length, Array.length_toList]
  obtain ⟨c, tl, hmro⟩ := F.called_set.mro
  have hmade := F.called_set.made
  have hsub := F.called_set.sub
  refine wpAny_call (codeAny_of_tree ?_)
  show wpAny _ _ (callAny (.type "set") _) _ _ _
  refine wpAny_pure ⟨Code.quiet_builtin _ (by decide +kernel), codeAny_builtin F.entry_type_call ?_⟩
  rw [Around.under_plain (weight_type_call_type "set" [.ref l] []) rfl]
  have h1 := F.called_set.notType
  have h2 := F.called_set.canCreate
  have hct := F.typeCall_set_1 (.ref l)
  repeat (any_goals (first | assumption | wp_step))
  refine codeAny_mono (code_set_new_1 (.ref l) (E := E) (Q₁ := fun obj s₁ => ∃ led : Bool, obj = .ref s.heap.objs.size ∧ s₁ = { s with heap := s.heap.push { cls := .type "set", dict := none, data := .set #[] 0 (.fresh 0 0 led) } }) fun led => ⟨led, rfl, rfl⟩) fun r s₁ hr => ?_
  cases r with
  | error e => exact hr
  | ok fl =>
    cases fl with
    | ret obj =>
      obtain ⟨led, rfl, rfl⟩ := hr
      have hS : (s.heap.push { cls := .type "set", dict := none, data := .set #[] 0 (.fresh 0 0 led) }).get? s.heap.objs.size = some { cls := .type "set", dict := none, data := .set #[] 0 (.fresh 0 0 led) } := Heap.get?_push_size _ rfl
      have hT : Shared.TypeIs { s with heap := s.heap.push { cls := .type "set", dict := none, data := .set #[] 0 (.fresh 0 0 led) } } (.ref s.heap.objs.size) "set" := ⟨_, hS, rfl⟩
      have hli := F.called_set.init.lookup
      have hbi := F.called_set.init.bind (.ref s.heap.objs.size)
      repeat (any_goals (first | assumption | wp_step))
      refine codeAny_mono (codeAny_call_builtin (R := wants (fun r s₂ => r = .none ∧ E2 fun h' tk => A3 (s₂ = { s with heap := h', toks := tk }) (StrSet w h' s.heap.objs.size (setS ss)) (∀ b o, b < s.heap.objs.size → s.heap.get? b = some o → h'.get? b = some o)) E) F.called_set.init.plain F.entry_set_init (check_set_init_1 hT ?_)) fun r₂ s₂ hr₂ => ?_
      · obtain ⟨ol, hol, hcl, nl, hdl⟩ := hl
        obtain ⟨ocls, odict, odata, oslots⟩ := ol
        simp only at hcl hdl
        subst hcl; subst hdl
        have hol' : (s.heap.push { cls := .type "set", dict := none, data := .set #[] 0 (.fresh 0 0 led) }).get? l = some { cls := .type "list", dict := odict, data := .seq items nl, slots := oslots } := Heap.get?_push_of_some _ hol
        have hsls := F.sub_list_set
        have hslf := F.sub_list_frozenset
        have hne : (Value.type "list" == Value.type "dict") = false := by decide
        have hl1 : (s.heap.push { cls := .type "set", dict := none, data := .set #[] 0 (.fresh 0 0 led) }).IsList l items := ⟨_, hol', rfl, nl, rfl⟩
        unfold Builtin.«set.__init__» noKeywords Builtin.Frozenset.updateFrom
        generalize hPI : pyIter = PI
        wp_walk
        subst hPI
        refine wpAny_pyIter_list hl1 ?_
        refine wpAny_bind (wpAny_runValue ?_)
        have hlS : l < s.heap.objs.size := Heap.lt_size hol
        have hh3 : A.in1.in1.in1.handled = none := by simp [hh]
        have hneI : l ≠ (s.heap.push { cls := .type "set", dict := none, data := .set #[] 0 (.fresh 0 0 led) }).objs.size := by
          rw [Heap.size_push]; exact Nat.ne_of_lt (Nat.lt_succ_of_lt hlS)
        have hSf : s.heap.objs.size ∉ [(s.heap.push { cls := .type "set", dict := none, data := .set #[] 0 (.fresh 0 0 led) }).objs.size, l] := by
          rw [Heap.size_push]; simp only [List.mem_cons, List.mem_singleton, List.not_mem_nil, or_false, not_or]
          exact ⟨Nat.ne_of_lt (Nat.lt_succ_self _), Nat.ne_of_gt hlS⟩
        have hval : ∀ (i : Nat) (v : Value), items[i]? = some v → ∃ x t, ss[i]? = some x ∧ v = .str x t := fun i v hv =>
          strs_at hi i v (by rw [Array.getElem?_toList]; exact hv)
        refine update_loop_str (hlen ▸ (Walks.list hh3 _ l hneI items).toS) s.heap.objs.size
          hSf hval hb (ss.length - 0) 0 _ (by exact (LI1 (.eq (.s V0 O0) (.s V0 O0)))) (Nat.zero_le _)
          ⟨⟨_, Heap.get?_push_size _ rfl, rfl, rfl⟩, (hl1.push _)⟩ ?hS0 ?hR
        case hS0 =>
          have hget : ((s.heap.push { cls := .type "set", dict := none, data := .set #[] 0 (.fresh 0 0 led) }).push { cls := .type "list_iterator", data := .fields #[.ref l, .int 0 0] }).get? s.heap.objs.size
              = some { cls := .type "set", dict := none, data := .set #[] 0 (.fresh 0 0 led) } := Heap.get?_push_of_some _ hS
          exact ⟨_, _, _, _, hget, ⟨rfl, rfl, rfl⟩, rfl, fun e he => (by cases he), .refl _, by unfold scanBound; decide, by cases led <;> decide, fun q => absurd rfl q⟩
        case hR =>
          intro s' hm hS'
          obtain ⟨h', g', d', tk', os'⟩ := s'
          have eg : g' = s.gens := hm.gens
          have ed : d' = s.drawn := hm.drawn
          have eo : os' = s.os := hm.os
          subst eg; subst ed; subst eo
          show wpAny _ _ _ _ _ _
          refine wpAny_pure ?_
          show wpAny _ _ (ret Value.none) _ _ _
          refine wpAny_pure ⟨rfl, h', tk', rfl, hS', fun b o hb e => ?_⟩
          have hb1 : b ≠ s.heap.objs.size := Nat.ne_of_lt hb
          have hb2 : b ≠ (s.heap.push { cls := .type "set", dict := none, data := .set #[] 0 (.fresh 0 0 led) }).objs.size := by
            rw [Heap.size_push]; exact Nat.ne_of_lt (Nat.lt_succ_of_lt hb)
          exact hm.heap b o (by simp only [List.mem_cons, List.mem_singleton, List.not_mem_nil, or_false, not_or]; exact ⟨hb1, hb2⟩) (Heap.get?_push_of_some _ (Heap.get?_push_of_some _ e))
      · cases r₂ with
        | error e => exact hr₂
        | ok fl₂ =>
          cases fl₂ with
          | ret r =>
            obtain ⟨rfl, h', tk, rfl, hS', hk'⟩ := hr₂
            repeat (any_goals (first | assumption | wp_step))
            exact h _ _ hS' hk'
          | _ => exact hr₂.elim
    | _ => exact hr.elim
end
end Mine
end
section
open PySem PySem.W PyProof.Rows PySem.Calls PySem.Spec
namespace Mine
theorem owner_si : Manifest.owners.lookup (String.ofList ['r', 'o', 't', 'a', 'r', 'e', 't', 'i', '_', 't', 'e', 's'].reverse) = some Manifest.sig_set_iterator := by kernel_rfl
theorem slot_si_next : Slot "set_iterator" "__next__" "set_iterator.__next__" :=
  .of (owner := "set_iterator") (n := "__next__") (by rw [typeLookup_type, builtinLookup_eq_fast]; kernel_rfl) (by decide +kernel) (by decide +kernel) (by decide +kernel)
    (by first | exact .inl (by decide +kernel) | exact .inr (by decide +kernel)) (by rw [isSubtype_type]; kernel_rfl)
theorem entry_si_next : entryFor table "set_iterator.__next__" = some Builtin.«set_iterator.__next__» := entryFor_of_tree (by kernel_rfl)
theorem args_si_next (a : Value) : argsOk "set_iterator.__next__" ⟨[a], []⟩ := by
  unfold argsOk; rw [signature?_of (id := "set_iterator.__next__") (n := ['_', '_', 't', 'x', 'e', 'n', '_', '_']) (o := ['r', 'o', 't', 'a', 'r', 'e', 't', 'i', '_', 't', 'e', 's']) (by kernel_rfl) owner_si]; kernel_rfl
theorem slot_si_iter : Slot "set_iterator" "__iter__" "set_iterator.__iter__" :=
  .of (owner := "set_iterator") (n := "__iter__") (by rw [typeLookup_type, builtinLookup_eq_fast]; kernel_rfl) (by decide +kernel) (by decide +kernel) (by decide +kernel)
    (by first | exact .inl (by decide +kernel) | exact .inr (by decide +kernel)) (by rw [isSubtype_type]; kernel_rfl)
theorem entry_set_iter : entryFor table "set.__iter__" = some Builtin.«frozenset.__iter__» :=
  entryFor_alias (id' := "frozenset.__iter__") (by kernel_rfl) rfl (by decide +kernel) (by kernel_rfl)
section
variable {prog : Program} {w : World} {A : Around} {E : Value → Shared → Prop} {s : Shared}
theorem choose_any {M : Model} {src : Source} {n : Nat} {Q : Nat → Shared → Prop} (hn : n ≠ 0) (h : ∀ i d, i < n → Q i { s with drawn := d }) : wpAny M A (choose src n) Q E s := fun Γ p hΓ => by
  show _ ∧ _
  exact ⟨hn, h _ _ (Nat.mod_lt _ (Nat.pos_of_ne_zero hn))⟩
theorem perm_erase {α : Type} : ∀ {l : List α} {i : Nat} (hi : i < l.length), (l[i] :: l.eraseIdx i).Perm l := fun {l} => by
  induction l with
  | nil => exact fun hi => absurd hi (Nat.not_lt_zero _)
  | cons x l ih =>
    intro i hi
    cases i with
    | zero => exact .refl _
    | succ i => exact (List.Perm.swap _ _ _).trans ((ih (Nat.lt_of_succ_lt_succ hi)).cons x)
theorem drawOrder_any {α : Type} {M : Model} : ∀ (n : Nat) (xs : List α) (s : Shared) (Q : List α → Shared → Prop), xs.length = n → (∀ ys d, ys.Perm xs → Q ys { s with drawn := d }) → wpAny M A (drawOrder n xs) Q E s := fun n => by
  induction n with
  | zero =>
    intro xs s Q hl h
    cases List.length_eq_zero_iff.mp hl
    exact wpAny_pure (h [] s.drawn (.refl _))
  | succ n ih =>
   intro xs s Q hl h
   cases xs with
   | nil => cases hl
   | cons x xs =>
    refine wpAny_bind (choose_any (Nat.succ_ne_zero _) fun i d hi => ?_)
    rw [List.getElem?_eq_getElem hi]
    dsimp only
    refine wpAny_bind (ih _ _ _ (by rw [List.length_eraseIdx, if_pos hi]; exact Nat.succ.inj hl) fun ys d' hp => wpAny_pure ?_)
    exact h _ d' ((List.Perm.cons _ hp).trans (perm_erase hi))
theorem pickOrder_go_perm {α : Type} (next : Nat → Nat) : ∀ (fuel k : Nat) (l : List α) (out : Array α), l.length = fuel → (pickOrder.go next fuel k l out).toList.Perm (out.toList ++ l) := fun fuel => by
  induction fuel with
  | zero =>
    intro k l out h
    cases List.length_eq_zero_iff.mp h
    rw [List.append_nil]; exact .refl _
  | succ fuel ih =>
    intro k l out h
    show (match l[next k % l.length]? with | some x => pickOrder.go next fuel (k + 1) (l.eraseIdx (next k % l.length)) (out.push x) | none => out).toList.Perm _
    have hl : 0 < l.length := by exact (LI2 (.im (.eq V0 (.a V1 O1)) (.lt O0 V0))) h
    have hi : next k % l.length < l.length := Nat.mod_lt _ hl
    rw [List.getElem?_eq_getElem hi]
    dsimp only
    refine (ih (k + 1) _ _ (by rw [List.length_eraseIdx, if_pos hi]; exact (LI2 (.im (.eq V0 (.a V1 O1)) (.eq (.s V0 O1) V1))) h)).trans ?_
    rw [Array.toList_push, List.append_assoc]
    exact List.Perm.append_left _ (perm_erase hi)
theorem pickOrder_perm {α : Type} (next : Nat → Nat) (xs : Array α) : (pickOrder next xs).toList.Perm xs.toList := by
  have := pickOrder_go_perm next xs.size 0 xs.toList #[] (by simp)
  simpa [pickOrder] using this
noncomputable abbrev siObj (first : Value) (i : Nat) (a : Addr) (n ep : Nat) : Obj := { cls := .type "set_iterator", data := .fields #[first, rawInt i, .ref a, rawInt n, rawInt ep] }
section
variable {I a : Addr} {o : Obj} {es : Array (Int × Value)} {ep : Nat} {t : SetTable}
theorem stop_next {Q : Option Value → Shared → Prop} {P : PySem.Fin → Shared → Prop} (hh : A.handled = none) (h : ∀ h', (∀ b o, s.heap.get? b = some o → h'.get? b = some o) → Q none { s with heap := h' }) :
    wpAny (model prog w) A.in1 (newExc (.type "StopIteration") [] >>= fun e => (raiseNew e : Sem PySem.Fin)) P (fun e s' => wpAny (model prog w) A (do if ← isInstance e (.type "StopIteration") then pure none else throw e) Q E s') s := by
  refine wpAny_bind ?_
  simp only [newExc, newTuple]
  refine wpAny_bind (wpAny_newObj_type ?_ (by size_fits))
  refine wpAny_bind (m := firstArgMember _ _) (wpAny_of_eq (a := Value.none) (by first | rfl | (simp only [firstArgMember]; rfl)) ?_)
  refine wpAny_newObj_type ?_ (by size_fits)
  simp only [raiseNew]
  refine wpAny_bind (wpAny_handled ?_)
  rw [show A.in1.handled = none from hh]
  refine wpAny_bind (wpAny_pure (wpAny_throw ?_))
  refine wpAny_bind (wpAny_isInstance (T := "StopIteration") (b := true) ⟨_, Heap.get?_push_size _ rfl, rfl⟩ isSubtype_stop ?_)
  exact wpAny_pure (h _ fun b o e => Heap.get?_push_of_some _ (Heap.get?_push_of_some _ e))
theorem byText_is {b : Bool} {Q : Bool → Shared → Prop} (ht : w.params.followText "set-order" = b) (h : Q b s) : wpAny (model prog w) A setsByText Q E s := by
  unfold setsByText
  refine wpAny_bind (wpAny_askSetting (wpAny_pure ?_))
  show Q (w.params.followText "set-order") s
  rw [ht]; exact h
theorem setWalk_text {Q : Array (Int × Value) → Shared → Prop} (ho : s.heap.get? a = some o) (hd : o.data = .set es ep t) (hf : t.fits es.size = true) (ht : w.params.followText "set-order" = true)
    (h : Q (pickOrder (w.params.setOrder a ep) es) s) : wpAny (model prog w) A (setWalk a) Q E s := by
  unfold setWalk
  refine wpAny_bind (wpAny_setState_of ho hd hf ?_)
  dsimp only
  refine wpAny_bind (byText_is ht ?_)
  rw [if_pos rfl]
  exact wpAny_bind (wpAny_askSetting (wpAny_pure h))
theorem setNext_text {slot given : Nat} {Q : Option (Value × Nat) → Shared → Prop} (ho : s.heap.get? a = some o) (hd : o.data = .set es ep t) (hf : t.fits es.size = true) (ht : w.params.followText "set-order" = true)
    (h : Q (((pickOrder (w.params.setOrder a ep) es)[given]?).map fun e => (e.2, slot)) s) : wpAny (model prog w) A (setNext a slot given ep) Q E s := by
  unfold setNext
  refine wpAny_bind (wpAny_setState_of ho hd hf ?_)
  dsimp only
  refine wpAny_bind (byText_is ht ?_)
  rw [if_pos rfl, if_neg (by simp)]
  show wpAny _ _ (setWalk a >>= fun x => pure ((x[given]?).map fun e => (e.2, slot))) _ _ s
  exact wpAny_bind (setWalk_text ho hd hf ht (wpAny_pure h))
theorem si_item_text {i : Nat} {e : Int × Value} {Q : Option Value → Shared → Prop} (hI : s.heap.get? I = some (siObj (rawInt 0) i a es.size ep)) (ho : s.heap.get? a = some o)
    (hd : o.data = .set es ep t) (hf : t.fits es.size = true) (ht : w.params.followText "set-order" = true) (he : (pickOrder (w.params.setOrder a ep) es)[i]? = some e)
    (h : ∀ h', h'.get? I = some (siObj (rawInt 0) (i + 1) a es.size ep) → Heap.SameBut I s.heap h' → Q (some e.2) { s with heap := h' }) : wpAny (model prog w) A (pyNext (.ref I)) Q E s := by
  have hT : s.TypeIs (.ref I) "set_iterator" := ⟨_, hI, rfl⟩
  unfold pyNext
  refine wpAny_bind (wpAny_attempt (wpAny_callSpecial?_slot (name := Str.ofString "__next__") hT slot_si_next
    (wpAny_call_entry slot_si_next hT entry_si_next ?_ (args_si_next _))))
  unfold Builtin.«set_iterator.__next__»
  refine wpAny_bind (m := slotArgs _ _ _) (wpAny_pure ?_)
  refine wpAny_bind (wpAny_fieldsOf hI rfl ?_)
  show wpAny _ _ (setEntries a >>= _) _ _ s
  refine wpAny_bind (wpAny_setEntries_of ho hd hf ?_)
  rw [if_neg (by simp)]
  show wpAny _ _ (setNext a _ _ _ >>= _) _ _ s
  refine wpAny_bind (setNext_text (ep := ep) ho hd hf ht ?_)
  rw [show (Int.toNat (i : Int)) = i from rfl, he]
  show wpAny _ _ (setField (.ref I) 0 (rawInt 0) >>= fun _ => setField (.ref I) 1 (rawInt ((i : Int) + 1)) >>= fun _ => ret e.2) _ _ s
  refine wpAny_bind (wpAny_setField hI rfl (by show (_ : Nat) < 5; decide) ?_)
  have h1 : (s.heap.update I (Obj.mapFields (·.setIfInBounds 0 (rawInt 0)))).get? I = some (siObj (rawInt 0) i a es.size ep) := Heap.get?_update_self _ hI rfl
  refine wpAny_bind (wpAny_setField h1 rfl (by show (_ : Nat) < 5; decide) ?_)
  refine wpAny_pure ⟨_, rfl, wpAny_pure ?_⟩
  exact h _ (Heap.get?_update_self _ h1 rfl) ((Heap.SameBut.update ..).trans (Heap.SameBut.update ..))
theorem si_done_text {n : Nat} {Q : Option Value → Shared → Prop} (hh : A.handled = none) (hI : s.heap.get? I = some (siObj (rawInt 0) n a es.size ep)) (ho : s.heap.get? a = some o)
    (hd : o.data = .set es ep t) (hf : t.fits es.size = true) (ht : w.params.followText "set-order" = true) (hn : (pickOrder (w.params.setOrder a ep) es)[n]? = none)
    (h : ∀ h', Heap.ExtBut I s.heap h' → Q none { s with heap := h' }) : wpAny (model prog w) A (pyNext (.ref I)) Q E s := by
  have hT : s.TypeIs (.ref I) "set_iterator" := ⟨_, hI, rfl⟩
  unfold pyNext
  refine wpAny_bind (wpAny_attempt (wpAny_callSpecial?_slot (name := Str.ofString "__next__") hT slot_si_next
    (wpAny_call_entry slot_si_next hT entry_si_next ?_ (args_si_next _))))
  unfold Builtin.«set_iterator.__next__»
  refine wpAny_bind (m := slotArgs _ _ _) (wpAny_pure ?_)
  refine wpAny_bind (wpAny_fieldsOf hI rfl ?_)
  show wpAny _ _ (setEntries a >>= _) _ _ s
  refine wpAny_bind (wpAny_setEntries_of ho hd hf ?_)
  rw [if_neg (by simp)]
  show wpAny _ _ (setNext a _ _ _ >>= _) _ _ s
  refine wpAny_bind (setNext_text (ep := ep) ho hd hf ht ?_)
  rw [show (Int.toNat (n : Int)) = n from rfl, hn]
  show wpAny _ _ (setField (.ref I) 2 .none >>= fun _ => newExc (.type "StopIteration") [] >>= fun e => raiseNew e) _ _ s
  refine wpAny_bind (wpAny_setField hI rfl (by show (_ : Nat) < 5; decide) ?_)
  exact stop_next hh fun h' k => h h' fun b o hb e => k b o ((Heap.SameBut.update s.heap I _).extBut b o hb e)
noncomputable abbrev ordObj (ord : List Nat) : Obj := { cls := .type "tuple", data := .seq (ord.map fun i : Nat => rawInt i).toArray }
theorem si_item_drawn {i n p : Nat} {T : Addr} {ord : List Nat} {e : Int × Value} {Q : Option Value → Shared → Prop} (hI : s.heap.get? I = some (siObj (.ref T) i a n ep)) (ho : s.heap.get? a = some o) (hTt : s.heap.get? T = some (ordObj ord))
    (hd : o.data = .set es ep t) (hf : t.fits es.size = true) (hn : n = es.size) (hp : ord[i]? = some p) (he : es[p]? = some e)
    (h : ∀ h', h'.get? I = some (siObj (.ref T) (i + 1) a n ep) → Heap.SameBut I s.heap h' → Q (some e.2) { s with heap := h' }) : wpAny (model prog w) A (pyNext (.ref I)) Q E s := by
  subst hn
  have hT : s.TypeIs (.ref I) "set_iterator" := ⟨_, hI, rfl⟩
  unfold pyNext
  refine wpAny_bind (wpAny_attempt (wpAny_callSpecial?_slot (name := Str.ofString "__next__") hT slot_si_next
    (wpAny_call_entry slot_si_next hT entry_si_next ?_ (args_si_next _))))
  unfold Builtin.«set_iterator.__next__»
  refine wpAny_bind (m := slotArgs _ _ _) (wpAny_pure ?_)
  refine wpAny_bind (wpAny_fieldsOf hI rfl ?_)
  show wpAny _ _ (setEntries a >>= _) _ _ s
  refine wpAny_bind (wpAny_setEntries_of ho hd hf ?_)
  rw [if_neg (by simp)]
  show wpAny _ _ (seqItems? (.ref T) >>= _) _ _ s
  refine wpAny_bind (wpAny_seqItems hTt rfl ?_)
  dsimp only
  have hq : ((ord.map fun i : Nat => rawInt i).toArray)[(i : Int).toNat]? = some (rawInt p) := by
    show ((ord.map fun i : Nat => rawInt i).toArray)[i]? = _
    rw [List.getElem?_toArray, List.getElem?_map, hp]; rfl
  rw [hq]
  show wpAny _ _ (setNextDrawn a p ep >>= _) _ _ s
  refine wpAny_bind ?_
  unfold setNextDrawn
  refine wpAny_bind (wpAny_setState_of ho hd hf ?_)
  dsimp only
  rw [if_neg (by simp), he]
  refine wpAny_pure ?_
  show wpAny _ _ (setField (.ref I) 1 (rawInt ((i : Int) + 1)) >>= fun _ => ret e.2) _ _ s
  refine wpAny_bind (wpAny_setField hI rfl (by show (_ : Nat) < 5; decide) ?_)
  refine wpAny_pure ⟨_, rfl, wpAny_pure ?_⟩
  exact h _ (Heap.get?_update_self _ hI rfl) (Heap.SameBut.update ..)
theorem si_done_drawn {i n : Nat} {T : Addr} {ord : List Nat} {Q : Option Value → Shared → Prop} (hh : A.handled = none) (hI : s.heap.get? I = some (siObj (.ref T) i a n ep)) (ho : s.heap.get? a = some o) (hTt : s.heap.get? T = some (ordObj ord))
    (hd : o.data = .set es ep t) (hf : t.fits es.size = true) (hn : n = es.size) (hp : ord[i]? = none)
    (h : ∀ h', Heap.ExtBut I s.heap h' → Q none { s with heap := h' }) : wpAny (model prog w) A (pyNext (.ref I)) Q E s := by
  subst hn
  have hT : s.TypeIs (.ref I) "set_iterator" := ⟨_, hI, rfl⟩
  unfold pyNext
  refine wpAny_bind (wpAny_attempt (wpAny_callSpecial?_slot (name := Str.ofString "__next__") hT slot_si_next
    (wpAny_call_entry slot_si_next hT entry_si_next ?_ (args_si_next _))))
  unfold Builtin.«set_iterator.__next__»
  refine wpAny_bind (m := slotArgs _ _ _) (wpAny_pure ?_)
  refine wpAny_bind (wpAny_fieldsOf hI rfl ?_)
  show wpAny _ _ (setEntries a >>= _) _ _ s
  refine wpAny_bind (wpAny_setEntries_of ho hd hf ?_)
  rw [if_neg (by simp)]
  show wpAny _ _ (seqItems? (.ref T) >>= _) _ _ s
  refine wpAny_bind (wpAny_seqItems hTt rfl ?_)
  dsimp only
  have hq : ((ord.map fun i : Nat => rawInt i).toArray)[(i : Int).toNat]? = none := by
    show ((ord.map fun i : Nat => rawInt i).toArray)[i]? = _
    rw [List.getElem?_toArray, List.getElem?_map, hp]; rfl
  rw [hq]
  show wpAny _ _ (setField (.ref I) 0 (rawInt 0) >>= fun _ => setField (.ref I) 2 .none >>= fun _ => newExc (.type "StopIteration") [] >>= fun e => raiseNew e) _ _ s
  refine wpAny_bind (wpAny_setField hI rfl (by show (_ : Nat) < 5; decide) ?_)
  have h1 : (s.heap.update I (Obj.mapFields (·.setIfInBounds 0 (rawInt 0)))).get? I = some (siObj (rawInt 0) i a es.size ep) := Heap.get?_update_self _ hI rfl
  refine wpAny_bind (wpAny_setField h1 rfl (by show (_ : Nat) < 5; decide) ?_)
  exact stop_next hh fun h' k => h h' fun b o hb e => k b o (((Heap.SameBut.update s.heap I _).trans (Heap.SameBut.update ..)).extBut b o hb e)
theorem entry_si_iter : entryFor table "set_iterator.__iter__" = some Builtin.«dict_keyiterator.__iter__» :=
  entryFor_alias (id' := "dict_keyiterator.__iter__") (by kernel_rfl) rfl (by decide +kernel) (by kernel_rfl)
theorem args_si_iter (a : Value) : argsOk "set_iterator.__iter__" ⟨[a], []⟩ := by unfold argsOk; kernel_rfl
theorem si_self {Q : Value → Shared → Prop} (hT : s.TypeIs (.ref I) "set_iterator") (h : Q (.ref I) s) : wpAny (model prog w) A (pyIter (.ref I)) Q E s := by
  refine wpAny_pyIter_slot hT slot_si_iter (wpAny_call_entry slot_si_iter hT entry_si_iter ?_ (args_si_iter _))
  show wpAny _ _ (ret (.ref I)) _ _ s
  exact wpAny_pure ⟨_, rfl, "set_iterator", _, hT, slot_si_next.lookup, h⟩
theorem walks_text (hh : A.handled = none) (hne : a ≠ I) (hd : o.data = .set es ep t) (hf : t.fits es.size = true) (ht : w.params.followText "set-order" = true) :
    Walks prog w A I [I, a] [I] (pickOrder (w.params.setOrder a ep) es).toList.length (fun i v => ∃ e, (pickOrder (w.params.setOrder a ep) es).toList[i]? = some e ∧ v = e.2)
      (fun i h => h.get? I = some (siObj (rawInt 0) i a es.size ep) ∧ h.get? a = some o) where
  sub := fun b hb => List.mem_singleton.mp hb ▸ .head _
  frame := fun i h h' st k => ⟨k I (.head _) _ st.1, k a (.tail _ (.head _)) _ st.2⟩
  item := fun i s Q E hi st hQ => by
    have he : (pickOrder (w.params.setOrder a ep) es)[i]? = some (pickOrder (w.params.setOrder a ep) es).toList[i] := by
      rw [← Array.getElem?_toList, List.getElem?_eq_getElem hi]
    refine si_item_text st.1 st.2 hd hf ht he fun h' hI' hs => ?_
    exact hQ _ h' s.toks ⟨_, List.getElem?_eq_getElem hi, rfl⟩ ⟨hI', (hs.2 a hne).trans st.2⟩ fun b o hb e => hs.extBut b o (fun q => hb (by simp [q])) e
  done := fun s Q E st hQ => si_done_text hh st.1 st.2 hd hf ht (by rw [← Array.getElem?_toList]; exact List.getElem?_eq_none (Nat.le_refl _)) fun h' hx => hQ h' s.toks fun b o hb e => hx b o (fun q => hb (by simp [q])) e
  self := fun i s Q E st h => si_self ⟨_, st.1, rfl⟩ h
theorem walks_drawn {T : Addr} {ord : List Nat} (hh : A.handled = none) (hne : a ≠ I) (hT : T ≠ I) (hd : o.data = .set es ep t) (hf : t.fits es.size = true) (ho : ord.Perm (List.range es.size)) :
    Walks prog w A I [I, a, T] [I] (ord.filterMap (es[·]?)).length (fun i v => ∃ e, (ord.filterMap (es[·]?))[i]? = some e ∧ v = e.2)
      (fun i h => h.get? I = some (siObj (.ref T) i a es.size ep) ∧ h.get? a = some o ∧ h.get? T = some (ordObj ord)) := by
  have all : ∀ (l : List Nat), (∀ p ∈ l, p < es.size) → (l.filterMap (es[·]?)).length = l.length ∧ ∀ i (hi : i < l.length), ∃ e, es[l[i]]? = some e ∧ (l.filterMap (es[·]?))[i]? = some e := by
    intro l
    induction l with
    | nil => intro _; exact ⟨rfl, fun i hi => absurd hi (Nat.not_lt_zero _)⟩
    | cons p l ih =>
      intro hp
      obtain ⟨h1, h2⟩ := ih fun q hq => hp q (.tail _ hq)
      have hpp := hp p (.head _)
      rw [List.filterMap_cons_some (Array.getElem?_eq_getElem hpp)]
      refine ⟨by rw [List.length_cons, h1, List.length_cons], fun i hi => ?_⟩
      cases i with
      | zero => exact ⟨_, Array.getElem?_eq_getElem hpp, rfl⟩
      | succ i =>
        obtain ⟨e, e1, e2⟩ := h2 i (Nat.lt_of_succ_lt_succ hi)
        exact ⟨e, e1, e2⟩
  obtain ⟨hl, hat⟩ := all ord fun p hp => List.mem_range.mp (ho.mem_iff.mp hp)
  exact {
    sub := fun b hb => List.mem_singleton.mp hb ▸ .head _
    frame := fun i h h' st k => ⟨k I (.head _) _ st.1, k a (.tail _ (.head _)) _ st.2.1, k T (.tail _ (.tail _ (.head _))) _ st.2.2⟩
    item := fun i s Q E hi st hQ => by
      rw [hl] at hi
      obtain ⟨e, e1, e2⟩ := hat i hi
      refine si_item_drawn st.1 st.2.1 st.2.2 hd hf rfl (List.getElem?_eq_getElem hi) e1 fun h' hI' hs => ?_
      exact hQ _ h' s.toks ⟨_, e2, rfl⟩ ⟨hI', (hs.2 a hne).trans st.2.1, (hs.2 T hT).trans st.2.2⟩ fun b o hb e => hs.extBut b o (fun q => hb (by simp [q])) e
    done := fun s Q E st hQ => si_done_drawn hh st.1 st.2.1 st.2.2 hd hf rfl (List.getElem?_eq_none (Nat.le_of_eq hl.symm)) fun h' hx => hQ h' s.toks fun b o hb e => hx b o (fun q => hb (by simp [q])) e
    self := fun i s Q E st h => si_self ⟨_, st.1, rfl⟩ h }
theorem iter_set {ks : List Str} {Q : Value → Shared → Prop} (hS : StrSet w s.heap a ks) (h2 : 2 ≤ ks.length)
    (h : ∀ (I : Addr) (fp : List Addr) (xs : List (Int × Value)) (St : Nat → Heap → Prop) (h' : Heap) (d : Drawn), (∀ A' : Around, A'.handled = none → Walks prog w A' I fp [I] xs.length (fun i v => ∃ e, xs[i]? = some e ∧ v = e.2) St) → St 0 h' →
      (∀ e ∈ xs, ∃ x tk, e = (hashStr w x, .str x tk)) → (xs.map fun e => strOf e.2).Perm ks → (∀ b o, s.heap.get? b = some o → h'.get? b = some o) → I ∈ fp ∧ s.heap.objs.size ≤ I → (∀ b ∈ fp, b < h'.objs.size ∧ (b = a ∨ s.heap.objs.size ≤ b)) → Q (.ref I) { s with heap := h', drawn := d }) :
    wpAny (model prog w) A (pyIter (.ref a)) Q E s := by
  obtain ⟨o, es, ep, t, ho, hex, hd, hel, hmem, hb, hf, hpl⟩ := hS
  have hn : es.size = ks.length := by rw [← hmem.length_eq, List.length_map, Array.length_toList]
  have hplain : t.plain = false := hpl (by exact (LI2 (.im (.le O2 V0) (.im (.eq V1 V0) (.im (.eq V1 O0) .ff)))) h2 hn)
  have hT : s.TypeIs (.ref a) "set" := ⟨o, ho, hex.1⟩
  have ha := Heap.lt_size ho
  refine wpAny_pyIter_slot hT F.slot_set_iter (wpAny_call_entry F.slot_set_iter hT entry_set_iter ?_ (F.args_set_iter_1 _))
  unfold Builtin.«frozenset.__iter__»
  refine wpAny_bind (m := Builtin.Frozenset.slot0 _ _) (wpAny_pure ?_)
  refine wpAny_bind ?_
  unfold Builtin.Frozenset.sizeOf
  refine wpAny_bind (wpAny_setEntries_of ho hd hf (wpAny_pure ?_))
  refine wpAny_bind ?_
  unfold setDrawn
  refine wpAny_bind (wpAny_setState_of ho hd hf ?_)
  dsimp only
  cases ht : w.params.followText "set-order" with
  | true =>
    refine wpAny_bind (byText_is ht (wpAny_pure ?_))
    show wpAny _ _ (pure (rawInt 0) >>= fun first => setEpoch a >>= fun e => newFields "set_iterator" [first, rawInt 0, .ref a, rawInt es.size, rawInt e] >>= fun r => ret r) _ _ s
    refine wpAny_bind (wpAny_pure (wpAny_bind (wpAny_setEpoch_of ho hd hf (wpAny_bind (wpAny_newObj_type ?_ (by size_fits))))))
    have hI : (s.heap.push (siObj (rawInt 0) 0 a es.size ep)).get? s.heap.objs.size = some (siObj (rawInt 0) 0 a es.size ep) := Heap.get?_push_size _ rfl
    have old : ∀ b o, s.heap.get? b = some o → (s.heap.push (siObj (rawInt 0) 0 a es.size ep)).get? b = some o := fun b o e => Heap.get?_push_of_some _ e
    refine wpAny_pure ⟨_, rfl, "set_iterator", _, ⟨_, hI, rfl⟩, slot_si_next.lookup, ?_⟩
    refine h s.heap.objs.size _ _ _ _ s.drawn (fun A' hh => walks_text (o := o) hh (Nat.ne_of_lt ha) hd hf ht) ⟨hI, old _ _ ho⟩ (fun e he => hel e ((pickOrder_perm _ _).mem_iff.mp he)) (((pickOrder_perm _ _).map _).trans hmem) old ⟨.head _, Nat.le_refl _⟩ (fun b hb => ?_)
    show b < (s.heap.push (siObj (rawInt 0) 0 a es.size ep)).objs.size ∧ _
    rw [Heap.size_push]
    rcases List.mem_cons.mp hb with rfl | hb
    · exact ⟨Nat.lt_succ_self _, .inr (Nat.le_refl _)⟩
    · rw [List.mem_singleton.mp hb]; exact ⟨Nat.lt_succ_of_lt ha, .inl rfl⟩
  | false =>
    refine wpAny_bind (byText_is ht (wpAny_pure ?_))
    show wpAny _ _ (if (!t.plain && decide (es.size > 1)) = true then _ else _) _ _ _
    rw [if_pos (by rw [hplain]; simp; exact (LI2 (.im (.le O2 V0) (.im (.eq V1 V0) (.lt O1 V1)))) h2 hn)]
    refine wpAny_bind ?_
    refine drawOrder_any _ _ _ _ (by rw [List.length_range]) fun ord d hp => ?_
    have hol : ord.length = es.size := by rw [hp.length_eq, List.length_range]
    have hb' := fits_of_scanBound hb
    refine wpAny_bind (wpAny_newTuple ?_ (by rw [List.length_map, hol]; exact hb'))
    obtain ⟨T, hTe⟩ : ∃ T, s.heap.objs.size = T := ⟨_, rfl⟩
    obtain ⟨H, hH⟩ : ∃ H : Heap, H = s.heap.push (ordObj ord) := ⟨_, rfl⟩
    have hTt : H.get? T = some (ordObj ord) := by rw [hH, ← hTe]; exact Heap.get?_push_size _ rfl
    have old : ∀ b o, s.heap.get? b = some o → H.get? b = some o := fun b o e => by rw [hH]; exact Heap.get?_push_of_some _ e
    have hsz : H.objs.size = T + 1 := by rw [hH, ← hTe]; exact Heap.size_push ..
    show wpAny _ _ (setEpoch a >>= fun e => newFields "set_iterator" [.ref s.heap.objs.size, rawInt 0, .ref a, rawInt es.size, rawInt e] >>= fun r => ret r) _ _ { s with heap := s.heap.push (ordObj ord), drawn := d }
    rw [← hH, hTe]
    rw [hTe] at ha
    refine wpAny_bind (wpAny_setEpoch_of (old _ _ ho) hd hf (wpAny_bind (wpAny_newObj_type ?_ (by size_fits))))
    have hI : (H.push (siObj (.ref T) 0 a es.size ep)).get? H.objs.size = some (siObj (.ref T) 0 a es.size ep) := Heap.get?_push_size _ rfl
    have old2 : ∀ b o, H.get? b = some o → (H.push (siObj (.ref T) 0 a es.size ep)).get? b = some o := fun b o e => Heap.get?_push_of_some _ e
    refine wpAny_pure ⟨_, rfl, "set_iterator", _, ⟨_, hI, rfl⟩, slot_si_next.lookup, ?_⟩
    have hxp : (ord.filterMap (es[·]?)).Perm es.toList := (hp.filterMap _).trans (by rw [filterMap_getElem?_range])
    refine h H.objs.size _ _ _ _ d (fun A' hh => walks_drawn (o := o) (T := T) hh (by rw [hsz]; exact Nat.ne_of_lt (Nat.lt_succ_of_lt ha)) (by rw [hsz]; exact Nat.ne_of_lt (Nat.lt_succ_self _)) hd hf hp) ⟨hI, old2 _ _ (old _ _ ho), old2 _ _ hTt⟩ (fun e he => hel e (hxp.mem_iff.mp he)) ((hxp.map _).trans hmem) (fun b o e => old2 _ _ (old _ _ e)) ⟨.head _, by rw [hsz, hTe]; exact Nat.le_succ _⟩ (fun b hb => ?_)
    show b < (H.push (siObj (.ref T) 0 a es.size ep)).objs.size ∧ _
    rw [Heap.size_push, hsz]
    rcases List.mem_cons.mp hb with rfl | hb
    · rw [hsz]; exact ⟨Nat.lt_succ_self _, .inr (by rw [hTe]; exact Nat.le_succ _)⟩
    rcases List.mem_cons.mp hb with rfl | hb
    · exact ⟨Nat.lt_succ_of_lt (Nat.lt_succ_of_lt ha), .inl rfl⟩
    · rw [List.mem_singleton.mp hb]; exact ⟨Nat.lt_succ_of_lt (Nat.lt_succ_self _), .inr (Nat.le_of_eq hTe)⟩
theorem lengthHint_set {Q : Bool → Shared → Prop} (hT : s.TypeIs (.ref a) "set") (h : Q false s) : wpAny (model prog w) A (Builtin.List.listLengthHint (.ref a)) Q E s := by
  unfold Builtin.List.listLengthHint
  refine wpAny_bind (wpAny_specialOf hT F.slot_set_len.lookup ?_)
  dsimp only
  have hs : splitId "set.__len__" = some ("set", "__len__") := by kernel_rfl
  rw [hs]
  dsimp only
  refine wpAny_bind (wpAny_isInstance hT sub_set_self ?_)
  simp only [Bool.not_true, Bool.false_eq_true, if_false]
  refine wpAny_ite_split (fun _ => ?_) (fun q => absurd (by decide +kernel) q)
  exact wpAny_bind (wpAny_typeOf hT (wpAny_pure h))
theorem collect_set {ks : List Str} {Q : List Value → Shared → Prop} (hh : A.handled = none) (hS : StrSet w s.heap a ks) (h2 : 2 ≤ ks.length)
    (h : ∀ vs ss h' d tk, StrsAre vs ss → ss.Perm ks → (∀ b o, s.heap.get? b = some o → h'.get? b = some o) → Q vs { s with heap := h', drawn := d, toks := tk }) :
    wpAny (model prog w) A (collect (.ref a)) Q E s := by
  have hn : ks.length ≤ sizeLine := by
    obtain ⟨o, es, ep, t, ho, hex, hd, hel, hmem, hb, hf, hpl⟩ := hS
    have hn : es.size = ks.length := by rw [← hmem.length_eq, List.length_map, Array.length_toList]
    rw [← hn]; exact fits_of_scanBound hb
  have haS : a < s.heap.objs.size := let ⟨o, _, _, _, ho, _⟩ := hS; Heap.lt_size ho
  unfold collect
  refine wpAny_bind (wpAny_runValue (codeAny_builtin F.entry_proto_collect ?_))
  rw [Around.under_plainId F.plain_proto_collect _]
  show wpAny _ A.in1 (newList [] >>= fun l => again (.builtin "list.__iadd__" ⟨[l, .ref a], []⟩)) _ _ s
  refine wpAny_bind (wpAny_newObj_type ?_)
  refine wpAny_pure ⟨plainId_quiet F.plain_list_iadd _, codeAny_builtin F.entry_list_iadd ?_⟩
  rw [Around.under_plainId F.plain_list_iadd _]
  show wpAny _ A.in1 (Builtin.List.listExtendWith (.ref s.heap.objs.size) (.ref a) (.ref s.heap.objs.size)) _ _ _
  unfold Builtin.List.listExtendWith
  obtain ⟨D, hDe⟩ : ∃ D, s.heap.objs.size = D := ⟨_, rfl⟩
  obtain ⟨H, hH⟩ : ∃ H : Heap, H = s.heap.push { cls := .type "list", data := .seq ([] : List Value).toArray } := ⟨_, rfl⟩
  have hD : H.get? D = some { cls := .type "list", data := .seq #[] } := by rw [hH, ← hDe]; exact Heap.get?_push_size _ rfl
  have old : ∀ b o, s.heap.get? b = some o → H.get? b = some o := fun b o e => by rw [hH]; exact Heap.get?_push_of_some _ e
  have hsz : H.objs.size = D + 1 := by rw [hH, ← hDe]; exact Heap.size_push ..
  rw [← hH, hDe]
  rw [hDe] at haS
  have lt0 : ∀ b o, s.heap.get? b = some o → b ≠ D := fun b o e => Nat.ne_of_lt (by rw [← hDe]; exact Heap.lt_size e)
  clear hH
  have hSH : StrSet w H a ks := strSet_keep hS fun o e => old _ _ e
  have hT : Shared.TypeIs { s with heap := H } (.ref a) "set" := let ⟨o, _, _, _, ho, hex, _, _, _, _, _, _⟩ := hSH; ⟨o, ho, hex.1⟩
  have hDa : (D == a) = false := by simp; exact Nat.ne_of_gt haS
  refine wpAny_bind (wpAny_typeOf hT ?_)
  have h1 : Builtin.List.listSameRef (.ref D) (.ref a) = false := hDa
  have h3 : (Value.type "set" == Value.type "list") = false := by decide
  have h4 : (Value.type "set" == Value.type "tuple") = false := by decide
  simp only [h1, h3, h4, Bool.or_false, Bool.false_eq_true, if_false]
  refine wpAny_bind (iter_set hSH h2 fun I fp xs St H1 d W st hel hper keep hI hfp => ?_)
  refine wpAny_bind (wpAny_holding (lengthHint_set (let ⟨o, e1, e2⟩ := hT; ⟨o, keep _ _ e1, e2⟩) ?_))
  refine wpAny_ite_split (fun _ => ?_) (fun q => absurd (by decide +kernel) q)
  refine wpAny_bind (wpAny_rule ?_)
  have hS1 : H1.get? D = some { cls := .type "list", data := .seq #[] } := keep _ _ hD
  have hSf : D ∉ fp := fun q => by
    rcases (hfp D q).2 with e | e
    · exact absurd e (Nat.ne_of_gt haS)
    · have e : H.objs.size ≤ D := e
      rw [hsz] at e; exact Nat.not_succ_le_self _ e
  refine wpAny_bind ?_
  show wpAny _ A.in1 (updateSeq D (·.push .none) >>= fun _ => updateSeq D (·.pop)) _ _ _
  refine wpAny_bind (wpAny_updateSeq hS1 rfl ?_)
  have hS₂ := Heap.get?_update_self (Obj.mapSeq (·.push Value.none)) hS1 rfl
  refine wpAny_updateSeq hS₂ rfl ?_
  have hS₃ := Heap.get?_update_self (Obj.mapSeq (·.pop)) hS₂ rfl
  have oth : ∀ b o, b ≠ D → H1.get? b = some o → ((H1.update D (Obj.mapSeq (·.push Value.none))).update D (Obj.mapSeq (·.pop))).get? b = some o :=
    fun b o hb e => (Heap.get?_update_other _ _ (Ne.symm hb)).trans ((Heap.get?_update_other _ _ (Ne.symm hb)).trans e)
  have hxl : xs.length = ks.length := by rw [← hper.length_eq, List.length_map]
  refine wpAny_pure ⟨plainId_quiet F.plain_extend_loop _, codeAny_extend_loopS (W A.in1 hh).toS (by rw [hxl]; exact hn) _ hSf _ xs.length 0 _ _ _ rfl (Nat.zero_le _)
    ((W A.in1 hh).frame 0 H1 _ st fun b hb o e => oth b o (fun q => hSf (q ▸ hb)) e) hS₃ (ItemsOf.nil _) fun s' acc' c' hm hS' hacc => ?_⟩
  obtain ⟨h', g', d', tk', os'⟩ := s'
  have eg : g' = s.gens := hm.gens
  have ed : d' = d := hm.drawn
  have eo : os' = s.os := hm.os
  subst eg; subst ed; subst eo
  show wpAny _ A (load D >>= _) _ _ _
  refine wpAny_bind (wpAny_load hS' ?_)
  have hac : acc'.toList = xs.map (·.2) := by
    refine List.ext_getElem? fun j => ?_
    cases q : xs[j]? with
    | none => rw [List.getElem?_map, q]; exact List.getElem?_eq_none (by rw [Array.length_toList, hacc.1]; exact List.getElem?_eq_none_iff.mp q)
    | some e =>
      have hj : j < acc'.size := by rw [hacc.1]; exact (List.getElem?_eq_some_iff.mp q).1
      obtain ⟨e', q', ev⟩ := hacc.2 j _ (Array.getElem?_eq_getElem hj)
      rw [q] at q'; cases q'
      rw [List.getElem?_map, q, Array.getElem?_toList, Array.getElem?_eq_getElem hj, ev]; rfl
  have hs : StrsAre acc'.toList (xs.map fun e => strOf e.2) := by
    rw [hac]
    clear hac hacc hper hxl st W
    induction xs with
    | nil => exact .nil
    | cons e xs ih =>
      obtain ⟨x, tk, rfl⟩ := hel e (.head _)
      exact .cons x tk (ih fun e he => hel e (.tail _ he))
  refine wpAny_pure (h _ _ h' d' tk' hs hper fun b o e => ?_)
  refine hm.heap b o (fun q => ?_) (oth b o (lt0 b o e) (keep _ _ (old _ _ e)))
  rcases List.mem_cons.mp q with q | q
  · exact lt0 b o e q
  · rw [List.mem_singleton] at q
    have z : H.objs.size ≤ I := hI.2
    have := Heap.lt_size (old _ _ e)
    rw [q] at this
    exact Nat.not_lt.mpr z this
theorem sorted_set {ks : List Str} {Q : Value → Shared → Prop} (hh : A.handled = none) (hS : StrSet w s.heap a ks) (h2 : 2 ≤ ks.length) (h64 : ks.length < 64)
    (h : ∀ (D : Addr) (out : Array Value) (ss : List Str) (e : Nat) (h' : Heap) d tk, (∀ b o, s.heap.get? b = some o → b < D) → StrsAre out.toList ss → ss.Perm ks → sortedS ss = true → h'.get? D = some (listOf out e) → (∀ b o, s.heap.get? b = some o → h'.get? b = some o) → Q (.ref D) { s with heap := h', drawn := d, toks := tk }) :
    wpAny (model prog w) A (call (.builtin "sorted") [.ref a]) Q E s := by
  refine Calls.call_function_entry kind_sorted plain_sorted entry_sorted (args_sorted1 _) ?_
  unfold Builtin.«sorted»
  refine wpAny_bind (m := checkCount "sorted" 1 1 _) (wpAny_pure ?_)
  refine wpAny_bind (collect_set (A := A.in1) hh hS h2 fun vs ss H d tk hvs hper keep => ?_)
  have hl : vs.length < 64 := by rw [hvs.length, hper.length_eq]; exact h64
  refine wpAny_bind (wpAny_newList ?_)
  obtain ⟨D, hDe⟩ : ∃ D, H.objs.size = D := ⟨_, rfl⟩
  obtain ⟨H2, hH2⟩ : ∃ H2 : Heap, H2 = H.push (seqObj "list" vs.toArray 0) := ⟨_, rfl⟩
  have hD : H2.get? D = some (seqObj "list" vs.toArray 0) := by rw [hH2, ← hDe]; exact Heap.get?_push_size _ rfl
  have old : ∀ b o, H.get? b = some o → H2.get? b = some o := fun b o e => by rw [hH2]; exact Heap.get?_push_of_some _ e
  have hlt : ∀ b o, s.heap.get? b = some o → b < D := fun b o e => by rw [← hDe]; exact Heap.lt_size (keep _ _ e)
  have hsz : H2.objs.size = D + 1 := by rw [hH2, ← hDe]; exact Heap.size_push ..
  show wpAny _ _ _ _ _ { s with heap := H.push (seqObj "list" vs.toArray 0), drawn := d, toks := tk }
  rw [← hH2, hDe]
  refine wpAny_bind (wpAny_holding (wpAny_call_entry slot_list_sort ⟨_, hD, rfl⟩ entry_list_sort (list_sort_treeK strKind_oneLt hD hvs.keysOf (fun v₁ v₂ rest e => keyKind_strs (by rw [← e]; exact hvs)) hl fun st' hp hs => ⟨_, rfl, ?_⟩) (args_list_sort _)))
  obtain ⟨ss', a1, a2, a3⟩ := sorted_out_str hvs hp hs
  refine wpAny_pure ⟨_, rfl, ?_⟩
  obtain ⟨e, he⟩ := sortedHeap_at (vs := vs) (out := (arrOf st').map (·.2)) hD
  exact h D _ ss' e _ d tk hlt a1 (a2.trans hper) a3 he fun b o q => by
    rw [sortedHeap_old (Nat.ne_of_lt (hlt b o q)) (by rw [hsz]; exact Nat.lt_succ_of_lt (hlt b o q))]
    exact old _ _ (keep _ _ q)
end
end
end Mine
end
section
open PySem PySem.W PyProof.Rows PySem.Calls PySem.Spec
namespace Mine
section
variable {prog : Program} {w : World} {A : Around} {env : Env} {s : Shared} {x : Str} {c : Addr} {body : List Stmt} {Q : Flow → Shared → Prop}
noncomputable def FEndC (g : Heap) (L c l I : Addr) (io : Obj) (out : Array Value) (e : Nat) (J : (Str → Option Value) → List (Addr × Obj) → Prop) (s s' : Shared) : Prop :=
  E6 fun h' tk' m' led' co' v' => A6 (s' = { s with heap := h', toks := tk' }) (Fr g L h' m') (News g L h' ((c, co') :: (led' ++ [(l, listOf out e), (I, io)]))) (co'.data = .cell v') (∀ p ∈ led', p.1 ≠ c ∧ p.1 ≠ l ∧ p.1 ≠ I) (J m' led')
noncomputable def CellFor (prog : Program) (w : World) (A : Around) (g : Heap) (env : Env) (c : Addr) (body : List Stmt) (Q : Flow → Shared → Prop) (xv : Value) (s₁ : Shared) : Prop :=
  E8 fun (l : Addr) (out : Array Value) (e : Nat) (m : Str → Option Value) (led : List (Addr × Obj)) (co : Obj) (v₀ : Option Value) (J : Nat → (Str → Option Value) → List (Addr × Obj) → Prop) => A9 (xv = .ref l) (Fr g env.locals s₁.heap m) (News g env.locals s₁.heap ((l, listOf out e) :: (c, co) :: led)) (co.data = .cell v₀) (l ≠ c) (∀ p ∈ led, p.1 ≠ c ∧ p.1 ≠ l) (J 0 m led) (∀ (I : Addr) (i : Nat) (v : Value) (m₁ : Str → Option Value) (led₁ : List (Addr × Obj)) (h : Heap) (tk : Nat) (io co₁ : Obj), s₁.heap.objs.size = I → out[i]? = some v → J i m₁ led₁ → (∀ p ∈ led₁, p.1 ≠ c ∧ p.1 ≠ l ∧ p.1 ≠ I) → l ≠ I → c ≠ I → Fr g env.locals h m₁ → News g env.locals h ((c, co₁) :: (led₁ ++ [(l, listOf out e), (I, io)])) → co₁.data = .cell (some v) →
      ∀ R : Flow → Shared → Prop, (∀ f s', FPost Q (FEndC g env.locals c l I io out e (J (i + 1)) s₁) f s' → R f s') → wpAny (model prog w) A (execs body env) R (fun _ _ => False) { s₁ with heap := h, toks := tk }) (∀ m' led' h tk, J out.size m' led' → Fr g env.locals h m' → News g env.locals h led' → Q .next { s₁ with heap := h, toks := tk })
theorem For_cellL {px pos : Pos} {iter : Expr} (g : Heap) (hh : A.handled = none) (hk : env.scope.kind = .function) (hx : env.kindOf x = some .cell) (hc : env.cells.lookup x = some c)
    (h : wpAny (model prog w) A (eval iter env) (fun xv s₁ => Halt (CellFor prog w A g env c body Q xv s₁)) (fun _ _ => False) s)
    (hs : ∀ x, foldedSetIterable iter env x = pure x := by intro _; rfl) :
    wpAny (model prog w) A (exec (.For (.Name x px) iter body [] pos) env) Q (fun _ _ => False) s := by
  refine wpAny_For (wpAny_mono h (fun xv s₁ h₁ => ?_) fun _ _ e => e) hs
  obtain ⟨l, out, e, m, led, co, v₀, J, rfl, F, N, hco, hlc, hoff, hJ, turn, done⟩ := h₁
  have hl : s₁.heap.IsList l out := ⟨_, (N _ (.head _)).1, rfl, _, rfl⟩
  refine wpAny_pyIter_list hl ?_
  obtain ⟨I, hIe⟩ : ∃ I, s₁.heap.objs.size = I := ⟨_, rfl⟩
  have hlI : l ≠ I := by rw [← hIe]; exact Nat.ne_of_lt (Heap.lt_size (N _ (.head _)).1)
  have hcI : c ≠ I := by rw [← hIe]; exact Nat.ne_of_lt (Heap.lt_size (N _ (.tail _ (.head _))).1)
  have hledI : ∀ p ∈ led, p.1 ≠ I := fun p hp => by rw [← hIe]; exact Nat.ne_of_lt (Heap.lt_size (N p (.tail _ (.tail _ hp))).1)
  have gI : g.get? I = none := by
    cases q : g.get? I with
    | none => rfl
    | some o => exact absurd (Heap.lt_size (F.keep _ _ q)) (by rw [hIe]; exact Nat.lt_irrefl _)
  have hLI : env.locals ≠ I := by rw [← hIe]; exact Nat.ne_of_lt F.ns.lt
  have W := Walks.list (prog := prog) (w := w) (A := A) hh I l hlI out
  let Inv : Nat → Shared → Prop := fun k s' => E7 fun h tk m led co v₀ i => A9 (s' = { s₁ with heap := h, toks := tk }) (h.IsListIter I l i ∧ h.IsList l out) (Fr g env.locals h m) (News g env.locals h ((l, listOf out e) :: (c, co) :: led)) (co.data = .cell v₀) (∀ p ∈ led, p.1 ≠ c ∧ p.1 ≠ l ∧ p.1 ≠ I) (J i m led) (i ≤ out.size) (k = out.size + 1 - i)
  rw [hIe]
  refine codeAny_forLoop Inv ?_ (out.size + 1) ⟨s₁.heap.push _, s₁.toks, m, led, co, v₀, 0, rfl, ⟨⟨_, by rw [← hIe]; exact Heap.get?_push_size _ rfl, rfl, rfl⟩, hl.push _⟩, F.push _, fun p hp => ⟨Heap.get?_push_of_some _ (N p hp).1, (N p hp).2⟩, hco, fun p hp => ⟨(hoff p hp).1, (hoff p hp).2, hledI p hp⟩, hJ, Nat.zero_le _, rfl⟩
  rintro k s' ⟨h, tk, m₁, led₁, co₁, v₁, i, rfl, st, F₁, N₁, hco₁, hoff₁, hj, hi, rfl⟩
  by_cases hlt : i < out.size
  · refine W.item i _ _ _ hlt st fun v h₂ tk₂ hP st₂ k₂ => ?_
    dsimp only
    have kk : ∀ b o, b ≠ I → h.get? b = some o → h₂.get? b = some o := fun b o hb q => k₂ b o (fun z => hb (List.mem_singleton.mp z)) q
    have F₂ : Fr g env.locals h₂ m₁ := ⟨F₁.ns.at' fun o q => kk _ o hLI q, fun b o q => kk b o (fun z => by rw [z, gI] at q; cases q) (F₁.keep b o q), F₁.above⟩
    have hc₂ : h₂.get? c = some co₁ := kk _ _ hcI (N₁ _ (.tail _ (.head _))).1
    have hl₂ : h₂.get? l = some (listOf out e) := kk _ _ hlI (N₁ _ (.head _)).1
    refine wpAny_assign_Name (wpAny_storeName_cell hk hx hc ⟨co₁, hc₂, hco₁⟩ (fun h₃ hcell hs₃ => ?_))
    obtain ⟨co₃, hc₃, hd₃⟩ := hcell
    have k₃ : ∀ b o, b ≠ c → h₂.get? b = some o → h₃.get? b = some o := fun b o hb q => (hs₃.2 b hb).trans q
    have hcL : env.locals ≠ c := Ne.symm (N₁ _ (.tail _ (.head _))).2.1
    have gc := (N₁ _ (.tail _ (.head _))).2.2
    have F₃ : Fr g env.locals h₃ m₁ := ⟨F₂.ns.at' fun o q => k₃ _ o hcL q, fun b o q => k₃ b o (fun z => by rw [z, gc] at q; cases q) (F₂.keep b o q), F₂.above⟩
    have st₃ := W.frame (i + 1) h₂ h₃ st₂ fun b hb o q => k₃ b o (fun z => by
      subst z
      rcases List.mem_cons.mp hb with r | r
      · exact hcI r
      · exact hlc (List.mem_singleton.mp r).symm) q
    obtain ⟨io, hio, _⟩ := id st₃.1
    have N₃ : News g env.locals h₃ ((c, co₃) :: (led₁ ++ [(l, listOf out e), (I, io)])) := fun p hp => by
      rcases List.mem_cons.mp hp with rfl | hp
      · exact ⟨hc₃, (N₁ _ (.tail _ (.head _))).2⟩
      rcases List.mem_append.mp hp with hp | hp
      · exact ⟨k₃ _ _ (hoff₁ p hp).1 (kk _ _ (hoff₁ p hp).2.2 (N₁ p (.tail _ (.tail _ hp))).1), (N₁ p (.tail _ (.tail _ hp))).2⟩
      rcases List.mem_cons.mp hp with rfl | hp
      · exact ⟨k₃ _ _ hlc hl₂, (N₁ _ (.head _)).2⟩
      · rw [List.mem_singleton.mp hp]
        exact ⟨hio, Ne.symm hLI, gI⟩
    refine wpAny_mono (turn I i v m₁ led₁ h₃ tk₂ io co₃ hIe hP hj hoff₁ hlI hcI F₃ N₃ hd₃ _ fun _ _ x => x) (fun f s' hf => ?_) fun _ _ z => False.elim z
    have fin : FEndC g env.locals c l I io out e (J (i + 1)) s₁ s' → ∃ m, m < out.size + 1 - i ∧ Inv m s' := by
      rintro ⟨h', tk', m', led', co', v', rfl, F', N', hco', hoff', hj'⟩
      refine ⟨out.size + 1 - (i + 1), by exact (LI2 (.im (.lt V0 V1) (.lt (.s (.a V1 O1) (.a V0 O1)) (.s (.a V1 O1) V0)))) hlt, h', tk', m', led', co', v', i + 1, rfl, W.frame (i + 1) h₃ h' st₃ (fun b hb o q => ?_), F', fun p hp => ?_, hco', hoff', hj', hlt, rfl⟩
      · rcases List.mem_cons.mp hb with rfl | hb
        · have := (N' (b, io) (.tail _ (List.mem_append_right _ (.tail _ (.head _))))).1
          rw [hio] at q; cases q; exact this
        · rw [List.mem_singleton.mp hb] at q ⊢
          have := (N' (l, listOf out e) (.tail _ (List.mem_append_right _ (.head _)))).1
          rw [(N₃ (l, listOf out e) (.tail _ (List.mem_append_right _ (.head _)))).1] at q; cases q; exact this
      · rcases List.mem_cons.mp hp with rfl | hp
        · exact N' _ (.tail _ (List.mem_append_right _ (.head _)))
        rcases List.mem_cons.mp hp with rfl | hp
        · exact N' _ (.head _)
        · exact N' _ (.tail _ (List.mem_append_left _ hp))
    cases f with
    | ret v => exact hf
    | brk => exact hf
    | next => exact fin hf
    | cont => exact fin hf
  · have hin : i = out.size := Nat.le_antisymm hi (Nat.not_lt.mp hlt)
    subst hin
    refine W.done _ _ _ st fun h₂ tk₂ k₂ => ?_
    have kk : ∀ b o, b ≠ I → h.get? b = some o → h₂.get? b = some o := fun b o hb q => k₂ b o (fun z => hb (List.mem_singleton.mp z)) q
    refine wpAny_execs_nil (done m₁ led₁ h₂ tk₂ hj ⟨F₁.ns.at' fun o q => kk _ o hLI q, fun b o q => kk b o (fun z => by rw [z, gI] at q; cases q) (F₁.keep b o q), F₁.above⟩ fun p hp => ?_)
    exact ⟨kk _ _ (hoff₁ p hp).2.2 (N₁ p (.tail _ (.tail _ hp))).1, (N₁ p (.tail _ (.tail _ hp))).2⟩
end
end Mine
end
section
open PySem PySem.W PyProof.Rows PySem.Calls PySem.Spec PyProof
namespace Mine
noncomputable def ltP (a b : Str × Str) : Bool := if a.1 = b.1 then (if a.2 = b.2 then false else decide (a.2.cps.toList < b.2.cps.toList)) else decide (a.1.cps.toList < b.1.cps.toList)
theorem ltP_iff (a b : Str × Str) : ltP a b = true ↔ a.1.cps.toList < b.1.cps.toList ∨ (a.1 = b.1 ∧ a.2.cps.toList < b.2.cps.toList) := by
  unfold ltP
  by_cases h1 : a.1 = b.1
  · rw [if_pos h1]
    have n1 : ¬a.1.cps.toList < b.1.cps.toList := by rw [h1]; exact List.lt_irrefl _
    by_cases h2 : a.2 = b.2
    · rw [if_pos h2]
      exact ⟨fun q => (by cases q), fun q => q.elim (fun q => absurd q n1) fun q => absurd q.2 (by rw [h2]; exact List.lt_irrefl _)⟩
    · rw [if_neg h2, decide_eq_true_eq]
      exact ⟨fun q => .inr ⟨h1, q⟩, fun q => q.elim (fun q => absurd q n1) fun q => q.2⟩
  · rw [if_neg h1, decide_eq_true_eq]
    exact ⟨.inl, fun q => q.elim id fun q => absurd q.1 h1⟩
theorem tri_list (a b : Str) : a.cps.toList < b.cps.toList ∨ a = b ∨ b.cps.toList < a.cps.toList := by
  by_cases h1 : a.cps.toList < b.cps.toList
  · exact .inl h1
  by_cases h2 : b.cps.toList < a.cps.toList
  · exact .inr (.inr h2)
  · exact .inr (.inl (str_ext (List.le_antisymm (List.not_lt.mp h2) (List.not_lt.mp h1))))
theorem ltP_order : Order ltP where
  irr a := by
    cases q : ltP a a with
    | false => rfl
    | true => exact ((ltP_iff a a).mp q).elim (fun z => absurd z (List.lt_irrefl _)) fun z => absurd z.2 (List.lt_irrefl _)
  trans a b c h1 h2 := by
    rw [ltP_iff] at h1 h2 ⊢
    rcases h1 with h1 | ⟨e1, h1⟩ <;> rcases h2 with h2 | ⟨e2, h2⟩
    · exact .inl (List.lt_trans h1 h2)
    · exact .inl (e2 ▸ h1)
    · exact .inl (e1 ▸ h2)
    · exact .inr ⟨e1.trans e2, List.lt_trans h1 h2⟩
  tot a b := by
    rw [ltP_iff, ltP_iff]
    rcases tri_list a.1 b.1 with q | q | q
    · exact .inl (.inl q)
    · rcases tri_list a.2 b.2 with r | r | r
      · exact .inl (.inr ⟨q, r⟩)
      · exact .inr (.inl (Prod.ext q r))
      · exact .inr (.inr (.inr ⟨q.symm, r⟩))
    · exact .inr (.inr (.inl q))
section
variable {prog : Program} {w : World} {A : Around} {E : Value → Shared → Prop} {s : Shared} {l b : Addr} {x1 x2 y1 y2 : Str} {t1 t2 u1 u2 : Tok}
theorem lt_tup {Q : Value → Shared → Prop} (hl : s.heap.get? l = some (tupO (.str x1 t1) (.str x2 t2))) (hb : s.heap.get? b = some (tupO (.str y1 u1) (.str y2 u2))) (hu : A.units < cLine)
    (h : Q (.bool (ltP (x1, x2) (y1, y2))) s) : wpAny (model prog w) A (compareOp .Lt (.ref l) (.ref b)) Q E s := by
  refine cmp_ofLt (wpAny_richCompare_same_room ⟨_, hl, rfl⟩ ⟨_, hb, rfl⟩ F.slot_tuple_lt (wpAny_call_entry F.slot_tuple_lt ⟨_, hl, rfl⟩ F.entry_tuple_lt ?_ (F.args_tuple_lt_2 _ _)) hu)
  show wpAny _ _ (slotArgs "__lt__" 1 ⟨[.ref l, .ref b], []⟩ >>= _) _ _ _
  refine wpAny_bind (wpAny_pure ?_)
  dsimp only
  refine wpAny_bind (wpAny_isInstance (T := "tuple") (b := true) ⟨_, hb, rfl⟩ AutoSeq1.sub_tuple_tuple ?_)
  simp only [Bool.not_true, Bool.false_eq_true, if_false]
  refine wpAny_bind (wpAny_tupleItemsOf hl rfl ?_)
  refine wpAny_bind (wpAny_tupleItemsOf hb rfl ?_)
  refine wpAny_bind ?_
  show wpAny _ _ (forIn [((.str x1 t1 : Value), (.str y1 u1 : Value)), (.str x2 t2, .str y2 u2)] (none, ()) _) _ _ _
  rw [List.forIn_cons]
  refine wpAny_bind (wpAny_bind (wpAny_eqBool_str ?_))
  by_cases e1 : x1 = y1
  · rw [decide_eq_true e1]
    simp only [Bool.not_true, Bool.false_eq_true, if_false]
    refine wpAny_pure ?_
    dsimp only
    rw [List.forIn_cons]
    refine wpAny_bind (wpAny_bind (wpAny_eqBool_str ?_))
    by_cases e2 : x2 = y2
    · rw [decide_eq_true e2]
      simp only [Bool.not_true, Bool.false_eq_true, if_false]
      refine wpAny_pure ?_
      dsimp only
      rw [List.forIn_nil]
      refine wpAny_pure (wpAny_pure ⟨_, rfl, (fun z => nomatch z), ?_⟩)
      have : ltP (x1, x2) (y1, y2) = false := by unfold ltP; rw [if_pos e1, if_pos e2]
      rw [this] at h
      exact h
    · rw [decide_eq_false e2]
      simp only [Bool.not_false, if_true]
      refine wpAny_bind (wpAny_rule (wpAny_bind (lt_str ?_)))
      have : ltP (x1, x2) (y1, y2) = decide (x2.cps.toList < y2.cps.toList) := by unfold ltP; rw [if_pos e1, if_neg e2]
      rw [this] at h
      refine wpAny_bind (wpAny_pure (wpAny_pure (wpAny_pure ?_)))
      exact wpAny_pure ⟨_, rfl, (fun z => nomatch z), h⟩
  · rw [decide_eq_false e1]
    simp only [Bool.not_false, if_true]
    refine wpAny_bind (wpAny_rule (wpAny_bind (lt_str ?_)))
    have : ltP (x1, x2) (y1, y2) = decide (x1.cps.toList < y1.cps.toList) := by unfold ltP; rw [if_neg e1]
    rw [this] at h
    refine wpAny_bind (wpAny_pure (wpAny_pure (wpAny_pure ?_)))
    exact wpAny_pure ⟨_, rfl, (fun z => nomatch z), h⟩
theorem eq_tup {Q : Value → Shared → Prop} (hl : s.heap.get? l = some (tupO (.str x1 t1) (.str x2 t2))) (hb : s.heap.get? b = some (tupO (.str y1 u1) (.str y2 u2))) (hu : A.units < cLine)
    (h : Q (.bool (decide (x1 = y1 ∧ x2 = y2))) s) : wpAny (model prog w) A (compareOp .Eq (.ref l) (.ref b)) Q E s := by
  have ts : ∀ {a : Addr} {p q : Value}, s.heap.get? a = some (tupO p q) → s.heap.IsTuple a #[p, q] := fun h => ⟨_, h, rfl, _, rfl⟩
  refine PySem.SeqAt.eq_tupleAt (e := fun j => if j = 0 then decide (x1 = y1) else decide (x2 = y2)) (ts hl) (ts hb) hu (fun j h1 h2 => ?_) ?_
  · have hj : j = 0 ∨ j = 1 := by have : j < 2 := h1; exact (LI1 (.im (.lt V0 O2) (.or (.eq V0 O0) (.eq V0 O1)))) this
    rcases hj with rfl | rfl
    · exact fun prog w E Q h => wpAny_eqBool_str h
    · exact fun prog w E Q h => wpAny_eqBool_str h
  · have : ((List.range 2).all (fun j => if j = 0 then decide (x1 = y1) else decide (x2 = y2)) && (2 == 2)) = decide (x1 = y1 ∧ x2 = y2) := by
      show ((decide (x1 = y1)) && ((decide (x2 = y2)) && true) && true) = _
      rw [Bool.and_true, Bool.and_true, Bool.decide_and]
    show Q (.bool ((List.range 2).all (fun j => if j = 0 then decide (x1 = y1) else decide (x2 = y2)) && (2 == 2))) s
    rw [this]; exact h
end
theorem ltIs_tup {prog : Program} {w : World} {h : Heap} {l b : Addr} {x1 x2 y1 y2 : Str} {t1 t2 u1 u2 : Tok} (hl : h.get? l = some (tupO (.str x1 t1) (.str x2 t2))) (hb : h.get? b = some (tupO (.str y1 u1) (.str y2 u2))) : LtIs prog w h (.ref l) (.ref b) (ltP (x1, x2) (y1, y2)) :=
  fun A s Q E _ hu k hq => lt_tup (k _ _ (fun q => by cases q) hl) (k _ _ (fun q => by cases q) hb) hu (hq s.heap s.toks But.refl)
section
variable {prog : Program} {w : World} {A : Around} {env : Env} {g : Heap} {s : Shared}
theorem comp_rangeA {scope : Scope} {cl : List (Str × Addr)} {x y : Str} {tst : Option Expr} {elt : Expr} {Q : Flow → Shared → Prop} {L : Addr} {m : Str → Option Value} {led : List (Addr × Obj)} {J : Nat → List Value → List (Addr × Obj) → Prop} {r : Addr} {a b : Int} {t u v : Tok} (hLe : L = env.locals) (hh : A.handled = none) (hr : IsRange s.heap r a b 1 t u v) (hsmall : Builtin.Range.small a b 1 = true) {n : Nat} (hn0 : Builtin.Range.rangeSize a b 1 = (n : Int)) (F : Fr g L s.heap m) (N : News g L s.heap led) (hn : n < sizeLine) (hJ : J 0 [] led)
    (turn : CompTurn prog w A env scope cl x tst elt g L m led n (fun i v => ∃ t, v = .int (a + i) t) J s) (done : CompDoneA g L m led n J y Q s) :
    wpAny (model prog w) A (pyIter (.ref r)) (fun it s₂ => CompAtA prog w A env scope cl x tst elt y Q it s₂) (fun _ _ => False) s := by
  refine wpAny_pyIter_range hr hsmall (comp_pushA hLe J (Walks.range hh _ a 1 n) ?_ F N (fun b hb => by rw [List.mem_singleton.mp hb]; exact Nat.le_refl _) hn hJ (fun D I s₂ g' i v out k led₁ h tk mC own a1 a2 a3 a4 a5 a6 a7 a8 => ?_) done)
  · have e := Heap.get?_push_size s.heap (o := ({ cls := .type "range_iterator", data := .fields #[rawInt a, rawInt (Builtin.Range.rangeSize a b 1), rawInt 1] } : Obj)) rfl
    show IsRangeIter _ _ (a + (0 : Nat) * 1) ((n : Int) - (0 : Nat)) 1
    rw [hn0] at e ⊢
    rw [show a + ((0 : Nat) : Int) * 1 = a by simp, show (n : Int) - ((0 : Nat) : Int) = n by simp]
    exact e
  · obtain ⟨t', e⟩ := a8
    exact turn D I s₂ g' i v out k led₁ h tk mC own a1 a2 a3 a4 a5 a6 a7 ⟨t', by rw [e, Int.mul_one]⟩
end
inductive PrsAre (ex : List (Addr × Obj)) : List Value → List (Str × Str) → Prop
  | nil : PrsAre ex [] []
  | cons {T : Addr} {t u : Tok} {p : Str × Str} {vs : List Value} {r : List (Str × Str)} : (T, tupO (.str p.1 t) (.str p.2 u)) ∈ ex → PrsAre ex vs r → PrsAre ex (.ref T :: vs) (p :: r)
theorem PrsAre.len {ex : List (Addr × Obj)} : ∀ {vs : List Value} {r : List (Str × Str)}, PrsAre ex vs r → vs.length = r.length := fun h => by
  induction h with
  | nil => rfl
  | cons _ _ ih => exact congrArg (· + 1) ih
theorem PrsAre.at {ex : List (Addr × Obj)} : ∀ {vs : List Value} {r : List (Str × Str)}, PrsAre ex vs r → ∀ {i : Nat} {v : Value}, vs[i]? = some v → E4 fun T t u p => A3 (v = .ref T) (r[i]? = some p) ((T, tupO (.str p.1 t) (.str p.2 u)) ∈ ex) := fun h => by
  induction h with
  | nil => exact fun {i v} h => by cases h
  | cons hm _ ih =>
    intro i v h
    cases i with
    | zero => exact ⟨_, _, _, _, (Option.some.inj h).symm, rfl, hm⟩
    | succ i => exact ih h
theorem PrsAre.mono {ex ex' : List (Addr × Obj)} (k : ∀ p ∈ ex, p ∈ ex') : ∀ {vs : List Value} {r : List (Str × Str)}, PrsAre ex vs r → PrsAre ex' vs r := fun h => by
  induction h with
  | nil => exact .nil
  | cons hm _ ih => exact .cons (k _ hm) ih
theorem PrsAre.ins {ex : List (Addr × Obj)} {T : Addr} {t u : Tok} {p : Str × Str} (hm : (T, tupO (.str p.1 t) (.str p.2 u)) ∈ ex) : ∀ {vs : List Value} {r : List (Str × Str)} (i : Nat), PrsAre ex vs r → PrsAre ex (vs.take i ++ .ref T :: vs.drop i) (r.take i ++ p :: r.drop i) := fun i h => by
  induction h generalizing i with
  | nil => cases i <;> exact .cons hm .nil
  | cons hm' hr ih =>
    cases i with
    | zero => exact .cons hm (.cons hm' hr)
    | succ i => exact .cons hm' (ih i)
theorem slice_to {w : List Nat} {b : Nat} (hb : b ≤ w.length) : Txt.slice (tx w) none (some (b : Int)) = tx (w.take b) := by
  have := eq_of_beq (slice_closes_to (x := tx w) (j := b) ⟨by exact (LI1 (.il O0 (.ca V0))), by rw [tx_list, List.length_map]; exact (LI2 (.im (.le V0 V1) (.il (.ca V0) (.ca V1)))) hb⟩)
  rw [this]
  apply str_ext
  rw [tx_list, tx_list]
  show (((List.map chr w).drop 0).take ((b : Int) - 0).toNat).toArray.toList = _
  rw [show ((b : Int) - 0).toNat = b by exact (LI1 (.eq (.tn (.s (.ca V0) O0)) V0)), List.drop_zero, List.map_take]
theorem slice_from {w : List Nat} {a : Nat} (ha : a ≤ w.length) : Txt.slice (tx w) (some (a : Int)) none = tx (w.drop a) := by
  have := eq_of_beq (slice_closes_from (x := tx w) (i := a) ⟨by exact (LI1 (.il O0 (.ca V0))), by rw [tx_list, List.length_map]; exact (LI2 (.im (.le V0 V1) (.il (.ca V0) (.ca V1)))) ha⟩)
  rw [this]
  apply str_ext
  rw [tx_list, tx_list, List.length_map]
  show (((List.map chr w).drop a).take ((w.length : Int) - a).toNat).toArray.toList = _
  rw [show ((w.length : Int) - a).toNat = w.length - a by exact (LI2 (.eq (.tn (.s (.ca V0) (.ca V1))) (.s V0 V1))), List.map_drop]
  exact List.take_of_length_le (by simp)
section
variable {prog : Program} {w : World} {A : Around} {E : Value → Shared → Prop} {s : Shared} {value slice : Expr} {l : Addr} {vs : List Value} {ss : List Str} {u : Tok} {y : Str} {Q : Value → Shared → Prop}
theorem item_last (hl : s.heap.IsList l vs.toArray) (hw : StrsAre vs ss) (hz : vs.length < 1000) (hy : ss.getLast? = some y) (h : ∀ t, Q (.str y t) s)
    (hs : subscripted slice false (.ref l) (.int (-1) u) = operate [.ref l, .int (-1) u] (getItem (.ref l) (.int (-1) u)) := by with_unfolding_all rfl) :
    wpAny (model prog w) A (subscriptTail value slice (.ref l) (.int (-1) u)) Q E s := by
  have hlen := hw.length
  have hpos : 0 < ss.length := by cases ss with | nil => cases hy | cons _ _ => simp
  obtain ⟨t', e⟩ := hw.get (ss.length - 1) y (by rw [← List.getLast?_eq_getElem?]; exact hy)
  exact tail_any hl.typeIs slot_list_getitem.lookup (wpAny_getItem_list_neg (x := .str y t') hl (by decide) (by rw [List.size_toArray]; exact (LI2 (.im (.lt O0 V0) (.im (.eq V1 V0) (.il (.ng (.ca V1)) (.ng O1))))) hpos hlen) (by decide) (by rw [List.size_toArray, List.getElem?_toArray, show (-1 + (vs.length : Int)).toNat = ss.length - 1 by exact (LI2 (.im (.eq V0 V1) (.eq (.tn (.a (.ng O1) (.ca V0))) (.s V1 O1)))) hlen]; exact e) (h t')) hs
theorem item_first (hl : s.heap.IsList l vs.toArray) (hw : StrsAre vs ss) (hy : ss.head? = some y) (h : ∀ t, Q (.str y t) s)
    (hs : subscripted slice false (.ref l) (.int 0 u) = operate [.ref l, .int 0 u] (getItem (.ref l) (.int 0 u)) := by with_unfolding_all rfl) :
    wpAny (model prog w) A (subscriptTail value slice (.ref l) (.int 0 u)) Q E s := by
  obtain ⟨t', e⟩ := hw.get 0 y (by rw [← List.head?_eq_getElem?]; exact hy)
  exact tail_any hl.typeIs slot_list_getitem.lookup (wpAny_getItem_list (x := .str y t') hl (by decide) (by decide) (by rw [List.getElem?_toArray]; exact e) (h t')) hs
end
theorem pal_len1 {z : List Nat} (h : z.length = 1) : palB z = true := by
  obtain ⟨a, rfl⟩ := List.length_eq_one_iff.mp h
  exact beq_self_eq_true [a]
theorem heads_last? {p : List Nat} (h : p ≠ []) : (heads p).getLast? = some (headOf p) := by
  have hne : heads p ≠ [] := fun q => by
    have : p.take 1 ∈ heads p := by
      unfold heads
      refine List.mem_filter.mpr ⟨List.mem_map.mpr ⟨0, List.mem_range.mpr (List.length_pos_iff.mpr h), rfl⟩, pal_len1 ?_⟩
      rw [List.length_take]
      have := List.length_pos_iff.mpr h
      exact (LI1 (.im (.lt O0 V0) (.eq (.mi O1 V0) O1))) this
    rw [q] at this; cases this
  unfold headOf
  cases q : heads p with
  | nil => exact absurd q hne
  | cons a l => rw [List.getLast?_cons, List.getLastD_cons]; cases l <;> simp
theorem tails_first? {p : List Nat} (h : p ≠ []) : (tails p).head? = some (tailOf p) := by
  have hne : tails p ≠ [] := fun q => by
    have hl := List.length_pos_iff.mpr h
    have : p.drop (p.length - 1) ∈ tails p := by
      unfold tails
      refine List.mem_filter.mpr ⟨List.mem_map.mpr ⟨p.length - 1, List.mem_range.mpr (by exact (LI1 (.im (.lt O0 V0) (.lt (.s V0 O1) V0))) hl), rfl⟩, pal_len1 ?_⟩
      rw [List.length_drop]
      exact (LI1 (.im (.lt O0 V0) (.eq (.s V0 (.s V0 O1)) O1))) hl
    rw [q] at this; cases this
  unfold tailOf
  cases q : tails p with
  | nil => exact absurd q hne
  | cons a l => rfl
end Mine
end
section
open PySem PySem.W PyProof.Rows PySem.Calls PySem.Spec PyProof
namespace Mine
noncomputable def inn (ds : List Nat) (i j : Nat) : List (List Nat) := (List.range j).map fun k => sub ds i (i + 1 + k)
noncomputable def strW (ds : List Nat) (i : Nat) : List (List Nat) := (List.range i).flatMap fun a => inn ds a (ds.length - a)
theorem inn_succ (ds : List Nat) (i j : Nat) : inn ds i (j + 1) = inn ds i j ++ [sub ds i (i + 1 + j)] := by
  unfold inn; rw [List.range_succ, List.map_append]; rfl
theorem strW_succ (ds : List Nat) (i : Nat) : strW ds (i + 1) = strW ds i ++ inn ds i (ds.length - i) := by
  unfold strW; rw [List.range_succ, List.flatMap_append]; simp
theorem strW_len (ds : List Nat) : ∀ i, (strW ds i).length ≤ i * ds.length := fun i => by
  induction i with
  | zero => exact Nat.zero_le _
  | succ i this =>
    rw [strW_succ, List.length_append, Nat.succ_mul]
    have h2 : (inn ds i (ds.length - i)).length = ds.length - i := by unfold inn; simp
    exact (LI5 (.im (.eq V0 (.s V1 V2)) (.im (.le V3 V4) (.le (.a V3 V0) (.a V4 V1))))) h2 this
theorem strW_sum (ds : List Nat) : ∀ i, (strW ds i).length = ((List.range i).map fun a => ds.length - a).sum := fun i => by
  induction i with
  | zero => rfl
  | succ i ih =>
    rw [strW_succ, List.length_append, ih, List.range_succ, List.map_append, List.sum_append]
    have h2 : (inn ds i (ds.length - i)).length = ds.length - i := by unfold inn; simp
    rw [h2]; simp
theorem strW_55 (ds : List Nat) (h : ds.length ≤ 10) : (strW ds ds.length).length ≤ 55 := by
  rw [strW_sum]
  generalize ds.length = n at h
  have : ∀ n ≤ 10, ((List.range n).map fun a => n - a).sum ≤ 55 := by decide
  exact this n h
theorem setS_two {ss : List Str} {a b : Str} (ha : a ∈ ss) (hb : b ∈ ss) (h : a ≠ b) : 2 ≤ (setS ss).length := by
  have h1 := mem_setS.mpr ha
  have h2 := mem_setS.mpr hb
  generalize setS ss = l at h1 h2
  cases l with
  | nil => exact absurd h1 List.not_mem_nil
  | cons x l =>
    cases l with
    | nil => exact absurd ((List.mem_singleton.mp h1).trans (List.mem_singleton.mp h2).symm) h
    | cons y l => exact Nat.succ_le_succ (Nat.succ_pos _)
noncomputable def keyP (p : List Nat) : Str × Str := (tx (headOf p), tx (tailOf p))
theorem mem_strW {ds p : List Nat} : p ∈ strW ds ds.length ↔ E2 fun a b => A3 (a < b) (b ≤ ds.length) (p = sub ds a b) := by
  unfold strW inn
  constructor
  · intro h
    obtain ⟨a, ha, h⟩ := List.mem_flatMap.mp h
    obtain ⟨k, hk, rfl⟩ := List.mem_map.mp h
    rw [List.mem_range] at ha hk
    exact ⟨a, a + 1 + k, by exact (LI2 (.lt V0 (.a (.a V0 O1) V1))), by exact (LI3 (.im (.lt V0 (.s V1 V2)) (.le (.a (.a V2 O1) V0) V1))) hk, rfl⟩
  · rintro ⟨a, b, h1, h2, rfl⟩
    refine List.mem_flatMap.mpr ⟨a, List.mem_range.mpr (by exact (LI3 (.im (.lt V0 V1) (.im (.le V1 V2) (.lt V0 V2)))) h1 h2), List.mem_map.mpr ⟨b - (a + 1), List.mem_range.mpr (by exact (LI3 (.im (.lt V0 V1) (.im (.le V1 V2) (.lt (.s V1 (.a V0 O1)) (.s V2 V0))))) h1 h2), ?_⟩⟩
    rw [show a + 1 + (b - (a + 1)) = b by exact (LI2 (.im (.lt V0 V1) (.eq (.a (.a V0 O1) (.s V1 (.a V0 O1))) V1))) h1]
theorem headOf_D3 {p : List Nat} (h : D3 p) : D3 (headOf p) := by
  unfold headOf
  cases q : heads p with
  | nil => exact fun d hd => (by cases hd)
  | cons x l =>
    rw [List.getLastD_cons]
    have : l.getLastD x ∈ heads p := by
      rw [q]
      cases l with
      | nil => exact .head _
      | cons y l => rw [List.getLastD_cons]; exact .tail _ (by rw [List.getLastD_eq_getLast?]; cases z : l.getLast? with | none => exact .head _ | some v => exact .tail _ (List.mem_of_getLast? z))
    unfold heads at this
    obtain ⟨k, _, e⟩ := List.mem_map.mp (List.mem_filter.mp this).1
    rw [← e]
    exact fun d hd => h d (List.mem_of_mem_take hd)
theorem tailOf_D3 {p : List Nat} (h : D3 p) : D3 (tailOf p) := by
  unfold tailOf
  cases q : tails p with
  | nil => exact fun d hd => (by cases hd)
  | cons x l =>
    have : x ∈ tails p := by rw [q]; exact .head _
    unfold tails at this
    obtain ⟨k, _, e⟩ := List.mem_map.mp (List.mem_filter.mp this).1
    show D3 x
    rw [← e]
    exact fun d hd => h d (List.mem_of_mem_drop hd)
theorem keyP_iff {a b : List Nat} (ha : D3 a) (hb : D3 b) : keyP a = keyP b ↔ headOf a = headOf b ∧ tailOf a = tailOf b := by
  unfold keyP
  rw [Prod.mk.injEq]
  exact ⟨fun h => ⟨tx_inj (headOf_D3 ha) (headOf_D3 hb) h.1, tx_inj (tailOf_D3 ha) (tailOf_D3 hb) h.2⟩, fun h => by rw [h.1, h.2]; exact ⟨rfl, rfl⟩⟩
theorem shared_alone {ds : List Nat} (hd : D3 ds) {parts : List (List Nat)} (hm : ∀ p, p ∈ parts ↔ p ∈ strW ds ds.length) (nd : parts.Nodup) : shr ltP keyP parts [] [] = [] ↔ Alone (at' ds) ds.length := by
  have hD : ∀ p ∈ parts, D3 p := fun p hp => by
    obtain ⟨a, b, _, _, rfl⟩ := mem_strW.mp ((hm p).mp hp)
    exact sub_D3 hd a b
  rw [shr_nil ltP_order keyP parts [] [] List.Pairwise.nil, alone_iff]
  constructor
  · rintro ⟨_, _, h⟩ a b c d h1 h2 h3 h4 e1 e2
    have ma := (hm _).mpr (mem_strW.mpr ⟨a, b, h1, h2, rfl⟩)
    have mc := (hm _).mpr (mem_strW.mpr ⟨c, d, h3, h4, rfl⟩)
    have ek := (keyP_iff (hD _ ma) (hD _ mc)).mpr ⟨e1, e2⟩
    obtain ⟨i, hi, ei⟩ := List.mem_iff_getElem.mp ma
    obtain ⟨j, hj, ej⟩ := List.mem_iff_getElem.mp mc
    rcases Nat.lt_trichotomy i j with q | q | q
    · have := List.pairwise_iff_getElem.mp h i j hi hj q
      rw [ei, ej] at this
      exact absurd ek this
    · subst q; rw [← ei, ← ej]
    · have := List.pairwise_iff_getElem.mp h j i hj hi q
      rw [ei, ej] at this
      exact absurd ek.symm this
  · intro h
    refine ⟨rfl, fun p _ (q : keyP p ∈ []) => (by cases q), ?_⟩
    rw [List.pairwise_iff_getElem]
    intro i j hi hj q e
    have mi := List.getElem_mem hi
    have mj := List.getElem_mem hj
    obtain ⟨e1, e2⟩ := (keyP_iff (hD _ mi) (hD _ mj)).mp e
    obtain ⟨a, b, h1, h2, ea⟩ := mem_strW.mp ((hm _).mp mi)
    obtain ⟨c, d, h3, h4, ec⟩ := mem_strW.mp ((hm _).mp mj)
    rw [ea, ec] at e1 e2
    have := h a b c d h1 h2 h3 h4 e1 e2
    rw [← ea, ← ec] at this
    exact List.pairwise_iff_getElem.mp nd i j hi hj q this
theorem parts_of {ds : List Nat} (hd : D3 ds) {ss : List Str} (hp : ss.Perm (setS ((strW ds ds.length).map tx))) : ∃ parts : List (List Nat), parts.map tx = ss ∧ (∀ p, p ∈ parts ↔ p ∈ strW ds ds.length) ∧ parts.Nodup := by
  have all : ∀ (l : List Str), (∀ x ∈ l, ∃ p ∈ strW ds ds.length, tx p = x) → ∃ ps : List (List Nat), ps.map tx = l ∧ ∀ p ∈ ps, p ∈ strW ds ds.length := by
    intro l
    induction l with
    | nil => exact fun _ => ⟨[], rfl, fun _ h => by cases h⟩
    | cons x l ih =>
      intro h
      obtain ⟨p, h1, h2⟩ := h x (.head _)
      obtain ⟨ps, h3, h4⟩ := ih fun y hy => h y (.tail _ hy)
      refine ⟨p :: ps, by rw [List.map_cons, h2, h3], fun q hq => ?_⟩
      rcases List.mem_cons.mp hq with rfl | hq
      · exact h1
      · exact h4 q hq
  obtain ⟨parts, h1, h2⟩ := all ss fun x hx => by
    obtain ⟨p, q1, q2⟩ := List.mem_map.mp (mem_setS.mp (hp.mem_iff.mp hx))
    exact ⟨p, q1, q2⟩
  have hD : ∀ p ∈ strW ds ds.length, D3 p := fun p hp => by
    obtain ⟨a, b, _, _, rfl⟩ := mem_strW.mp hp
    exact sub_D3 hd a b
  refine ⟨parts, h1, fun p => ⟨h2 p, fun q => ?_⟩, ?_⟩
  · have : tx p ∈ parts.map tx := by rw [h1]; exact hp.mem_iff.mpr (mem_setS.mpr (List.mem_map_of_mem q))
    obtain ⟨p', m, e⟩ := List.mem_map.mp this
    rw [← tx_inj (hD _ (h2 _ m)) (hD _ q) e]; exact m
  · have : ss.Nodup := hp.nodup_iff.mpr (nodup_setS _)
    rw [← h1] at this
    exact (List.pairwise_map.mp this).imp fun h e => h (by rw [e])
end Mine
end
section
open PySem PySem.W PyProof.Rows PySem.Calls PySem.Spec PyProof
namespace Mine
local macro_rules | `(tactic| walk_at $s:str) => Mine.hl ["eval ListComp", "eval ListComp Subscript", "pyIter ref"] [] s
theorem nameCell {M : Model} {A : Around} {E : Value → Shared → Prop} {s : Shared} {h₀ : Heap} {L : Addr} {m : Str → Option Value} {env : Env} {x : Str} {pos : Pos} {v : Value} {Q : Value → Shared → Prop} {c : Addr}
    (hk : env.scope.kind = .function) (hx : env.kindOf x = some .cell) (hc : env.cells.lookup x = some c) (F : Fr h₀ L s.heap m) (hg : h₀.IsCell c (some v)) (h : Q v s) (hb : (x == ("__debug__" : Str)) = false) :
    wpAny M A (eval (.Name x pos) env) Q E s :=
  wpAny_Name (wpAny_loadName_cell hk hx hc (let ⟨o, e, r⟩ := hg; ⟨o, F.keep _ _ e, r⟩) h) hb
local macro_rules | `(tactic| walk_at "eval Name") => `(tactic| refine nameCell rfl rfl rfl (by assumption) (by assumption) ?_ (by decide))
local macro_rules | `(tactic| walk_at $s:str) => Mine.hl ["call type:set", "call builtin:sorted", "exec Assign cons ListComp", "eval Subscript ListComp", "subscriptTail Name Name ref int", "compareOp Eq ref ref", "call builtin:list.append", "subscriptTail", "call builtin:list.insert", "exec For", "exec For Name Name", "exec For Name Call", "exec For Name Call cons", "exec For Name Call cons nil"] [("call builtin:len", "@len")] s
noncomputable def ShJ (parts : List (List Nat)) (Sh Pp : Addr) (i : Nat) (m : Str → Option Value) (led : List (Addr × Obj)) : Prop :=
  Has m [(Str.ofString "shared", .ref Sh), (Str.ofString "pairs", .ref Pp)] ∧ E7 fun prs k1 shs k2 ex r sh => A7 (led = (Sh, listOf shs k2) :: (Pp, listOf prs k1) :: ex) (PrsAre ex prs.toList r) (StrsAre shs.toList (sh.map tx)) (∀ p ∈ ex, p.1 ≠ Sh ∧ p.1 ≠ Pp) (prs.size = i) (sh.length ≤ i) (shr ltP keyP (parts.drop i) r sh = shr ltP keyP parts [] [])
theorem shr_key {g h : Heap} {L c Sh Pp T2 : Addr} {co₁ : Obj} {own : List (Addr × Obj)} {parts : List (List Nat)} {i k1 k2 bk : Nat} {p : List Nat} {prs shs : Array Value} {ex : List (Addr × Obj)} {r : List (Str × Str)} {sh sh' : List (List Nat)} {m' : Str → Option Value} {t u : Tok}
    (hil : i < parts.length) (hpe : parts[i] = p) (hbk : blK ltP r (keyP p) = bk) (hr : PrsAre ex prs.toList r) (hex : ∀ p ∈ ex, p.1 ≠ Sh ∧ p.1 ≠ Pp) (hsz : prs.size = i) (hshl : sh.length ≤ i) (hfin : shr ltP keyP (parts.drop i) r sh = shr ltP keyP parts [] [])
    (hoff : ∀ q ∈ ex, q.1 ≠ c ∧ ∀ o ∈ own, q.1 ≠ o.1) (hS : Sh ≠ c ∧ ∀ o ∈ own, Sh ≠ o.1) (hP : Pp ≠ c ∧ ∀ o ∈ own, Pp ≠ o.1) (hT : T2 ≠ Sh ∧ T2 ≠ Pp) (hTo : T2 ≠ c ∧ ∀ o ∈ own, T2 ≠ o.1)
    (F : Fr g L h m') (hm : Has m' [(Str.ofString "shared", .ref Sh), (Str.ofString "pairs", .ref Pp)]) (NT : News g L h [(T2, tupO (.str (keyP p).1 t) (.str (keyP p).2 u))])
    (N : News g L h ((c, co₁) :: (Sh, listOf shs k2) :: (Pp, listOf (prs.toList.take bk ++ .ref T2 :: prs.toList.drop bk).toArray (k1 + 1)) :: (ex ++ own)))
    (hsh : StrsAre shs.toList (sh'.map tx)) (hsh' : sh' = if bk < r.length ∧ r[bk]? = some (keyP p) then sh ++ [p] else sh) :
    ∃ led', News g L h ((c, co₁) :: (led' ++ own)) ∧ (∀ q ∈ led', q.1 ≠ c ∧ ∀ o ∈ own, q.1 ≠ o.1) ∧ ShJ parts Sh Pp (i + 1) m' led' := by
  refine ⟨(Sh, listOf shs k2) :: (Pp, listOf (prs.toList.take bk ++ .ref T2 :: prs.toList.drop bk).toArray (k1 + 1)) :: (T2, tupO (.str (keyP p).1 t) (.str (keyP p).2 u)) :: ex, fun q hq => ?_, fun q hq => ?_, hm, _, _, _, _, _, insK ltP r (keyP p), sh', rfl, ?_, hsh, fun q hq => ?_, ?_, ?_, ?_⟩
  · rcases List.mem_cons.mp hq with rfl | hq
    · exact N _ (.head _)
    rcases List.mem_append.mp hq with hq | hq
    · rcases List.mem_cons.mp hq with rfl | hq
      · exact N _ (.tail _ (.head _))
      rcases List.mem_cons.mp hq with rfl | hq
      · exact N _ (.tail _ (.tail _ (.head _)))
      rcases List.mem_cons.mp hq with rfl | hq
      · exact NT _ (.head _)
      · exact N _ (.tail _ (.tail _ (.tail _ (List.mem_append_left _ hq))))
    · exact N _ (.tail _ (.tail _ (.tail _ (List.mem_append_right _ hq))))
  · rcases List.mem_cons.mp hq with rfl | hq
    · exact hS
    rcases List.mem_cons.mp hq with rfl | hq
    · exact hP
    rcases List.mem_cons.mp hq with rfl | hq
    · exact hTo
    · exact hoff q hq
  · show PrsAre _ (_ : List Value) _
    unfold insK
    rw [hbk]
    exact (hr.mono fun q hq => .tail _ hq).ins (.head _) bk
  · rcases List.mem_cons.mp hq with rfl | hq
    · exact hT
    · exact hex q hq
  · rw [List.size_toArray, List.length_append, List.length_cons, List.length_take, List.length_drop, Array.length_toList]
    exact (LI3 (.im (.eq V0 V1) (.eq (.a (.mi V2 V0) (.a (.s V0 V2) O1)) (.a V1 O1)))) hsz
  · rw [hsh']
    split
    · rw [List.length_append]; exact Nat.succ_le_succ hshl
    · exact Nat.le_succ_of_le hshl
  · rw [← hfin, List.drop_eq_getElem_cons hil, hpe]
    rw [shr.eq_2, hbk, ← hsh']
theorem own2 {a c l I : Addr} {lo io : Obj} (h : a ≠ c ∧ a ≠ l ∧ a ≠ I) : a ≠ c ∧ ∀ o ∈ [(l, lo), (I, io)], a ≠ o.1 := ⟨h.1, fun o ho => by
  rcases List.mem_cons.mp ho with rfl | ho
  · exact h.2.1
  · rw [List.mem_singleton.mp ho]; exact h.2.2⟩
theorem blK_le (r : List (Str × Str)) (x : Str × Str) : blK ltP r x ≤ r.length := bis_le _ _ _ _ (Nat.zero_le _)
set_option maxHeartbeats 4000000 in
theorem law_shared_spec {prog : Program} {w : World} {A₀ : Around} {dp un : Nat} {gd : Option (List Code)} {s : Shared} {base h₀ : Heap} {outer : List Env} {L : Addr} {m mg mb : Str → Option Value} {env : Env}
    {p : Program} {loose : List Str} {mean : ExcName → Option Value} {Q E : Value → Shared → Prop} {ds : List Nat} {tw : Tok}
    (B : Below A₀ base outer h₀) (F : Fr h₀ L s.heap m) (X₀ : (hd.heap_39 w.params).In h₀) (T : Top p loose mean mg mb h₀) (hf : env.frame = some L) (hke : env.scope.kind = .function)
    (hroom : dp + 20 < recursionLimit) (hun : un + 100 < cLine) (hd : D3 ds) (hz : ds.length ≤ 10) (hz2 : 2 ≤ ds.length)
    (ret : ∀ D (shs : Array Value) k h' tk d, But [] s.heap h' → h'.get? D = some (listOf shs k) → s.heap.get? D = none → shs.size ≤ 55 → (shs.size = 0 ↔ Alone (at' ds) ds.length) → Q (.ref D) { s with heap := h', toks := tk, drawn := d }) :
    wpAny (model prog w) (Ar dp un gd (env :: outer)) (call (.ref 313) [.str (tx ds) tw] []) Q E s := by
  have hXl := tx_len ds
  obtain ⟨X, hX⟩ : ∃ X, tx ds = X := ⟨_, rfl⟩
  rw [hX] at hXl ⊢
  have hXz : X.length ≤ 10 := by exact (LI2 (.im (.eq V0 V1) (.im (.le V1 OX) (.le V0 OX)))) hXl hz
  refine enterC (args := ⟨[.str X tw], []⟩) (mod := []) (binds := [(Str.ofString "word", .str X tw)]) B F X₀ T (fun _ h => by cases h) hf hke (by exact (LI2 (.im (.lt (.a V0 (.n 20)) V1) (.lt V0 V1))) hroom) (by k_is) (by k_is) (BindsTo.of_eq rfl) rfl (by decide +kernel) (fun g h₁ tk cells hg hg' F' N' Y' B' X' T' hlow => ?_) rfl rfl rfl
  k_cells Y'
  simp only [List.cons_append, List.nil_append] at N'
  k_steps
  refine go ?_
  rename Fr _ _ _ _ => F2
  rename News _ _ _ _ => N2
  rename_i o1 o2 o3 d1 d2 dw h2 o4 dsz
  refine comp2_rule (cl := [(Str.ofString "word", s.heap.objs.size + 1), (Str.ofString "size", s.heap.objs.size + 1 + 1)]) rfl rfl rfl (by decide) (by decide) rfl rfl (by decide) ?_
  k_steps
  rename IsRange _ _ _ _ _ _ _ _ => hR
  rename Fr _ _ _ _ => F3
  rename News _ _ _ _ => N3
  rename_i hk3
  refine go ⟨_, 0, X.length, _, _, _, ds.length, g, _, _, fun i out => StrsAre out ((strW ds i).map tx), rfl, hR, small_one (by exact (LI0 (.il (.ng (.pw 2 62)) O0))) (by exact (LI0 (.jl O0 (.pw 2 62)))) (by exact (LI1 (.il (.ng (.pw 2 62)) (.ca V0)))) (by exact (LI2 (.im (.eq V0 V1) (.im (.le V1 OX) (.jl (.ca V0) (.pw 2 62))))) hXl hz), by rw [rangeSize_nat]; exact (LI2 (.im (.eq V0 V1) (.je (.ca (.tn (.s (.ca V0) O0))) (.ca V1)))) hXl, F3, .nil, ?_, ?_⟩
  · rintro D I g' i t out k h tk mC own hsI hID hgg hLg hin hi hJ F4 N4
    have gcw : g'.IsCell (s.heap.objs.size + 1) (some (.str X tw)) := ⟨_, hin _ _ (N3 _ (.tail _ (.tail _ (.head _)))).1, dw⟩
    have gcs : g'.IsCell (s.heap.objs.size + 1 + 1) (some (.int X.length _)) := ⟨_, hin _ _ (N3 _ (.tail _ (.head _))).1, dsz⟩
    have T'' := T'.keeps hgg
    have X'' := X'.keeps hgg
    clear N3 F3
    k_steps
    try any_goals (first | exact (0 : Nat) | exact Str.ofString "" | exact Value.none | exact ([] : List (Str × Addr)))
    rename IsRange _ _ _ _ _ _ _ _ => hR2
    rename Fr _ _ _ _ => F5
    rename News _ _ _ _ => N5
    refine go ⟨_, _, _, ds.length - i, _, _, _, _, _, _, fun j out => j ≤ ds.length - i ∧ StrsAre out ((strW ds i ++ inn ds i j).map tx), rfl, rfl, hR2, small_one (by exact (LI1 (.il (.ng (.pw 2 62)) (.a (.a O0 (.ca V0)) O1)))) (by exact (LI2 (.im (.lt V0 V1) (.im (.le V1 OX) (.jl (.a (.a O0 (.ca V0)) O1) (.pw 2 62))))) hi hz) (by exact (LI1 (.il (.ng (.pw 2 62)) (.a (.ca V0) O1)))) (by exact (LI2 (.im (.eq V0 V1) (.im (.le V1 OX) (.jl (.a (.ca V0) O1) (.pw 2 62))))) hXl hz), by rw [rangeSize_nat]; exact (LI3 (.im (.eq V0 V1) (.je (.ca (.tn (.s (.a (.ca V0) O1) (.a (.a O0 (.ca V2)) O1)))) (.ca (.s V1 V2))))) hXl, F5, rfl, news_sub N5 (fun p hp => ?_), ⟨Nat.zero_le _, by simpa [inn] using hJ⟩, fun out' h => by rw [strW_succ]; exact h.2, fun j out' h => ?_, ?_⟩
    · exact hp
    · have h1 := h.2.length
      have h2 := strW_len ds i
      have h3 : (inn ds i j).length = j := by unfold inn; simp
      rw [List.length_map, List.length_append, h3] at h1
      have h4 : i * ds.length ≤ 10 * 10 := Nat.mul_le_mul (by exact (LI2 (.im (.lt V0 V1) (.im (.le V1 OX) (.le V0 OX)))) hi hz) hz
      have h5 := h.1
      rw [sizeLine_eq]
      exact (LI6 (.im (.eq V0 (.a V1 V2)) (.im (.le V1 V3) (.im (.le V3 (.n 100)) (.im (.le V2 (.s V4 V5)) (.im (.le V4 OX) (.le V0 (.n 16777216)))))))) h1 h2 h4 h5 hz
    · rintro j t2 out2 k2 h6 tk6 mC2 own2 hj ⟨hj1, hJ2⟩ F6 N6
      have hsl : Txt.slice X (some (0 + (i : Int))) (some (0 + (i : Int) + 1 + (j : Int))) = tx (sub ds i (i + 1 + j)) := by
        rw [← hX, show (0 + (i : Int) + 1 + (j : Int)) = ((i + 1 + j : Nat) : Int) by exact (LI2 (.je (.a (.a (.a O0 (.ca V0)) O1) (.ca V1)) (.ca (.a (.a V0 O1) V1)))), Int.zero_add]
        exact slice_tx (by exact (LI2 (.le V0 (.a (.a V0 O1) V1)))) (by exact (LI3 (.im (.lt V0 (.s V1 V2)) (.le (.a (.a V2 O1) V0) V1))) hj)
      clear F5 N5
      k_steps
      try any_goals (first | exact (0 : Nat) | exact Str.ofString "" | exact Value.none | exact ([] : List (Str × Addr)))
      rename Fr _ _ _ _ => F7
      rename News _ _ _ _ => N7
      refine go ⟨_, _, _, rfl, F7, rfl, N7, hj, ?_⟩
      rw [inn_succ, ← List.append_assoc, List.map_append, hsl]
      exact strsAre_snoc hJ2 _ _
  · rintro D out k h4 tk4 hsD hJ F4 N4 hk4
    rename_i hk3 _
    have N5 := news_app N4 (fun p hp => ⟨hk4 _ _ (N3 p hp).1, (N3 p hp).2⟩)
    simp only [List.cons_append, List.nil_append] at N5
    clear N3 F3 N4
    k_steps
    rename Fr _ _ _ _ => F6
    rename News _ _ _ _ => N6
    refine go ?_
    have hz55 := strW_55 ds hz
    refine call_set_strs (items := out.toArray) (ss := (strW ds ds.length).map tx) rfl (News.isList N6 (.head _)) (by simpa using hJ) (by rw [List.length_map]; unfold scanBound; exact (LI1 (.im (.le V0 (.n 55)) (.lt (.a V0 O1) (.n 4096)))) hz55) (fun h7 tk7 S7 k7 => ?_)
    obtain ⟨oS, esS, epS, tS, hoS, restS⟩ := S7
    have N7 := news_fresh (xs := [(_, oS)]) F6 (news_keep N6 (fun b o _ e => k7 b o (Heap.lt_size e) e)) (fun p hp => by
      rw [List.mem_singleton.mp hp]
      refine ⟨hoS, ?_⟩
      show Heap.get? _ _ = none
      cases q : Heap.get? _ _ with
      | none => rfl
      | some o => exact absurd (Heap.lt_size q) (Nat.lt_irrefl _))
    have F7 := fr_keep F6 (fun b o _ e => k7 b o (Heap.lt_size e) e)
    clear F6 N6
    simp only [List.cons_append, List.nil_append] at N7
    k_steps
    refine go ?_
    rename Fr _ _ _ _ => F8
    rename News _ _ _ _ => N8
    rename_i Pp h9 lP h10 tk9 Sh h11 lS h12
    have hSP : Sh ≠ Pp := Nat.ne_of_gt lS.1
    refine For_cellL g rfl rfl rfl rfl ?_
    k_steps
    refine go ?_
    refine sorted_set rfl ⟨oS, esS, epS, tS, (N8 _ (.tail _ (.tail _ (.head _)))).1, restS⟩ ?_ ?_ (fun D8 out8 ss e8 h8 d8 tk8 lt8 hs8 hp8 hso8 hD8 k8 => ?_)
    · have s1 : sub ds 0 1 ∈ strW ds ds.length := mem_strW.mpr ⟨0, 1, by exact (LI0 (.lt O0 O1)), by exact (LI1 (.im (.le O2 V0) (.le O1 V0))) hz2, rfl⟩
      have s2 : sub ds 0 2 ∈ strW ds ds.length := mem_strW.mpr ⟨0, 2, by exact (LI0 (.lt O0 O2)), by assumption, rfl⟩
      refine setS_two (List.mem_map_of_mem s1) (List.mem_map_of_mem s2) fun e => ?_
      have := congrArg Str.length e
      rw [tx_len, tx_len, sub_len, sub_len] at this
      exact (LI1 (.im (.eq (.s (.mi O1 V0) O0) (.s (.mi O2 V0) O0)) (.im (.le O2 V0) .ff))) this hz2
    · have := setS_len ((strW ds ds.length).map tx)
      rw [List.length_map] at this
      exact (LI2 (.im (.le V0 (.n 55)) (.im (.le V1 V0) (.lt V1 (.n 64))))) hz55 this
    k_steps
    obtain ⟨parts, hparts, hpm, hnd⟩ := parts_of hd hp8
    subst hparts
    have hp55 : parts.length ≤ 55 := by
      have h1 := hp8.length_eq
      have h2 := setS_len ((strW ds ds.length).map tx)
      rw [List.length_map] at h1 h2
      exact (LI3 (.im (.eq V0 V1) (.im (.le V2 (.n 55)) (.im (.le V1 V2) (.le V0 (.n 55)))))) h1 hz55 h2
    refine go ⟨D8, out8, e8, _, [(Sh, listOf #[] 0), (Pp, listOf #[] 0)], o1, _, ShJ parts Sh Pp, rfl, fr_keep F8 (fun b o _ q => k8 b o q), ?_, d1, ?_, ?_, ⟨⟨rfl, rfl, trivial⟩, _, _, _, _, [], [], [], rfl, .nil, .nil, fun _ h => (by cases h), rfl, Nat.le_refl _, rfl⟩, ?_, ?_⟩
    · have hnone : Heap.get? h12 D8 = none := by
        cases q : Heap.get? h12 D8 with
        | none => rfl
        | some o => exact absurd (lt8 _ _ q) (Nat.lt_irrefl _)
      have N9 := news_fresh (xs := [(D8, listOf out8 e8)]) F8 (news_keep N8 (fun b o _ q => k8 b o q)) (fun p hp => by rw [List.mem_singleton.mp hp]; exact ⟨hD8, hnone⟩)
      refine news_sub N9 fun q hq => ?_
      rcases List.mem_cons.mp hq with rfl | hq
      · exact .head _
      rcases List.mem_cons.mp hq with rfl | hq
      · exact .tail _ (.tail _ (.tail _ (.tail _ (.tail _ (.head _)))))
      rcases List.mem_cons.mp hq with rfl | hq
      · exact .tail _ (.head _)
      · rw [List.mem_singleton.mp hq]; exact .tail _ (.tail _ (.head _))
    · exact Nat.ne_of_gt (lt8 _ _ (N8 _ (.tail _ (.tail _ (.tail _ (.tail _ (.head _)))))).1)
    · intro q hq
      rcases List.mem_cons.mp hq with rfl | hq
      · exact ⟨Nat.ne_of_gt lS.2.2.2.1, Nat.ne_of_lt (lt8 _ _ (N8 _ (.head _)).1)⟩
      · rw [List.mem_singleton.mp hq]
        exact ⟨Nat.ne_of_gt lP.2.2.1, Nat.ne_of_lt (lt8 _ _ (N8 _ (.tail _ (.head _))).1)⟩
    · rintro I i v m₁ led₁ h tk io co₁ hI hv ⟨hm, prs, k1, shs, k2, ex, r, sh, rfl, hr, hsh, hex, hsz, hshl, hfin⟩ hoff hlI hcI F9 N9 hco R1 hR1
      dsimp only
      have hil : i < parts.length := by
        have h1 := hs8.length
        rw [List.length_map, Array.length_toList] at h1
        rcases Nat.lt_or_ge i out8.size with q | q
        · exact (LI3 (.im (.lt V0 V1) (.im (.eq V1 V2) (.lt V0 V2)))) q h1
        · rw [Array.getElem?_eq_none q] at hv; cases hv
      obtain ⟨p, hpe⟩ : ∃ p, parts[i] = p := ⟨_, rfl⟩
      obtain ⟨u, rfl⟩ : ∃ u, v = .str (tx p) u := by
        obtain ⟨x, u, hx, rfl⟩ := strs_at hs8 i v (by rw [Array.getElem?_toList]; exact hv)
        rw [List.getElem?_map, List.getElem?_eq_getElem hil, hpe] at hx
        exact ⟨u, by rw [← Option.some.inj hx]⟩
      have hpw : p ∈ strW ds ds.length := hpe ▸ (hpm _).mp (List.getElem_mem hil)
      obtain ⟨a0, b0, hab, hb0, hpab⟩ := mem_strW.mp hpw
      have hpD : D3 p := by rw [hpab]; exact sub_D3 hd a0 b0
      have hp1 : 1 ≤ p.length ∧ p.length ≤ 10 := by rw [hpab, sub_len]; exact (LI3 (.im (.lt V0 V1) (.im (.le V2 OX) (.im (.le V1 V2) (.an (.le O1 (.s (.mi V1 V2) V0)) (.le (.s (.mi V1 V2) V0) OX)))))) hab hz hb0
      have hpl : (tx p).length = p.length := tx_len p
      obtain ⟨Y, hY⟩ : ∃ Y, tx p = Y := ⟨_, rfl⟩
      rw [hY] at hpl hco
      have hYz : Y.length ≤ 10 := by exact (LI2 (.im (.eq V0 V1) (.im (.le V1 OX) (.le V0 OX)))) hpl hp1.2
      have F9 := fr_has F9 [(Str.ofString "shared", .ref Sh), (Str.ofString "pairs", .ref Pp)] ⟨hm.1, hm.2.1, trivial⟩
      simp only [List.cons_append, List.nil_append] at N9
      clear N8 F8 hD8 hv d2 dsz dw
      k_steps
      refine go ?_
      rename Fr _ _ _ _ => F10
      rename News _ _ _ _ => N10
      refine comp_ruleA (tst := none) (cl := [(Str.ofString "part", s.heap.objs.size + 1 + 1 + 1)]) rfl (by with_unfolding_all rfl) rfl rfl rfl rfl (by decide) (by decide) rfl ?_
      k_steps
      refine go ?_
      rename IsRange _ _ _ _ _ _ _ _ => hR3
      rename Fr _ _ _ _ => F11
      rename News _ _ _ _ => N11
      refine comp_rangeA rfl rfl hR3 (small_one (by exact (LI0 (.il (.ng (.pw 2 62)) O1))) (by exact (LI0 (.jl O1 (.pw 2 62)))) (by exact (LI1 (.il (.ng (.pw 2 62)) (.a (.ca V0) O1)))) (by exact (LI2 (.im (.eq V0 V1) (.im (.le V1 OX) (.jl (.a (.ca V0) O1) (.pw 2 62))))) hpl hp1.2)) (n := p.length) (by rw [rangeSize_nat]; exact (LI2 (.im (.eq V0 V1) (.je (.ca (.tn (.s (.a (.ca V0) O1) O1))) (.ca V1)))) hpl) F11 (fun _ h => by cases h) (by rw [sizeLine_eq]; exact (LI1 (.im (.le V0 OX) (.lt V0 (.n 16777216)))) hp1.2) (J := fun i out led => led = [] ∧ StrsAre out (((List.range i).map fun k => p.take (k + 1)).map tx)) ⟨rfl, .nil⟩ ?_ ?_
      · rintro D9 I2 s₂ g' j v out9 e0 led₁ h13 tk13 mC own hsI hID ⟨hh, tt, rfl⟩ hgg hL hk hj ⟨t, rfl⟩ hle ⟨rfl, hI9⟩ ho F13 N13
        refine wpAny_pure ?_
        rw [if_pos rfl]
        have gcp : g'.IsCell (s.heap.objs.size + 1 + 1 + 1) (some (.str Y u)) := ⟨_, hk _ _ (fun q => by cases q) (N11 _ (.head _)).1, hco⟩
        have T'' := T'.keeps hgg
        have X'' := X'.keeps hgg
        clear N11 F11
        k_steps
        try any_goals (first | exact (0 : Nat) | exact Str.ofString "" | exact Value.none | exact ([] : List (Str × Addr)))
        rename Fr _ _ _ _ => F13
        rename News _ _ _ _ => N13
        refine go ⟨_, _, _, _, rfl, F13, N13, ho, rfl, ?_⟩
        rw [List.range_succ, List.map_append, List.map_append, ← hY, show (1 + (j : Int)) = ((j + 1 : Nat) : Int) by exact (LI1 (.je (.a O1 (.ca V0)) (.ca (.a V0 O1)))), slice_to (by exact (LI2 (.im (.lt V0 V1) (.le (.a V0 O1) V1))) hj)]
        exact strsAre_snoc hI9 _ _
      · rintro D9 led9 out9 k9 h14 tk14 hD9 ⟨rfl, hI9⟩ F14 N14 hk14
        have N15 : News g s.heap.objs.size h14 _ := news_app N14 (fun p hp => ⟨hk14 _ _ (N11 p hp).2.1 (fun q => by cases q) (N11 p hp).1, (N11 p hp).2⟩)
        simp only [List.cons_append, List.nil_append] at N15
        clear N11 F11 N14 hk14 hR3
        k_steps
        refine go ?_
        rename Fr _ _ _ _ => F16
        rename News _ _ _ _ => N16
        refine comp_ruleA (tst := none) (cl := [(Str.ofString "part", s.heap.objs.size + 1 + 1 + 1)]) rfl (by with_unfolding_all rfl) rfl rfl rfl rfl (by decide) (by decide) rfl ?_
        k_steps
        refine go ?_
        rename IsRange _ _ _ _ _ _ _ _ => hR3
        rename Fr _ _ _ _ => F17
        rename News _ _ _ _ => N17
        refine comp_rangeA rfl rfl hR3 (small_one (by exact (LI0 (.il (.ng (.pw 2 62)) O0))) (by exact (LI0 (.jl O0 (.pw 2 62)))) (by exact (LI1 (.il (.ng (.pw 2 62)) (.ca V0)))) (by exact (LI2 (.im (.eq V0 V1) (.im (.le V1 OX) (.jl (.ca V0) (.pw 2 62))))) hpl hp1.2)) (n := p.length) (by rw [rangeSize_nat]; exact (LI2 (.im (.eq V0 V1) (.je (.ca (.tn (.s (.ca V0) O0))) (.ca V1)))) hpl) F17 (fun _ h => by cases h) (by rw [sizeLine_eq]; exact (LI1 (.im (.le V0 OX) (.lt V0 (.n 16777216)))) hp1.2) (J := fun i out led => led = [] ∧ StrsAre out (((List.range i).map fun k => p.drop k).map tx)) ⟨rfl, .nil⟩ ?_ ?_
        · rintro D10 I2 s₂ g' j v out10 e0 led₁ h18 tk18 mC own hsI hID ⟨hh, tt, rfl⟩ hgg hL hk hj ⟨t, rfl⟩ hle ⟨rfl, hI10⟩ ho F18 N18
          refine wpAny_pure ?_
          rw [if_pos rfl]
          have gcp : g'.IsCell (s.heap.objs.size + 1 + 1 + 1) (some (.str Y u)) := ⟨_, hk _ _ (fun q => by cases q) (N17 _ (.tail _ (.head _))).1, hco⟩
          have T'' := T'.keeps hgg
          have X'' := X'.keeps hgg
          clear N17 F17
          k_steps
          try any_goals (first | exact (0 : Nat) | exact Str.ofString "" | exact Value.none | exact ([] : List (Str × Addr)))
          rename Fr _ _ _ _ => F18
          rename News _ _ _ _ => N18
          refine go ⟨_, _, _, _, rfl, F18, N18, ho, rfl, ?_⟩
          rw [List.range_succ, List.map_append, List.map_append, ← hY, show (0 + (j : Int)) = (j : Int) by exact (LI1 (.je (.a O0 (.ca V0)) (.ca V0))), slice_from (by exact (LI2 (.im (.lt V0 V1) (.le V0 V1))) hj)]
          exact strsAre_snoc hI10 _ _
        · rintro D10 led10 out10 k10 h19 tk19 hD10 ⟨rfl, hI10⟩ F19 N19 hk19
          have N20 : News g s.heap.objs.size h19 _ := news_app N19 (fun p hp => ⟨hk19 _ _ (N17 p hp).2.1 (fun q => by cases q) (N17 p hp).1, (N17 p hp).2⟩)
          simp only [List.cons_append, List.nil_append] at N20
          clear N17 F17 N19 hk19 hR3
          have hpt : ∀ z : List Nat, z ≠ [] → D3 z → z.length ≤ 10 → True := fun _ _ _ _ => trivial
          k_steps
          refine go ?_
          rename Fr _ _ _ _ => F21
          rename News _ _ _ _ => N21
          refine Subscript_ ?_
          refine comp_rule (tst := some _) (cl := []) rfl (by with_unfolding_all rfl) rfl (by decide) (by decide) rfl ?_
          k_steps
          refine go ?_
          rename Fr _ _ _ _ => F22
          rename News _ _ _ _ => N22
          obtain ⟨H, hH⟩ : ∃ H : List (List Nat), ((List.range p.length).map fun k => p.take (k + 1)) = H := ⟨_, rfl⟩
          obtain ⟨TT, hTT⟩ : ∃ H : List (List Nat), ((List.range p.length).map fun k => p.drop k) = H := ⟨_, rfl⟩
          rw [hH] at hI9
          rw [hTT] at hI10
          have hHl : H.length = p.length := by rw [← hH]; simp
          have hTl : TT.length = p.length := by rw [← hTT]; simp
          have hHz : ∀ z ∈ H, D3 z ∧ z.length ≤ 10 := fun z hz => by
            rw [← hH] at hz
            obtain ⟨k, hk, rfl⟩ := List.mem_map.mp hz
            exact ⟨fun d hd => hpD d (List.mem_of_mem_take hd), by rw [List.length_take]; exact (LI2 (.im (.le V0 OX) (.le (.mi (.a V1 O1) V0) OX))) hp1.2⟩
          have hTz : ∀ z ∈ TT, D3 z ∧ z.length ≤ 10 := fun z hz => by
            rw [← hTT] at hz
            obtain ⟨k, hk, rfl⟩ := List.mem_map.mp hz
            exact ⟨fun d hd => hpD d (List.mem_of_mem_drop hd), by rw [List.length_drop]; exact (LI2 (.im (.le V0 OX) (.le (.s V0 V1) OX))) hp1.2⟩
          have hv9 : out9.length = H.length := by have := hI9.length; rwa [List.length_map] at this
          have hv10 : out10.length = TT.length := by have := hI10.length; rwa [List.length_map] at this
          refine comp_list (J := fun i out led => led = [] ∧ StrsAre out (((H.take i).filter palB).map tx)) rfl (News.isList N22 (.tail _ (.head _))) F22 (fun _ h => by cases h) (by rw [sizeLine_eq, List.size_toArray]; exact (LI3 (.im (.eq V0 V1) (.im (.eq V2 V0) (.im (.le V1 OX) (.lt V2 (.n 16777216)))))) hHl hv9 hp1.2) ⟨rfl, .nil⟩ ?_ ?_
          · rintro D11 I3 s₂ g' j v out11 e0 led₁ h23 tk23 mC own hsI hID ⟨hh, tt, rfl⟩ hgg hL hk hj hv hle ⟨rfl, hI11⟩ ho F23 N23
            rw [List.size_toArray] at hj
            have hj' : j < H.length := by exact (LI3 (.im (.lt V0 V1) (.im (.eq V1 V2) (.lt V0 V2)))) hj hv9
            obtain ⟨z, hz⟩ : ∃ z, H[j] = z := ⟨_, rfl⟩
            obtain ⟨u2, rfl⟩ : ∃ u, v = .str (tx z) u := by
              rw [List.getElem?_toArray] at hv
              obtain ⟨x, u2, hx, rfl⟩ := strs_at hI9 j v hv
              rw [List.getElem?_map, List.getElem?_eq_getElem hj', hz] at hx
              exact ⟨u2, by rw [← Option.some.inj hx]⟩
            obtain ⟨hzD, hzl⟩ := hHz z (hz ▸ List.getElem_mem hj')
            have hrv := fun u => rev_tx z u
            have hbq := tx_beq hzD (rev_D3 hzD)
            have hzl2 : (tx z).length ≤ 10 := by rw [tx_len]; exact hzl
            have T'' := T'.keeps hgg
            have X'' := X'.keeps hgg
            have hst : ∀ out', StrsAre out' ((((H.take j).filter palB) ++ (if palB z then [z] else [])).map tx) → StrsAre out' (((H.take (j + 1)).filter palB).map tx) := fun out' h => by
              rw [List.take_add_one, List.getElem?_eq_getElem hj', hz, List.filter_append]
              show StrsAre out' (List.map tx (List.filter palB (List.take j H) ++ List.filter palB [z]))
              cases q : palB z with
              | true => rw [q, if_pos rfl] at h; rw [List.filter_cons_of_pos q]; exact h
              | false => rw [q, if_neg Bool.false_ne_true] at h; rw [List.filter_cons_of_neg (by rw [q]; exact Bool.false_ne_true)]; exact h
            clear N22 F22
            dsimp only
            k_steps
            all_goals try any_goals (first | exact (0 : Nat) | exact Str.ofString "" | exact Value.none | exact ([] : List (Str × Addr)))
            · rename Fr _ _ _ _ => F24
              rename News _ _ _ _ => N24
              rename (_ == _) = true => hq
              rw [hrv, hbq, decide_eq_true_eq] at hq
              have hp : palB z = true := by unfold palB; rw [← hq]; exact beq_self_eq_true z
              refine go ⟨_, _, _, _, rfl, F24, N24, ho, rfl, hst _ ?_⟩
              rw [hp, if_pos rfl, List.map_append]
              exact strsAre_snoc hI11 _ _
            · rename Fr _ _ _ _ => F24
              rename News _ _ _ _ => N24
              rename (_ == _) = false => hq
              rw [hrv, hbq, decide_eq_false_iff_not] at hq
              have hp : palB z = false := by unfold palB; exact beq_false_of_ne hq
              refine go ⟨_, _, _, _, rfl, F24, N24, ho, rfl, hst _ ?_⟩
              rw [hp, if_neg Bool.false_ne_true, List.append_nil]
              exact hI11
          · rintro D11 led11 out11 k11 h25 tk25 hD11 ⟨rfl, hI11⟩ F25 N25 hk25
            rw [List.take_of_length_le (by rw [List.size_toArray]; exact (LI2 (.im (.eq V0 V1) (.le V1 V0))) hv9)] at hI11
            have N26 : News g s.heap.objs.size h25 _ := news_app N25 (fun p hp => ⟨hk25 _ _ (fun q => by cases q) (N22 p hp).1, (N22 p hp).2⟩)
            simp only [List.cons_append, List.nil_append] at N26
            clear N22 F22 N25 hk25
            k_steps
            refine go ?_
            rename Fr _ _ _ _ => F27
            rename News _ _ _ _ => N27
            have hpne : p ≠ [] := fun q => by rw [q] at hp1; simp at hp1
            have hlen11 : out11.length ≤ p.length := by
              have h1 := hI11.length
              have h2 := List.length_filter_le palB H
              rw [List.length_map] at h1
              exact (LI4 (.im (.eq V0 V1) (.im (.eq V2 V3) (.im (.le V3 V0) (.le V2 V1))))) hHl h1 h2
            refine item_last (vs := out11) (ss := (heads p).map tx) (News.isList N27 (.head _)) (by unfold heads; rw [hH]; exact hI11) (by exact (LI2 (.im (.le V0 OX) (.im (.le V1 V0) (.lt V1 (.n 1000))))) hp1.2 hlen11) (by rw [List.getLast?_map, heads_last? hpne]; rfl) (fun t11 => ?_)
            k_steps
            refine go ?_
            rename Fr _ _ _ _ => F28
            rename News _ _ _ _ => N28
            refine Subscript_ ?_
            refine comp_rule (tst := some _) (cl := []) rfl (by with_unfolding_all rfl) rfl (by decide) (by decide) rfl ?_
            k_steps
            refine go ?_
            rename Fr _ _ _ _ => F29
            rename News _ _ _ _ => N29
            refine comp_list (J := fun i out led => led = [] ∧ StrsAre out (((TT.take i).filter palB).map tx)) rfl (News.isList N29 (.tail _ (.head _))) F29 (fun _ h => by cases h) (by rw [sizeLine_eq, List.size_toArray]; exact (LI3 (.im (.eq V0 V1) (.im (.eq V1 V2) (.im (.le V2 OX) (.lt V0 (.n 16777216)))))) hv10 hTl hp1.2) ⟨rfl, .nil⟩ ?_ ?_
            · rintro D12 I4 s₂ g' j v out12 e0 led₁ h30 tk30 mC own hsI hID ⟨hh, tt, rfl⟩ hgg hL hk hj hv hle ⟨rfl, hI12⟩ ho F30 N30
              rw [List.size_toArray] at hj
              have hj' : j < TT.length := by exact (LI3 (.im (.lt V0 V1) (.im (.eq V1 V2) (.lt V0 V2)))) hj hv10
              obtain ⟨z, hz⟩ : ∃ z, TT[j] = z := ⟨_, rfl⟩
              obtain ⟨u2, rfl⟩ : ∃ u, v = .str (tx z) u := by
                rw [List.getElem?_toArray] at hv
                obtain ⟨x, u2, hx, rfl⟩ := strs_at hI10 j v hv
                rw [List.getElem?_map, List.getElem?_eq_getElem hj', hz] at hx
                exact ⟨u2, by rw [← Option.some.inj hx]⟩
              obtain ⟨hzD, hzl⟩ := hTz z (hz ▸ List.getElem_mem hj')
              have hrv := fun u => rev_tx z u
              have hbq := tx_beq hzD (rev_D3 hzD)
              have hzl2 : (tx z).length ≤ 10 := by rw [tx_len]; exact hzl
              have T'' := T'.keeps hgg
              have X'' := X'.keeps hgg
              have hst : ∀ out', StrsAre out' ((((TT.take j).filter palB) ++ (if palB z then [z] else [])).map tx) → StrsAre out' (((TT.take (j + 1)).filter palB).map tx) := fun out' h => by
                rw [List.take_add_one, List.getElem?_eq_getElem hj', hz, List.filter_append]
                show StrsAre out' (List.map tx (List.filter palB (List.take j TT) ++ List.filter palB [z]))
                cases q : palB z with
                | true => rw [q, if_pos rfl] at h; rw [List.filter_cons_of_pos q]; exact h
                | false => rw [q, if_neg Bool.false_ne_true] at h; rw [List.filter_cons_of_neg (by rw [q]; exact Bool.false_ne_true)]; exact h
              clear N29 F29
              dsimp only
              k_steps
              all_goals try any_goals (first | exact (0 : Nat) | exact Str.ofString "" | exact Value.none | exact ([] : List (Str × Addr)))
              · rename Fr _ _ _ _ => F31
                rename News _ _ _ _ => N31
                rename (_ == _) = true => hq
                rw [hrv, hbq, decide_eq_true_eq] at hq
                have hp : palB z = true := by unfold palB; rw [← hq]; exact beq_self_eq_true z
                refine go ⟨_, _, _, _, rfl, F31, N31, ho, rfl, hst _ ?_⟩
                rw [hp, if_pos rfl, List.map_append]
                exact strsAre_snoc hI12 _ _
              · rename Fr _ _ _ _ => F31
                rename News _ _ _ _ => N31
                rename (_ == _) = false => hq
                rw [hrv, hbq, decide_eq_false_iff_not] at hq
                have hp : palB z = false := by unfold palB; exact beq_false_of_ne hq
                refine go ⟨_, _, _, _, rfl, F31, N31, ho, rfl, hst _ ?_⟩
                rw [hp, if_neg Bool.false_ne_true, List.append_nil]
                exact hI12
            · rintro D12 led12 out12 k12 h32 tk32 hD12 ⟨rfl, hI12⟩ F32 N32 hk32
              rw [List.take_of_length_le (by rw [List.size_toArray]; exact (LI2 (.im (.eq V0 V1) (.le V1 V0))) hv10)] at hI12
              have N33 : News g s.heap.objs.size h32 _ := news_app N32 (fun p hp => ⟨hk32 _ _ (fun q => by cases q) (N29 p hp).1, (N29 p hp).2⟩)
              simp only [List.cons_append, List.nil_append] at N33
              clear N29 F29 N32 hk32
              k_steps
              refine go ?_
              rename Fr _ _ _ _ => F34
              rename News _ _ _ _ => N34
              refine item_first (vs := out12) (ss := (tails p).map tx) (News.isList N34 (.head _)) (by unfold tails; rw [hTT]; exact hI12) (by rw [List.head?_map, tails_first? hpne]; rfl) (fun t12 => ?_)
              have N35 := news_sub N34 (news' := (s.heap.objs.size + 1 + 1 + 1, co₁) :: (Sh, listOf shs k2) :: (Pp, listOf prs k1) :: (ex ++ [(D8, listOf out8 e8), (I, io)])) (fun p hp => .tail _ (.tail _ (.tail _ (.tail _ hp))))
              clear N34
              k_steps
              refine go ?_
              rename Fr _ _ _ _ => F36
              rename News _ _ _ _ => N36
              rename_i T1 h36 l36
              have hprs : prs.size = r.length := by rw [← hr.len, Array.length_toList]
              have hrat : ∀ (j : Nat) (v : Value), prs[j]? = some v → E4 fun T t u q => A3 (v = .ref T) (r[j]? = some q) ((T, tupO (.str q.1 t) (.str q.2 u)) ∈ ex) := fun j v hv => hr.at (i := j) (v := v) (by rw [Array.getElem?_toList]; exact hv)
              refine bisect_left_spec (dp := dp + 1) (un := un + 3) (its := prs) (t := fun j => (r[j]?).any fun y => ltP y (keyP p)) B' F36 X' T' rfl rfl (by exact (LI2 (.im (.lt (.a V0 (.n 20)) V1) (.lt (.a (.a V0 O1) O1) V1))) hroom) (by exact (LI2 (.im (.lt (.a V0 (.n 100)) V1) (.lt (.a (.a V0 (.n 3)) (.n 8)) V1))) hun) (News.isList N36 (.tail _ (.tail _ (.tail _ (.head _))))) (by exact (LI3 (.im (.lt V0 V1) (.im (.eq V2 V0) (.im (.le V1 (.n 55)) (.lt V2 (.n 1000)))))) hil hsz hp55) (fun j v hv => ?_) (fun h37 tk37 t37 b37 => ?_)
              · obtain ⟨T, t, u, q, rfl, e2, e3⟩ := hrat j v hv
                dsimp only
                rw [e2]
                exact ltIs_tup (N36 _ (.tail _ (.tail _ (.tail _ (.tail _ (List.mem_append_left _ e3)))))).1 (N36 _ (.head _)).1
              have F37 := fr_keep F36 b37
              have N37 := news_keep N36 b37
              clear F36 N36
              have hbis : bis (fun j => (r[j]?).any fun y => ltP y (keyP p)) prs.size 0 prs.size = blK ltP r (keyP p) := by rw [hprs]; rfl
              rw [hbis]
              obtain ⟨bk, hbk⟩ : ∃ bk, blK ltP r (keyP p) = bk := ⟨_, rfl⟩
              have hbz : bk ≤ prs.size := by rw [hprs, ← hbk]; exact blK_le _ _
              rw [hbk]
              have hprz : prs.size ≤ 55 := by exact (LI3 (.im (.lt V0 V1) (.im (.eq V2 V0) (.im (.le V1 (.n 55)) (.le V2 (.n 55)))))) hil hsz hp55
              have hoffx : ∀ q ∈ ex, q.1 ≠ s.heap.objs.size + 1 + 1 + 1 ∧ ∀ o ∈ [(D8, listOf out8 e8), (I, io)], q.1 ≠ o.1 := fun q hq => own2 (hoff q (.tail _ (.tail _ hq)))
              have hoffS : Sh ≠ s.heap.objs.size + 1 + 1 + 1 ∧ ∀ o ∈ [(D8, listOf out8 e8), (I, io)], Sh ≠ o.1 := own2 (hoff _ (.head _))
              have hoffP : Pp ≠ s.heap.objs.size + 1 + 1 + 1 ∧ ∀ o ∈ [(D8, listOf out8 e8), (I, io)], Pp ≠ o.1 := own2 (hoff _ (.tail _ (.head _)))
              have hrest : ∀ q ∈ ex ++ [(D8, listOf out8 e8), (I, io)], q.1 ≠ Pp := fun q hq => by
                rcases List.mem_append.mp hq with hq | hq
                · exact (hex q hq).2
                · exact Ne.symm (hoffP.2 q hq)
              k_steps
              · refine go ?_
                rename Fr _ _ _ _ => F38
                rename News _ _ _ _ => N38
                rename @LT.lt Int _ _ _ => hlt
                have hbl : bk < prs.size := by exact (LI3 (.im (.jl (.ca V0) (.ca V1)) (.im (.eq V2 V1) (.lt V0 V2)))) hlt hprs
                obtain ⟨T3, t3, u3, q3, e1, e2, e3⟩ := hrat bk prs[bk] (Array.getElem?_eq_getElem hbl)
                refine item_list (News.isList N38 (.tail _ (.tail _ (.tail _ (.head _))))) (by exact (LI1 (.il O0 (.ca V0)))) (by exact (LI3 (.im (.jl (.ca V0) (.ca V1)) (.im (.eq V2 V1) (.im (.le V2 (.n 55)) (.jl (.ca V0) (.pw 2 63)))))) hlt hprs hprz) (x := .ref T3) (by rw [show ((bk : Int)).toNat = bk from rfl, Array.getElem?_eq_getElem hbl, e1]) ?_
                k_steps
                refine go ?_
                rename Fr _ _ _ _ => F39
                rename News _ _ _ _ => N39
                rename_i T2 h38 l38
                refine eq_tup (N39 _ (.tail _ (.tail _ (.tail _ (.tail _ (.tail _ (List.mem_append_left _ e3))))))).1 (N39 _ (.head _)).1 (by show un + 3 < cLine; exact (LI2 (.im (.lt (.a V0 (.n 100)) V1) (.lt (.a V0 (.n 3)) V1))) hun) ?_
                obtain ⟨bq, hbq⟩ : ∃ bq, decide (q3.1 = tx (headOf p) ∧ q3.2 = tx (tailOf p)) = bq := ⟨_, rfl⟩
                rw [hbq]
                k_steps
                · refine go ?_
                  rename Fr _ _ _ _ => F40
                  rename News _ _ _ _ => N40
                  rename bq = true => hq
                  rw [hq, decide_eq_true_eq] at hbq
                  have hq := hbq
                  have hyes : bk < r.length ∧ r[bk]? = some (keyP p) := ⟨by exact (LI2 (.im (.jl (.ca V0) (.ca V1)) (.lt V0 V1))) hlt, by rw [e2]; exact congrArg some (Prod.ext hq.1 hq.2)⟩
                  refine append_K (D := Sh) (its := shs) (n := k2) F40 N40 (.tail (Nat.ne_of_gt l38.2.2.1) (.tail (Nat.ne_of_gt l36.2.1) (.tail (Ne.symm hoffS.1) (.head fun q hq => ?_)))) (fun h40 F40 N40 => ?_) (by rw [sizeLine_eq]; have := hsh.length; rw [Array.length_toList, List.length_map] at this; exact (LI4 (.im (.eq V0 V1) (.im (.eq V2 V3) (.im (.le V2 (.n 55)) (.im (.le V1 V3) (.le V0 (.n 16777216))))))) this hsz hprz hshl)
                  · rcases List.mem_cons.mp hq with rfl | hq
                    · exact Ne.symm hSP
                    rcases List.mem_append.mp hq with hq | hq
                    · exact (hex q hq).1
                    · exact Ne.symm (hoffS.2 q hq)
                  k_steps
                  refine go ?_
                  rename Fr _ _ _ _ => F41
                  rename News _ _ _ _ => N41
                  rename_i T4 h41 l41
                  refine kl_insert (news' := (T4, tupO (.str (tx (headOf p)) t11) (.str (tx (tailOf p)) t12)) :: (T2, tupO (.str (tx (headOf p)) t11) (.str (tx (tailOf p)) t12)) :: (T1, tupO (.str (tx (headOf p)) t11) (.str (tx (tailOf p)) t12)) :: (s.heap.objs.size + 1 + 1 + 1, co₁) :: (Sh, listOf (shs.push (.str Y u)) (k2 + 1)) :: (Pp, listOf (prs.toList.take bk ++ .ref T4 :: prs.toList.drop bk).toArray (k1 + 1)) :: (ex ++ [(D8, listOf out8 e8), (I, io)])) F41 N41 (by unfold Builtin.List.listFitsIndex; simp; exact (LI3 (.im (.jl (.ca V0) (.ca V1)) (.im (.eq V2 V1) (.im (.le V2 (.n 55)) (.jl (.ca V0) (.n 9223372036854775808)))))) hlt hprs hprz) (kl_ins_nat _ _ _ (by simpa using hbz)) (.tail (Nat.ne_of_gt l41.2.2.2.2.1) (.tail (Nat.ne_of_gt l38.2.2.2.1) (.tail (Nat.ne_of_gt l36.2.2.1) (.tail (Ne.symm hoffP.1) (.tail hSP (.head hrest)))))) (by rw [Array.length_toList, sizeLine_eq]; exact (LI1 (.im (.le V0 (.n 55)) (.le V0 (.n 16777216)))) hprz) (fun h39 F39 N39 => ?_)
                  k_steps
                  rename Fr _ _ _ _ => F39
                  rename News _ _ _ _ => N39
                  obtain ⟨led', N', offs, hJ'⟩ := shr_key (sh' := sh ++ [p]) (own := [(D8, listOf out8 e8), (I, io)]) hil hpe hbk hr hex hsz hshl hfin hoffx hoffS hoffP ⟨Nat.ne_of_gt l41.2.2.2.1, Nat.ne_of_gt l41.2.2.2.2.1⟩ ⟨Nat.ne_of_gt l41.2.2.1, fun o ho => Nat.ne_of_gt (allLt_mem l41.2.2.2.2.2 o (List.mem_append_right _ ho))⟩ F39 ⟨rfl, rfl, trivial⟩ (news_sub N39 fun q hq => by rw [List.mem_singleton.mp hq]; exact .head _) (news_sub N39 fun q hq => .tail _ (.tail _ (.tail _ hq))) (by rw [Array.toList_push, List.map_append, List.map_singleton, hY]; exact strsAre_snoc hsh _ _) (by rw [if_pos hyes])
                  refine hR1 _ _ ?_
                  exact go ⟨_, _, _, led', co₁, _, rfl, F39, N', hco, fun q hq => ⟨(offs q hq).1, (offs q hq).2 _ (.head _), (offs q hq).2 _ (.tail _ (.head _))⟩, hJ'⟩
                · refine go ?_
                  rename Fr _ _ _ _ => F41
                  rename News _ _ _ _ => N41
                  rename bq = false => hq
                  rw [hq, decide_eq_false_iff_not] at hbq
                  have hq := hbq
                  have hneq : ¬(bk < r.length ∧ r[bk]? = some (keyP p)) := fun z => hq (by
                    have := z.2
                    rw [e2] at this
                    have e := Option.some.inj this
                    rw [e]; exact ⟨rfl, rfl⟩)
                  rename_i T4 h41 l41
                  refine kl_insert (news' := (T4, tupO (.str (tx (headOf p)) t11) (.str (tx (tailOf p)) t12)) :: (T2, tupO (.str (tx (headOf p)) t11) (.str (tx (tailOf p)) t12)) :: (T1, tupO (.str (tx (headOf p)) t11) (.str (tx (tailOf p)) t12)) :: (s.heap.objs.size + 1 + 1 + 1, co₁) :: (Sh, listOf shs k2) :: (Pp, listOf (prs.toList.take bk ++ .ref T4 :: prs.toList.drop bk).toArray (k1 + 1)) :: (ex ++ [(D8, listOf out8 e8), (I, io)])) F41 N41 (by unfold Builtin.List.listFitsIndex; simp; exact (LI3 (.im (.jl (.ca V0) (.ca V1)) (.im (.eq V2 V1) (.im (.le V2 (.n 55)) (.jl (.ca V0) (.n 9223372036854775808)))))) hlt hprs hprz) (kl_ins_nat _ _ _ (by simpa using hbz)) (.tail (Nat.ne_of_gt l41.2.2.2.2.1) (.tail (Nat.ne_of_gt l38.2.2.2.1) (.tail (Nat.ne_of_gt l36.2.2.1) (.tail (Ne.symm hoffP.1) (.tail hSP (.head hrest)))))) (by rw [Array.length_toList, sizeLine_eq]; exact (LI1 (.im (.le V0 (.n 55)) (.le V0 (.n 16777216)))) hprz) (fun h39 F39 N39 => ?_)
                  k_steps
                  rename Fr _ _ _ _ => F39
                  rename News _ _ _ _ => N39
                  obtain ⟨led', N', offs, hJ'⟩ := shr_key (sh' := sh) (own := [(D8, listOf out8 e8), (I, io)]) hil hpe hbk hr hex hsz hshl hfin hoffx hoffS hoffP ⟨Nat.ne_of_gt l41.2.2.2.1, Nat.ne_of_gt l41.2.2.2.2.1⟩ ⟨Nat.ne_of_gt l41.2.2.1, fun o ho => Nat.ne_of_gt (allLt_mem l41.2.2.2.2.2 o (List.mem_append_right _ ho))⟩ F39 ⟨rfl, rfl, trivial⟩ (news_sub N39 fun q hq => by rw [List.mem_singleton.mp hq]; exact .head _) (news_sub N39 fun q hq => .tail _ (.tail _ (.tail _ hq))) hsh (by rw [if_neg hneq])
                  refine hR1 _ _ ?_
                  exact go ⟨_, _, _, led', co₁, _, rfl, F39, N', hco, fun q hq => ⟨(offs q hq).1, (offs q hq).2 _ (.head _), (offs q hq).2 _ (.tail _ (.head _))⟩, hJ'⟩
              · refine go ?_
                rename Fr _ _ _ _ => F38
                rename News _ _ _ _ => N38
                rename_i T2 h38 l38
                refine kl_insert (news' := (T2, tupO (.str (tx (headOf p)) t11) (.str (tx (tailOf p)) t12)) :: (T1, tupO (.str (tx (headOf p)) t11) (.str (tx (tailOf p)) t12)) :: (s.heap.objs.size + 1 + 1 + 1, co₁) :: (Sh, listOf shs k2) :: (Pp, listOf (prs.toList.take bk ++ .ref T2 :: prs.toList.drop bk).toArray (k1 + 1)) :: (ex ++ [(D8, listOf out8 e8), (I, io)])) F38 N38 (by unfold Builtin.List.listFitsIndex; simp; exact (LI2 (.im (.le V0 (.n 55)) (.im (.le V1 V0) (.jl (.ca V1) (.n 9223372036854775808))))) hprz hbz) (kl_ins_nat _ _ _ (by simpa using hbz)) (.tail (Nat.ne_of_gt l38.2.2.2.1) (.tail (Nat.ne_of_gt l36.2.2.1) (.tail (Ne.symm hoffP.1) (.tail hSP (.head hrest))))) (by rw [Array.length_toList, sizeLine_eq]; exact (LI1 (.im (.le V0 (.n 55)) (.le V0 (.n 16777216)))) hprz) (fun h39 F39 N39 => ?_)
                k_steps
                rename Fr _ _ _ _ => F39
                rename News _ _ _ _ => N39
                obtain ⟨led', N', offs, hJ'⟩ := shr_key (sh' := sh) (own := [(D8, listOf out8 e8), (I, io)]) hil hpe hbk hr hex hsz hshl hfin hoffx hoffS hoffP ⟨Nat.ne_of_gt l38.2.2.1, Nat.ne_of_gt l38.2.2.2.1⟩ ⟨Nat.ne_of_gt l38.2.1, fun o ho => Nat.ne_of_gt (allLt_mem l38.2.2.2.2 o (List.mem_append_right _ ho))⟩ F39 ⟨rfl, rfl, trivial⟩ (news_sub N39 fun q hq => by rw [List.mem_singleton.mp hq]; exact .head _) (news_sub N39 fun q hq => .tail _ (.tail _ hq)) hsh (by rw [if_neg (fun q => absurd q.1 (by exact (LI2 (.im (.im (.jl (.ca V0) (.ca V1)) .ff) (.im (.lt V0 V1) .ff))) (by assumption)))])
                refine hR1 _ _ ?_
                exact go ⟨_, _, _, led', co₁, _, rfl, F39, N', hco, fun q hq => ⟨(offs q hq).1, (offs q hq).2 _ (.head _), (offs q hq).2 _ (.tail _ (.head _))⟩, hJ'⟩
    · rintro m' led' h tk ⟨hm, prs, k1, shs, k2, ex, r, sh, rfl, hr, hsh, hex, hsz, hshl, hfin⟩ F9 N9
      have hos : out8.size = parts.length := by
        have h1 := hs8.length
        rwa [List.length_map, Array.length_toList] at h1
      rw [hos, List.drop_length] at hfin
      have hse : sh = shr ltP keyP parts [] [] := hfin
      have F9 := fr_has F9 [(Str.ofString "shared", .ref Sh), (Str.ofString "pairs", .ref Pp)] ⟨hm.1, hm.2.1, trivial⟩
      dsimp only
      k_steps
      rename Fr _ _ _ _ => F10
      rename News _ _ _ _ => N10
      have hshs : shs.size = sh.length := by rw [← Array.length_toList, hsh.length, List.length_map]
      refine go (ret Sh shs k2 h _ d8 (fun b o _ q => F10.keep b o (hg b o (fun z => by cases z) q)) (N10 _ (.head _)).1 ?_ (by exact (LI4 (.im (.eq V0 V1) (.im (.eq V2 V3) (.im (.le V1 (.n 55)) (.im (.le V3 V0) (.le V2 (.n 55))))))) hos hshs hp55 hshl) ?_)
      · cases q : s.heap.get? Sh with
        | none => rfl
        | some o => have := hg _ _ (fun z => by cases z) q; rw [(N10 _ (.head _)).2.2] at this; cases this
      · rw [← shared_alone hd hpm hnd, ← hse, hshs]
        exact List.length_eq_zero_iff
end Mine
end
section
open PySem PySem.W PyProof.Rows PySem.Calls PySem.Spec PyProof
namespace Mine
noncomputable def d3 (z : Int) : Nat := (z.fmod 3).toNat + 1
theorem item_d3 (z : Int) : Txt.item (Str.ofString "a\"\\") (z.fmod 3) = ⟨#[chr (d3 z)]⟩ := by
  have h1 := Int.fmod_nonneg_of_pos z (show (0 : Int) < 3 by decide)
  have h2 := Int.fmod_lt_of_pos z (show (0 : Int) < 3 by decide)
  obtain ⟨n, hn⟩ := Int.eq_ofNat_of_zero_le h1
  rw [hn] at h2; rw [d3, hn]
  exact (by decide +kernel : ∀ n : Nat, n < 3 → Txt.item (Str.ofString "a\"\\") (n : Int) = ⟨#[chr ((n : Int).toNat + 1)]⟩) n (Int.ofNat_lt.mp h2)
theorem rd_open {P : Params} {X : Str} {x : Addr} {r : List Nat} {led : List (Addr × Obj)} (h : Rd P X x r led) : E10 fun dx t1 t2 t3 t4 u v st pb rest => ∃ ln : Nat, led = (x, instObj 117 dx) :: (dx, mchD P t1 t2 t3 t4 u v ln st pb) :: rest ∧ (r = [] → ln = 1 + X.cps.toList.count 10) := by
  obtain ⟨k, h1, h2, dx, pb, st, D, f, c, cA, cT, al, t1, t2, t3, t4, u, v, kp, tD, fd, fo, oc, oA, oT, tX, ta, tq, n, qual, cl, doc, pm, ctv, vs, rfl, _⟩ := h
  refine ⟨dx, t1, t2, t3, t4, u, v, st, pb, _, _, rfl, fun e => ?_⟩
  subst e
  have hk : X.cps.toList.length ≤ k := List.drop_eq_nil_iff.mp h2
  rw [List.take_of_length_le hk]
theorem hdr_tab_nodup {P : Params} {x dx hl : Addr} {t : Tok} {its : Array Value} {k : Nat} {ln cl : Nat} {qual : Str} {ps ps0 : Array Value} {ex : List (Addr × Obj)} {g h h1 : Heap} {L : Addr} (e : ∀ p ∈ hdrL P x dx hl t its k, h1.get? p.1 = some p.2 ∧ h.get? p.1 = none) (N : News g L h [(47, tabObj ps0)])
    (ok : TabOk ln cl qual ps ex) (N1 : News g L h1 ((47, tabObj ps) :: ex)) : ((hdrL P x dx hl t its k ++ (47, tabObj ps) :: ex).map (·.1)).Nodup := by
  have n0 := hdr_nodup e N (by simp)
  have n1 := tab_nodup ok N1
  rcases ok with ⟨rfl, rfl⟩ | ⟨c, oc, vs, tt, rfl, rfl, hd, hv⟩
  · exact n0
  · have ec := (N1 _ (.tail _ (.head _))).1
    have key : ∀ (a : Addr) (o : Obj), h1.get? a = some o → o.data ≠ .fields vs → c ≠ a := fun a o ea hne q => by
      subst q
      rw [ea] at ec
      cases ec
      exact hne hd
    refine nodup_snoc (a := c) n0 fun q => ?_
    rcases List.mem_cons.mp q with q | q
    · exact key _ _ (e _ (.head _)).1 (fun z => by cases z) q
    rcases List.mem_cons.mp q with q | q
    · exact key _ _ (e _ (.tail _ (.head _))).1 (fun z => by cases z) q
    rcases List.mem_cons.mp q with q | q
    · exact key _ _ (e _ (.tail _ (.tail _ (.head _)))).1 (fun z => by cases z) q
    · have q : c = 47 := List.mem_singleton.mp q
      exact (List.nodup_cons.mp n1).1 (List.mem_singleton.mpr q.symm)
theorem tbl_led {g h : Heap} {L : Addr} {m : Str → Option Value} {its : Array Value} {l : List (Str × Str)} (F : Fr g L h m) (tb : Tbl h its l) :
    ∃ tl, News g L h tl ∧ ∀ h' : Heap, (∀ b o, g.get? b = some o → h'.get? b = some o) → (∀ p ∈ tl, h'.get? p.1 = some p.2) → Tbl h' its l := by
  have key : ∀ n, n ≤ l.length → ∃ tl, News g L h tl ∧ ∀ h' : Heap, (∀ b o, g.get? b = some o → h'.get? b = some o) → (∀ p ∈ tl, h'.get? p.1 = some p.2) → ∀ i (hi : i < l.length), i < n → E3 fun T t1 t2 => its[i]? = some (.ref T) ∧ h'.IsTuple T #[.str l[i].1 t1, .str l[i].2 t2] := by
    intro n
    induction n with
    | zero => exact fun _ => ⟨[], fun _ h => (by cases h), fun _ _ _ i _ q => absurd q (Nat.not_lt_zero _)⟩
    | succ n ih =>
      intro hn
      obtain ⟨tl, N, k⟩ := ih (by exact (LI2 (.im (.le (.a V0 O1) V1) (.le V0 V1))) hn)
      obtain ⟨T, t1, t2, e, o, ho, hc, c, hd⟩ := tb.2 n (by exact (LI2 (.im (.le (.a V0 O1) V1) (.lt V0 V1))) hn)
      cases q : g.get? T with
      | some o' =>
        have e' := F.keep _ _ q
        rw [ho] at e'
        cases e'
        refine ⟨tl, N, fun h' a b i hi hlt => ?_⟩
        rcases Nat.lt_or_ge i n with z | z
        · exact k h' a b i hi z
        · have : i = n := by exact (LI2 (.im (.lt V0 (.a V1 O1)) (.im (.le V1 V0) (.eq V0 V1)))) hlt z
          subst this
          exact ⟨T, t1, t2, e, o, a _ _ q, hc, c, hd⟩
      | none =>
        refine ⟨(T, o) :: tl, fun p hp => ?_, fun h' a b i hi hlt => ?_⟩
        · rcases List.mem_cons.mp hp with rfl | hp
          · refine ⟨ho, fun z => ?_, q⟩
            obtain ⟨oL, es, ep, hL, hdL, _⟩ := F.ns
            have z : T = L := z
            rw [← z, ho] at hL
            cases hL
            rw [hd] at hdL
            cases hdL
          · exact N p hp
        · rcases Nat.lt_or_ge i n with z | z
          · exact k h' a (fun p hp => b p (.tail _ hp)) i hi z
          · have : i = n := by exact (LI2 (.im (.lt V0 (.a V1 O1)) (.im (.le V1 V0) (.eq V0 V1)))) hlt z
            subst this
            exact ⟨T, t1, t2, e, o, b _ (.head _), hc, c, hd⟩
  obtain ⟨tl, N, k⟩ := key l.length (Nat.le_refl _)
  exact ⟨tl, N, fun h' a b => ⟨tb.1, fun i hi => k h' a b i hi hi⟩⟩
theorem sortedS_cons {a : Str} : ∀ {l : List Str}, sortedS (a :: l) = true → (∀ x ∈ l, ltCps x.cps.toList a.cps.toList = false) ∧ sortedS l = true := fun {l} => by
  induction l generalizing a with
  | nil => exact fun _ => ⟨fun _ h => absurd h List.not_mem_nil, rfl⟩
  | cons b l ih =>
    intro h
    have h : (!ltCps b.cps.toList a.cps.toList && risingS b l) = true := h
    rw [Bool.and_eq_true] at h
    have hb : ltCps b.cps.toList a.cps.toList = false := by simpa using h.1
    have h2 : sortedS (b :: l) = true := h.2
    have h3 := (ih h2).1
    refine ⟨fun x hx => ?_, h2⟩
    rcases List.mem_cons.mp hx with rfl | hx
    · exact hb
    · have h4 := h3 x hx
      rw [ltCps_eq, decide_eq_false_iff_not, List.not_lt] at hb h4 ⊢
      exact List.le_trans hb h4
theorem sorted_uniq : ∀ {a b : List Str}, sortedS a = true → sortedS b = true → a.Perm b → a = b := fun {a} => by
  induction a with
  | nil => exact fun _ _ p => (List.nil_perm.mp p).symm
  | cons x a ih =>
   intro b ha hb p
   cases b with
   | nil => cases p.length_eq
   | cons y b =>
    obtain ⟨h1, h2⟩ := sortedS_cons ha
    obtain ⟨h3, h4⟩ := sortedS_cons hb
    have e : x = y := by
      have hx : x ∈ y :: b := p.mem_iff.mp (.head _)
      have hy : y ∈ x :: a := p.mem_iff.mpr (.head _)
      rcases List.mem_cons.mp hx with q | q
      · exact q
      rcases List.mem_cons.mp hy with r | r
      · exact r.symm
      · have a1 := h3 x q
        have a2 := h1 y r
        rw [ltCps_eq, decide_eq_false_iff_not, List.not_lt] at a1 a2
        exact str_ext (List.le_antisymm a2 a1)
    subst e
    rw [ih h2 h4 (List.perm_cons x |>.mp p)]
theorem ents_snd (ds : List Nat) (j : Nat) : ∀ b, (∀ e ∈ ents ds j b, e.2 = j) ∧ (ents ds j b).length ≤ b := fun b => by
  induction b with
  | zero => exact ⟨fun _ h => absurd h List.not_mem_nil, Nat.le_refl _⟩
  | succ b ih =>
    obtain ⟨h1, h2⟩ := ih
    show (∀ e ∈ (if sub ds b j = (sub ds b j).reverse then ents ds j b ++ [(sub ds b j, j)] else ents ds j b), e.2 = j) ∧ List.length (if sub ds b j = (sub ds b j).reverse then _ else _) ≤ b + 1
    split
    · refine ⟨fun e he => ?_, by rw [List.length_append]; exact Nat.succ_le_succ h2⟩
      rcases List.mem_append.mp he with q | q
      · exact h1 e q
      · rw [List.mem_singleton.mp q]
    · exact ⟨h1, Nat.le_succ_of_le h2⟩
theorem allE_sorted (ds : List Nat) : ∀ n, (∀ e ∈ allE ds n, e.2 ≤ n) ∧ (allE ds n).Pairwise (fun a b => a.2 ≤ b.2) ∧ (allE ds n).length ≤ n * n := fun n => by
  induction n with
  | zero => exact ⟨fun _ h => absurd h List.not_mem_nil, .nil, Nat.le_refl _⟩
  | succ n ih =>
    obtain ⟨h1, h2, h3⟩ := ih
    obtain ⟨h4, h5⟩ := ents_snd ds (n + 1) (n + 1)
    show (∀ e ∈ allE ds n ++ ents ds (n + 1) (n + 1), _) ∧ (allE ds n ++ ents ds (n + 1) (n + 1)).Pairwise _ ∧ (allE ds n ++ ents ds (n + 1) (n + 1)).length ≤ _
    refine ⟨fun e he => ?_, List.pairwise_append.mpr ⟨h2, ?_, fun a ha b hb => ?_⟩, ?_⟩
    · rcases List.mem_append.mp he with q | q
      · exact Nat.le_succ_of_le (h1 e q)
      · exact Nat.le_of_eq (h4 e q)
    · refine List.Pairwise.imp_of_mem (R := fun _ _ => True) (fun {a b} ha hb _ => ?_) (List.pairwise_of_forall fun _ _ => trivial)
      rw [h4 a ha, h4 b hb]; exact Nat.le_refl _
    · rw [h4 b hb]; exact Nat.le_succ_of_le (h1 a ha)
    · rw [List.length_append, Nat.succ_mul, Nat.mul_succ]
      exact (LI4 (.im (.le V0 (.a V1 O1)) (.im (.le V2 V3) (.le (.a V2 V0) (.a (.a V3 V1) (.a V1 O1)))))) h5 h3
theorem allE_ok {ds : List Nat} (hd : D3 ds) : ∀ e ∈ allE ds ds.length, D3 e.1 ∧ e.1 ≠ [] ∧ e.1.length ≤ e.2 ∧ e.2 ≤ ds.length := fun e he => by
  obtain ⟨b, j, h1, h2, _, rfl⟩ := (allE_mem _ (Nat.le_refl _) e).mp he
  refine ⟨sub_D3 hd _ _, fun q => ?_, by rw [sub_len]; exact Nat.le_trans (Nat.sub_le _ _) (Nat.min_le_left _ _), h2⟩
  have := congrArg List.length q
  rw [sub_len] at this
  simp at this
  exact (LI3 (.im (.eq (.s (.mi V0 V1) V2) O0) (.im (.lt V2 V0) (.im (.le V0 V1) .ff)))) this h1 h2
section
variable {prog : Program} {w : World} {A : Around} {E : Value → Shared → Prop} {s : Shared} {a b : Addr} {Q : Value → Shared → Prop}
theorem ne_strs {vs us : List Value} {ss : List Str} (hl : s.heap.IsList a vs.toArray) (h1 : StrsAre vs ss) (hl' : s.heap.IsList b us.toArray) (h2 : StrsAre us ss) (hu : A.units < cLine) (h : Q (.bool false) s) :
    wpAny (model prog w) A (compareOp .NotEq (.ref a) (.ref b)) Q E s := by
  have hz : vs.toArray.size = us.toArray.size := by rw [List.size_toArray, List.size_toArray, h1.length, h2.length]
  refine (SeqAt.RcNeAt.lists (e := fun _ => true) hl hl' hz hu (fun j q1 q2 => ?_)) prog w E Q ?_
  · rw [List.size_toArray] at q1 q2
    obtain ⟨x, t, e1, e2⟩ := strs_at h1 j vs[j] (List.getElem?_eq_getElem q1)
    obtain ⟨y, u, e3, e4⟩ := strs_at h2 j us[j] (List.getElem?_eq_getElem q2)
    rw [e1] at e3
    cases e3
    intro prog w E Q h
    rw [List.getElem_toArray, List.getElem_toArray, e2, e4]
    refine wpAny_eqBool_str ?_
    rw [decide_eq_true rfl]
    exact h
  · have : (!(List.range vs.toArray.size).all fun _ => true) = false := by simp
    rw [this]; exact h
theorem eq_nil {items : Array Value} (hl : s.heap.IsList a items) (hb : s.heap.IsList b #[]) (hu : A.units < cLine) (h : Q (.bool (decide (items.size = 0))) s) :
    wpAny (model prog w) A (compareOp .Eq (.ref a) (.ref b)) Q E s := by
  by_cases q : items.size = 0
  · rw [decide_eq_true q] at h
    refine SeqAt.eq_listAt (e := fun _ => true) hl hb q hu (fun j q1 _ => absurd q1 (by exact (LI2 (.im (.eq V0 O0) (.im (.lt V1 V0) .ff))) q)) ?_
    have : ((List.range items.size).all fun _ => true) = true := by simp
    rw [this]; exact h
  · rw [decide_eq_false q] at h
    exact SeqAt.eq_list_lengthsAt hl hb (by simpa using q) hu h
end
theorem cnt_count (c : Nat) : ∀ l : List Nat, PyProof.Rows.cnt c l = (l.count c : Int) := fun l => by
  induction l with
  | nil => rfl
  | cons a l ih =>
    rw [cnt_cons, ih, List.count_cons]
    by_cases h : a = c
    · rw [if_pos h, if_pos (by simp [h])]
      exact (LI1 (.je (.a O1 (.ca V0)) (.ca (.a V0 O1))))
    · rw [if_neg h, if_neg (by simp [h])]
      exact (LI1 (.je (.a O0 (.ca V0)) (.ca (.a V0 O0))))
theorem count_nl (Y : Str) : Txt.count Y (Str.ofString "\n") = (Y.cps.toList.count 10 : Int) := by
  rw [show Str.ofString "\n" = ⟨#[10]⟩ by decide +kernel, count_cnt, cnt_count]
end Mine
end
section
open PySem PySem.W PyProof.Rows PySem.Calls PySem.Spec
namespace Mine
section
variable {prog : Program} {w : World} {A : Around} {env : Env} {g : Heap} {s s₂ : Shared}
noncomputable def CompTurnC (prog : Program) (w : World) (A : Around) (env : Env) (scope : Scope) (cl : List (Str × Addr)) (x : Str) (tst : Option Expr) (elt : Expr) (g : Heap) (L : Addr) (m : Str → Option Value) (led : List (Addr × Obj)) (n : Nat) (P : Nat → Value → Prop) (J : Nat → List Value → List (Addr × Obj) → Prop) (fp : List Addr) (St : Nat → Heap → Prop) (s : Shared) : Prop :=
  ∀ (D I : Addr) (s₂ : Shared) (g' : Heap) (i : Nat) (v : Value) (out : List Value) (k : Nat) (led₁ : List (Addr × Obj)) (h : Heap) (tk : Nat) (mC : Str → Option Value) (own : List (Addr × Obj)), s.heap.objs.size = I → I < D → (∃ h' tk', s₂ = { s with heap := h', toks := tk' }) → (∀ b o, g.get? b = some o → g'.get? b = some o) → g'.Ns L m → (∀ b o, b ∉ led.map (·.1) → s.heap.get? b = some o → g'.get? b = some o) →
      i < n → P i v → out.length ≤ i → J i out led₁ → (∀ p ∈ led₁, p.1 ≠ I ∧ p.1 ≠ D ∧ p.1 ≠ D + 1) →
      Fr g' (D + 1) h (fun y => if y = x then some v else mC y) → News g' (D + 1) h ((D, listOf out.toArray k) :: (led₁ ++ own)) → (∀ p ∈ own, p.1 ∈ fp) → St (i + 1) h →
      wpAny (model prog w) A (match tst with | none => pure true | some c => isTrue c (cEnv env scope (D + 1) cl) (eval c (cEnv env scope (D + 1) cl)))
        (fun b s' => if b = true then wpAny (model prog w) A (eval elt (cEnv env scope (D + 1) cl)) (fun r s' => Halt (CompEnd g' (D + 1) D I (fun o l => J (i + 1) (o ++ [r]) l) out k own s₂ s')) (fun _ _ => False) s'
          else Halt (CompEnd g' (D + 1) D I (J (i + 1)) out k own s₂ s'))
        (fun _ _ => False) { s with heap := h, toks := tk }
theorem comp_pushC {o : Obj} {scope : Scope} {cl : List (Str × Addr)} {x : Str} {tst : Option Expr} {elt : Expr} {Q : Value → Shared → Prop} {fp : List Addr} {n : Nat} {P : Nat → Value → Prop} {St : Nat → Heap → Prop} {L : Addr} {m : Str → Option Value} {led : List (Addr × Obj)}
    (J : Nat → List Value → List (Addr × Obj) → Prop)
    (W : Walks prog w A s.heap.objs.size fp [s.heap.objs.size] n P St) (st : St 0 (s.heap.push o)) (F : Fr g L s.heap m) (N : News g L s.heap led) (hfp : ∀ b ∈ fp, b ≤ s.heap.objs.size) (hn : n < sizeLine) (hJ : J 0 [] led)
    (turn : CompTurnC prog w A env scope cl x tst elt g L m led n P J fp St s) (done : CompDone g L m led n J Q s) :
    CompAt prog w A env scope cl x tst elt Q (.ref s.heap.objs.size) { s with heap := s.heap.push o } := by
  have hL : L < s.heap.objs.size := F.ns.lt
  have hlt : ∀ p ∈ led, p.1 < s.heap.objs.size := fun p hp => Heap.lt_size (N p hp).1
  have hsz : (s.heap.push o).objs.size = s.heap.objs.size + 1 := Heap.size_push ..
  have gI : g.get? s.heap.objs.size = none := by
    cases e : g.get? s.heap.objs.size with
    | none => rfl
    | some o => exact absurd (Heap.lt_size (F.keep _ _ e)) (Nat.lt_irrefl _)
  have keep : ∀ b o', s.heap.get? b = some o' → (s.heap.push o).get? b = some o' := fun b o' e => Heap.get?_push_of_some _ e
  have ne : ∀ b o', s.heap.get? b = some o' → b ≠ s.heap.objs.size := fun b o' e => Nat.ne_of_lt (Heap.lt_size e)
  refine ⟨s.heap.objs.size, fp, n, P, St, g, L, m, led, J, rfl, W, st, F.push o, fun p hp => ⟨keep _ _ (N p hp).1, (N p hp).2⟩, fun p hp => Nat.ne_of_lt (hlt p hp), gI, Nat.ne_of_lt hL, by rw [hsz]; exact Nat.lt_succ_self _, fun b hb => by rw [hsz]; exact Nat.lt_succ_of_le (hfp b hb), hn, hJ, ?_, ?_⟩
  · intro g' i v out k led₁ h tk mC own a1 a2 a3 a4 a5 a6 a7 a8 a9 a10 a11 a12
    exact turn (s.heap.push o).objs.size s.heap.objs.size { s with heap := s.heap.push o } g' i v out k led₁ h tk mC own rfl (by rw [hsz]; exact Nat.lt_succ_self _) ⟨_, _, rfl⟩ a1 a2 (fun b o' hb e => a3 b o' (ne b o' e) hb (keep _ _ e)) a4 a5 a6 a7 a8 a9 a10 a11 a12
  · intro led' out k h tk a1 a2 a3 a4
    exact done (s.heap.push o).objs.size led' out k h tk (by rw [hsz]; exact Nat.le_succ _) a1 a2 a3 fun b o' hb e => a4 b o' (ne b o' e) hb (keep _ _ e)
section
variable {scope : Scope} {cl : List (Str × Addr)} {x : Str} {tst : Option Expr} {elt : Expr} {Q : Value → Shared → Prop} {L : Addr} {m : Str → Option Value} {led : List (Addr × Obj)} (J : Nat → List Value → List (Addr × Obj) → Prop)
theorem comp_listC {l : Addr} {items : Array Value} (hh : A.handled = none) (hl : s.heap.IsList l items) (F : Fr g L s.heap m) (N : News g L s.heap led) (hn : items.size < sizeLine) (hJ : J 0 [] led)
    (turn : CompTurnC prog w A env scope cl x tst elt g L m led items.size (fun i v => items[i]? = some v) J [s.heap.objs.size, l] (fun i h => h.IsListIter s.heap.objs.size l i ∧ h.IsList l items) s) (done : CompDone g L m led items.size J Q s) :
    wpAny (model prog w) A (pyIter (.ref l)) (fun it s₂ => CompAt prog w A env scope cl x tst elt Q it s₂) (fun _ _ => False) s := by
  have hlt : l < s.heap.objs.size := hl.elim fun _ e => Heap.lt_size e.1
  refine wpAny_pyIter_list hl (comp_pushC J (Walks.list hh _ l (Nat.ne_of_lt hlt) items) ⟨⟨_, Heap.get?_push_size _ rfl, rfl, rfl⟩, hl.at fun o e => Heap.get?_push_of_some _ e⟩ F N (fun b hb => ?_) hn hJ turn done)
  rcases List.mem_cons.mp hb with rfl | hb
  · exact Nat.le_refl _
  · rw [List.mem_singleton.mp hb]; exact Nat.le_of_lt hlt
end
end
end Mine
end
section
open PySem PySem.W PyProof.Rows PySem.Calls PySem.Spec PyProof
set_option maxHeartbeats 8000000
namespace Mine
local macro_rules | `(tactic| walk_at $s:str) => Mine.hl ["eval ListComp", "eval ListComp Subscript", "eval ListComp Call", "pyIter ref", "call builtin:str.join", "call builtin:str.count", "call builtin:sorted", "compareOp Eq ref ref", "compareOp NotEq ref ref", "subscriptTail Name Constant ref int", "subscriptTail Name Slice ref ref"] [("call builtin:len", "@len")] s
theorem fin0 : PySem.Challenge.rw_sn0071_01.Holds := by
  w_on
  refine holds_law hd.said fun said => ?_
  refine holds_open (q := hd.view) (loose := hd.loose) (Xt := hd.look) (XP := XL hd.view []) (Yf := Hook.obs (kmHook hd.heap_39 hd.ads hd.ads_eq [47, 40, 271])) (Ya := Hook.val (kmHook hd.heap_39 hd.ads hd.ads_eq [47, 40, 271])) (YP := Hook.says (kmHook hd.heap_39 hd.ads hd.ads_eq [47, 40, 271])) (N := 3830) hd.left (Hook.of _) (Hook.keeps _) (fun s e => xl_of s (Bool.and_eq_true_iff.mp e).1) XL.keeps (by rfl) (by rfl) (by rfl) (fun s e => recFacts_of (Bool.and_eq_true_iff.mp e).2) (by rfl) said (by decide +kernel) ⟨rfl, rfl, rfl, rfl, rfl, by decide +kernel⟩ ?hw ?hc
  case hw => w_witness2
  k_go0
  rename Fr _ _ _ _ => F
  rename News _ _ _ _ => N
  rename Below _ _ _ _ => B
  rename Top _ _ _ _ _ _ => T
  rename (hd.heap_39 _).In _ => X
  rename IntsAre _ _ => hI
  rename Heap.IsList (ghostOf _ _) _ _ => hS
  rename ¬((63 : Nat) : Int) < _ => h63
  refine wpAny_mono (E := fun _ _ => False) (Q := _) ?_ (fun _ _ h => h) (fun _ _ h => h.elim)
  change wpAny _ (Ar _ _ _ (_ :: [])) _ _ _ _
  rename World => w
  rename Shared => s1
  rename Addr => S
  rename List Value => vs
  rename List Int => ks
  k_steps
  rename Fr _ _ _ _ => F
  rename News _ _ _ _ => N
  refine go ?_
  have hlen := hI.length
  have hkz : vs.length ≤ 63 := by exact (LI2 (.im (.eq V0 V1) (.im (.im (.jl (.ca (.n 63)) (.ca V1)) .ff) (.le V0 (.n 63))))) hlen h63
  refine law_cells_spec (dp := callerA.depth + 1) (un := callerA.units + 3) B F X T rfl rfl (by decide) hS (by simpa using hI) (by simpa using hkz) (fun Dc cvs kc cs h2 tk2 b2 hDc nDc hcl hci => ?_)
  have F2 := fr_keep F b2
  have N2 := news_fresh (xs := [(Dc, listOf cvs.toArray kc)]) F (news_keep N b2) (fun p hp => by rw [List.mem_singleton.mp hp]; exact ⟨hDc, nDc⟩)
  simp only [List.cons_append, List.nil_append] at N2
  clear F N
  have hcvl : cvs.length = 10 := hci.length.trans hcl
  have hat : ∀ (i : Nat), i < 10 → ∃ (z : Int) (u : Tok), cvs.toArray[i]? = some (.int z u) := fun i hi => by
    have hl : i < cvs.length := by rw [hcvl]; exact hi
    obtain ⟨t, e⟩ := hci.int_at i cvs[i] (List.getElem?_eq_getElem hl)
    exact ⟨_, t, by rw [List.getElem?_toArray, List.getElem?_eq_getElem hl, e]⟩
  obtain ⟨c0, u0, hc0⟩ := hat 0 (by decide)
  obtain ⟨c1, u1, hc1⟩ := hat 1 (by decide)
  k_steps
  refine go ?_
  rename Fr _ _ _ _ => F3
  rename News _ _ _ _ => N3
  refine item_list (News.isList N3 (.head _)) (by decide) (by decide) (x := .int c0 u0) hc0 ?_
  obtain ⟨n, hn, hn6, hn10⟩ : ∃ n : Nat, 6 + (c0.fdiv 3).fmod 5 = (n : Int) ∧ 6 ≤ n ∧ n ≤ 10 := by
    have h1 := Int.fmod_nonneg_of_pos (c0.fdiv 3) (show (0 : Int) < 5 by decide)
    have h2 := Int.fmod_lt_of_pos (c0.fdiv 3) (show (0 : Int) < 5 by decide)
    exact ⟨6 + ((c0.fdiv 3).fmod 5).toNat, by rw [Int.natCast_add, Int.toNat_of_nonneg h1]; rfl, Nat.le_add_right _ _, Nat.add_le_add_left (Nat.le_of_lt_succ ((Int.toNat_lt (n := 5) h1).mpr h2)) 6⟩
  k_steps
  refine go ?_
  rename Fr _ _ _ _ => F4
  rename News _ _ _ _ => N4
  rw [hn] at F4
  clear hc0
  refine comp_rule (tst := none) (cl := []) rfl (by with_unfolding_all rfl) rfl (by decide) (by decide) rfl ?_
  k_steps
  refine go ?_
  rename Fr _ _ _ _ => F5
  rename News _ _ _ _ => N5
  refine slice_list (items := cvs.toArray) F5 N5 (News.isList N5 (.head _)) .none (.int _ _) (fun h6 F6 N6 => ?_) (hsz := by rw [List.size_toArray, sizeLine_eq]; exact (LI1 (.im (.eq V0 OX) (.le V0 (.n 16777216)))) hcvl)
  have hsl := slice_ints_upto hci (y := (n : Int)) (by exact (LI1 (.il O0 (.ca V0)))) (by exact (LI2 (.im (.eq V0 OX) (.im (.le V1 OX) (.il (.ca V1) (.ca V0))))) hcl hn10)
  obtain ⟨rv, hrv⟩ : ∃ rv, slicePick cvs.toArray none (some (n : Int)) none = rv := ⟨_, rfl⟩
  rw [hrv] at hsl N6
  rw [Int.toNat_natCast] at hsl
  have hrz : rv.size = n := by have := hsl.length; rw [Array.length_toList, List.length_take] at this; exact (LI3 (.im (.eq V0 (.mi V1 V2)) (.im (.eq V2 OX) (.im (.le V1 OX) (.eq V0 V1))))) this hcl hn10
  obtain ⟨ds, hds⟩ : ∃ ds, (cs.take n).map d3 = ds := ⟨_, rfl⟩
  have hdl : ds.length = n := by rw [← hds, List.length_map, List.length_take]; exact (LI2 (.im (.eq V0 OX) (.im (.le V1 OX) (.eq (.mi V1 V0) V1)))) hcl hn10
  have hd : D3 ds := fun d hd => by
    rw [← hds] at hd
    obtain ⟨z, _, rfl⟩ := List.mem_map.mp hd
    have h1 := Int.fmod_nonneg_of_pos z (show (0 : Int) < 3 by decide)
    have h2 := Int.fmod_lt_of_pos z (show (0 : Int) < 3 by decide)
    exact ⟨Nat.le_add_left _ _, Nat.succ_le_of_lt ((Int.toNat_lt (n := 3) h1).mpr h2)⟩
  k_steps
  refine go ?_
  refine comp_list (J := fun i out led => led = [] ∧ StrsAre out (((ds.take i).map chr).map fun c => (⟨#[c]⟩ : Str))) rfl ⟨_, (N6 _ (.head _)).1, rfl, _, rfl⟩ F6 (fun _ h => by cases h) (by rw [sizeLine_eq]; exact (LI2 (.im (.eq V0 V1) (.im (.le V1 OX) (.lt V0 (.n 16777216))))) hrz hn10) ⟨rfl, .nil⟩ ?_ ?_
  · rintro D I s₂ g' i v out e0 led₁ h tk mC own hsI hID ⟨hh, tt, rfl⟩ hgg hL hk hi hv hle ⟨rfl, hJ⟩ ho F7 N7
    refine wpAny_pure ?_
    rw [if_pos rfl]
    obtain ⟨t, e⟩ := hsl.int_at i v (by rw [Array.getElem?_toList]; exact hv)
    subst e
    have hil : i < (cs.take n).length := by rw [List.length_take]; exact (LI4 (.im (.lt V0 V1) (.im (.eq V2 OX) (.im (.eq V1 V3) (.im (.le V3 OX) (.lt V0 (.mi V3 V2))))))) hi hcl hrz hn10
    obtain ⟨z, hz⟩ : ∃ z, (cs.take n).getD i 0 = z := ⟨_, rfl⟩
    have hdi : ds[i]? = some (d3 z) := by
      rw [← hds, List.getElem?_map, List.getElem?_eq_getElem hil, ← hz, List.getD_eq_getElem?_getD, List.getElem?_eq_getElem hil]; rfl
    rw [hz] at F7
    have h1 := Int.fmod_nonneg_of_pos z (show (0 : Int) < 3 by decide)
    have h2 := Int.fmod_lt_of_pos z (show (0 : Int) < 3 by decide)
    have T'' := T.keeps hgg
    have X'' := X.keeps hgg
    k_steps
    try any_goals (first | exact (0 : Nat) | exact Str.ofString "" | exact Value.none | exact ([] : List (Str × Addr)))
    rename Fr _ _ _ _ => F8
    rename News _ _ _ _ => N8
    refine go ⟨_, _, _, _, rfl, F8, N8, ho, rfl, ?_⟩
    rw [List.take_add_one, hdi, Option.toList_some, List.map_append, List.map_append, item_d3]
    exact strsAre_snoc hJ _ _
  · rintro D led' out k h7 tk7 hD ⟨rfl, hJ⟩ F7 N7 hk7
    rw [List.take_of_length_le (by exact (LI3 (.im (.eq V0 V1) (.im (.eq V2 V1) (.le V0 V2)))) hdl hrz)] at hJ
    have N8 := news_app N7 (fun p hp => ⟨hk7 _ _ (fun q => by cases q) (N6 p (.tail _ hp)).1, (N6 p (.tail _ hp)).2⟩)
    simp only [List.cons_append, List.nil_append] at N8
    clear N6 F6 N7
    k_steps
    refine go ?_
    refine join_list (News.isList N8 (.head _)) (ys := (ds.map chr).map fun c => (⟨#[c]⟩ : Str)) hJ (by rw [sum_one, List.length_map, List.length_map, show (Str.ofString "").length = 0 by decide +kernel]; exact (LI3 (.im (.eq V0 V1) (.im (.le V1 OX) (.le (.a V0 (.w V2 0)) (.n 16777216))))) hdl hn10) (fun t' k' => ?_)
    rw [join_one]
    obtain ⟨Wd, hWd⟩ : ∃ Wd : Str, (⟨(ds.map chr).toArray⟩ : Str) = Wd := ⟨_, rfl⟩
    rw [hWd]
    have hWt : tx ds = Wd := hWd
    have hWc : cst (ds.map chr) = Wd := hWd
    have hWl : Wd.length = n := by rw [← hWt, tx_len]; exact hdl
    have hWz : Wd.length ≤ 10 := by exact (LI2 (.im (.eq V0 V1) (.im (.le V1 OX) (.le V0 OX)))) hWl hn10
    have N9 := news_sub N8 (news' := [(Dc, listOf cvs.toArray kc), (47, tabObj #[]), (40, tabObj #[]), (271, tabObj #[])]) (fun p hp => .tail _ hp)
    clear N8
    change wpAny _ _ _ _ _ _
    k_steps
    refine go ?_
    rename Fr _ _ _ _ => F9
    rename News _ _ _ _ => N9
    refine item_list (News.isList N9 (.head _)) (by decide) (by decide) (x := .int c1 u1) hc1 ?_
    k_steps
    refine go ?_
    rename Fr _ _ _ _ => F10
    rename News _ _ _ _ => N10
    have hne : ds ≠ [] := fun q => by rw [q] at hdl; simp at hdl; exact (LI1 (.im (.eq O0 V0) (.im (.le (.n 6) V0) .ff))) hdl hn6
    rw [← hWt]
    refine law_text_spec (dp := callerA.depth + 1) (un := callerA.units + 3) (ds := ds) B F10 X T rfl rfl (by decide) hd (by exact (LI2 (.im (.eq V0 V1) (.im (.le V1 OX) (.le V0 OX)))) hdl hn10) (fun h11 tk11 t11 b11 => ?_)
    have F11 := fr_keep F10 b11
    have N11 := news_sub (news_keep N10 b11) (news' := [(47, tabObj #[]), (40, tabObj #[]), (271, tabObj #[])]) (fun p hp => .tail _ hp)
    clear F10 N10
    obtain ⟨bb, hbb⟩ : ∃ bb, ((c1.fdiv 3).fmod 2 == 1) = bb := ⟨_, rfl⟩
    rw [hbb] at *
    obtain ⟨R, hR⟩ : ∃ R, txt bb ds = R := ⟨_, rfl⟩
    have hRok : ∀ c ∈ R, Okc c := hR ▸ txt_ok bb hd
    have hRz : R.length ≤ 60 := by
      rw [← hR]
      have h1 := flat_esc true ds
      have h2 := flat_esc false ds
      unfold txt
      split
      · rw [List.length_append]; show _ + 4 ≤ 60; exact (LI3 (.im (.eq V0 V1) (.im (.le V2 (.m 2 V0)) (.im (.le V1 OX) (.le (.a V2 (.n 4)) (.n 60)))))) hdl h1 hn10
      · rw [List.length_append, List.length_append]; show 1 + _ + 5 ≤ 60; exact (LI3 (.im (.eq V0 V1) (.im (.le V2 (.m 2 V0)) (.im (.le V1 OX) (.le (.a (.a O1 V2) (.n 5)) (.n 60)))))) hdl h2 hn10
    have hbok : ∀ c ∈ behind bb, Okc c := by unfold Okc; cases bb <;> decide
    have hg1 : gO R = (ds.map chr, behind bb) := hR ▸ gO_word bb hne
    rw [hR]
    obtain ⟨Y, hY⟩ : ∃ Y : Str, (⟨R.toArray⟩ : Str) = Y := ⟨_, rfl⟩
    have hYz : Y.length ≤ 60 := by rw [← hY]; show R.toArray.size ≤ 60; rw [List.size_toArray]; exact hRz
    have hYl : Y.cps.toList = R := by rw [← hY]
    rw [hY]
    k_steps
    refine go ?_
    rename Fr _ _ _ _ => F12
    rename News _ _ _ _ => N12
    refine law_machine_spec (dp := callerA.depth + 1) (un := callerA.units + 3) (X := Y) B F12 X T rfl rfl (by decide) (by decide) (news_sub N12 fun p hp => .tail _ (.tail _ hp)) (fun x led h13 tk13 b13 t13 e13 M13 => ?_)
    obtain ⟨ps13, hp13⟩ := t13
    have F13 := fr_one F12 N12 ⟨_, .tail _ (.tail _ (.head _))⟩ b13
    have N0 := news_mid (pre := [(47, tabObj #[]), (40, tabObj #[])]) (post := []) N12 (by decide) b13 hp13
    have apart : ∀ p ∈ [((47 : Addr), tabObj #[]), (40, tabObj #[]), (271, tabObj ps13)], p.1 ∉ keysOf led := fun p hp q => by
      obtain ⟨r, hr, e⟩ := List.mem_map.mp q
      have h1 := (e13 r hr).2
      rw [e] at h1
      rcases List.mem_cons.mp hp with rfl | hp
      · rw [(N12 _ (.head _)).1] at h1; cases h1
      rcases List.mem_cons.mp hp with rfl | hp
      · rw [(N12 _ (.tail _ (.head _))).1] at h1; cases h1
      · rw [List.mem_singleton.mp hp, (N12 _ (.tail _ (.tail _ (.head _)))).1] at h1; cases h1
    have N13 : News (ghostOf s1.heap [(51, 47), (44, 40), (275, 271)]) s1.heap.objs.size h13 ([(47, tabObj #[]), (40, tabObj #[]), (271, tabObj ps13)] ++ led) := news_app (fun p hp => N0 p hp) (news_left (news_fresh (xs := led) F12 N0 e13))
    have R13 : Rd w.params Y x R led := ⟨0, Nat.zero_le _, by rw [List.drop_zero]; exact hYl, by simpa using M13⟩
    clear F12 N12 N0 M13
    obtain ⟨dx, t1, t2, t3, t4, t5, t6, st, pb, rest, ln, hled, _⟩ := rd_open R13
    have N14 := N13
    rw [hled] at N14
    simp only [List.cons_append, List.nil_append] at N14
    k_steps
    refine go ?_
    rename Fr _ _ _ _ => F14
    rename News _ _ _ _ => N14
    have N14e := news_eq (led' := [(47, tabObj #[]), (40, tabObj #[]), (271, tabObj ps13)] ++ led) N14 (by rw [hled]; rfl)
    dsimp only [List.cons_append, List.nil_append]
    refine get_token_spec (dp := callerA.depth + 1) (un := callerA.units + 3) (X := Y) (r := R) (led := led) B F14 X T rfl rfl (by decide) (news_right N14e) R13 (by exact (LI1 (.im (.le V0 (.n 60)) (.le V0 (.n 400)))) hYz) (by exact (LI1 (.im (.le V0 (.n 60)) (.le V0 (.n 400)))) hRz) hRok (fun h15 led15 tk15 t15 b15 e15 k15 R15 => ?_)
    have F15 := fr_led F14 (news_right N14e) b15
    have N15 := news_led N14e b15 e15 k15 apart
    rw [← k15] at apart
    rw [hg1] at R15 ⊢
    dsimp only at R15 ⊢
    rw [hWc]
    clear F14 N14 N14e R13 hled
    obtain ⟨dx2, t21, t22, t23, t24, t25, t26, st2, pb2, rest2, ln2, hled2, _⟩ := rd_open R15
    have N16 := N15
    rw [hled2] at N16
    simp only [List.cons_append, List.nil_append] at N16
    k_steps
    refine go ?_
    rename Fr _ _ _ _ => F16
    rename News _ _ _ _ => N16
    have N16e := news_eq (led' := [(47, tabObj #[]), (40, tabObj #[]), (271, tabObj ps13)] ++ led15) N16 (by rw [hled2]; rfl)
    dsimp only [List.cons_append, List.nil_append]
    refine get_token_spec (dp := callerA.depth + 1) (un := callerA.units + 3) (X := Y) (r := behind bb) (led := led15) B F16 X T rfl rfl (by decide) (news_right N16e) R15 (by exact (LI1 (.im (.le V0 (.n 60)) (.le V0 (.n 400)))) hYz) (by cases bb <;> decide) hbok (fun h17 led17 tk17 t17 b17 e17 k17 R17 => ?_)
    have F17 := fr_led F16 (news_right N16e) b17
    have N17 := news_led N16e b17 e17 k17 apart
    rw [← k17] at apart
    rw [gO_end bb] at R17 ⊢
    dsimp only at R17 ⊢
    rw [show cst [101, 110, 100] = Str.ofString "end" by decide +kernel]
    clear F16 N16 N16e R15 hled2
    k_steps
    refine go ?_
    rename Fr _ _ _ _ => F18
    rename News _ _ _ _ => N18
    rw [← hWt]
    refine law_stops_spec (dp := callerA.depth + 1) (un := callerA.units + 3) (ds := ds) (ps := #[]) (ex := []) B F18 X T rfl rfl (by decide) (by decide) (news_sub N18 fun p hp => by rw [List.mem_singleton.mp hp]; exact .head _) (.inl ⟨rfl, rfl⟩) (fun d h => (hd d h).1) (fun d h => (hd d h).2) (by exact (LI2 (.im (.eq V0 V1) (.im (.le V1 OX) (.le V0 OX)))) hdl hn10) hne (fun D2 xh dxh hl th its kk row rits rk h19 tk19 ps19 ex19 b19 ok19 t19 e19 _ f19 hrl hrow htbl => ?_)
    have F19 := fr_one F18 N18 ⟨_, .head _⟩ b19
    have N47 : News (ghostOf s1.heap [(51, 47), (44, 40), (275, 271)]) s1.heap.objs.size h19 ((47, tabObj ps19) :: ex19) := tab_news F18 (ps := #[]) (ex := []) (news_sub N18 fun p hp => by rw [List.mem_singleton.mp hp]; exact .head _) t19 e19
    have hap : (47 : Addr) ∉ keysOf led17 := apart _ (.head _)
    have Nrest : News (ghostOf s1.heap [(51, 47), (44, 40), (275, 271)]) s1.heap.objs.size h19 ([(40, tabObj #[]), (271, tabObj ps13)] ++ led17) := news_but (news_sub N18 fun p hp => .tail _ hp) b19 (fun p hp q => by
      have q := List.mem_singleton.mp q
      rcases List.mem_append.mp hp with hp | hp
      · rcases List.mem_cons.mp hp with rfl | hp
        · exact absurd (show (40 : Nat) = 47 from q) (by decide)
        · rw [List.mem_singleton.mp hp] at q; exact absurd (show (271 : Nat) = 47 from q) (by decide)
      · exact hap (List.mem_map.mpr ⟨p, hp, q⟩))
    obtain ⟨tl, Ntl, ktb⟩ := tbl_led F19 htbl
    have Nfr := news_fresh (xs := (D2, tupO (.ref xh) (.ref row)) :: (row, listOf rits rk) :: hdrL w.params xh dxh hl th its kk) F18 N47 f19
    have N20 := news_app Nfr (news_app Nrest Ntl)
    have nd19 := hdr_tab_nodup (ps0 := #[]) (fun p hp => f19 p (.tail _ (.tail _ hp))) (news_sub N18 fun p hp => by rw [List.mem_singleton.mp hp]; exact .head _) ok19 N47
    have nkrow := not_key N18 (f19 _ (.tail _ (.head _))).2
    have nkhl := not_key N18 (f19 _ (.tail _ (.tail _ (.tail _ (.tail _ (.head _)))))).2
    clear F18 N18 Nfr
    simp only [hdrL, List.cons_append, List.nil_append, List.append_assoc] at N20
    dsimp only [tupO] at N20
    k_steps
    refine go ?_
    rename Fr _ _ _ _ => F21
    rename News _ _ _ _ => N21
    have N21e := news_eq (led' := (D2, tupO (.ref xh) (.ref row)) :: (row, listOf rits rk) :: (hdrL w.params xh dxh hl th its kk ++ ((47, tabObj ps19) :: (ex19 ++ ((40, tabObj #[]) :: (271, tabObj ps13) :: (led17 ++ tl)))))) N21 (by simp only [hdrL, tupO, List.cons_append, List.nil_append, List.append_assoc])
    have NA : News (ghostOf s1.heap [(51, 47), (44, 40), (275, 271)]) s1.heap.objs.size _ (hdrL w.params xh dxh hl th its kk ++ (47, tabObj ps19) :: ex19) := news_sub N21e fun p hp => .tail _ (.tail _ (by
      rcases List.mem_append.mp hp with q | q
      · exact List.mem_append_left _ q
      refine List.mem_append_right _ ?_
      rcases List.mem_cons.mp q with rfl | q
      · exact .head _
      · exact .tail _ (List.mem_append_left _ q)))
    have NB : News (ghostOf s1.heap [(51, 47), (44, 40), (275, 271)]) s1.heap.objs.size _ ([(row, listOf rits rk), (40, tabObj #[]), (271, tabObj ps13)] ++ led17) := news_sub N21e fun p hp => .tail _ (by
      rcases List.mem_append.mp hp with q | q
      · rcases List.mem_cons.mp q with rfl | q
        · exact .head _
        refine .tail _ (List.mem_append_right _ (.tail _ (List.mem_append_right _ ?_)))
        rcases List.mem_cons.mp q with rfl | q
        · exact .head _
        · rw [List.mem_singleton.mp q]; exact .tail _ (.head _)
      · exact .tail _ (List.mem_append_right _ (.tail _ (List.mem_append_right _ (.tail _ (.tail _ (List.mem_append_left _ q)))))))
    have tb21 := ktb _ F21.keep (fun p hp => (N21e p (.tail _ (.tail _ (List.mem_append_right _ (.tail _ (List.mem_append_right _ (.tail _ (.tail _ (List.mem_append_right _ hp))))))))).1)
    obtain ⟨_, hE2, hE3⟩ := allE_sorted ds ds.length
    have hE4 : (allE ds ds.length).length ≤ 900 := Nat.le_trans hE3 (Nat.le_trans (Nat.mul_le_mul (by exact (LI2 (.im (.eq V0 V1) (.im (.le V1 OX) (.le V0 OX)))) hdl hn10 : ds.length ≤ 10) (by exact (LI2 (.im (.eq V0 V1) (.im (.le V1 OX) (.le V0 OX)))) hdl hn10 : ds.length ≤ 10)) (by decide))
    rw [← hWt]
    refine law_taken_out_spec (dp := callerA.depth + 1) (un := callerA.units + 3) (ds := ds) (E0 := allE ds ds.length) B F21 X T rfl rfl (by decide) (by decide) NA nd19 ok19 tb21 hd (by exact (LI2 (.im (.eq V0 V1) (.im (.le V1 OX) (.le V0 OX)))) hdl hn10) (allE_ok hd) hE2 hE4 (fun D4 nl nits nk ol oits nk2 h22 tk22 ps22 ex22 b22 ok22 t22 e22 _ f22 hnl hol => ?_)
    rw [names_row hd] at hnl
    have F22 := fr_led F21 (led := [(hl, listOf its kk), (47, tabObj ps19)]) (news_sub NA fun p hp => by
      rcases List.mem_cons.mp hp with rfl | hp
      · exact .tail _ (.tail _ (.head _))
      · rw [List.mem_singleton.mp hp]; exact .tail _ (.tail _ (.tail _ (.head _)))) b22
    have N47b : News (ghostOf s1.heap [(51, 47), (44, 40), (275, 271)]) s1.heap.objs.size h22 ((47, tabObj ps22) :: ex22) := tab_news F21 (ps := ps19) (ex := ex19) (news_sub NA fun p hp => List.mem_append_right _ hp) t22 e22
    have NB2 := news_but NB b22 (fun p hp q => by
      have q : p.1 = hl ∨ p.1 = 47 := by rcases List.mem_cons.mp q with q | q; exact .inl q; exact .inr (List.mem_singleton.mp q)
      rcases List.mem_append.mp hp with hp | hp
      · rcases List.mem_cons.mp hp with rfl | hp
        · rcases q with q | q
          · exact hrl q
          · exact nkrow (by show row ∈ _; rw [show row = 47 from q]; exact .head _)
        rcases List.mem_cons.mp hp with rfl | hp
        · rcases q with q | q
          · exact nkhl (by show hl ∈ _; rw [← show (40 : Addr) = hl from q]; exact .tail _ (.head _))
          · exact absurd (show (40 : Nat) = 47 from q) (by decide)
        · rw [List.mem_singleton.mp hp] at q
          rcases q with q | q
          · exact nkhl (by show hl ∈ _; rw [← show (271 : Addr) = hl from q]; exact .tail _ (.tail _ (.head _)))
          · exact absurd (show (271 : Nat) = 47 from q) (by decide)
      · rcases q with q | q
        · exact nkhl (List.mem_map.mpr ⟨p, List.mem_append_right _ hp, q⟩)
        · exact hap (List.mem_map.mpr ⟨p, hp, q⟩))
    have N23 := news_fresh (xs := [(D4, tupO (.ref nl) (.ref ol)), (nl, listOf nits nk), (ol, listOf oits nk2)]) F21 (news_app NB2 N47b) f22
    clear F21 N21 N21e NA NB NB2
    simp only [List.cons_append, List.nil_append, List.append_assoc] at N23
    dsimp only [tupO] at N23
    k_steps
    refine go ?_
    rename Fr _ _ _ _ => F24
    rename News _ _ _ _ => N24
    have hnit : (nits.toList.toArray) = nits := Array.toArray_toList
    have hrit : (rits.toList.toArray) = rits := Array.toArray_toList
    refine ne_intsK (vs := nits.toList) (us := rits.toList) (by rw [hnit]; exact News.isList N24 (.tail _ (.head _))) hnl (by rw [hrit]; exact News.isList N24 (.tail _ (.tail _ (.tail _ (.head _))))) hrow (by show callerA.units + 3 + 64 < cLine; decide) ?_
    have same : ∀ l : List Int, (!decide (l = l)) = false := fun l => by simp
    rw [same]
    have N25 := news_sub N24 (news' := (ol, listOf oits nk2) :: (row, listOf rits rk) :: (40, tabObj #[]) :: (271, tabObj ps13) :: (47, tabObj ps22) :: led17) (fun p hp => .tail _ (.tail _ (by
      rcases List.mem_cons.mp hp with rfl | hp
      · exact .head _
      rcases List.mem_cons.mp hp with rfl | hp
      · exact .tail _ (.head _)
      rcases List.mem_cons.mp hp with rfl | hp
      · exact .tail _ (.tail _ (.head _))
      rcases List.mem_cons.mp hp with rfl | hp
      · exact .tail _ (.tail _ (.tail _ (.head _)))
      rcases List.mem_cons.mp hp with rfl | hp
      · exact .tail _ (.tail _ (.tail _ (.tail _ (List.mem_append_right _ (.head _)))))
      · exact .tail _ (.tail _ (.tail _ (.tail _ (List.mem_append_left _ hp)))))))
    clear N24
    k_steps
    refine go ?_
    rename Fr _ _ _ _ => F26
    rename News _ _ _ _ => N26
    obtain ⟨W, hW, hWp⟩ := row_words ds
    rw [← hW] at hrow
    have hWn : W.length ≤ ds.length := by
      have h1 := rowOf_len ds ds.length
      rw [← hW, List.length_map] at h1
      exact h1
    have hrz2 : rits.size = W.length := by
      have := hrow.length
      rwa [Array.length_toList, List.length_map, List.length_map] at this
    refine comp_rule (tst := none) (cl := []) rfl (by with_unfolding_all rfl) rfl (by decide) (by decide) rfl ?_
    k_steps
    refine go ?_
    rename Fr _ _ _ _ => F27
    rename News _ _ _ _ => N27
    refine comp_listC (J := fun i out led => E2 fun ps ex => A3 (led = (40, tabObj ps) :: ex) (TabOk 9 4 "_int2digits.<locals>.inner" ps ex) (StrsAre out ((W.take i).map tx))) rfl (News.isList N27 (.tail _ (.head _))) F27 (news_sub N27 (news' := [(40, tabObj #[])]) fun p hp => by rw [List.mem_singleton.mp hp]; exact .tail _ (.tail _ (.head _))) (by rw [sizeLine_eq]; exact (LI4 (.im (.eq V0 V1) (.im (.eq V2 V3) (.im (.le V3 OX) (.im (.le V1 V2) (.lt V0 (.n 16777216))))))) hrz2 hdl hn10 hWn) ⟨#[], [], rfl, .inl ⟨rfl, rfl⟩, .nil⟩ ?_ ?_
    · rintro D I s₂ g' i v out e0 led₁ h tk mC own hsI hID ⟨hh, tt, rfl⟩ hgg hL hk hi hv hle ⟨psW, exW, rfl, okW, hJ⟩ ho F7 N7 hown hst
      refine wpAny_pure ?_
      rw [if_pos rfl]
      have hiW : i < W.length := by exact (LI3 (.im (.lt V0 V1) (.im (.eq V1 V2) (.lt V0 V2)))) hi hrz2
      obtain ⟨p, hp⟩ : ∃ p, W[i] = p := ⟨_, rfl⟩
      obtain ⟨u, rfl⟩ : ∃ u, v = .int (num p : Nat) u := by
        obtain ⟨u, hu⟩ := ints_at (i := i) hrow (by rw [List.length_map]; exact hiW)
        rw [Array.getElem?_toList, hv, List.getElem_map, hp] at hu
        exact ⟨u, Option.some.inj hu⟩
      have hpp := hWp p (hp ▸ List.getElem_mem hiW)
      have T'' := T.keeps hgg
      have X'' := X.keeps hgg
      have FL : Fr (ghostOf s1.heap [(51, 47), (44, 40), (275, 271)]) s1.heap.objs.size h _ := ⟨hL.at' fun o e => F7.keep _ _ e, fun b o e => F7.keep b o (hgg b o e), F27.above⟩
      have NL : News (ghostOf s1.heap [(51, 47), (44, 40), (275, 271)]) s1.heap.objs.size h ((40, tabObj psW) :: exW) := fun q hq => by
        have z := N7 q (.tail _ (List.mem_append_left _ hq))
        refine ⟨z.1, fun e => ?_, ?_⟩
        · obtain ⟨o, _, _, eL, _⟩ := hL
          rw [← e, z.2.2] at eL; cases eL
        · cases q' : (ghostOf s1.heap [(51, 47), (44, 40), (275, 271)]).get? q.1 with
          | none => rfl
          | some o => have := hgg _ _ q'; rw [z.2.2] at this; cases this
      k_steps
      try any_goals (first | exact (0 : Nat) | exact Str.ofString "" | exact Value.none | exact ([] : List (Str × Addr)))
      refine go ?_
      clear FL NL
      have FL : Fr (ghostOf s1.heap [(51, 47), (44, 40), (275, 271)]) s1.heap.objs.size h _ := ⟨hL.at' fun o e => F7.keep _ _ e, fun b o e => F7.keep b o (hgg b o e), F27.above⟩
      have NL : News (ghostOf s1.heap [(51, 47), (44, 40), (275, 271)]) s1.heap.objs.size h ((40, tabObj psW) :: exW) := fun q hq => by
        have z := N7 q (.tail _ (List.mem_append_left _ hq))
        refine ⟨z.1, fun e => ?_, ?_⟩
        · obtain ⟨o, _, _, eL, _⟩ := hL
          rw [← e, z.2.2] at eL; cases eL
        · cases q' : (ghostOf s1.heap [(51, 47), (44, 40), (275, 271)]).get? q.1 with
          | none => rfl
          | some o => have := hgg _ _ q'; rw [z.2.2] at this; cases this
      refine law_word_spec (dp := callerA.depth + 1) (un := callerA.units + 3) (ds := p) B FL X T rfl rfl (by decide) NL okW (fun d h => (isPal_D3 hd hpp d h).1) (fun d h => (isPal_D3 hd hpp d h).2) (by have := (isPal_len hpp).2; exact (LI3 (.im (.eq V0 V1) (.im (.le V1 OX) (.im (.le V2 V0) (.le V2 OX))))) hdl hn10 this) (isPal_len hpp).1 (fun h9 tk9 t9 ps9 ex9 b9 ok9 tb9 e9 x9 => ?_)
      have F9 := fr_one F7 N7 ⟨_, .tail _ (.head _)⟩ b9
      have h40 : (40 : Addr) ≠ I ∧ (40 : Addr) ≠ D ∧ (40 : Addr) ≠ D + 1 := ho _ (.head _)
      have hC7 : ∃ o, h.get? (D + 1) = some o := let ⟨o, _, _, e, _⟩ := F7.ns; ⟨o, e⟩
      have newk : ∀ q ∈ (40, tabObj ps9) :: ex9, q.1 ≠ I ∧ q.1 ≠ D ∧ q.1 ≠ D + 1 := fun q hq => by
        rcases List.mem_cons.mp hq with rfl | hq
        · exact h40
        rcases (e9 q hq).2 with z | z
        · exact ho q (.tail _ z)
        · refine ⟨fun e => ?_, fun e => ?_, fun e => ?_⟩
          · obtain ⟨o, eo, _⟩ := hst.1
            rw [e, ← hsI] at z
            rw [eo] at z; cases z
          · rw [e, (N7 _ (.head _)).1] at z; cases z
          · obtain ⟨o, eo⟩ := hC7
            rw [e, eo] at z; cases z
      refine go ⟨h9, tk9, _, (40, tabObj ps9) :: ex9, rfl, F9, fun q hq => ?_, newk, ps9, ex9, rfl, ok9, ?_⟩
      · rcases List.mem_cons.mp hq with rfl | hq
        · exact ⟨b9 _ _ (fun z => h40.2.1 (List.mem_singleton.mp z).symm) (N7 _ (.head _)).1, (N7 _ (.head _)).2⟩
        rcases List.mem_append.mp hq with hq | hq
        · rcases List.mem_cons.mp hq with rfl | hq
          · exact ⟨tb9, (N7 _ (.tail _ (.head _))).2⟩
          · refine ⟨(e9 q hq).1, (newk q (.tail _ hq)).2.2, ?_⟩
            rcases (e9 q hq).2 with z | z
            · exact (N7 q (.tail _ (.tail _ (List.mem_append_left _ z)))).2.2
            · cases q' : g'.get? q.1 with
              | none => rfl
              | some o => rw [F7.keep _ _ q'] at z; cases z
        · refine ⟨b9 _ _ (fun z => ?_) (N7 q (.tail _ (List.mem_append_right _ hq))).1, (N7 q (.tail _ (List.mem_append_right _ hq))).2⟩
          have z := List.mem_singleton.mp z
          rcases List.mem_cons.mp (hown q hq) with r | r
          · rw [hsI] at r
            exact h40.1 (z.symm.trans r)
          · exact nkrow (by rw [← List.mem_singleton.mp r, z]; exact .tail _ (.head _))
      · rw [List.take_add_one, List.getElem?_eq_getElem hiW, List.map_append, hp]
        exact strsAre_snoc hJ _ _
    · rintro Dw led28 outw1 kw1 h28 tk28 hDw ⟨psW, exW, rfl, okW, hJ⟩ F28 N28 hk28
      rw [List.take_of_length_le (by exact (LI2 (.im (.eq V0 V1) (.le V1 V0))) hrz2)] at hJ
      have h40 : (40 : Addr) ∉ keysOf led17 := apart _ (.tail _ (.head _))
      have o40 : ∀ (a : Addr) (o : Obj), (a, o) ∈ (ol, listOf oits nk2) :: (row, listOf rits rk) :: (40, tabObj #[]) :: (271, tabObj ps13) :: (47, tabObj ps22) :: led17 → o ≠ tabObj #[] → a ≠ 40 := fun a o hm hne e => by
        have z1 := (N27 _ hm).1
        have z2 := (N27 _ (.tail _ (.tail _ (.head _)))).1
        have z1 : Heap.get? _ a = some o := z1
        rw [e] at z1
        rw [z1] at z2
        exact hne (Option.some.inj z2)
      have N29 : News (ghostOf s1.heap [(51, 47), (44, 40), (275, 271)]) s1.heap.objs.size h28 ((Dw, listOf outw1.toArray kw1) :: (40, tabObj psW) :: (ol, listOf oits nk2) :: (row, listOf rits rk) :: (271, tabObj ps13) :: (47, tabObj ps22) :: led17) := by
        have kp : ∀ q ∈ (ol, listOf oits nk2) :: (row, listOf rits rk) :: (40, tabObj #[]) :: (271, tabObj ps13) :: (47, tabObj ps22) :: led17, q.1 ≠ 40 → h28.get? q.1 = some q.2 ∧ q.1 ≠ s1.heap.objs.size ∧ (ghostOf s1.heap [(51, 47), (44, 40), (275, 271)]).get? q.1 = none := fun q hq hne => ⟨hk28 _ _ (fun z => hne (List.mem_singleton.mp z)) (N27 q hq).1, (N27 q hq).2⟩
        intro q hq
        rcases List.mem_cons.mp hq with rfl | hq
        · exact N28 _ (.head _)
        rcases List.mem_cons.mp hq with rfl | hq
        · exact N28 _ (.tail _ (.head _))
        rcases List.mem_cons.mp hq with rfl | hq
        · exact kp _ (.head _) (o40 _ _ (.head _) (fun z => by cases z))
        rcases List.mem_cons.mp hq with rfl | hq
        · exact kp _ (.tail _ (.head _)) (o40 _ _ (.tail _ (.head _)) (fun z => by cases z))
        rcases List.mem_cons.mp hq with rfl | hq
        · exact kp _ (.tail _ (.tail _ (.tail _ (.head _)))) (show ¬(271 : Nat) = 40 by decide)
        rcases List.mem_cons.mp hq with rfl | hq
        · exact kp _ (.tail _ (.tail _ (.tail _ (.tail _ (.head _))))) (show ¬(47 : Nat) = 40 by decide)
        · exact kp q (.tail _ (.tail _ (.tail _ (.tail _ (.tail _ hq))))) (fun z => h40 (List.mem_map.mpr ⟨q, hq, z⟩))
      clear N28 N27 F27
      k_steps
      refine go ?_
      rename Fr _ _ _ _ => F30
      rename News _ _ _ _ => N30
      refine sorted_N_str F30 N30 (News.isList N30 (.head _)) hJ (by have := hJ.length; rw [List.length_map] at this; exact (LI4 (.im (.eq V0 V1) (.im (.eq V2 V3) (.im (.le V3 OX) (.im (.le V1 V2) (.lt V0 (.n 64))))))) this hdl hn10 hWn) (fun h31 vs31 ss31 e31 F31 N31 hs31 hp31 ho31 => ?_)
      have N31 := news_sub N31 (news' := (_, listOf vs31.toArray e31) :: (ol, listOf oits nk2) :: (row, listOf rits rk) :: (271, tabObj ps13) :: (47, tabObj ps22) :: (40, tabObj psW) :: led17) (fun q hq => by
        rcases List.mem_cons.mp hq with rfl | hq
        · exact .head _
        refine .tail _ (.tail _ ?_)
        rcases List.mem_cons.mp hq with rfl | hq
        · exact .tail _ (.head _)
        rcases List.mem_cons.mp hq with rfl | hq
        · exact .tail _ (.tail _ (.head _))
        rcases List.mem_cons.mp hq with rfl | hq
        · exact .tail _ (.tail _ (.tail _ (.head _)))
        rcases List.mem_cons.mp hq with rfl | hq
        · exact .tail _ (.tail _ (.tail _ (.tail _ (.head _))))
        rcases List.mem_cons.mp hq with rfl | hq
        · exact .head _
        · exact .tail _ (.tail _ (.tail _ (.tail _ (.tail _ hq)))))
      clear F30 N30
      k_steps
      refine go ?_
      rename Fr _ _ _ _ => F32
      rename News _ _ _ _ => N32
      rw [← hWt]
      refine law_outward_spec (dp := callerA.depth + 1) (un := callerA.units + 3) (ds := ds) B F32 X T rfl rfl (by decide) hd (by exact (LI2 (.im (.eq V0 V1) (.im (.le V1 OX) (.le V0 OX)))) hdl hn10) hne (fun l33 its33 k33 h33 tk33 b33 e33 n33 s33 => ?_)
      have F33 := fr_keep F32 b33
      have N33 := news_fresh (xs := [(l33, listOf its33 k33)]) F32 (news_keep N32 b33) (fun p hp => by rw [List.mem_singleton.mp hp]; exact ⟨e33, n33⟩)
      simp only [List.cons_append, List.nil_append] at N33
      clear F32 N32
      k_steps
      refine go ?_
      rename Fr _ _ _ _ => F34
      rename News _ _ _ _ => N34
      have hpm := words_perm hd hW hWp
      refine sorted_N_str F34 N34 (vs := its33.toList) (by rw [Array.toArray_toList]; exact News.isList N34 (.head _)) s33 (by have := s33.length; rw [List.length_map, ← hpm.length_eq] at this; exact (LI4 (.im (.eq V0 V1) (.im (.eq V2 V3) (.im (.le V3 OX) (.im (.le V1 V2) (.lt V0 (.n 64))))))) this hdl hn10 hWn) (fun h35 vs35 ss35 e35 F35 N35 hs35 hp35 ho35 => ?_)
      have hss : ss35 = ss31 := sorted_uniq ho35 ho31 (hp35.trans ((hpm.map tx).symm.trans hp31.symm))
      rw [hss] at hs35
      have hrz3 : rits.size ≤ 10 := by exact (LI4 (.im (.eq V0 V1) (.im (.eq V2 V3) (.im (.le V3 OX) (.im (.le V1 V2) (.le V0 OX)))))) hrz2 hdl hn10 hWn
      clear F34 N34
      k_steps
      refine go ?_
      rename Fr _ _ _ _ => F36
      rename News _ _ _ _ => N36
      refine ne_strs (vs := vs31) (us := vs35) (ss := ss31) (News.isList N36 (.tail _ (.tail _ (.head _)))) hs31 (News.isList N36 (.head _)) hs35 (by show callerA.units + 3 < cLine; decide) ?_
      have N37 := news_sub N36 (news' := (ol, listOf oits nk2) :: (row, listOf rits rk) :: (271, tabObj ps13) :: (47, tabObj ps22) :: (40, tabObj psW) :: led17) (fun q hq => .tail _ (.tail _ (.tail _ hq)))
      clear N36
      k_steps
      refine go ?_
      rename Fr _ _ _ _ => F38
      rename News _ _ _ _ => N38
      have hbo : decide (oits.size = 0) = ((W.length : Int) == (n : Int)) := by
        rw [Bool.eq_iff_iff, decide_eq_true_eq, beq_iff_eq]
        have h1 := hol.length
        rw [Array.length_toList, List.length_map] at h1
        have h2 := full_odd hd
        rw [← hW, List.length_map] at h2
        rw [h1, List.length_eq_zero_iff, ← h2, hdl]
        exact Int.ofNat_inj.symm
      refine eq_nil (News.isList N38 (.tail _ (.head _))) (News.isList N38 (.head _)) (by show callerA.units + 3 < cLine; decide) ?_
      rw [hbo]
      obtain ⟨bf, hbf⟩ : ∃ bf, ((W.length : Int) == (n : Int)) = bf := ⟨_, rfl⟩
      rw [hbf] at F38 ⊢
      k_steps
      refine go ?_
      rename Fr _ _ _ _ => F40
      rename News _ _ _ _ => N40
      rw [← hWt]
      refine law_shared_spec (dp := callerA.depth + 1) (un := callerA.units + 3) (ds := ds) B F40 X T rfl rfl (by decide) (by decide) hd (by exact (LI2 (.im (.eq V0 V1) (.im (.le V1 OX) (.le V0 OX)))) hdl hn10) (by exact (LI2 (.im (.le (.n 6) V0) (.im (.eq V1 V0) (.le O2 V1)))) hn6 hdl) (fun Ds shs k41 h41 tk41 d41 b41 e41 n41 z41 al41 => ?_)
      have F41 := fr_keep F40 b41
      have N41 := news_fresh (xs := [(Ds, listOf shs k41)]) F40 (news_keep N40 b41) (fun p hp => by rw [List.mem_singleton.mp hp]; exact ⟨e41, n41⟩)
      have N41 := news_sub N41 (news' := (Ds, listOf shs k41) :: (271, tabObj ps13) :: (47, tabObj ps22) :: (40, tabObj psW) :: led17) (fun q hq => by
        rcases List.mem_cons.mp hq with rfl | hq
        · exact .head _
        · exact .tail _ (.tail _ (.tail _ (.tail _ hq))))
      clear F40 N40
      k_steps
      refine go ?_
      rename Fr _ _ _ _ => F42
      rename News _ _ _ _ => N42
      have hbs : decide (shs.size = 0) = bf := by
        rw [← hbf, Bool.eq_iff_iff, decide_eq_true_eq, beq_iff_eq, al41, ← full_alone hd, ← hW, List.length_map, hdl]
        exact Int.ofNat_inj.symm
      refine eq_nil (News.isList N42 (.tail _ (.head _))) (News.isList N42 (.head _)) (by show callerA.units + 3 < cLine; decide) ?_
      rw [hbs]
      obtain ⟨dx3, t31, t32, t33, t34, t35, t36, st3, pb3, rest3, ln3, hled3, _⟩ := rd_open R17
      have N43 := news_sub N42 (news' := (271, tabObj ps13) :: (47, tabObj ps22) :: (40, tabObj psW) :: led17) (fun q hq => .tail _ (.tail _ hq))
      clear N42
      rw [hled3] at N43
      k_steps
      refine go ?_
      rename Fr _ _ _ _ => F44
      rename News _ _ _ _ => N44
      have N44e := news_eq (led' := [(271, tabObj ps13), (47, tabObj ps22), (40, tabObj psW)] ++ led17) N44 (by rw [hled3]; rfl)
      have apart2 : ∀ p ∈ [((271 : Addr), tabObj ps13), (47, tabObj ps22), (40, tabObj psW)], p.1 ∉ keysOf led17 := fun p hp => by
        rcases List.mem_cons.mp hp with rfl | hp
        · exact apart _ (.tail _ (.tail _ (.head _)))
        rcases List.mem_cons.mp hp with rfl | hp
        · exact apart (47, tabObj #[]) (.head _)
        · rw [List.mem_singleton.mp hp]; exact apart (40, tabObj #[]) (.tail _ (.head _))
      dsimp only [List.cons_append, List.nil_append]
      refine get_token_spec (dp := callerA.depth + 1) (un := callerA.units + 3) (X := Y) (r := []) (led := led17) B F44 X T rfl rfl (by decide) (news_right N44e) R17 (by exact (LI1 (.im (.le V0 (.n 60)) (.le V0 (.n 400)))) hYz) (by decide) (fun c h => by cases h) (fun h45 led45 tk45 t45 b45 e45 k45 R45 => ?_)
      have F45 := fr_led F44 (news_right N44e) b45
      have N45 := news_led N44e b45 e45 k45 apart2
      rw [show gO [] = ([], []) from rfl] at R45 ⊢
      dsimp only at R45 ⊢
      rw [show cst [] = Str.ofString "" by decide +kernel]
      clear F44 N44 N44e R17 hled3
      obtain ⟨dx4, t41, t42, t43, t44, t45', t46, st4, pb4, rest4, ln4, hled4, hln4⟩ := rd_open R45
      obtain ⟨cc, hcc⟩ : ∃ cc : Int, (Y.cps.toList.count 10 : Int) = cc := ⟨_, rfl⟩
      have hln : (ln4 : Int) = 1 + cc := by rw [hln4 rfl, ← hcc]; exact (LI1 (.je (.ca (.a O1 V0)) (.a O1 (.ca V0))))
      rw [hled4, hln] at N45
      dsimp only [mchD] at N45
      simp only [List.cons_append, List.nil_append] at N45
      k_steps
      refine go ?_
      refine KXw.count (i := cc) (by rw [count_nl Y]; exact hcc) (fun t' k' => ?_)
      k_steps
end Mine
end
theorem PySem.Challenge.cw_sn0071_01_holds : PySem.Challenge.rw_sn0071_01.Holds :=
  Mine.fin0
