import PyProof.Rows.All
import Wide.All
import OpenK.AllK
import Wide.FinOn
import PySem.Challenge.RW_kg0014_01
set_option Elab.async false
set_option maxRecDepth 100000

section
namespace Mine
open PySem PySem.W PyProof.Rows
set_option maxRecDepth 100000 in
set_option maxHeartbeats 8000000 in
open_top hd for PySem.Challenge.rw_kg0014_01
end Mine
end

section
open PySem PySem.W PyProof.Rows
namespace Mine
/-- what a call of the text's def at f, with the values vs, gives back: d frames and e units of room asked, the ledger news kept -/
abbrev Claim (d e : Nat) (w : World) (mean : ExcName → Option Value) (mg mb : Str → Option Value) (f : Addr) (news : List (Addr × Obj)) (pre : Prop) (vs : List Value) (R : Tok → Value) : Prop :=
  ∀ (dp un : Nat) (gd : Option (List Code)) (cn : Str) (cs : Scope) (a : Addr) (ccd : Value) (cl : List (Str × Addr)) (outer : List Env) (A₀ : Around) (base h₀ : Heap) (L : Addr) (m : Str → Option Value) (s : Shared) (Q E : Value → Shared → Prop),
    Below A₀ base outer h₀ → Fr h₀ L s.heap m → (hd.heap_39 w.params).In h₀ → News h₀ L s.heap news → Top hd.view_39 (looseW hd.view_39 []) mean mg mb h₀ → cs.kind = .function →
    pre → dp + d < recursionLimit → un + e < cLine →
    (∀ (t : Tok) (h' : Heap) (tk' : Nat), Fr h₀ L h' m → News h₀ L h' news → Q (R t) { s with heap := h', toks := tk' }) →
    wpAny (model PySem.Challenge.rw_kg0014_01.row.prog w) (ktrTop dp un gd cn cs L a ccd cl outer) (call (.ref f) vs) Q E s
/-- the same, for a caller -/
theorem Claim.use {d e : Nat} {w : World} {mean : ExcName → Option Value} {mg mb : Str → Option Value} {f : Addr} {news : List (Addr × Obj)} {pre : Prop} {vs : List Value} {R : Tok → Value}
    {dp un : Nat} {gd : Option (List Code)} {cn : Str} {cs : Scope} {a : Addr} {ccd : Value} {cl : List (Str × Addr)} {outer : List Env} {A₀ : Around} {base h₀ : Heap} {L : Addr} {m : Str → Option Value} {s : Shared} {Q E : Value → Shared → Prop}
    (C : Claim d e w mean mg mb f news pre vs R) (B : Below A₀ base outer h₀) (F : Fr h₀ L s.heap m) (X : (hd.heap_39 w.params).In h₀) (N : News h₀ L s.heap news) (Tp : Top hd.view_39 (looseW hd.view_39 []) mean mg mb h₀) (hk : cs.kind = .function)
    (hp : pre) (hdp : dp + d < recursionLimit) (hun : un + e < cLine) (h : ∀ (t : Tok) (h' : Heap) (tk' : Nat), Fr h₀ L h' m → News h₀ L h' news → Q (R t) { s with heap := h', toks := tk' }) :
    wpAny (model PySem.Challenge.rw_kg0014_01.row.prog w) (ktrTop dp un gd cn cs L a ccd cl outer) (call (.ref f) vs) Q E s :=
  C dp un gd cn cs a ccd cl outer A₀ base h₀ L m s Q E B F X N Tp hk hp hdp hun h
end Mine
namespace Mine
open PySem PySem.W PyProof.Rows
/-- as Claim, of an int that P tells -/
abbrev ClaimP (d e : Nat) (w : World) (mean : ExcName → Option Value) (mg mb : Str → Option Value) (f : Addr) (pre : Prop) (vs : List Value) (P : Int → Prop) : Prop :=
  ∀ (dp un : Nat) (gd : Option (List Code)) (cn : Str) (cs : Scope) (a : Addr) (ccd : Value) (cl : List (Str × Addr)) (outer : List Env) (A₀ : Around) (base h₀ : Heap) (L : Addr) (m : Str → Option Value) (s : Shared) (Q E : Value → Shared → Prop),
    Below A₀ base outer h₀ → Fr h₀ L s.heap m → (hd.heap_39 w.params).In h₀ → News h₀ L s.heap [] → Top hd.view_39 (looseW hd.view_39 []) mean mg mb h₀ → cs.kind = .function →
    pre → dp + d < recursionLimit → un + e < cLine →
    (∀ (v : Int) (t : Tok) (h' : Heap) (tk' : Nat), P v → Fr h₀ L h' m → Q (.int v t) { s with heap := h', toks := tk' }) →
    wpAny (model PySem.Challenge.rw_kg0014_01.row.prog w) (ktrTop dp un gd cn cs L a ccd cl outer) (call (.ref f) vs) Q E s
theorem ClaimP.use {d e : Nat} {w : World} {mean : ExcName → Option Value} {mg mb : Str → Option Value} {f : Addr} {pre : Prop} {vs : List Value} {P : Int → Prop}
    {dp un : Nat} {gd : Option (List Code)} {cn : Str} {cs : Scope} {a : Addr} {ccd : Value} {cl : List (Str × Addr)} {outer : List Env} {A₀ : Around} {base h₀ : Heap} {L : Addr} {m : Str → Option Value} {s : Shared} {Q E : Value → Shared → Prop}
    (C : ClaimP d e w mean mg mb f pre vs P) (B : Below A₀ base outer h₀) (F : Fr h₀ L s.heap m) (X : (hd.heap_39 w.params).In h₀) (Tp : Top hd.view_39 (looseW hd.view_39 []) mean mg mb h₀) (hk : cs.kind = .function)
    (hp : pre) (hdp : dp + d < recursionLimit) (hun : un + e < cLine) (h : ∀ (v : Int) (t : Tok) (h' : Heap) (tk' : Nat), P v → Fr h₀ L h' m → News h₀ L h' [] → Q (.int v t) { s with heap := h', toks := tk' }) :
    wpAny (model PySem.Challenge.rw_kg0014_01.row.prog w) (ktrTop dp un gd cn cs L a ccd cl outer) (call (.ref f) vs) Q E s :=
  C dp un gd cn cs a ccd cl outer A₀ base h₀ L m s Q E B F X News.nil Tp hk hp hdp hun fun v t h' tk' hv hF => h v t h' tk' hv hF News.nil
end Mine
end

section
namespace Mine
/-- the table of all beginnings: c i k is the cost of writing sign k of the one for sign i of the other -/
noncomputable def T (c : Nat → Nat → Int) : Nat → Nat → Int
  | 0, k => 2 * (k : Int)
  | i + 1, 0 => 2 * ((i : Int) + 1)
  | i + 1, k + 1 => min (min (T c i k + c i k) (T c i (k + 1) + 2)) (T c (i + 1) k + 2)
  termination_by i k => (i, k)
theorem T_z (c : Nat → Nat → Int) (k : Nat) : T c 0 k = 2 * (k : Int) := by rw [T]
theorem T_sz (c : Nat → Nat → Int) (i : Nat) : T c (i + 1) 0 = 2 * ((i : Int) + 1) := by rw [T]
theorem T_ss (c : Nat → Nat → Int) (i k : Nat) : T c (i + 1) (k + 1) = min (min (T c i k + c i k) (T c i (k + 1) + 2)) (T c (i + 1) k + 2) := by rw [T]
theorem T_iz (c : Nat → Nat → Int) (i : Nat) : T c i 0 = 2 * (i : Int) := by
  cases i with
  | zero => rw [T_z]
  | succ i => rw [T_sz]; omega
theorem T_flip (c : Nat → Nat → Int) (i k : Nat) : T c i k = T (fun a b => c b a) k i := by
  induction i generalizing k with
  | zero => rw [T_z, T_iz]
  | succ i ih =>
    induction k with
    | zero => rw [T_iz, T_z]
    | succ k ih2 =>
      rw [T_ss, T_ss, ih k, ih (k + 1), ih2]
      omega
theorem T_congr {c c' : Nat → Nat → Int} : ∀ (i k : Nat), (∀ a, a < i → ∀ b, b < k → c a b = c' a b) → T c i k = T c' i k := by
  intro i
  induction i with
  | zero => intro k _; rw [T_z, T_z]
  | succ i ih =>
    intro k
    induction k with
    | zero => intro _; rw [T_sz, T_sz]
    | succ k ih2 =>
      intro h
      rw [T_ss, T_ss, ih k (fun a ha b hb => h a (by omega) b (by omega)), ih (k + 1) (fun a ha b hb => h a (by omega) b hb), ih2 (fun a ha b hb => h a ha b (by omega)), h i (by omega) k (by omega)]
theorem T_up_r (c : Nat → Nat → Int) (i k : Nat) : T c i (k + 1) ≤ T c i k + 2 := by
  cases i with
  | zero => rw [T_z, T_z]; omega
  | succ i => rw [T_ss]; omega
theorem T_up_l (c : Nat → Nat → Int) (i k : Nat) : T c (i + 1) k ≤ T c i k + 2 := by
  cases k with
  | zero => rw [T_iz, T_iz]; omega
  | succ k => rw [T_ss]; omega
section
variable {c : Nat → Nat → Int} (h0 : ∀ a b, 0 ≤ c a b)
include h0
theorem T_down_l (i k : Nat) : T c i k ≤ T c (i + 1) k + 2 := by
  induction k with
  | zero => rw [T_iz, T_iz]; omega
  | succ k ih =>
    have h1 := T_up_r c i k
    have h2 := h0 i k
    rw [T_ss]
    omega
theorem T_down_r (i k : Nat) : T c i k ≤ T c i (k + 1) + 2 := by
  rw [T_flip c i k, T_flip c i (k + 1)]
  exact T_down_l (fun a b => h0 b a) k i
theorem T_last {i k : Nat} (h : c i k = 0) : T c (i + 1) (k + 1) = T c i k := by
  have h1 := T_down_l h0 i k
  have h2 := T_down_r h0 i k
  rw [T_ss, h]
  omega
theorem T_first (h : c 0 0 = 0) (i k : Nat) : T c (i + 1) (k + 1) = T (fun a b => c (a + 1) (b + 1)) i k := by
  induction i generalizing k with
  | zero =>
    induction k with
    | zero =>
      rw [T_ss, T_z, T_z, T_sz, T_z, h]; omega
    | succ k ih =>
      rw [T_ss, ih, T_z, T_z, T_z, T_z]
      have := h0 0 (k + 1)
      omega
  | succ i ih =>
    induction k with
    | zero =>
      rw [T_ss, ih 0, T_iz, T_iz, T_iz]
      have := h0 (i + 1) 0
      have e : T c (i + 1 + 1) 0 = 2 * ((i : Int) + 1 + 1) := by rw [T_sz]; omega
      rw [T_iz]
      omega
    | succ k ih2 =>
      rw [T_ss, ih k, ih (k + 1), ih2, T_ss]
theorem T_low (i k : Nat) : 2 * ((i : Int) - k) ≤ T c i k := by
  induction i generalizing k with
  | zero => rw [T_z]; omega
  | succ i ih =>
    induction k with
    | zero => rw [T_sz]; omega
    | succ k ih2 =>
      have h1 := ih k
      have h2 := ih (k + 1)
      have h3 := h0 i k
      rw [T_ss]
      omega
theorem T_low' (i k : Nat) : 2 * ((k : Int) - i) ≤ T c i k := by
  rw [T_flip]
  exact T_low (fun a b => h0 b a) k i
theorem T_above {M : Int} {j n : Nat} (h : ∀ k, k ≤ n → M < T c j k) : ∀ k, k ≤ n → M < T c (j + 1) k := by
  intro k
  induction k with
  | zero =>
    intro hk
    have h1 := h 0 hk
    rw [T_iz] at h1 ⊢
    omega
  | succ k ih =>
    intro hk
    have h1 := h k (by omega)
    have h2 := h (k + 1) hk
    have h3 := ih (by omega)
    have h4 := h0 j k
    rw [T_ss]
    omega
/-- a row that lies above the bound: so does all below it -/
theorem T_exit (h2 : ∀ a b, c a b ≤ 2) {M : Int} {i n : Nat} (hn : 1 ≤ n) (h : ∀ k, 1 ≤ k → k ≤ n → M < T c (i + 1) k) (m : Nat) (hm : i + 1 ≤ m) : M < T c m n := by
  have hz : M < T c (i + 1) 0 := by
    have e1 := h 1 (Nat.le_refl 1) hn
    rw [T_ss, T_iz] at e1
    rw [T_sz]
    have := h2 i 0
    omega
  have hall : ∀ d k, k ≤ n → M < T c (i + 1 + d) k := by
    intro d
    induction d with
    | zero =>
      intro k hk
      cases k with
      | zero => exact hz
      | succ k => exact h (k + 1) (by omega) hk
    | succ d ih => exact T_above h0 ih
  have e : i + 1 + (m - (i + 1)) = m := by omega
  have := hall (m - (i + 1)) n (Nat.le_refl n)
  rw [e] at this
  exact this
end
/-- the distance of two lists of signs -/
noncomputable def D (cc : Nat → Nat → Int) (a b : List Nat) : Int := T (fun i k => cc (a.getD i 0) (b.getD k 0)) a.length b.length
section
variable {cc : Nat → Nat → Int} (h0 : ∀ p q, 0 ≤ cc p q)
theorem D_symm (hs : ∀ p q, cc p q = cc q p) (a b : List Nat) : D cc a b = D cc b a := by
  rw [D, D, T_flip]
  refine T_congr _ _ fun i _ k _ => ?_
  exact hs _ _
theorem D_nil_l (b : List Nat) : D cc [] b = 2 * (b.length : Int) := by rw [D, List.length_nil, T_z]
theorem D_nil_r (a : List Nat) : D cc a [] = 2 * (a.length : Int) := by rw [D, List.length_nil, T_iz]
include h0
theorem D_cons (hd : ∀ p, cc p p = 0) (p : Nat) (a b : List Nat) : D cc (p :: a) (p :: b) = D cc a b := by
  rw [D, D, List.length_cons, List.length_cons, T_first (c := fun i k => cc ((p :: a).getD i 0) ((p :: b).getD k 0)) (fun _ _ => h0 _ _) (by simp [hd])]
  refine T_congr _ _ fun i _ k _ => ?_
  simp
theorem D_front (hd : ∀ p, cc p p = 0) (p a b : List Nat) : D cc (p ++ a) (p ++ b) = D cc a b := by
  induction p with
  | nil => rfl
  | cons s p ih => rw [List.cons_append, List.cons_append, D_cons h0 hd, ih]
theorem D_snoc (hd : ∀ p, cc p p = 0) (s : Nat) (a b : List Nat) : D cc (a ++ [s]) (b ++ [s]) = D cc a b := by
  rw [D, D, List.length_append, List.length_append, List.length_singleton, T_last (c := fun i k => cc ((a ++ [s]).getD i 0) ((b ++ [s]).getD k 0)) (fun _ _ => h0 _ _) (by simp [hd])]
  refine T_congr _ _ fun i hi k hk => ?_
  simp [List.getD, List.getElem?_append_left hi, List.getElem?_append_left hk]
theorem D_back (hd : ∀ p, cc p p = 0) (q a b : List Nat) : D cc (a ++ q) (b ++ q) = D cc a b := by
  induction q generalizing a b with
  | nil => simp
  | cons s q ih =>
    have e (l : List Nat) : l ++ s :: q = (l ++ [s]) ++ q := by simp
    rw [e a, e b, ih, D_snoc h0 hd]
theorem D_self (hd : ∀ p, cc p p = 0) (a : List Nat) : D cc a a = 0 := by
  have := D_front h0 hd a [] []
  rw [List.append_nil] at this
  rw [this, D_nil_l]; rfl
theorem D_low (a b : List Nat) : 2 * ((b.length : Int) - a.length) ≤ D cc a b := T_low' (fun _ _ => h0 _ _) _ _
end
end Mine
end

section
namespace Mine
open PySem PySem.W PyProof.Rows PySem.Calls
/-- the cost of writing one sign for another -/
def scost (x y : Str) : Int := if x = y then 0 else if Txt.lower x = Txt.lower y then 1 else 2
def cc (p q : Nat) : Int := scost ⟨#[p]⟩ ⟨#[q]⟩
theorem cc_nn (p q : Nat) : 0 ≤ cc p q := by
  unfold cc scost
  split
  · omega
  · split <;> omega
theorem cc_le (p q : Nat) : cc p q ≤ 2 := by
  unfold cc scost
  split
  · omega
  · split <;> omega
theorem cc_self (p : Nat) : cc p p = 0 := by
  unfold cc scost
  rw [if_pos rfl]
theorem cc_comm (p q : Nat) : cc p q = cc q p := by
  unfold cc scost
  simp only [eq_comm (a := (⟨#[q]⟩ : Str)) (b := ⟨#[p]⟩), eq_comm (a := Txt.lower ⟨#[q]⟩) (b := Txt.lower ⟨#[p]⟩)]
abbrev ls (x : Str) : List Nat := x.cps.toList
theorem ls_len (x : Str) : (ls x).length = x.length := by simp [Str.length]
theorem ls_inj {x y : Str} (h : ls x = ls y) : x = y := by
  cases x; cases y
  simp only [ls] at h
  exact congrArg Str.mk (Array.ext' h)
theorem item_nn {x : Str} {i : Int} (h0 : 0 ≤ i) (h1 : i < x.length) : Txt.item x i = ⟨#[(ls x).getD i.toNat 0]⟩ := by
  have := beq_iff_eq.mp (item_closes (x := x) ⟨h0, h1⟩)
  rw [this]
  simp [ls, Array.getD_eq_getD_getElem?, List.getD]
theorem item_neg {x : Str} {i : Int} (h0 : i < 0) (h1 : -(x.length : Int) ≤ i) : Txt.item x i = ⟨#[(ls x).getD (i + x.length).toNat 0]⟩ := by
  have := beq_iff_eq.mp (item_closes_neg (x := x) h0 h1 rfl)
  rw [this]
  simp [ls, Array.getD_eq_getD_getElem?, List.getD]
theorem one_inj {p q : Nat} (h : (⟨#[p]⟩ : Str) = ⟨#[q]⟩) : p = q := by
  injection h with h
  simpa using h
theorem slice_from {x : Str} {i : Int} (h0 : 0 ≤ i) (h1 : i ≤ x.length) : ls (Txt.slice x (some i) none) = (ls x).drop i.toNat := by
  rw [slice_from_eq h0 h1 rfl]
  simp only [ls]
  refine List.take_of_length_le ?_
  simp [Str.length]
  omega
theorem slice_to_neg {x : Str} {j : Int} (h0 : j < 0) (h1 : -(x.length : Int) ≤ j) : ls (Txt.slice x none (some j)) = (ls x).take (j + x.length).toNat := by
  have := beq_iff_eq.mp (slice_closes_to_neg (x := x) h0 h1 rfl)
  rw [this]
  simp [ls]
theorem slice_all (x : Str) : Txt.slice x none none = x := by
  unfold Txt.slice
  rw [if_pos]
  simp [Builtin.Str.strSliceIndices, sliceRange]
  split <;> omega
/-- the costs of two texts' signs -/
def sc (x y : Str) (i k : Nat) : Int := scost (Txt.item x i) (Txt.item y k)
theorem sc_cc {x y : Str} {i k : Nat} (hi : i < x.length) (hk : k < y.length) : sc x y i k = cc ((ls x).getD i 0) ((ls y).getD k 0) := by
  unfold sc cc
  rw [item_nn (by omega) (by omega), item_nn (by omega) (by omega)]
  simp
theorem sc_D (x y : Str) : T (sc x y) x.length y.length = D cc (ls x) (ls y) := by
  rw [D, ls_len, ls_len]
  exact T_congr _ _ fun a ha b hb => sc_cc ha hb
theorem len_of_drop {x : Str} {i : Int} (h0 : 0 ≤ i) (h1 : i ≤ x.length) : ((Txt.slice x (some i) none).length : Int) = x.length - i := by
  rw [← ls_len, slice_from h0 h1, List.length_drop, ls_len]; omega
/-- equal beginnings, cut off -/
theorem front_D {x y : Str} {p : Int} (h0 : 0 ≤ p) (h1 : p ≤ x.length) (h2 : p ≤ y.length) (h : (ls x).take p.toNat = (ls y).take p.toNat) :
    D cc (ls (Txt.slice x (some p) none)) (ls (Txt.slice y (some p) none)) = D cc (ls x) (ls y) := by
  rw [slice_from h0 h1, slice_from h0 h2]
  have e := D_front cc_nn cc_self ((ls x).take p.toNat) ((ls x).drop p.toNat) ((ls y).drop p.toNat)
  rw [List.take_append_drop, h, List.take_append_drop] at e
  exact e.symm
theorem front_step {x y : Str} {p : Int} (h0 : 0 ≤ p) (h1 : p < x.length) (h2 : p < y.length) (h : (ls x).take p.toNat = (ls y).take p.toNat) (e : Txt.item x p = Txt.item y p) :
    (ls x).take (p + 1).toNat = (ls y).take (p + 1).toNat := by
  rw [item_nn h0 h1, item_nn h0 h2] at e
  have e := one_inj e
  have hx : p.toNat < (ls x).length := by rw [ls_len]; omega
  have hy : p.toNat < (ls y).length := by rw [ls_len]; omega
  have e1 : (p + 1).toNat = p.toNat + 1 := by omega
  rw [e1, List.take_add_one, List.take_add_one, h]
  simp only [List.getD, List.getElem?_eq_getElem hx, List.getElem?_eq_getElem hy, Option.getD_some] at e
  rw [List.getElem?_eq_getElem hx, List.getElem?_eq_getElem hy, e]
/-- equal ends -/
def Ends (x y : Str) (q : Int) : Prop := (ls x).drop (q + x.length).toNat = (ls y).drop (q + y.length).toNat
theorem ends_zero (x y : Str) : Ends x y 0 := by
  unfold Ends
  rw [List.drop_of_length_le (by rw [ls_len]; omega), List.drop_of_length_le (by rw [ls_len]; omega)]
theorem ends_step {x y : Str} {q : Int} (h0 : q ≤ 0) (h1 : -(x.length : Int) < q) (h2 : -(y.length : Int) < q) (h : Ends x y q) (e : Txt.item x (q - 1) = Txt.item y (q - 1)) : Ends x y (q - 1) := by
  rw [item_neg (by omega) (by omega), item_neg (by omega) (by omega)] at e
  have e := one_inj e
  unfold Ends at *
  have hx : (q - 1 + x.length).toNat < (ls x).length := by rw [ls_len]; omega
  have hy : (q - 1 + y.length).toNat < (ls y).length := by rw [ls_len]; omega
  rw [List.drop_eq_getElem_cons hx, List.drop_eq_getElem_cons hy]
  simp only [List.getD, List.getElem?_eq_getElem hx, List.getElem?_eq_getElem hy, Option.getD_some] at e
  have e1 : (q - 1 + x.length).toNat + 1 = (q + x.length).toNat := by omega
  have e2 : (q - 1 + y.length).toNat + 1 = (q + y.length).toNat := by omega
  rw [e1, e2, e, h]
theorem back_D {x y : Str} {q : Int} (h0 : q < 0) (h1 : -(x.length : Int) ≤ q) (h2 : -(y.length : Int) ≤ q) (h : Ends x y q) :
    D cc (ls (Txt.slice x none (some q))) (ls (Txt.slice y none (some q))) = D cc (ls x) (ls y) := by
  rw [slice_to_neg h0 h1, slice_to_neg h0 h2]
  have e := D_back cc_nn cc_self ((ls x).drop (q + x.length).toNat) ((ls x).take (q + x.length).toNat) ((ls y).take (q + y.length).toNat)
  rw [List.take_append_drop] at e
  unfold Ends at h
  rw [h, List.take_append_drop] at e
  exact e.symm
theorem len_to_neg {x : Str} {q : Int} (h0 : q < 0) (h1 : -(x.length : Int) ≤ q) : ((Txt.slice x none (some q)).length : Int) = x.length + q := by
  rw [← ls_len, slice_to_neg h0 h1, List.length_take, ls_len]; omega
theorem neg_room {x : Str} {q : Int} (h : ((Txt.slice x none (some q)).length : Int) ≠ 0) (h0 : q ≤ 0) (hne : q ≠ 0) (h1 : -(x.length : Int) ≤ q) : -(x.length : Int) < q := by
  have := len_to_neg (x := x) (q := q) (by omega) h1
  omega
/-- what is asked of the told distance -/
def Told (d M v : Int) : Prop := if d ≤ M then v = d else M < v
theorem told_self {x y : Str} {M : Int} (h : (x == y) = true) (hM : 0 ≤ M) : Told (D cc (ls x) (ls y)) M 0 := by
  have e := beq_iff_eq.mp h
  subst e
  rw [D_self cc_nn cc_self, Told, if_pos hM]
theorem told_eq {d M v : Int} (h : v = d) : Told d M v := by
  unfold Told
  split <;> omega
theorem told_over {d M : Int} (h : M < d) : Told d M (M + 1) := by
  unfold Told
  split <;> omega
theorem empty_l {x y : Str} {d : Int} (h : (x.length : Int) = 0) (e : D cc (ls x) (ls y) = d) : 2 * ((x.length : Int) + y.length) = d := by
  have h2 : ls x = [] := List.length_eq_zero_iff.mp (by rw [ls_len]; omega)
  rw [← e, h2, D_nil_l, ls_len]; omega
theorem empty_r {x y : Str} {d : Int} (h : (y.length : Int) = 0) (e : D cc (ls x) (ls y) = d) : 2 * ((x.length : Int) + y.length) = d := by
  have h2 : ls y = [] := List.length_eq_zero_iff.mp (by rw [ls_len]; omega)
  rw [← e, h2, D_nil_r, ls_len]; omega
theorem far_apart {x y : Str} {d M : Int} (e : D cc (ls y) (ls x) = d) (h : ((y.length : Int) - x.length) * 2 > M) : M < d := by
  have := D_low cc_nn (ls x) (ls y)
  rw [D_symm cc_comm, e, ls_len, ls_len] at this
  omega
end Mine
end

section
namespace Mine
open PySem PySem.W PySem.Calls PyProof.Rows PyProof.V PySem.Spec
/-- a name that holds a list of ints, made anew in each turn of a loop over a range -/
def OutS (nm x : Str) (stored : List Str) (m₀ : Str → Option Value) (R : Nat → List Int) (i : Nat) (m : Str → Option Value) (nx : List (Addr × Obj)) : Prop :=
  ∃ l vs c, nx = [(l, listOf (List.toArray vs) c)] ∧ IntsAre vs (R i) ∧ m nm = some (.ref l) ∧ ∀ z, z ≠ x → z ≠ nm → stored.contains z = false → m z = m₀ z
section
variable {prog : Program} {w : World} {A : Around} {E : Value → Shared → Prop} {s : Shared} {env : Env} {h₀ : Heap} {x : Str} {body : List Stmt} {Q : Flow → Shared → Prop}
set_option maxHeartbeats 3200000 in
theorem outer_ints {r : Addr} {b₀ : Int} {t₀ u₀ v₀ : Tok} {n : Nat} {m₀ : Str → Option Value} {news : List (Addr × Obj)} {l₀ : Addr} {vs₀ : List Value} {n₀ : Nat}
    (nm : Str) (stored : List Str) (R : Nat → List Int)
    (hh : A.handled = none) (hr : IsRange s.heap r 0 b₀ 1 t₀ u₀ v₀) (hsmall : Builtin.Range.small 0 b₀ 1 = true) (hsz : Builtin.Range.rangeSize 0 b₀ 1 = (n : Int))
    (F : Fr h₀ env.locals s.heap m₀) (N : News h₀ env.locals s.heap news) (hl₀ : (l₀, listOf vs₀.toArray n₀) ∈ news) (hm₀ : m₀ nm = some (.ref l₀)) (hi₀ : IntsAre vs₀ (R 0))
    (turn : ∀ (i : Nat) (l : Addr) (vs : List Value) (c : Nat) (t : Tok) (u : Str → Option Value) (h : Heap) (tk : Nat) (own : List (Addr × Obj)), i < n → IntsAre vs (R i) → OwnOff own [l] →
      Fr h₀ env.locals h (fun y => if y = x then some (.int (i : Int) t) else if y = nm then some (.ref l) else if stored.contains y then u y else m₀ y) → News h₀ env.locals h ((l, listOf vs.toArray c) :: own) →
      wpAny (model prog w) A (execs body env) (InvPostG h₀ env.locals (OutS nm x stored m₀ R (i + 1)) own { s with heap := h, toks := tk } Q) E { s with heap := h, toks := tk })
    (done : ∀ (l : Addr) (vs : List Value) (c : Nat) (u : Str → Option Value) (h : Heap) (tk : Nat), IntsAre vs (R n) →
      Fr h₀ env.locals h (fun y => if y = x then u y else if y = nm then some (.ref l) else if stored.contains y then u y else m₀ y) → News h₀ env.locals h [(l, listOf vs.toArray c)] → Q .next { s with heap := h, toks := tk }) :
    wpAny (model prog w) A (pyIter (.ref r)) (fun it s₂ => LoopAtV prog w A h₀ env x body Q E it s₂) E s := by
  refine wpAny_pyIter_range hr hsmall ?_
  have W : Walks prog w A s.heap.objs.size [s.heap.objs.size] [s.heap.objs.size] n (fun i v => i < n ∧ ∃ t, v = .int (0 + i * 1) t)
      (fun i h => IsRangeIter h s.heap.objs.size (0 + (i : Nat) * 1) ((n : Int) - (i : Nat)) 1) := (Walks.range hh _ 0 1 n).bound
  have hn : ∀ p ∈ [(l₀, listOf vs₀.toArray n₀)], p ∈ news := fun p hp => (List.mem_singleton.mp hp) ▸ hl₀
  refine kdr_loop (fun i m nx => OutS nm x stored m₀ R i m nx) W (fun _ h => h) (fun _ h => h) ?_ ?_ ?_ ?_ (by show IsRangeIter _ _ _ _ _; rw [hsz]; simpa using Heap.get?_push_size _ rfl) (F.push _) (fun p hp => ⟨Heap.get?_push_of_some _ (N p (hn p hp)).1, (N p (hn p hp)).2⟩) ⟨l₀, vs₀, n₀, rfl, hi₀, hm₀, fun _ _ _ _ => rfl⟩ ?_ ?_
  · intro i h hi b hb
    rw [List.mem_singleton.mp hb]
    exact ⟨_, hi⟩
  · intro hm
    exact absurd F.ns.lt ((List.mem_singleton.mp hm) ▸ Nat.lt_irrefl _)
  · intro b hb
    rw [List.mem_singleton.mp hb]
    exact next_is_new F
  · intro p hp hI
    exact absurd (Heap.lt_size (N p (hn p hp)).1) ((List.mem_singleton.mp hI) ▸ Nat.lt_irrefl _)
  · rintro i v m₁ nx h tk own hi ⟨_, t, rfl⟩ hoff ⟨l, vs, c, rfl, hI, h1, h2⟩ F₁ N₁
    have e1 : (0 : Int) + (i : Int) * 1 = (i : Int) := by omega
    rw [e1] at F₁
    have F₂ := kst_fr (ps := [(nm, Value.ref l)]) (stored := stored) (m₀ := m₀) (x := x) (fun p hp => by rw [List.mem_singleton.mp hp]; exact h1)
      (fun z hz hp hc => h2 z hz (hp _ (List.mem_singleton.mpr rfl)) hc) F₁
    exact turn i l vs c t m₁ h tk own hi hI hoff F₂ N₁
  · rintro m₁ nx h tk ⟨l, vs, c, rfl, hI, h1, h2⟩ F₁ N₁
    have F₂ := kst_frOut (ps := [(nm, Value.ref l)]) (stored := stored) (m₀ := m₀) (x := x) (fun p hp => by rw [List.mem_singleton.mp hp]; exact h1)
      (fun z hz hp hc => h2 z hz (hp _ (List.mem_singleton.mpr rfl)) hc) F₁
    exact done l vs c m₁ h tk hI F₂ N₁
theorem min3_N {L : Addr} {m : Str → Option Value} {news : List (Addr × Obj)} {a b c : Int} {t u v : Tok} {Q : Value → Shared → Prop} (hh : A.handled = none) (F : Fr h₀ L s.heap m) (N : News h₀ L s.heap news)
    (h : ∀ t' h' tk, Fr h₀ L h' m → News h₀ L h' news → Q (.int (min (min a b) c) t') { s with heap := h', toks := tk }) :
    wpAny (model prog w) A (call (.builtin "min") [.int a t, .int b u, .int c v]) Q E s :=
  min_three_ints hh fun h' tk hk => by
    have := fun t' => h t' h' tk (F.grownK hk) (N.grown hk)
    by_cases c1 : b < a
    · by_cases c2 : c < b
      · have e : min (min a b) c = c := by omega
        rw [if_pos c1, if_pos c2]; rw [e] at this; exact this _
      · have e : min (min a b) c = b := by omega
        rw [if_pos c1, if_neg c2]; rw [e] at this; exact this _
    · by_cases c2 : c < a
      · have e : min (min a b) c = c := by omega
        rw [if_neg c1, if_pos c2]; rw [e] at this; exact this _
      · have e : min (min a b) c = a := by omega
        rw [if_neg c1, if_neg c2]; rw [e] at this; exact this _
theorem min2_N {L : Addr} {m : Str → Option Value} {news : List (Addr × Obj)} {a b : Int} {t u : Tok} {Q : Value → Shared → Prop} (hh : A.handled = none) (F : Fr h₀ L s.heap m) (N : News h₀ L s.heap news)
    (h : ∀ t' h' tk, Fr h₀ L h' m → News h₀ L h' news → Q (.int (min a b) t') { s with heap := h', toks := tk }) :
    wpAny (model prog w) A (call (.builtin "min") [.int a t, .int b u]) Q E s :=
  min_two_N hh F N fun h' tk F' N' => by
    have := fun t' => h t' h' tk F' N'
    by_cases c1 : b < a
    · have e : min a b = b := by omega
      rw [if_pos c1, if_pos c1]; rw [e] at this; exact this _
    · have e : min a b = a := by omega
      rw [if_neg c1, if_neg c1]; rw [e] at this; exact this _
theorem cut_map {g : Heap} {L : Addr} {h : Heap} {m : Str → Option Value} {ps : List (Str × Value)} (F : Fr g L h m) (hk : ∀ p ∈ ps, m p.1 = some p.2) : Fr g L h (kstB m ps) := by
  have e : kstB m ps = m := by
    funext z
    exact kstB_eq hk fun _ => rfl
  rw [e]; exact F
/-- a cut behind a statement: a and b are texts, max_cost an int, nm an int -/
def CutK (nm : Str) (g : Heap) (L : Addr) (s₀ : Shared) (x y : Str) (M : Int) (P : Int → Prop) (s' : Shared) : Prop :=
  ∃ (k : Int) (ta tb tm tn : Tok) (u : Str → Option Value) (h : Heap) (tk : Nat), s' = { s₀ with heap := h, toks := tk } ∧ P k ∧
    Fr g L h (kstB u [(Str.ofString "a", .str x ta), (Str.ofString "b", .str y tb), (Str.ofString "max_cost", .int M tm), (nm, .int k tn)])
theorem cutK {st : Stmt} {rest : List Stmt} (nm : Str) {L : Addr} {m : Str → Option Value} (x y : Str) (M : Int) (P : Int → Prop) (F : Fr h₀ L s.heap m)
    (h1 : wpAny (model prog w) A (exec st env) (fun f s' => match f with | .next => CutK nm h₀ L s x y M P s' | f => Q f s') E s)
    (h2 : ∀ (k : Int) (ta tb tm tn : Tok) (u : Str → Option Value) (h : Heap) (tk : Nat), P k → News h₀ L h [] →
      Fr h₀ L h (kstB u [(Str.ofString "a", .str x ta), (Str.ofString "b", .str y tb), (Str.ofString "max_cost", .int M tm), (nm, .int k tn)]) → wpAny (model prog w) A (execs rest env) Q E { s with heap := h, toks := tk }) :
    wpAny (model prog w) A (execs (st :: rest) env) Q E s := by
  refine wpAny_execs_cons (wpAny_mono h1 (fun f s' p => ?_) fun _ _ e => e)
  cases f with
  | next =>
    obtain ⟨k, ta, tb, tm, tn, u, h, tk, rfl, hp, hF⟩ := p
    exact h2 k ta tb tm tn u h tk hp News.nil hF
  | ret v => exact p
  | brk => exact p
  | cont => exact p
theorem cutK_end {nm : Str} {L : Addr} {s₀ : Shared} {x y : Str} {M k : Int} {P : Int → Prop} {ta tb tm tn : Tok} {m : Str → Option Value} {h : Heap} {tk : Nat}
    (F : Fr h₀ L h m) (ha : m (Str.ofString "a") = some (.str x ta)) (hb : m (Str.ofString "b") = some (.str y tb)) (hm : m (Str.ofString "max_cost") = some (.int M tm)) (hn : m nm = some (.int k tn)) (hp : P k) :
    CutK nm h₀ L s₀ x y M P { s₀ with heap := h, toks := tk } :=
  ⟨k, ta, tb, tm, tn, m, h, tk, rfl, hp, cut_map F (List.forall_mem_cons.mpr ⟨ha, List.forall_mem_cons.mpr ⟨hb, List.forall_mem_cons.mpr ⟨hm, List.forall_mem_cons.mpr ⟨hn, List.forall_mem_nil _⟩⟩⟩⟩)⟩
theorem cutK_end2 {nm : Str} {L : Addr} {s₀ : Shared} {x x' y : Str} {M k : Int} {P : Int → Prop} {ta tb tm tn : Tok} {m : Str → Option Value} {h : Heap} {tk : Nat}
    (F : Fr h₀ L h m) (ha : m (Str.ofString "a") = some (.str x' ta)) (hb : m (Str.ofString "b") = some (.str y tb)) (hm : m (Str.ofString "max_cost") = some (.int M tm)) (hn : m nm = some (.int k tn)) (he : x' = x) (hp : P k) :
    CutK nm h₀ L s₀ x y M P { s₀ with heap := h, toks := tk } := cutK_end F (he ▸ ha) hb hm hn hp
/-- the same, of the two texts alone -/
def CutN (g : Heap) (L : Addr) (s₀ : Shared) (M : Int) (P : Str → Str → Prop) (s' : Shared) : Prop :=
  ∃ (x y : Str) (ta tb tm : Tok) (u : Str → Option Value) (h : Heap) (tk : Nat), s' = { s₀ with heap := h, toks := tk } ∧ P x y ∧
    Fr g L h (kstB u [(Str.ofString "a", .str x ta), (Str.ofString "b", .str y tb), (Str.ofString "max_cost", .int M tm)])
theorem cutN {st : Stmt} {rest : List Stmt} {L : Addr} {m : Str → Option Value} (M : Int) (P : Str → Str → Prop) (F : Fr h₀ L s.heap m)
    (h1 : wpAny (model prog w) A (exec st env) (fun f s' => match f with | .next => CutN h₀ L s M P s' | f => Q f s') E s)
    (h2 : ∀ (x y : Str) (ta tb tm : Tok) (u : Str → Option Value) (h : Heap) (tk : Nat), P x y → News h₀ L h [] →
      Fr h₀ L h (kstB u [(Str.ofString "a", .str x ta), (Str.ofString "b", .str y tb), (Str.ofString "max_cost", .int M tm)]) → wpAny (model prog w) A (execs rest env) Q E { s with heap := h, toks := tk }) :
    wpAny (model prog w) A (execs (st :: rest) env) Q E s := by
  refine wpAny_execs_cons (wpAny_mono h1 (fun f s' p => ?_) fun _ _ e => e)
  cases f with
  | next =>
    obtain ⟨x, y, ta, tb, tm, u, h, tk, rfl, hp, hF⟩ := p
    exact h2 x y ta tb tm u h tk hp News.nil hF
  | ret v => exact p
  | brk => exact p
  | cont => exact p
theorem cutN_end {L : Addr} {s₀ : Shared} {x y : Str} {M : Int} {P : Str → Str → Prop} {ta tb tm : Tok} {m : Str → Option Value} {h : Heap} {tk : Nat}
    (F : Fr h₀ L h m) (ha : m (Str.ofString "a") = some (.str x ta)) (hb : m (Str.ofString "b") = some (.str y tb)) (hm : m (Str.ofString "max_cost") = some (.int M tm)) (hp : P x y) :
    CutN h₀ L s₀ M P { s₀ with heap := h, toks := tk } :=
  ⟨x, y, ta, tb, tm, m, h, tk, rfl, hp, cut_map F (List.forall_mem_cons.mpr ⟨ha, List.forall_mem_cons.mpr ⟨hb, List.forall_mem_cons.mpr ⟨hm, List.forall_mem_nil _⟩⟩⟩)⟩
theorem slice_none {L : Addr} {m : Str → Option Value} {news : List (Addr × Obj)} {value slice : PySem.Expr} {x : Str} {t : Tok} {Q : Value → Shared → Prop} (hF : Fr h₀ L s.heap m) (hN : News h₀ L s.heap news) (hsz : x.length ≤ 40)
    (h : ∀ h' t' k, Fr h₀ L h' m → News h₀ L h' news → Q (.str x t') { s with heap := h', toks := k })
    (hs : subscripted slice false (.str x t) (.ref s.heap.objs.size) = operate [.ref s.heap.objs.size, .str x t] (getItem (.str x t) (.ref s.heap.objs.size)) := by with_unfolding_all rfl)
    (ht : ∀ r, letTemporaryGo value (.str x t) r = pure () := by intro _; with_unfolding_all rfl) :
    wpAny (model prog w) A (subscriptTail value slice (.str x t) (.ref s.heap.objs.size)) Q E { s with heap := s.heap.push { cls := .type "slice", data := .fields #[.none, .none, .none] } } :=
  slice_strN_nn hF hN (fun h' t' k a b => by rw [slice_all]; exact h h' t' k a b) hs ht (Nat.le_trans hsz (by decide))
theorem ints_of_get : ∀ (vs : List Value) (ns : List Int), vs.length = ns.length → (∀ (j : Nat) (v : Value), vs[j]? = some v → ∃ t, v = .int (ns.getD j 0) t) → IntsAre vs ns
  | [], [], _, _ => IntsAre.nil
  | [], _ :: _, e, _ => by simp at e
  | _ :: _, [], e, _ => by simp at e
  | v :: r, n :: ns, e, h => by
    obtain ⟨t, ht⟩ := h 0 v rfl
    have hv : v = .int n t := by rw [ht]; rfl
    subst hv
    exact IntsAre.cons _ _ (ints_of_get r ns (by simpa using e) fun j v hj => h (j + 1) v hj)
theorem small_twos : ∀ n : Nat, n < 41 → Builtin.Range.small 2 (2 * ((n : Int) + 1)) 2 = true := by decide +kernel
theorem twos_get {n j : Nat} (h : j < n) : ((List.range n).map fun (j : Nat) => 2 * ((j : Int) + 1)).getD j 0 = 2 + (j : Int) * 2 := by
  rw [List.getD_eq_getElem?_getD, List.getElem?_map, List.getElem?_range h, Option.map_some, Option.getD_some]
  omega
/-- the list of the first n even numbers behind nought -/
theorem list_twos {r L : Addr} {m : Str → Option Value} {news : List (Addr × Obj)} {n : Nat} {t₀ u₀ v₀ : Tok} {Q : Value → Shared → Prop} (hh : A.handled = none) (F : Fr h₀ L s.heap m) (N : News h₀ L s.heap news)
    (hr : IsRange s.heap r 2 (2 * ((n : Int) + 1)) 2 t₀ u₀ v₀) (h1 : 1 ≤ n) (h40 : n ≤ 40)
    (h : ∀ D us c h' tk, Fr h₀ L h' m → News h₀ L h' ((D, listOf (List.toArray us) c) :: news) → (∀ p ∈ news, p.1 < D) → IntsAre us ((List.range n).map fun (j : Nat) => 2 * ((j : Int) + 1)) → Q (.ref D) { s with heap := h', toks := tk }) :
    wpAny (model prog w) A (call (.type "list") [.ref r]) Q E s := by
  have hn : Builtin.Range.rangeSize 2 (2 * ((n : Int) + 1)) 2 = (n : Int) := by
    unfold Builtin.Range.rangeSize
    rw [if_pos (by decide), if_pos (by omega)]
    omega
  have hs : Builtin.Range.small 2 (2 * ((n : Int) + 1)) 2 = true := small_twos n (by omega)
  refine call_list_range hh hr hs hn (by omega) fun h' tk acc c hk hD hI => ?_
  have hD' : h'.get? s.heap.objs.size = some (listOf (List.toArray acc.toList) c) := by
    rw [Array.toArray_toList]
    exact hD
  refine h _ acc.toList c h' tk (F.keeps hk) (news_pushed F N hk hD' rfl) (fun p hp => Heap.lt_size (N p hp).1) (ints_of_get _ _ (by rw [Array.length_toList, hI.1]; simp) fun j v hj => ?_)
  have hj' : acc[j]? = some v := by rw [← hj, Array.getElem?_toList]
  obtain ⟨t, ht⟩ := hI.2 j v hj'
  have hlt : j < n := by
    have := (Array.getElem?_eq_some_iff.mp hj').1
    rw [hI.1] at this; exact this
  exact ⟨t, by rw [twos_get hlt]; exact ht⟩
section
variable {x : Str} {t : Tok} {k : Int} {Q : Bool → Shared → Prop}
theorem truthy_plain (hx : x.length ≤ 40) (ht : 0 < x.length → Q true { s with toks := s.toks + 1 + 1 }) (hf : x.length = 0 → Q false { s with toks := s.toks + 1 + 1 }) : wpAny (model prog w) A (truthy (.str x t)) Q E s := by
  refine SBL.truthy (by omega) ?_
  by_cases h : x.length = 0
  · have e : (((x.length : Nat) : Int) != 0) = false := by simp [h]
    rw [e]; exact hf h
  · have e : (((x.length : Nat) : Int) != 0) = true := by simp; omega
    rw [e]; exact ht (by omega)
theorem truthy_from (h0 : 0 ≤ k) (h1 : k ≤ x.length) (hx : x.length ≤ 40) (ht : k < x.length → Q true { s with toks := s.toks + 1 + 1 }) (hf : k = x.length → Q false { s with toks := s.toks + 1 + 1 }) : wpAny (model prog w) A (truthy (.str (Txt.slice x (some k) none) t)) Q E s := by
  have e := len_of_drop h0 h1
  exact truthy_plain (by omega) (fun h => ht (by omega)) fun h => hf (by omega)
theorem truthy_to (h0 : k < 0) (h1 : -(x.length : Int) ≤ k) (hx : x.length ≤ 40) (ht : -(x.length : Int) < k → Q true { s with toks := s.toks + 1 + 1 }) (hf : k = -(x.length : Int) → Q false { s with toks := s.toks + 1 + 1 }) : wpAny (model prog w) A (truthy (.str (Txt.slice x none (some k)) t)) Q E s := by
  have e := len_to_neg h0 h1
  exact truthy_plain (by omega) (fun h => ht (by omega)) fun h => hf (by omega)
theorem split_texts {a b : Str} {P R : Prop} (h1 : a = b → P) (h2 : a ≠ b → R) : if (a == b) = true then P else R := by
  by_cases h : a = b
  · rw [if_pos (beq_iff_eq.mpr h)]; exact h1 h
  · rw [if_neg (fun c => h (beq_iff_eq.mp c))]; exact h2 h
theorem ite_ne {a b : Int} {P R : Prop} (h : a ≠ b) (hp : P) : if (a != b) = true then P else R := by rw [if_pos (bne_iff_ne.mpr h)]; exact hp
theorem ite_eq {a b : Int} {P R : Prop} (h : a = b) (hp : R) : if (a != b) = true then P else R := by rw [if_neg (fun c => bne_iff_ne.mp c h)]; exact hp
end
theorem outer_end {nm x : Str} {stored : List Str} {m₀ : Str → Option Value} {R : Nat → List Int} {i : Nat} {L : Addr} {m' : Str → Option Value} {own news' : List (Addr × Obj)} {s₁ : Shared} {h' : Heap} {tk : Nat} {l : Addr} {vs : List Value} {c : Nat}
    (F : Fr h₀ L h' m') (N : News h₀ L h' news') (hl : (l, listOf vs.toArray c) ∈ news') (ho : ∀ p ∈ own, p ∈ news') (ha : ∀ p ∈ own, p.1 ≠ l) (hI : IntsAre vs (R i)) (hm : m' nm = some (.ref l))
    (hr : ∀ z, z ≠ x → z ≠ nm → stored.contains z = false → m' z = m₀ z) :
    InvEndG h₀ L (OutS nm x stored m₀ R i) own s₁ { s₁ with heap := h', toks := tk } :=
  ⟨h', tk, m', news', [(l, listOf vs.toArray c)], rfl, F, N, fun p hp => (List.mem_singleton.mp hp) ▸ hl, ho, fun p hp b hb => by
    simp only [List.map_cons, List.map_nil, List.mem_singleton] at hb
    rw [hb]; exact ha p hp, l, vs, c, rfl, hI, hm, hr⟩
end
end Mine
end

section
namespace Mine
open PySem PySem.W PyProof.Rows PySem.Calls
theorem sc_nn (x y : Str) (i k : Nat) : 0 ≤ sc x y i k := by
  unfold sc scost
  split
  · omega
  · split <;> omega
theorem sc_le (x y : Str) (i k : Nat) : sc x y i k ≤ 2 := by
  unfold sc scost
  split
  · omega
  · split <;> omega
abbrev PreP (x y : Str) (k : Int) : Prop := 0 ≤ k ∧ k ≤ x.length ∧ k ≤ y.length ∧ (ls x).take k.toNat = (ls y).take k.toNat
abbrev PostP (x y : Str) (k : Int) : Prop := k ≤ 0 ∧ -(x.length : Int) ≤ k ∧ -(y.length : Int) ≤ k ∧ Ends x y k
def TwoP (d : Int) (x y : Str) : Prop := x.length ≤ 40 ∧ y.length ≤ 40 ∧ D cc (ls x) (ls y) = d
def OrdP (d : Int) (x y : Str) : Prop := 1 ≤ x.length ∧ x.length ≤ y.length ∧ y.length ≤ 40 ∧ D cc (ls y) (ls x) = d
theorem two_front {x y : Str} {p M : Int} (h0 : 0 ≤ p) (h1 : p ≤ x.length) (h2 : p ≤ y.length) (h : (ls x).take p.toNat = (ls y).take p.toNat) (hh : x.length ≤ 40 ∧ y.length ≤ 40 ∧ 0 ≤ M) :
    TwoP (D cc (ls x) (ls y)) (Txt.slice x (some p) none) (Txt.slice y (some p) none) :=
  ⟨by have := len_of_drop h0 h1; omega, by have := len_of_drop h0 h2; omega, front_D h0 h1 h2 h⟩
def cutTo (x : Str) (q : Int) : Str := if q = 0 then x else Txt.slice x none (some q)
theorem cutTo_zero {x : Str} {q : Int} (h : q = 0) : x = cutTo x q := by rw [cutTo, if_pos h]
theorem cutTo_neg {x : Str} {q : Int} (h : q ≠ 0) : Txt.slice x none (some q) = cutTo x q := by rw [cutTo, if_neg h]
theorem two_cut {x y : Str} {q d : Int} (h0 : q ≤ 0) (h1 : -(x.length : Int) ≤ q) (h2 : -(y.length : Int) ≤ q) (h : Ends x y q) (hx : x.length ≤ 40) (hy : y.length ≤ 40) (e : D cc (ls x) (ls y) = d) : TwoP d (cutTo x q) (cutTo y q) := by
  by_cases hq : q = 0
  · rw [← cutTo_zero hq, ← cutTo_zero hq]; exact ⟨hx, hy, e⟩
  · rw [← cutTo_neg hq, ← cutTo_neg hq]
    exact ⟨by have := len_to_neg (x := x) (q := q) (by omega) h1; omega, by have := len_to_neg (x := y) (q := q) (by omega) h2; omega, (back_D (by omega) h1 h2 h).trans e⟩
theorem two_cut0 {x y : Str} {q d : Int} (h0 : q ≤ 0) (h1 : -(x.length : Int) ≤ q) (h2 : -(y.length : Int) ≤ q) (h : Ends x y q) (hx : x.length ≤ 40) (hy : y.length ≤ 40) (e : D cc (ls x) (ls y) = d) (hq : q = 0) : TwoP d (cutTo x q) y := by
  have := two_cut h0 h1 h2 h hx hy e
  rwa [← cutTo_zero (x := y) hq] at this
theorem two_cut1 {x y : Str} {q d : Int} (h0 : q ≤ 0) (h1 : -(x.length : Int) ≤ q) (h2 : -(y.length : Int) ≤ q) (h : Ends x y q) (hx : x.length ≤ 40) (hy : y.length ≤ 40) (e : D cc (ls x) (ls y) = d) (hq : q ≠ 0) : TwoP d (cutTo x q) (Txt.slice y none (some q)) := by
  have := two_cut h0 h1 h2 h hx hy e
  rwa [← cutTo_neg (x := y) hq] at this
theorem ord_swap {x y : Str} {d : Int} (hy : 0 < y.length) (h : (y.length : Int) < x.length) (hx : x.length ≤ 40) (e : D cc (ls x) (ls y) = d) : OrdP d y x := ⟨hy, by omega, hx, e⟩
theorem ord_stay {x y : Str} {d : Int} (hx : 0 < x.length) (h : ¬ (y.length : Int) < x.length) (hy : y.length ≤ 40) (e : D cc (ls x) (ls y) = d) : OrdP d x y := ⟨hx, by omega, hy, (D_symm cc_comm _ _).trans e⟩
/-- a row under way: k places of the next one, the rest of this one -/
noncomputable def rowM (x y : Str) (n i k : Nat) : List Int := (List.range n).map fun j => if j < k then T (sc x y) (i + 1) (j + 1) else T (sc x y) i (j + 1)
/-- the names of the inner loop -/
def InnF (x y : Str) (i k : Nat) (dist res mn : Int) : Prop := dist = T (sc x y) i k ∧ (res = if k = 0 then 2 * (i : Int) else T (sc x y) (i + 1) k) ∧ ∀ j, 1 ≤ j → j ≤ k → mn ≤ T (sc x y) (i + 1) j
def OutF (x y : Str) (i : Nat) (res : Int) : Prop := i = 0 ∨ res = T (sc x y) i y.length
theorem rowM_len (x y : Str) (n i k : Nat) : (rowM x y n i k).length = n := by simp [rowM]
theorem rowM_get {x y : Str} {n i k j : Nat} (h : j < n) : (rowM x y n i k).getD j 0 = if j < k then T (sc x y) (i + 1) (j + 1) else T (sc x y) i (j + 1) := by
  rw [rowM, List.getD_eq_getElem?_getD, List.getElem?_map, List.getElem?_range h, Option.map_some, Option.getD_some]
theorem rowM_set {x y : Str} {n i k : Nat} : (rowM x y n i k).set k (T (sc x y) (i + 1) (k + 1)) = rowM x y n i (k + 1) := by
  refine List.ext_getElem (by simp [rowM]) fun j h1 h2 => ?_
  rw [List.getElem_set]
  simp only [rowM, List.getElem_map, List.getElem_range]
  by_cases h : k = j
  · subst h
    rw [if_pos rfl, if_pos (by omega)]
  · rw [if_neg h]
    by_cases h3 : j < k
    · rw [if_pos h3, if_pos (by omega)]
    · rw [if_neg h3, if_neg (by omega)]
theorem rowM_next {x y : Str} {n i : Nat} : rowM x y n i n = rowM x y n (i + 1) 0 := by
  unfold rowM
  refine List.map_congr_left fun j hj => ?_
  rw [if_pos (List.mem_range.mp hj), if_neg (by omega)]
theorem inn_next {x y : Str} {i k : Nat} {dist res mn r : Int} (h : InnF x y i k dist res mn) (hr : r = T (sc x y) i (k + 1)) : min (min res r + 2) (dist + sc x y i k) = T (sc x y) (i + 1) (k + 1) := by
  obtain ⟨h1, h2, _⟩ := h
  have hc := sc_le x y i k
  rw [T_ss, h1, hr]
  cases k with
  | zero =>
    rw [if_pos rfl] at h2
    rw [T_iz, T_sz, h2]
    omega
  | succ k =>
    rw [if_neg (by omega)] at h2
    rw [h2]
    omega
section
variable {x y : Str} {pre₀ pre row : List Int} {kN₀ kN dist res mn : Int}
theorem out_start (x y : Str) : List.map (fun (j : Nat) => 2 * ((j : Int) + 1)) (List.range y.length) = rowM x y y.length ([] : List Int).length 0 ∧ (List.map (fun (j : Nat) => 2 * ((j : Int) + 1)) (List.range y.length)).length = y.length ∧ OutF x y ([] : List Int).length 0 := by
  refine ⟨?_, by simp, .inl rfl⟩
  unfold rowM
  refine List.map_congr_left fun j _ => ?_
  rw [if_neg (by omega), List.length_nil, T_z]
  omega
theorem inn_start (e : row = rowM x y y.length pre₀.length 0) (hk : kN₀ = 0 + (pre₀.length : Int)) :
    row = rowM x y y.length pre₀.length ([] : List Int).length ∧ row.length = y.length ∧ InnF x y pre₀.length ([] : List Int).length (kN₀ * 2) (kN₀ * 2) 9223372036854775807 := by
  refine ⟨e, by rw [e, rowM_len], ?_, ?_, ?_⟩
  · rw [List.length_nil, T_iz]; omega
  · rw [List.length_nil, if_pos rfl]; omega
  · intro j h1 h2
    rw [List.length_nil] at h2
    omega
theorem inn_step (e : row = rowM x y y.length pre₀.length pre.length) (h : InnF x y pre₀.length pre.length dist res mn) (hk₀ : kN₀ = 0 + (pre₀.length : Int)) (hk : kN = 0 + (pre.length : Int)) (hlt : pre.length < ((y.length : Int) - 0).toNat) :
    row.set kN.toNat (min (min res (row.getD kN.toNat 0) + 2) (dist + scost (Txt.item x kN₀) (Txt.item y kN))) = rowM x y y.length pre₀.length (pre ++ [kN]).length ∧
      (row.set kN.toNat (min (min res (row.getD kN.toNat 0) + 2) (dist + scost (Txt.item x kN₀) (Txt.item y kN)))).length = y.length ∧
      row.getD kN.toNat 0 = T (sc x y) pre₀.length (pre.length + 1) ∧
      min (min res (row.getD kN.toNat 0) + 2) (dist + scost (Txt.item x kN₀) (Txt.item y kN)) = T (sc x y) (pre₀.length + 1) (pre.length + 1) := by
  have e1 : kN.toNat = pre.length := by omega
  have e2 : kN = ((pre.length : Nat) : Int) := by omega
  have e3 : kN₀ = ((pre₀.length : Nat) : Int) := by omega
  have hl : pre.length < y.length := by omega
  have hg : row.getD kN.toNat 0 = T (sc x y) pre₀.length (pre.length + 1) := by
    rw [e1, e, rowM_get hl, if_neg (by omega)]
  have hs : scost (Txt.item x kN₀) (Txt.item y kN) = sc x y pre₀.length pre.length := by rw [e2, e3]; rfl
  have hv : min (min res (row.getD kN.toNat 0) + 2) (dist + scost (Txt.item x kN₀) (Txt.item y kN)) = T (sc x y) (pre₀.length + 1) (pre.length + 1) := by
    rw [hs]; exact inn_next h hg
  refine ⟨?_, ?_, hg, hv⟩
  · rw [hv, e1, e, rowM_set]
    simp
  · rw [List.length_set, e, rowM_len]
theorem inn_less (e : row = rowM x y y.length pre₀.length pre.length) (h : InnF x y pre₀.length pre.length dist res mn) (hk₀ : kN₀ = 0 + (pre₀.length : Int)) (hk : kN = 0 + (pre.length : Int)) (hlt : pre.length < ((y.length : Int) - 0).toNat)
    (hm : min (min res (row.getD kN.toNat 0) + 2) (dist + scost (Txt.item x kN₀) (Txt.item y kN)) < mn) :
    row.set kN.toNat (min (min res (row.getD kN.toNat 0) + 2) (dist + scost (Txt.item x kN₀) (Txt.item y kN))) = rowM x y y.length pre₀.length (pre ++ [kN]).length ∧
      (row.set kN.toNat (min (min res (row.getD kN.toNat 0) + 2) (dist + scost (Txt.item x kN₀) (Txt.item y kN)))).length = y.length ∧
      InnF x y pre₀.length (pre ++ [kN]).length (row.getD kN.toNat 0) (min (min res (row.getD kN.toNat 0) + 2) (dist + scost (Txt.item x kN₀) (Txt.item y kN))) (min (min res (row.getD kN.toNat 0) + 2) (dist + scost (Txt.item x kN₀) (Txt.item y kN))) := by
  obtain ⟨h1, h2, h3, h4⟩ := inn_step e h hk₀ hk hlt
  refine ⟨h1, h2, ?_⟩
  have el : (pre ++ [kN]).length = pre.length + 1 := by simp
  rw [h4] at hm
  rw [h4, h3, el]
  refine ⟨rfl, by rw [if_neg (by omega)], fun j j1 j2 => ?_⟩
  by_cases hj : j = pre.length + 1
  · rw [hj]; exact Int.le_refl _
  · have := h.2.2 j j1 (by omega)
    omega
theorem inn_same (e : row = rowM x y y.length pre₀.length pre.length) (h : InnF x y pre₀.length pre.length dist res mn) (hk₀ : kN₀ = 0 + (pre₀.length : Int)) (hk : kN = 0 + (pre.length : Int)) (hlt : pre.length < ((y.length : Int) - 0).toNat)
    (hm : ¬ min (min res (row.getD kN.toNat 0) + 2) (dist + scost (Txt.item x kN₀) (Txt.item y kN)) < mn) :
    row.set kN.toNat (min (min res (row.getD kN.toNat 0) + 2) (dist + scost (Txt.item x kN₀) (Txt.item y kN))) = rowM x y y.length pre₀.length (pre ++ [kN]).length ∧
      (row.set kN.toNat (min (min res (row.getD kN.toNat 0) + 2) (dist + scost (Txt.item x kN₀) (Txt.item y kN)))).length = y.length ∧
      InnF x y pre₀.length (pre ++ [kN]).length (row.getD kN.toNat 0) (min (min res (row.getD kN.toNat 0) + 2) (dist + scost (Txt.item x kN₀) (Txt.item y kN))) mn := by
  obtain ⟨h1, h2, h3, h4⟩ := inn_step e h hk₀ hk hlt
  refine ⟨h1, h2, ?_⟩
  have el : (pre ++ [kN]).length = pre.length + 1 := by simp
  rw [h4] at hm
  rw [h4, h3, el]
  refine ⟨rfl, by rw [if_neg (by omega)], fun j j1 j2 => ?_⟩
  by_cases hj : j = pre.length + 1
  · rw [hj]; omega
  · exact h.2.2 j j1 (by omega)
theorem full_len (y : Str) : (rangeKs 0 ((y.length : Int) - 0).toNat).length = y.length := by rw [rangeKs_length]; omega
theorem out_step (e : row = rowM x y y.length pre₀.length (rangeKs 0 ((y.length : Int) - 0).toNat).length) (h : InnF x y pre₀.length (rangeKs 0 ((y.length : Int) - 0).toNat).length dist res mn) (hy : 1 ≤ y.length) :
    row = rowM x y y.length (pre₀ ++ [kN₀]).length 0 ∧ row.length = y.length ∧ OutF x y (pre₀ ++ [kN₀]).length res := by
  rw [full_len] at e h
  have el : (pre₀ ++ [kN₀]).length = pre₀.length + 1 := by simp
  rw [el]
  refine ⟨by rw [e, rowM_next], by rw [e, rowM_len], .inr ?_⟩
  rw [h.2.1, if_neg (by omega)]
/-- the ends -/
theorem told_exit {d M : Int} (e : D cc (ls x) (ls y) = d) (h : InnF x y pre₀.length (rangeKs 0 ((y.length : Int) - 0).toNat).length dist res mn) (hy : 1 ≤ y.length) (hlt : pre₀.length < ((x.length : Int) - 0).toNat) (hm : M < mn) : Told d M (M + 1) := by
  rw [full_len] at h
  refine told_over ?_
  rw [← e, ← sc_D]
  refine T_exit (fun a b => sc_nn x y a b) (fun a b => sc_le x y a b) (i := pre₀.length) hy (fun k k1 k2 => ?_) x.length (by omega)
  have := h.2.2 k k1 k2
  omega
theorem told_last {d M : Int} (e : D cc (ls x) (ls y) = d) (h : OutF x y (rangeKs 0 ((x.length : Int) - 0).toNat).length res) (hy : 1 ≤ y.length) (hxy : y.length ≤ x.length) : Told d M res := by
  rw [full_len] at h
  refine told_eq ?_
  rcases h with h | h
  · omega
  · rw [h, sc_D, e]
theorem told_far {d M : Int} (e : D cc (ls x) (ls y) = d) (h : M < ((x.length : Int) - y.length) * 2) : Told d M (M + 1) := told_over (far_apart e h)
theorem told_l {d M : Int} (h : x.length = 0) (e : D cc (ls x) (ls y) = d) : Told d M (2 * ((x.length : Int) + y.length)) := told_eq (empty_l (by omega) e)
theorem told_r {d M : Int} (h : y.length = 0) (e : D cc (ls x) (ls y) = d) : Told d M (2 * ((x.length : Int) + y.length)) := told_eq (empty_r (by omega) e)
theorem told_self' {M : Int} (h : (x == y) = true) (hM : x.length ≤ 40 ∧ y.length ≤ 40 ∧ 0 ≤ M) : Told (D cc (ls x) (ls y)) M 0 := told_self h hM.2.2
end
end Mine
end

section
namespace Mine
open PySem PySem.W PySem.Calls PyProof.Rows
theorem ints_some : ∀ {us : List Value}, (∀ v ∈ us, ∃ k t, v = .int k t) → ∃ ms, IntsAre us ms
  | [], _ => ⟨[], IntsAre.nil⟩
  | v :: r, h => by
    obtain ⟨k, t, e⟩ := h v (.head _)
    obtain ⟨ms, hm⟩ := ints_some (us := r) fun v hv => h v (.tail _ hv)
    subst e
    exact ⟨k :: ms, IntsAre.cons _ _ hm⟩
theorem ints_mem : ∀ {us : List Value} {ns : List Int}, IntsAre us ns → ∀ v ∈ us, ∃ k t, v = .int k t
  | _, _, .nil, _, hv => nomatch hv
  | _, _, .cons n t r, v, hv => by
    rcases List.mem_cons.mp hv with rfl | hv
    · exact ⟨_, _, rfl⟩
    · exact ints_mem r v hv
/-- the ints of a cut with steps -/
theorem pick_ints {vs : List Value} {ns : List Int} (h : IntsAre vs ns) (lo hi st : Option Int) : ∃ ms, IntsAre (slicePick vs.toArray lo hi st).toList ms := by
  refine ints_some fun v hv => ?_
  unfold slicePick at hv
  simp only [List.mem_filterMap] at hv
  obtain ⟨i, _, hi⟩ := hv
  exact ints_mem h v (by
    have := List.mem_of_getElem? (l := vs) (i := i) (a := v) (by simpa using hi)
    exact this)
theorem pick_len1 : ∀ n : Nat, n < 64 → (sliceRange (sliceBounds (some 1) none (some 2) n).1 (sliceBounds (some 1) none (some 2) n).2.1 (sliceBounds (some 1) none (some 2) n).2.2).length ≤ 64 := by decide +kernel
theorem pick_len2 : ∀ n : Nat, n < 64 → (sliceRange (sliceBounds (some 2) none (some 2) n).1 (sliceBounds (some 2) none (some 2) n).2.1 (sliceBounds (some 2) none (some 2) n).2.2).length ≤ 64 := by decide +kernel
theorem pick_size {vs : List Value} {ns : List Int} (h : IntsAre vs ns) (hn : ¬ (63 : Int) < (ns.length : Int)) {j : Int} (hj : j = 1 ∨ j = 2) : (slicePick vs.toArray (some j) none (some 2)).size ≤ 64 := by
  unfold slicePick
  rw [List.size_toArray]
  have e : vs.toArray.size = ns.length := by rw [List.size_toArray]; exact h.length
  rw [e]
  refine Nat.le_trans (List.length_filterMap_le _ _) ?_
  rcases hj with rfl | rfl
  · exact pick_len1 ns.length (by omega)
  · exact pick_len2 ns.length (by omega)
theorem idx40 (n : Nat) : (Builtin.Str.strSliceIndices none (some 40) 1 n).length ≤ 40 := by
  unfold Builtin.Str.strSliceIndices sliceRange
  simp only [show (1 : Int) > 0 by decide, if_true, List.length_map, List.length_range, show ¬ ((40 : Int) < 0) by decide, if_false]
  split <;> (try simp only [Int.ediv_one]) <;> omega
theorem slice40 (x : Str) : (Txt.slice x none (some 40)).length ≤ 40 := by
  unfold Txt.slice
  split
  · rename_i h
    simp only [BEq.rfl, Bool.true_and, beq_iff_eq] at h
    rw [← h]; exact idx40 _
  · show (List.filterMap _ (Builtin.Str.strSliceIndices none (some 40) 1 x.length)).toArray.size ≤ 40
    rw [List.size_toArray]
    exact Nat.le_trans (List.length_filterMap_le _ _) (idx40 _)
def sign (k : Int) : Str := Txt.item (Str.ofString "abAB_") (Int.fmod k 5)
section
variable {prog : Program} {w : World} {A : Around} {E : Value → Shared → Prop} {s : Shared} {env : Env} {h₀ : Heap} {Q : Flow → Shared → Prop}
/-- a cut behind a statement -/
def CutG {σ : Type} (ps : σ → List (Str × Value)) (P : σ → Prop) (m₀ : Str → Option Value) (g : Heap) (L : Addr) (s₀ s' : Shared) : Prop :=
  ∃ (c : σ) (h : Heap) (tk : Nat), s' = { s₀ with heap := h, toks := tk } ∧ P c ∧ Fr g L h (kstB m₀ (ps c))
theorem cutG {σ : Type} {st : Stmt} {rest : List Stmt} {L : Addr} {m₀ : Str → Option Value} (ps : σ → List (Str × Value)) (P : σ → Prop) (F : Fr h₀ L s.heap m₀)
    (h1 : wpAny (model prog w) A (exec st env) (fun f s' => match f with | .next => CutG ps P m₀ h₀ L s s' | f => Q f s') E s)
    (h2 : ∀ (c : σ) (h : Heap) (tk : Nat), P c → News h₀ L h [] → Fr h₀ L h (kstB m₀ (ps c)) → wpAny (model prog w) A (execs rest env) Q E { s with heap := h, toks := tk }) :
    wpAny (model prog w) A (execs (st :: rest) env) Q E s := by
  have _ := F
  refine wpAny_execs_cons (wpAny_mono h1 (fun f s' p => ?_) fun _ _ e => e)
  cases f with
  | next =>
    obtain ⟨c, h, tk, rfl, hp, hF⟩ := p
    exact h2 c h tk hp News.nil hF
  | ret v => exact p
  | brk => exact p
  | cont => exact p
theorem cutG_end {σ : Type} {L : Addr} {s₀ : Shared} {ps : σ → List (Str × Value)} {P : σ → Prop} {m₀ m : Str → Option Value} {h : Heap} {tk : Nat} (c : σ)
    (F : Fr h₀ L h m) (hk : ∀ p ∈ ps c, m p.1 = some p.2) (hr : ∀ z, (∀ p ∈ ps c, z ≠ p.1) → m z = m₀ z) (hp : P c) : CutG ps P m₀ h₀ L s₀ { s₀ with heap := h, toks := tk } := by
  refine ⟨c, h, tk, rfl, hp, ?_⟩
  have e : kstB m₀ (ps c) = m := by
    funext z
    exact kstB_eq hk fun hn => (hr z hn).symm
  rw [e]; exact F
end
/-- two ints of one distance -/
theorem law_says {x y : Str} {M due told : Int} (hd : due = D cc (ls x) (ls y)) (ht : Told (D cc (ls x) (ls y)) M told) : (due ≤ M → told = due) ∧ (¬ due ≤ M → M < told) := by
  rw [hd]
  unfold Told at ht
  refine ⟨fun h => ?_, fun h => ?_⟩
  · rw [if_pos h] at ht; exact ht
  · rw [if_neg h] at ht; exact ht
end Mine
end

section
open PySem PySem.W PyProof.Rows PySem.Calls
namespace Mine
set_option maxRecDepth 100000 in
set_option maxHeartbeats 8000000 in
theorem cost21 {w : World} {mean : ExcName → Option Value} {mg mb : Str → Option Value} {news : List (Addr × Obj)} {x y : Str} {t u : Tok} :
    Claim 1 8 w mean mg mb 21 news (x.length = 1 ∧ y.length = 1) [.str x t, .str y u] (fun t => .int (scost x y) t) := by
  k_with_none
  k_with "tree" => simp only [scost]
  w_on; unfold Claim; k_fill
  intros
  rename_i hret
  refine wpAny_call ?_
  k_dflt cell_enter
  k_steps
  all_goals cb_end hret
set_option maxRecDepth 100000 in
set_option maxHeartbeats 8000000 in
theorem cost35 {w : World} {mean : ExcName → Option Value} {mg mb : Str → Option Value} {news : List (Addr × Obj)} {x y : Str} {t u : Tok} :
    Claim 1 8 w mean mg mb 35 news (x.length = 1 ∧ y.length = 1) [.str x t, .str y u] (fun t => .int (scost x y) t) := by
  k_with_none
  k_with "tree" => simp only [scost]
  w_on; unfold Claim; k_fill
  intros
  rename_i hret
  refine wpAny_call ?_
  k_dflt cell_enter
  k_steps
  all_goals cb_end hret
end Mine
end

section
open PySem PySem.W PyProof.Rows PySem.Calls
namespace Mine
/-- a row of the table, its first n places -/
noncomputable def rowN (x y : Str) (n i : Nat) : List Int := (List.range n).map (fun k => T (sc x y) i k)
theorem rowN_len (x y : Str) (n i : Nat) : (rowN x y n i).length = n := by simp [rowN]
theorem rowN_zero (x y : Str) : List.map (fun k' => 2 * k') (rangeKs 0 ((y.length : Int) + 1 - 0).toNat) = rowN x y (y.length + 1) 0 := by
  have e : ((y.length : Int) + 1 - 0).toNat = y.length + 1 := by omega
  rw [e, rowN, rangeKs, List.map_map]
  refine List.map_congr_left fun k _ => ?_
  simp [T]
theorem rowN_start (x y : Str) (i : Nat) : [2 * (i : Int) + 2] = rowN x y (([] : List Int).length + 1) (i + 1) := by
  simp [rowN, T]; omega
theorem rowN_get (x y : Str) {n i k : Nat} (h : k < n) : (rowN x y n i).getD k 0 = T (sc x y) i k := by
  simp [rowN, List.getD, h]
theorem row_done {x y : Str} {i : Nat} {vs : List Value} {ns : List Int} (h : IntsAre vs ns) (e : ns = rowN x y ((rangeKs 0 ((y.length : Int) - 0).toNat).length + 1) i) : IntsAre vs (rowN x y (y.length + 1) i) := by
  have e1 : (rangeKs 0 ((y.length : Int) - 0).toNat).length = y.length := by rw [rangeKs_length]; omega
  rw [e1] at e
  exact e ▸ h
theorem allLt_ne {d : Addr} : ∀ {l : List (Addr × Obj)}, AllLt d l → ∀ p ∈ l, p.1 ≠ d
  | [], _, _, hp => nomatch hp
  | q :: r, h, p, hp => by
    rcases List.mem_cons.mp hp with rfl | hp
    · exact Nat.ne_of_lt h.1
    · exact allLt_ne h.2 p hp
theorem rowN_step {x y : Str} {i : Nat} {pre : List Int} {k : Int} {here : List Int} (hk : k = 0 + (pre.length : Int)) (hlt : pre.length < ((y.length : Int) - 0).toNat) (he : here = rowN x y (pre.length + 1) (i + 1)) :
    here ++ [min (min ((rowN x y (y.length + 1) i).getD k.toNat 0 + scost (Txt.item x (i : Int)) (Txt.item y k)) ((rowN x y (y.length + 1) i).getD (k + 1).toNat 0 + 2)) (here.getD k.toNat 0 + 2)] = rowN x y ((pre ++ [k]).length + 1) (i + 1)
      ∧ (here ++ [min (min ((rowN x y (y.length + 1) i).getD k.toNat 0 + scost (Txt.item x (i : Int)) (Txt.item y k)) ((rowN x y (y.length + 1) i).getD (k + 1).toNat 0 + 2)) (here.getD k.toNat 0 + 2)]).length = (pre ++ [k]).length + 1 := by
  have hlt' : pre.length < y.length := by omega
  have e1 : k.toNat = pre.length := by omega
  have e2 : (k + 1).toNat = pre.length + 1 := by omega
  have e3 : k = ((pre.length : Nat) : Int) := by omega
  rw [e1, e2, rowN_get x y (by omega), rowN_get x y (by omega), he, rowN_get x y (by omega)]
  refine ⟨?_, by simp [rowN_len]⟩
  have e4 : scost (Txt.item x (i : Int)) (Txt.item y k) = sc x y i pre.length := by rw [e3]; rfl
  rw [e4]
  have e5 : (pre ++ [k]).length + 1 = pre.length + 1 + 1 := by simp
  rw [e5, rowN, rowN, List.range_succ (n := pre.length + 1), List.map_append, List.map_cons, List.map_nil, T]
theorem dist_end (x y : Str) : (rowN x y (y.length + 1) ((x.length : Int) - 0).toNat).getD (-1 + ((rowN x y (y.length + 1) ((x.length : Int) - 0).toNat).length : Int)).toNat 0 = T (sc x y) x.length y.length := by
  have e1 : ((x.length : Int) - 0).toNat = x.length := by omega
  have e2 : (-1 + ((y.length + 1 : Nat) : Int)).toNat = y.length := by omega
  rw [rowN_len, e1, e2, rowN_get x y (by omega)]
set_option maxRecDepth 100000 in
set_option maxHeartbeats 8000000 in
theorem dist40 {w : World} {mean : ExcName → Option Value} {mg mb : Str → Option Value} {x y : Str} {t u : Tok} :
    Claim 3 30 w mean mg mb 40 [] (x.length ≤ 40 ∧ y.length ≤ 40) [.str x t, .str y u] (fun t => .int (T (sc x y) x.length y.length) t) := by
  k_with_none
  k_with "pyIter ref" => (k_of "i" => ((rename Fr _ _ _ _ => lF'); (rename News _ _ _ _ => lN'); (rename IsRange _ _ _ _ _ _ _ _ => rgX); (with_unfolding_all refine' outer_ints (Str.ofString "above") [Str.ofString "here", Str.ofString "k", Str.ofString "written"] (fun i => rowN x y (y.length + 1) i) (by rfl) (by exact rgX) (by exact small_one (by omega) (by omega) (by omega) (by omega)) (by exact rangeSize_nat _ _) lF' lN' (by k_memK) (by rfl) ?hi ?_ ?_); (case hi => ((try dsimp only); rw [← rowN_zero]; assumption)); (all_goals (try clear lF' lN')); (rotate_left; (intro oL oVs oC oU oH oTk oI oF oN; (have oLen := rowN_len x y (y.length + 1) ((x.length : Int) - 0).toNat); (try k_fold)); rotate_left; (intro oI oL oVs oC oT oU oH oTk oOwn oLt oInts oOff oF oN; (have oLen := rowN_len x y (y.length + 1) oI); (have kMark := kstMark); (try k_fold)))))
  k_with "pyIter ref" => (k_of "k" => k_state (fun pre here => here = rowN x y (pre.length + 1) (oI + 1) ∧ here.length = pre.length + 1) "here")
  k_with "state" => first | exact ⟨rowN_start _ _ _, rfl⟩ | exact rowN_step (by assumption) (by assumption) (by assumption)
  k_with "call builtin:list.append" => ((show wpAny _ _ (call (Value.builtin _) [Value.ref _, _]) _ _ _); k_dflt (refine' append_K ?k1 ?k2 ?k3 ?_ ?z; (case k1 => k_asm); (case k2 => k_asm); (case k3 => (refine Upd.head ?ka; (case ka => (refine List.forall_mem_cons.mpr ⟨by k_ne, List.forall_mem_append.mpr ⟨allLt_ne (And.right (by assumption)), OwnOff.ne (by assumption) (by k_memK)⟩⟩)))); (case z => size_fits); k_whole); intro h' F' N'; (try k_sweep))
  k_with "tree" => exact dist_end _ _
  k_with "call builtin:min" => ((with_reducible show wpAny _ _ (call _ [Value.int _ _, Value.int _ _, Value.int _ _]) _ _ _); (rename News _ _ _ _ => N'); (rename Fr _ _ _ _ => F'); k_dflt (refine min3_N (by rfl) F' N' ?_); (try clear N'); intro t9 h9 tk9 F9 N9; (try dsimp only))
  k_with "call ref" => ((with_reducible show wpAny _ _ (call (Value.ref 35) _) _ _ _); k_dflt (refine' Claim.use cost35 ?k1 ?k2 ?k3 ?k4 ?k5 ?kK ?kp ?kd ?ku ?_; (case k1 => k_asm); (case k2 => k_asm); (case k3 => k_asm); (case k4 => k_asm); (case k5 => k_asm); (case kK => first | exact rfl | assumption); (case kp => exact ⟨by omega, by omega⟩); (case kd => ktr_room); (case ku => ktr_units)); intro t9 h9 tk9 F9 N9; (try dsimp only); (try k_fold))
  k_with "InvEndG" => k_dflt (refine' outer_end ?hF ?hN ?hl ?ho ?ha ?hI ?hm ?hr; (case hF => first | assumption | fail "eF"); (case hN => first | assumption | fail "eN"); (case hl => first | k_memK | fail "el"); (case hm => first | rfl | fail "em"); (case ho => first | (intro p hp; exact .tail _ (.tail _ hp)) | fail "eo"); (case ha => exact allLt_ne (And.right (by assumption))); (case hI => exact row_done (by assumption) (by assumption)); (case hr => (intro z h1 h2 h3; (simp only [List.contains_cons, List.contains_nil, Bool.or_false, Bool.or_eq_false_iff, beq_eq_false_iff_ne, ne_eq] at h3); (simp [h1, h2, h3]; done))))
  w_on; unfold Claim; k_fill
  intros
  rename_i hret
  refine wpAny_call ?_
  k_dflt cell_enter
  k_steps
  all_goals cb_end hret
end Mine
end

section
open PySem PySem.W PyProof.Rows PySem.Calls
namespace Mine
set_option maxRecDepth 100000 in
set_option maxHeartbeats 8000000 in
theorem lev28 {w : World} {mean : ExcName → Option Value} {mg mb : Str → Option Value} {x y : Str} {M : Int} {t u v : Tok} :
    ClaimP 3 30 w mean mg mb 28 (x.length ≤ 40 ∧ y.length ≤ 40 ∧ 0 ≤ M) [.str x t, .str y u, .int M v] (Told (D cc (ls x) (ls y)) M) := by
  k_with_none
  k_with "execs cons While cons" => ((with_reducible show wpAny _ _ (execs (Stmt.While _ [Stmt.AugAssign (Expr.Name (Str.ofString "pre") _) _ _ _] _ _ :: _) _) _ _ _); ((rename Fr _ _ _ _ => lF'); k_dflt (refine cutK (Str.ofString "pre") x y M (PreP x y) lF' ?_ ?_); (rotate_left; (intro pK pTa pTb pTm pTn pU pH pTk pP pN pF; clear lF'; obtain ⟨pP1, pP2, pP3, pP4⟩ := pP; (try dsimp only [kstB] at pF); (try k_fold)); rotate_left; (try k_fold))))
  k_with "execs cons Assign cons" => ((with_reducible show wpAny _ _ (execs (Stmt.Assign [Expr.Name (Str.ofString "b") _] _ _ :: Stmt.Assign [Expr.Name (Str.ofString "post") _] _ _ :: _) _) _ _ _); ((rename Fr _ _ _ _ => lF'); k_dflt (refine cutN M (TwoP (D cc (ls x) (ls y))) lF' ?_ ?_); (rotate_left; (intro a2 b2 pTa2 pTb2 pTm2 pU2 pH2 pTk2 pP2 pN2 pF2; clear lF'; unfold TwoP at pP2; obtain ⟨p21, p22, p23⟩ := pP2; (try dsimp only [kstB] at pF2); (try k_fold)); rotate_left; (try k_fold))))
  k_with "execs cons While cons" => ((with_reducible show wpAny _ _ (execs (Stmt.While _ [Stmt.AugAssign (Expr.Name (Str.ofString "post") _) _ _ _] _ _ :: _) _) _ _ _); ((rename Fr _ _ _ _ => lF'); k_dflt (refine cutK (Str.ofString "post") a2 b2 M (PostP a2 b2) lF' ?_ ?_); (rotate_left; (intro qK qTa qTb qTm qTn qU qH qTk qP qN qF; clear lF'; obtain ⟨qP1, qP2, qP3, qP4⟩ := qP; (try dsimp only [kstB] at qF); (try k_fold)); rotate_left; (try k_fold))))
  k_with "execs cons Assign cons" => ((with_reducible show wpAny _ _ (execs (Stmt.Assign [Expr.Name (Str.ofString "b") _] _ _ :: Stmt.If _ _ _ _ :: _) _) _ _ _); ((rename Fr _ _ _ _ => lF'); k_dflt (refine cutN M (TwoP (D cc (ls x) (ls y))) lF' ?_ ?_); (rotate_left; (intro a4 b4 pTa4 pTb4 pTm4 pU4 pH4 pTk4 pP4 pN4 pF4; clear lF'; unfold TwoP at pP4; obtain ⟨p41, p42, p43⟩ := pP4; (try dsimp only [kstB] at pF4); (try k_fold)); rotate_left; (try k_fold))))
  k_with "execs cons Assign cons" => ((with_reducible show wpAny _ _ (execs (Stmt.Assign [Expr.Name (Str.ofString "a") _] (Expr.Subscript _ (Expr.Slice none _ _ _) _) _ :: _) _) _ _ _); ((rename Fr _ _ _ _ => lF'); k_dflt (refine cutK (Str.ofString "post") (cutTo a2 qK) b2 M (fun k => k = qK) lF' ?_ ?_); (rotate_left; (intro rK rTa rTb rTm rTn rU rH rTk rP rN rF; clear lF'; subst rP; (try dsimp only [kstB] at rF); (try k_fold)); rotate_left; (try k_fold))))
  k_with "execs cons If cons" => ((with_reducible show wpAny _ _ (execs (Stmt.If _ [Stmt.Assign [Expr.Tuple _ _ _] _ _] _ _ :: _) _) _ _ _); ((rename Fr _ _ _ _ => lF'); k_dflt (refine cutN M (OrdP (D cc (ls x) (ls y))) lF' ?_ ?_); (rotate_left; (intro a5 b5 pTa5 pTb5 pTm5 pU5 pH5 pTk5 pP5 pN5 pF5; clear lF'; unfold OrdP at pP5; obtain ⟨p51, p52, p53, p54⟩ := pP5; (try dsimp only [kstB] at pF5); (try k_fold)); rotate_left; (try k_fold))))
  k_with "exec While BoolOp cons nil" => k_while (fun _ k => PreP x y k) (fun _ k => x.length - k.toNat) "pre"
  k_with "exec While BoolOp cons nil" => k_while (fun _ k => PostP a2 b2 k) (fun _ k => ((a2.length : Int) + k).toNat) "post"
  k_with "subscriptTail Name Slice str ref" => ((rename Fr _ _ _ _ => lF'); (rename News _ _ _ _ => lN'); (refine slice_none (s := ⟨_, _, _, _, _⟩) lF' lN' (by omega) ?_); intro _ _ _ _ _; clear lF' lN')
  k_with "subscriptTail Name BinOp str int" => ((refine item_str (fitsSsize_of (N := 9223372036854775808) (by omega) (by omega) (Int.le_refl _)) (by omega) (by omega) ?_); intro _)
  k_with "truthy str" => ((first | with_reducible refine truthy_from (by assumption) (by assumption) (by omega) ?_ ?_ | with_reducible refine truthy_to (by omega) (by assumption) (by omega) ?_ ?_ | with_reducible refine truthy_plain (by omega) ?_ ?_) <;> intro _)
  k_with "ite" => ((with_reducible show if (_ != (0 : Int)) = true then _ else _); first | with_reducible refine ite_ne (by assumption) ?_ | with_reducible refine ite_eq (by assumption) ?_)
  k_with "ite" => ((with_reducible show if (Txt.item _ _ == Txt.item _ _) = true then _ else _); (with_reducible refine split_texts ?_ ?_) <;> intro _)
  k_with "state" => first | exact ⟨Int.le_refl 0, Int.natCast_nonneg _, Int.natCast_nonneg _, rfl⟩ | exact ⟨Int.le_refl 0, by omega, by omega, ends_zero _ _⟩ | exact ⟨by omega, by omega, by omega, front_step (by omega) (by omega) (by omega) (by assumption) (by first | assumption | exact beq_iff_eq.mp (by assumption))⟩ | exact ⟨by omega, by omega, by omega, ends_step (by omega) (by omega) (by omega) (by assumption) (by first | assumption | exact beq_iff_eq.mp (by assumption))⟩ | with_reducible exact out_start _ _ | with_reducible exact inn_start (by assumption) (by assumption) | with_reducible exact inn_less (by assumption) (by assumption) (by assumption) (by assumption) (by assumption) (by assumption) | with_reducible exact inn_same (by assumption) (by assumption) (by assumption) (by assumption) (by assumption) (by assumption) | with_reducible exact out_step (by assumption) (by assumption) (by assumption)
  k_with "InvEndN" => ((rename News _ _ _ _ => nE'); (try simp only [List.push_toArray] at nE'); k_dflt (refine' kst_end ⟨_, _, _, _, _, _, _, _, _⟩ ?hF nE' ?hn ?ho ?ha ?hf ?hk ?hr ?hp; (case hF => assumption); (case hk => kst_all); (case hn => kst_inAny); (case ho => first | (intro p hp; kst_mem) | kst_anyIn); (case ha => rfl); (case hf => kst_facts); (case hr => kst_same); (case hp => kst_p)))
  k_with "CutK" => k_dflt (refine' cutK_end ?hF ?ha ?hb ?hm ?hn ?hp; (case hF => assumption); (case ha => rfl); (case hb => rfl); (case hm => rfl); (case hn => rfl); (case hp => with_reducible exact ⟨by assumption, by assumption, by assumption, by assumption⟩))
  k_with "CutK" => k_dflt (refine' cutK_end2 ?hF ?ha ?hb ?hm ?hn ?he ?hp; (case hF => assumption); (case ha => rfl); (case hb => rfl); (case hm => rfl); (case hn => rfl); (case he => with_reducible first | exact cutTo_zero (by assumption) | exact cutTo_neg (by assumption)); (case hp => rfl))
  k_with "CutN" => k_dflt (refine' cutN_end ?hF ?ha ?hb ?hm ?hp; (case hF => assumption); (case ha => rfl); (case hb => rfl); (case hm => rfl); (case hp => with_reducible first | exact two_front (by assumption) (by assumption) (by assumption) (by assumption) (by assumption) | exact two_cut1 (by assumption) (by assumption) (by assumption) (by assumption) (by assumption) (by assumption) (by assumption) (by assumption) | exact two_cut0 (by assumption) (by assumption) (by assumption) (by assumption) (by assumption) (by assumption) (by assumption) (by assumption) | exact ord_swap (by assumption) (by assumption) (by assumption) (by assumption) | exact ord_stay (by assumption) (by assumption) (by assumption) (by assumption)))
  k_with "pyIter ref" => (k_of "bindex" => k_state (fun pre row result => row = rowM b5 a5 a5.length pre.length 0 ∧ row.length = a5.length ∧ OutF b5 a5 pre.length result) "row" "result")
  k_with "pyIter ref" => (k_of "index" => k_state (fun pre row distance result minimum => row = rowM b5 a5 a5.length kPre.length pre.length ∧ row.length = a5.length ∧ InnF b5 a5 kPre.length pre.length distance result minimum) "row" "distance" "result" "minimum")
  k_with "call ref" => ((with_reducible show wpAny _ _ (call (Value.ref 21) _) _ _ _); k_dflt (refine' Claim.use cost21 ?k1 ?k2 ?k3 ?k4 ?k5 ?kK ?kp ?kd ?ku ?_; (case k1 => k_asm); (case k2 => k_asm); (case k3 => k_asm); (case k4 => k_asm); (case k5 => k_asm); (case kK => first | exact rfl | assumption); (case kp => exact ⟨by omega, by omega⟩); (case kd => ktr_room); (case ku => ktr_units)); intro t9 h9 tk9 F9 N9; (try dsimp only); (try k_fold))
  k_with "call builtin:min" => ((with_reducible show wpAny _ _ (call _ [Value.int _ _, Value.int _ _]) _ _ _); (rename News _ _ _ _ => N'); (rename Fr _ _ _ _ => F'); k_dflt (refine min2_N (by rfl) F' N' ?_); (try clear N'); intro t9 h9 tk9 F9 N9; (try dsimp only))
  k_with "call type:list" => ((rename IsRange _ _ _ _ _ _ _ _ => rgX); (with_unfolding_all refine' list_twos ?k0 ?k1 ?k2 ?k3 ?k4 ?k5 ?_; (case k0 => rfl); (case k1 => k_asm); (case k2 => k_asm); (case k3 => first | exact rgX | assumption); (case k4 => omega); (case k5 => omega); k_whole); intro D' vs' c' h' tk' F' N' l1 hI'; (try k_lt l1); (try k_sweep))
  w_on; unfold ClaimP; k_fill
  intros
  rename_i hret
  refine wpAny_call ?_
  k_dflt cell_enter
  k_steps
  all_goals (refine hret _ _ _ _ ?_ (by k_asm))
  all_goals (with_reducible first | exact told_self' (by assumption) (by assumption) | exact told_exit (by assumption) (by assumption) (by assumption) (by assumption) (by assumption) | exact told_last (by assumption) (by assumption) (by assumption) (by assumption) | exact told_far (by assumption) (by assumption) | exact told_l (by assumption) (by assumption) | exact told_r (by assumption) (by assumption))
end Mine
end

section
open PySem PySem.W PyProof.Rows PySem.Calls
namespace Mine
theorem dist40P {w : World} {mean : ExcName → Option Value} {mg mb : Str → Option Value} {x y : Str} {t u : Tok} :
    ClaimP 3 30 w mean mg mb 40 (x.length ≤ 40 ∧ y.length ≤ 40) [.str x t, .str y u] (fun v => v = D cc (ls x) (ls y)) :=
  fun dp un gd cn cs a ccd cl outer A₀ base h₀ L m s Q E B F X N Tp hk hp hdp hun hret =>
    dist40 dp un gd cn cs a ccd cl outer A₀ base h₀ L m s Q E B F X N Tp hk hp hdp hun fun t h' tk' F' _ => hret _ t h' tk' (sc_D x y) F'
set_option maxRecDepth 100000 in
set_option maxHeartbeats 8000000 in
theorem law45 : PySem.Challenge.rw_kg0014_01.Holds := hd (by
  k_with_none
  k_with "execs cons Assign cons" => ((with_reducible show wpAny _ _ (execs (Stmt.Assign [Expr.Name (Str.ofString "bound") _] _ _ :: _) _) _ _ _); ((rename Fr _ _ _ _ => lF'); k_dflt (refine cutG (σ := Int × Tok) (fun c => [(Str.ofString "bound", Value.int c.1 c.2)]) (fun c => 0 ≤ c.1) lF' ?_ ?_); (rotate_left; (intro lB lH1 lTk1 lP1 lN1 lF1; clear lF'; obtain ⟨lBi, lBt⟩ := lB; (try dsimp only at lP1); (try dsimp only [kstB] at lF1); (try k_fold)); rotate_left; (try k_fold))))
  k_with "execs cons Assign cons" => ((with_reducible show wpAny _ _ (execs (Stmt.Assign [Expr.Name (Str.ofString "a") _] _ _ :: _) _) _ _ _); ((rename Fr _ _ _ _ => lF'); k_dflt (refine cutG (σ := Str × Tok) (fun c => [(Str.ofString "a", Value.str c.1 c.2)]) (fun c => c.1.length ≤ 40) lF' ?_ ?_); (rotate_left; (intro lA lH2 lTk2 lP2 lN2 lF2; clear lF'; obtain ⟨lAi, lAt⟩ := lA; (try dsimp only at lP2); (try dsimp only [kstB] at lF2); (try k_fold)); rotate_left; (try k_fold))))
  k_with "execs cons Assign cons" => ((with_reducible show wpAny _ _ (execs (Stmt.Assign [Expr.Name (Str.ofString "b") _] _ _ :: _) _) _ _ _); ((rename Fr _ _ _ _ => lF'); k_dflt (refine cutG (σ := Str × Tok) (fun c => [(Str.ofString "b", Value.str c.1 c.2)]) (fun c => c.1.length ≤ 40) lF' ?_ ?_); (rotate_left; (intro lC lH3 lTk3 lP3 lN3 lF3; clear lF'; obtain ⟨lCi, lCt⟩ := lC; (try dsimp only at lP3); (try dsimp only [kstB] at lF3); (try k_fold)); rotate_left; (try k_fold))))
  k_with "eval ListComp" => k_dflt (refine LCg.ListComp_U (F₀ := by k_asm) (by with_unfolding_all rfl) (by decide) (by rfl) (by decide) (by rfl) ?_)
  k_with "CompSrc" => ((rename IntsAre _ _ => hLi); k_dflt ((first | (obtain ⟨ms, hms⟩ := pick_ints hLi (some 1) none (some 2); (have hsz := pick_size hLi (by assumption) (.inl rfl)); (refine LCg.CompSrc.ledger (its := slicePick _ (some 1) none (some 2)) (by rfl) (by k_asm) (by k_asm) (by k_memK) (Nat.le_trans hsz (by decide)) ?_)) | (obtain ⟨ms, hms⟩ := pick_ints hLi (some 2) none (some 2); (have hsz := pick_size hLi (by assumption) (.inr rfl)); (refine LCg.CompSrc.ledger (its := slicePick _ (some 2) none (some 2)) (by rfl) (by k_asm) (by k_asm) (by k_memK) (Nat.le_trans hsz (by decide)) ?_))); intro g'; (refine' kct_rest (ks := ms) sign (by rw [← IntsAre.length hms, Array.length_toList]) (fun i9 v9 h9 e9 => by (obtain ⟨k9, t9, e10, e11⟩ := IntsAre.at hms i9 v9 (by rw [Array.getElem?_toList]; exact e9)); exact ⟨k9, t9, e11, e10⟩) (fun k' t' I' oI' C' oC' D' m' ys' h' tk' E' hk' hC' hx' F' N' off' ne' => ?_) ?_); (all_goals (try (simp only [LCg.Off3, and_true] at off'))); (all_goals (try ((show KPfMark → _); intro hMark')))))
  k_with "KCtEl" => k_dflt (exact ⟨rfl, _, rfl⟩)
  k_with "CutG" => k_dflt (refine' cutG_end ⟨_, _⟩ ?hF ?hk ?hr ?hp; (case hF => assumption); (case hk => ((try dsimp only); kst_all)); (case hr => (intro z h2; (simp only [List.forall_mem_cons, List.not_mem_nil, false_implies, implies_true, and_true, ne_eq] at h2); (simp [h2]; done))); (case hp => ((try dsimp only); first | omega | exact slice40 _)))
  k_with "call ref" => ((with_reducible show wpAny _ _ (call (Value.ref 40) _) _ _ _); k_dflt (refine' ClaimP.use dist40P ?k1 ?k2 ?k3 ?k5 ?kK ?kp ?kd ?ku ?_; (case k1 => k_asm); (case k2 => k_asm); (case k3 => k_asm); (case k5 => k_asm); (case kK => first | exact rfl | assumption); (case kp => exact ⟨by assumption, by assumption⟩); (case kd => ktr_room); (case ku => ktr_units)); intro due t9 h9 tk9 hDue F9 N9; (try dsimp only); (try k_fold))
  k_with "call ref" => ((with_reducible show wpAny _ _ (call (Value.ref 28) _) _ _ _); k_dflt (refine' ClaimP.use lev28 ?k1 ?k2 ?k3 ?k5 ?kK ?kp ?kd ?ku ?_; (case k1 => k_asm); (case k2 => k_asm); (case k3 => k_asm); (case k5 => k_asm); (case kK => first | exact rfl | assumption); (case kp => exact ⟨by assumption, by assumption, by assumption⟩); (case kd => ktr_room); (case ku => ktr_units)); intro told t9 h9 tk9 hTold F9 N9; (have hSays := law_says hDue hTold); clear hDue hTold; (obtain ⟨hSay1, hSay2⟩ := hSays); (try dsimp only); (try k_fold))
  w_on
  k_go0
  all_goals try k_fold
  k_steps

  all_goals w_report)
end Mine
end

theorem PySem.Challenge.cw_kg0014_01_holds : PySem.Challenge.rw_kg0014_01.Holds := by
  exact Mine.law45
#print axioms PySem.Challenge.cw_kg0014_01_holds
