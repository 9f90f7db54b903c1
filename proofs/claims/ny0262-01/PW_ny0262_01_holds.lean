import PyProof.Rows.All
import Wide.All
import OpenK.AllK
import Wide.FinOn
import Lean
import PySem.Challenge.RW_ny0262_01
set_option Elab.async false
set_option compiler.extract_closed false
set_option maxRecDepth 100000
open PySem PySem.W PySem.W.X PyProof.Rows PySem.Calls PySem.Spec
namespace Mine
end Mine
open Mine
section
open PySem PySem.W PySem.W.X PyProof.Rows PySem.Calls PySem.Spec

/- The pieces that the walk's lines are made of, each written once: a line's compiled code is then small.
   A letter stands for one piece (pc, pt); a line names its lemma and the letters of its arguments. -/
namespace Mine
open Lean (TSyntax Syntax Name mkIdent Unhygienic)
abbrev Tc := TSyntax `tactic
abbrev Tm := TSyntax `term
def lf (k t : String) : Tc := ⟨.node .none k.toName #[.atom .none t]⟩
def nd (k : String) (l : List Syntax) : Tc := ⟨.node .none k.toName l.toArray⟩
def nul (l : List Syntax) : Syntax := .node .none `null l.toArray
def lc (k t : String) : Tc := nd k [.atom .none t, (nd "Lean.Parser.Tactic.optConfig" [nul []]).raw]
def hole : Tm := ⟨.node .none `Lean.Parser.Term.hole #[.atom .none "_"]⟩
def lems (l : List Name) : Syntax.TSepArray `Lean.Parser.Tactic.simpLemma "," := ⟨(l.map fun n => (nd "Lean.Parser.Tactic.simpLemma" [nul [], nul [], mkIdent n]).raw).intersperse (.atom .none ",") |>.toArray⟩
def ds (l : List Name) : Tc := Unhygienic.run `(tactic| dsimp only [$(lems l),*])
def tr (t : Tc) : Tc := Unhygienic.run `(tactic| try $t:tactic)
def wu (t : Tc) : Tc := Unhygienic.run `(tactic| with_unfolding_all $t:tactic)
def wk (s : String) : Tc := ⟨.node .none ``PyProof.Rows.tacticWalk_at_ #[.atom .none "walk_at ", Syntax.mkStrLit s]⟩
def bt (t : Tc) : Tm := Unhygienic.run `(by $t:tactic)
/-- one line behind the other -/
def sq2 (a b : Tc) : Tc := Unhygienic.run `(tactic| ($a:tactic; $b:tactic))
def kd (t : Tc) : Tc := Unhygienic.run `(tactic| k_dflt $t:tactic)
def fs (a b : Tc) : Tc := Unhygienic.run `(tactic| first | $a:tactic | $b:tactic)
def ap (f : Name) (l : List Tm) : Tm := Syntax.mkApp (mkIdent f) l.toArray
def ex (t : Tm) : Tc := Unhygienic.run `(tactic| exact $t)
def letters : List (Char × Tc) := [
  ('A', lf "PySem.W.tacticK_asm" "k_asm"), ('I', lf "PySem.W.tacticK_is" "k_is"), ('R', lf "Lean.Parser.Tactic.tacticRfl" "rfl"),
  ('s', lf "Lean.Parser.Tactic.assumption" "assumption"), ('W', lf "PySem.W.tacticK_whole" "k_whole"), ('H', lf "PySem.W.tacticK_handed" "k_handed"),
  ('G', lf "PySem.W.tacticK_get" "k_get"), ('p', lf "PySem.W.tacticK_put" "k_put"),
  ('g', lf "PySem.W.tacticK_slotget" "k_slotget"), ('t', lf "PySem.W.tacticK_slotset" "k_slotset"), ('b', lf "PyProof.Rows.tacticBoot_fast" "boot_fast"),
  ('S', wk "sub"), ('M', wk "mem"), ('X', wk "idx"), ('F', wk "fit"), ('P', wk "part"), ('L', wk "lsz"), ('m', wk "msz"), ('u', wk "upds"), ('B', wk "fnat")]
/-- a tactic's letter -/
def pc (c : Char) : Tc :=
  match letters.lookup c with
  | some t => t
  | none => if c = 'r' then ex (mkIdent ``rfl) else if c = 'z' then ex (ap ``Nat.le_of_ble_eq_true [mkIdent ``rfl])
    else if c = 'l' then ex (ap ``PyProof.Rows.locs [mkIdent ``rfl])
    else if c = 'j' then fs (ex (ap ``Or.inl [mkIdent ``rfl])) (ex (ap ``Or.inr [mkIdent ``rfl]))
    else if c = 'D' then lc "Lean.Parser.Tactic.decide" "decide" else if c = 'O' then lc "Lean.Parser.Tactic.lia" "lia"
    else if c = 'o' then nd "Lean.Parser.Tactic.rotateLeft" [.atom .none "rotate_left", nul []] else if c = 'q' then lf "Lean.Parser.Tactic.constructor" "constructor"
    else if c = 'U' then wu (lf "Lean.Parser.Tactic.tacticRfl" "rfl")
    else if c = 'i' then nd "Lean.Parser.Tactic.intro" [.atom .none "intro", nul [hole]]
    else if c = 'Z' then sq2 (Unhygienic.run `(tactic| rw [PySem.sizeLine_eq])) (sq2 (ds [``List.length]) (lc "Lean.Parser.Tactic.lia" "lia"))
    else if c = 'N' then tr (ds [``List.nil_append, ``List.append_nil, ``List.cons_append])
    else if c = 'E' then Unhygienic.run `(tactic| (intro _ _ _ _ S' _; (try dsimp only [$(lems [``List.map, ``List.zip, ``List.zipWith, ``List.reverse, ``List.reverseAux, ``List.length]),*] at S' ⊢)))
    else if c = 'c' then Unhygienic.run `(tactic| exact ⟨fun a => rfl, fun h => rfl⟩)
    else tr (lf "PySem.W.tacticK_fold" "k_fold")
/-- an argument's letter -/
def pt (c : Char) : Tm :=
  if c = '?' then Unhygienic.run `(?_) else if c = '_' then hole
  else if c = 'v' then bt (fs (pc 'R') (pc 's')) else if c = 'V' then bt (sq2 (pc 'i') (pc 'U'))
  else if c = 'x' then bt (ex (ap `Mine.Bs.X [bt (pc 's')])) else if c = 'k' then bt (ex (ap `Mine.inK [bt (pc 'A'), bt (pc 'A'), bt (pc 'S')])) else bt (pc c)
def sq (a : Tc) (s : String) : Tc := s.toList.foldl (fun t c => sq2 t (pc c)) a
def rt (t : Tm) : Tc := Unhygienic.run `(tactic| refine $t)
def rf (f : Name) (s : String) : Tc := rt (ap f (s.toList.map pt))
/-- refine, then the letters -/
def rs (f : Name) (s t : String) : Tc := sq (rf f s) t
def rk (f : Name) (s t : String) : Tc := kd (rs f s t)
/-- `refine' f ?a ?_ ..`, then a letter for each named hole -/
def hn (k : Nat) (c : Char) : Lean.Ident := mkIdent (.mkSimple (c.toString ++ toString k))
def cs (k : Nat) (j : Tc) (l : List Char) (b : Tc) : Tc := (List.range (l.length / 2)).foldl (fun b i =>
    let y := l.getD (2 * i + 1) 'R'
    sq2 b (Unhygienic.run `(tactic| case $(hn k (l.getD (2 * i) 'a')):ident => $(if y = 'v' then fs (pc 'R') (pc 's') else if y = 'J' then j else pc y):tactic))) b
def qj (k : Nat) (j : Tc) (f : Name) (s c t : String) : Tc :=
  sq (cs k j c.toList (Unhygienic.run `(tactic| refine' $(ap f (s.toList.map fun x => if x = '_' then pt '?' else Unhygienic.run `(?$(hn k x))))))) t
def qs (k : Nat) (f : Name) (s c t : String) : Tc := qj k (pc 'R') f s c t
/-- holds the goal's shape -/
def sh (x : Tm) (t : Tc) : Tc := Unhygienic.run `(tactic| ((with_reducible show $x); $t:tactic))
/-- holds the goal's shape: `wpAny _ _ x _ _ _` -/
def sw (x : Tm) (t : Tc) : Tc := sh (ap ``wpAny [pt '_', pt '_', x, pt '_', pt '_', pt '_']) t
def vref : Tm := ap ``PySem.Value.ref [pt '_']
def vstr : Tm := ap ``PySem.Value.str [pt '_', pt '_']
/-- a method's name, a builtin's name -/
def gms (r : Tm) (s : String) : Tm := Unhygienic.run `(getMethod $r (PySem.Str.ofString $(Syntax.mkStrLit s)) _)
def cb (s : String) (x : Tm) : Tm := Unhygienic.run `(call (PySem.Value.builtin $(Syntax.mkStrLit s)) [$x])
def stl (x : Tm) : Tm := ap ``subscriptTail [pt '_', pt '_', vref, x]
end Mine

end
section
/- small facts on numbers, proved once by terms: the solvers' proofs are large -/
namespace Mine
theorem sub_step {n j r : Nat} (h : n - j = r + 1) : n - (j + 1) = r := by rw [Nat.sub_succ, h]; rfl
theorem sub_end {n i : Nat} (h : n - i = 0) (hi : i ≤ n) : i = n := Nat.le_antisymm hi (Nat.le_of_sub_eq_zero h)
theorem two_step (t k : Nat) : t + 2 * (k + 1) = t + 1 + 1 + 2 * k := by
  rw [Nat.mul_add, Nat.add_comm (2 * k), ← Nat.add_assoc]
theorem odd_half {i P : Nat} (h : i + 1 < P * 2) (ho : i % 2 = 1) : i / 2 + 1 < P := by
  have e := Nat.div_add_mod i 2
  rw [ho] at e
  rw [← e] at h
  exact Nat.lt_of_mul_lt_mul_left (a := 2) (by rw [Nat.mul_add, Nat.mul_comm 2 P]; exact h)
theorem odd_back {i : Nat} (ho : i % 2 = 1) : 2 * (i / 2) + 1 = i := by
  have e := Nat.div_add_mod i 2
  rwa [ho] at e
theorem even_back {i : Nat} (h0 : ¬i = 0) (ho : ¬i % 2 = 1) : 2 * (i / 2 - 1) + 2 = i := by
  have e := Nat.div_add_mod i 2
  rw [(Nat.mod_two_eq_zero_or_one i).resolve_right ho, Nat.add_zero] at e
  have hp : 1 ≤ i / 2 := Nat.pos_of_ne_zero fun q => h0 (by rw [← e, q])
  rw [Nat.mul_sub, Nat.mul_one, Nat.sub_add_cancel (Nat.mul_le_mul_left 2 hp), e]
theorem even_half {i P : Nat} (h : i + 1 < P * 2) (h0 : ¬i = 0) (ho : ¬i % 2 = 1) : i / 2 - 1 + 1 < P := by
  have e := even_back h0 ho
  rw [← e] at h
  refine Nat.lt_of_mul_lt_mul_left (a := 2) ?_
  rw [Nat.mul_add, Nat.mul_comm 2 P]
  exact Nat.lt_of_succ_lt h
theorem pred_nat (n : Nat) : ((-1 : Int) + (n : Int)).toNat = n - 1 := by
  cases n with
  | zero => rfl
  | succ n => rw [Int.natCast_succ, Int.add_comm, Int.add_assoc]; rfl
theorem min_max0 (c n : Nat) : max 0 (min (c : Int) (n : Int)) = ((min c n : Nat) : Int) := by
  rcases Nat.le_total c n with h | h
  · rw [Nat.min_eq_left h, Int.min_eq_left (Int.ofNat_le.mpr h), Int.max_eq_right (Int.natCast_nonneg _)]
  · rw [Nat.min_eq_right h, Int.min_eq_right (Int.ofNat_le.mpr h), Int.max_eq_right (Int.natCast_nonneg _)]
theorem lexS {a b c d N : Int} (h : a < c) (hN : 0 ≤ N) (hb : b < N) (hd : 0 ≤ d) : a * N + b < c * N + d := by
  have e : a * N + N ≤ c * N := by
    have := Int.mul_le_mul_of_nonneg_right (Int.add_one_le_of_lt h) hN
    rwa [Int.add_mul, Int.one_mul] at this
  exact Int.lt_of_lt_of_le (Int.add_lt_add_left hb _) (Int.le_trans e (Int.le_add_of_nonneg_right hd))
/-- the order of pairs, told by one number -/
theorem lexI {a b c d : Int} (h1 : 0 ≤ b ∧ b < 100000) (h2 : 0 ≤ d ∧ d < 100000) : a * 100000 + b < c * 100000 + d ↔ a < c ∨ a = c ∧ b < d := by
  constructor
  · intro h
    rcases Int.lt_trichotomy a c with q | q | q
    · exact .inl q
    · exact .inr ⟨q, by rw [q] at h; exact Int.lt_of_add_lt_add_left h⟩
    · exact absurd (Int.lt_trans h (lexS q (by decide) h2.2 h1.1)) (Int.lt_irrefl _)
  · rintro (q | ⟨q, q2⟩)
    · exact lexS q (by decide) h1.2 h2.1
    · rw [q]; exact Int.add_lt_add_left q2 _
theorem lt_line {u v l k : Nat} (h : u + k < l) (hk : v ≤ k) : u + v < l := Nat.lt_of_le_of_lt (Nat.add_le_add_left hk u) h
theorem lt63 {n N : Nat} (h : n ≤ N) (hN : Nat.ble N 16777216 = true) : ((n : Nat) : Int) < 2 ^ 63 :=
  Int.lt_of_le_of_lt (Int.ofNat_le.mpr (Nat.le_trans h (Nat.le_of_ble_eq_true hN))) (by decide)
theorem lt_natCast {a b : Nat} : (a : Int) < (b : Int) ↔ a < b := Int.ofNat_lt
theorem pred_int {i : Nat} (h : ¬i = 0) : (i : Int) - 1 = ((i - 1 : Nat) : Int) := by
  cases i with
  | zero => exact absurd rfl h
  | succ i => rw [Int.natCast_succ, Int.add_sub_cancel]; rfl
theorem sub_pred {i : Nat} (h : ¬i = 0) : i - (i - 1) = 1 := by
  cases i with
  | zero => exact absurd rfl h
  | succ i => rw [Nat.add_sub_cancel, Nat.add_sub_cancel_left]
end Mine
namespace Mine
theorem push_lt {W l S V : Nat} (h : W + (l + 2) = V) : W + (l + 1 - 0 + S) < V + S := by
  rw [← h, Nat.add_assoc W]; exact Nat.add_lt_add_left (Nat.add_lt_add_right (Nat.lt_succ_self (l + 1)) S) W
theorem next_lt {W L S j : Nat} (h : j < L) : W + (L + 1 - (j + 1) + S) < W + (L + 1 - j + S) :=
  Nat.add_lt_add_left (Nat.add_lt_add_right (Nat.sub_lt_sub_left (Nat.lt_succ_of_lt h) (Nat.lt_succ_self j)) S) W
theorem pop_lt {W L S j : Nat} (h : j ≤ L) : W + S < W + (L + 1 - j + S) :=
  Nat.add_lt_add_left (Nat.lt_add_of_pos_left (Nat.sub_pos_of_lt (Nat.lt_succ_of_le h))) W
theorem not_neg1 {n : Nat} {P : Prop} (q : (n : Int) < -1 ∨ (n : Int) = -1 ∧ P) : False := by
  rcases q with q | q
  · exact absurd (Int.lt_of_le_of_lt (Int.natCast_nonneg n) q) (by decide)
  · exact absurd (q.1 ▸ Int.natCast_nonneg n : (0 : Int) ≤ -1) (by decide)
theorem not_lt_nat {a b : Nat} {P : Prop} (h : b < a) (q : (a : Int) < (b : Int) ∨ (a : Int) = (b : Int) ∧ P) : False :=
  q.elim (fun z => Nat.lt_asymm h (Int.ofNat_lt.mp z)) fun z => Nat.ne_of_gt h (Int.ofNat.inj z.1)
theorem lt_both {a b c d : Nat} (q : (a : Int) < (b : Int) ∨ (a : Int) = (b : Int) ∧ (c : Int) < (d : Int)) (h : b < a ∨ b = a ∧ d < c) : False :=
  h.elim (fun z => not_lt_nat z q) fun z => q.elim (fun y => Nat.ne_of_gt (Int.ofNat_lt.mp y) z.1) fun y => Nat.lt_asymm z.2 (Int.ofNat_lt.mp y.2)
theorem lt_cast {a b c d : Nat} (h : a < b ∨ a = b ∧ c < d) : (a : Int) < (b : Int) ∨ (a : Int) = (b : Int) ∧ (c : Int) < (d : Int) :=
  h.imp Int.ofNat_lt.mpr fun z => ⟨congrArg _ z.1, Int.ofNat_lt.mpr z.2⟩
theorem no_more {a b : Int} (h : a + b = a) (h2 : 0 < b) : False := by
  have := Int.lt_add_of_pos_right a h2
  rw [h] at this; exact Int.lt_irrefl _ this
theorem dig_lt {a P d : Nat} (ha : a < P) (hd : d < 16) : a * 16 + d < P * 16 :=
  Nat.lt_of_lt_of_le (Nat.add_lt_add_left hd _) (by rw [← Nat.succ_mul]; exact Nat.mul_le_mul_right 16 ha)
theorem fold_le {a x s M k : Nat} (h : x ≤ k) (h3 : s = 1) : a + x + s + M ≤ a + (M + 1 * (k + 1)) := by
  subst h3
  rw [Nat.one_mul, Nat.add_assoc a, Nat.add_assoc a, Nat.add_comm M]
  exact Nat.add_le_add_left (Nat.add_le_add_right (Nat.succ_le_succ h) M) a
theorem left_sum {i n : Nat} (h : i < n + 1) : i + (n - i + 1) = n + 1 := by rw [← Nat.add_assoc, Nat.add_sub_cancel' (Nat.le_of_lt_succ h)]
theorem le_line {n N M : Nat} (h : n ≤ N) (hN : Nat.ble N M = true) : n ≤ M := Nat.le_trans h (Nat.le_of_ble_eq_true hN)
theorem turn_lt {n i : Nat} (h : i < n) : n + 1 - (i + 1) < n + 1 - i := Nat.sub_lt_sub_left (Nat.lt_succ_of_lt h) (Nat.lt_succ_self i)
theorem scal_le {n : Int} (h : 0 ≤ n ∧ n ≤ 55295 ∨ 57344 ≤ n ∧ n ≤ 1114111) : n ≤ 1114111 := h.elim (fun z => Int.le_trans z.2 (by decide)) And.right
theorem scal_ge {n : Int} (h : 0 ≤ n ∧ n ≤ 55295 ∨ 57344 ≤ n ∧ n ≤ 1114111) : 0 ≤ n := h.elim And.left fun z => Int.le_trans (by decide) z.1
theorem scal_div {n : Int} (h0 : 0 ≤ n) (h1 : n < 17 * 65536) : n / 2048 ≠ 27 ↔ 0 ≤ n ∧ n ≤ 55295 ∨ 57344 ≤ n ∧ n ≤ 1114111 := by
  have a : 27 ≤ n / 2048 ↔ 27 * 2048 ≤ n := Int.le_ediv_iff_mul_le (by decide)
  have b : n / 2048 < 28 ↔ n < 28 * 2048 := Int.ediv_lt_iff_lt_mul (by decide)
  constructor
  · intro h
    rcases Int.lt_or_le n (27 * 2048) with q | q
    · exact .inl ⟨h0, Int.le_of_lt_add_one q⟩
    · rcases Int.lt_or_le n (28 * 2048) with r | r
      · exact absurd (Int.le_antisymm (Int.le_of_lt_add_one (b.mpr r)) (a.mpr q)) h
      · exact .inr ⟨r, Int.le_of_lt_add_one h1⟩
  · rintro (⟨_, q⟩ | ⟨q, _⟩) e
    · exact absurd (Int.le_trans (a.mp (by rw [e]; exact Int.le_refl _)) q) (by decide)
    · exact absurd (Int.lt_of_lt_of_le (b.mp (by rw [e]; decide)) q) (Int.lt_irrefl _)
theorem scal_out {n : Int} (h : ¬n < 17 * 65536) : n < 17 * 65536 ↔ 0 ≤ n ∧ n ≤ 55295 ∨ 57344 ≤ n ∧ n ≤ 1114111 :=
  ⟨fun q => absurd q h, fun q => absurd (Int.lt_of_le_of_lt (scal_le q) (by decide)) h⟩
theorem scal_neg {n : Int} (h : ¬0 ≤ n) : 0 ≤ n ↔ 0 ≤ n ∧ n ≤ 55295 ∨ 57344 ≤ n ∧ n ≤ 1114111 := ⟨fun q => absurd q h, scal_ge⟩
theorem scal_low {n : Int} (h0 : 0 ≤ n) (h : n ≤ 55295) : n ≤ 55295 ↔ 0 ≤ n ∧ n ≤ 55295 ∨ 57344 ≤ n ∧ n ≤ 1114111 := ⟨fun q => .inl ⟨h0, q⟩, fun _ => h⟩
theorem scal_top {n : Int} (h : 57344 ≤ n) : n ≤ 1114111 ↔ 0 ≤ n ∧ n ≤ 55295 ∨ 57344 ≤ n ∧ n ≤ 1114111 := ⟨fun q => .inr ⟨h, q⟩, scal_le⟩
theorem scal_gap {n : Int} (h : ¬n ≤ 55295) (h2 : ¬57344 ≤ n) : 57344 ≤ n ↔ 0 ≤ n ∧ n ≤ 55295 ∨ 57344 ≤ n ∧ n ≤ 1114111 := ⟨fun q => absurd q h2, fun q => q.elim (fun z => absurd z.2 h) And.left⟩
theorem scal_gap0 {n : Int} (h : ¬0 ≤ n) (h2 : ¬57344 ≤ n) : 57344 ≤ n ↔ 0 ≤ n ∧ n ≤ 55295 ∨ 57344 ≤ n ∧ n ≤ 1114111 := ⟨fun q => absurd q h2, fun q => absurd (scal_ge q) h⟩
theorem nat_text {n N : Nat} (h : n ≤ N) (hN : Nat.ble N 5000 = true) : ((n : Nat) : Int).natAbs < 10 ^ 10 :=
  Nat.lt_of_le_of_lt (Nat.le_trans h (Nat.le_of_ble_eq_true hN)) (by decide)
theorem succ_text {n N : Nat} (h : n ≤ N) (hN : Nat.ble N 5000 = true) : (((n : Nat) : Int) + 1).natAbs < 10 ^ 10 :=
  Nat.lt_of_le_of_lt (Nat.succ_le_succ (Nat.le_trans h (Nat.le_of_ble_eq_true hN))) (by decide)
theorem sub_text {n N i K : Nat} (h : n ≤ N) (h' : i ≤ K) (hN : Nat.ble N 5000 = true) (hK : Nat.ble K 5000 = true) : (((n : Nat) : Int) - ((i : Nat) : Int)).natAbs < 10 ^ 10 :=
  Nat.lt_of_le_of_lt (Nat.le_trans (Int.natAbs_sub_le _ _) (Nat.add_le_add (Nat.le_trans h (Nat.le_of_ble_eq_true hN)) (Nat.le_trans h' (Nat.le_of_ble_eq_true hK)))) (by decide)
theorem no_x {c : Nat} (h : (48 ≤ c ∧ c ≤ 57) ∨ (65 ≤ c ∧ c ≤ 70) ∨ (97 ≤ c ∧ c ≤ 102)) (q : c = 120 ∨ c = 88) : False := by
  rcases q with rfl | rfl
  · exact absurd h (by decide)
  · exact absurd h (by decide)
end Mine

end
section
namespace Mine
/-- holds the goal while hypotheses are taken apart -/
theorem hold {P : Prop} (k : ∀ R : Prop, (P → R) → R) : P := k P id
end Mine

end
section
open PySem PySem.W PySem.W.X PyProof.Rows PySem.Calls PySem.Spec
namespace Mine
/- a joined text's length, piece by piece: 4096 a piece -/
theorem fits_top {a : Str} {k : Nat} (h : a.length ≤ 4096 * k) (hk : Nat.ble k 4096 = true) : a.length ≤ sizeLine := by
  rw [sizeLine_eq]; have := Nat.le_of_ble_eq_true hk; lia
theorem fits_app {a b : Str} {k : Nat} (ha : a.length ≤ 4096 * k) (hb : b.length ≤ 4096) : (a ++ b).length ≤ 4096 * (k + 1) := by
  rw [Str.length_append]; lia
theorem fits_one {b : Str} (hb : b.length ≤ 4096) : b.length ≤ 4096 * 1 := hb
theorem fits_sum {a b : Str} (h : (a ++ b).length ≤ sizeLine) : a.length + b.length ≤ sizeLine := by rwa [Str.length_append] at h
theorem fits_e : Str.empty.length ≤ 4096 * 0 := Nat.le_refl _
theorem text_i {i : Int} (h : i.natAbs < 10 ^ 10) : (Str.ofString (toString i)).length ≤ 4096 := by
  rw [PySem.ofString_length]
  have := int_text_length_le10 (k := 10) (by decide) h
  lia
theorem text_0 {n N : Nat} (h : n ≤ N) (hN : Nat.ble N 5000 = true) : (Str.ofString (toString (n : Int))).length ≤ 4096 :=
  text_i (nat_text h hN)
theorem text_1 {n N : Nat} (h : n ≤ N) (hN : Nat.ble N 5000 = true) : (Str.ofString (toString ((n : Int) + 1))).length ≤ 4096 :=
  text_i (succ_text h hN)
theorem text_d {n N i K : Nat} (h : n ≤ N) (h' : i ≤ K) (hN : Nat.ble N 5000 = true) (hK : Nat.ble K 5000 = true) : (Str.ofString (toString ((n : Int) - (i : Int)))).length ≤ 4096 :=
  text_i (sub_text h h' hN hK)
theorem fits_w {a : Str} {n : Nat} (h : a.length ≤ n) (hn : Nat.ble n 4096 = true) : a.length ≤ 4096 := Nat.le_trans h (Nat.le_of_ble_eq_true hn)
theorem log_small {i : Int} (h : i.natAbs < 10 ^ 10) : i.natAbs.log2 < 1920 := by
  rcases Nat.eq_zero_or_pos i.natAbs with q | q
  · rw [q]; decide
  · exact (Nat.log2_lt (Nat.ne_of_gt q)).mpr (Nat.lt_trans h (by decide))
section
variable {prog : Program} {w : World} {A : Around} {s : Shared} {Q E : Value → Shared → Prop} {t : Tok} {n N i K : Nat}
theorem ff_0 (h : n ≤ N) (hN : Nat.ble N 5000 = true) (hQ : Q (.str (Str.ofString (toString (n : Int))) (s.toks + 1)) { s with toks := s.toks + 1 + 1 }) :
    wpAny (model prog w) A (formatField (.int (n : Int) t) Str.empty) Q E s := wpAny_formatField_int (log_small (nat_text h hN)) hQ
theorem ff_1 (h : n ≤ N) (hN : Nat.ble N 5000 = true) (hQ : Q (.str (Str.ofString (toString ((n : Int) + 1))) (s.toks + 1)) { s with toks := s.toks + 1 + 1 }) :
    wpAny (model prog w) A (formatField (.int ((n : Int) + 1) t) Str.empty) Q E s := wpAny_formatField_int (log_small (succ_text h hN)) hQ
theorem ff_d (h : n ≤ N) (h' : i ≤ K) (hN : Nat.ble N 5000 = true) (hK : Nat.ble K 5000 = true) (hQ : Q (.str (Str.ofString (toString ((n : Int) - (i : Int)))) (s.toks + 1)) { s with toks := s.toks + 1 + 1 }) :
    wpAny (model prog w) A (formatField (.int ((n : Int) - (i : Int)) t) Str.empty) Q E s := wpAny_formatField_int (log_small (sub_text h h' hN hK)) hQ
end
end Mine
end
local macro_rules | `(tactic| walk_at "formatField int") => return fs (rf ``ff_1 "sU?") (fs (rf ``ff_0 "sU?") (rf ``ff_d "ssUU?"))
local macro_rules | `(tactic| walk_at "piece") => `(tactic| first | assumption | ((with_reducible refine text_1 (by assumption) ?_); with_unfolding_all exact rfl) | ((with_reducible refine text_0 (by assumption) ?_); with_unfolding_all exact rfl) | ((with_reducible refine text_d (by assumption) (by assumption) ?_ ?_) <;> with_unfolding_all exact rfl) | ((with_reducible refine fits_w (by assumption) ?_); with_unfolding_all exact rfl) | ((with_reducible show (Str.ofString _).length ≤ _); with_unfolding_all exact Nat.le_of_ble_eq_true rfl))
local macro_rules | `(tactic| walk_at "pieces") => `(tactic| first | (with_reducible exact fits_e) | ((with_reducible apply fits_app); walk_at "pieces"; walk_at "piece") | ((with_reducible refine fits_one ?_); walk_at "piece"))
local macro_rules | `(tactic| walk_at "size") => `(tactic| ((try (with_reducible refine fits_sum ?_)); (with_reducible apply fits_top); walk_at "pieces"; with_unfolding_all exact rfl))
local macro_rules | `(tactic| size_fits) => `(tactic| walk_at "size")
section
open PySem PySem.W PySem.W.X PyProof.Rows
namespace Mine
/-- the order of the items is a permutation -/
noncomputable def Pm (n : Nat) (p : Array Nat) : Prop := p.Perm (List.toArray (List.range n))
/-- the questions are answered by the keys -/
noncomputable def Tells (n : Nat) (key : Nat → Int) (Inv : Shared → Prop) (cmp : Nat → Nat → (Bool → Shared → Prop) → Shared → Prop) : Prop :=
  ∀ i j (C : Bool → Shared → Prop) s, i < n → j < n → i ≠ j → Inv s → (∀ s', Inv s' → C (decide (key i < key j)) s') → cmp i j C s
section
variable {n : Nat} {key : Nat → Int} {Inv : Shared → Prop} {cmp : Nat → Nat → (Bool → Shared → Prop) → Shared → Prop} {p : Array Nat}
theorem Pm.size (h : Pm n p) : p.size = n := by
  have := Array.Perm.size_eq h
  simpa using this
theorem Pm.get (h : Pm n p) {i : Nat} (hi : i < n) : p[i]? = some (p.getD i 0) := by
  have := h.size
  rw [Array.getD_eq_getD_getElem?, Array.getElem?_eq_getElem (by lia)]; rfl
theorem Pm.lt (h : Pm n p) {i : Nat} (hi : i < n) : p.getD i 0 < n := by
  have hm : p.getD i 0 ∈ p.toList := by
    rw [Array.mem_toList_iff]
    exact Array.mem_of_getElem? (h.get hi)
  have := (Array.perm_iff_toList_perm.mp h).mem_iff.mp hm
  simpa using this
theorem Pm.nodup (h : Pm n p) : p.toList.Nodup := (Array.perm_iff_toList_perm.mp h).nodup_iff.mpr (by simpa using List.nodup_range)
theorem Pm.inj (h : Pm n p) {i j : Nat} (hi : i < n) (hj : j < n) (e : p.getD i 0 = p.getD j 0) : i = j := by
  have hs := h.size
  have hil : i < p.toList.length := by simpa [hs] using hi
  have hjl : j < p.toList.length := by simpa [hs] using hj
  have h1 : p.toList[i] = p.toList[j] := by
    have e1 := h.get hi
    have e2 := h.get hj
    rw [← Array.getElem?_toList, List.getElem?_eq_getElem hil] at e1
    rw [← Array.getElem?_toList, List.getElem?_eq_getElem hjl] at e2
    rw [Option.some.inj e1, Option.some.inj e2, e]
  exact (List.getElem_inj h.nodup).mp h1
noncomputable def Ky (key : Nat → Int) (p : Array Nat) (i : Nat) : Int := key (p.getD i 0)
noncomputable def UpTo (key : Nat → Int) (p : Array Nat) (k : Nat) : Prop := ∀ i j, i < j → j < k → Ky key p i < Ky key p j
noncomputable def DnTo (key : Nat → Int) (p : Array Nat) (k : Nat) : Prop := ∀ i j, i < j → j < k → Ky key p j < Ky key p i
theorem UpTo.succ {k : Nat} (h : UpTo key p k) (hk : Ky key p (k - 1) < Ky key p k) (h1 : 1 ≤ k) : UpTo key p (k + 1) := fun i j hij hj => by
  by_cases q : j < k
  · exact h i j hij q
  · obtain rfl : j = k := by lia
    by_cases r : i = j - 1
    · rw [r]; exact hk
    · exact Int.lt_trans (h i (j - 1) (Nat.lt_of_le_of_ne (Nat.le_sub_one_of_lt hij) r) (Nat.sub_lt h1 Nat.one_pos)) hk
theorem DnTo.succ {k : Nat} (h : DnTo key p k) (hk : Ky key p k < Ky key p (k - 1)) (h1 : 1 ≤ k) : DnTo key p (k + 1) := fun i j hij hj => by
  by_cases q : j < k
  · exact h i j hij q
  · obtain rfl : j = k := by lia
    by_cases r : i = j - 1
    · rw [r]; exact hk
    · exact Int.lt_trans hk (h i (j - 1) (Nat.lt_of_le_of_ne (Nat.le_sub_one_of_lt hij) r) (Nat.sub_lt h1 Nat.one_pos))
theorem up_one : UpTo key p 1 := fun i j hij hj => absurd (Nat.lt_of_lt_of_le hij (Nat.le_of_lt_succ hj)) (Nat.not_lt_zero _)
theorem dn_one : DnTo key p 1 := fun i j hij hj => absurd (Nat.lt_of_lt_of_le hij (Nat.le_of_lt_succ hj)) (Nat.not_lt_zero _)
theorem Ky.ne (hk : ∀ i j, i < n → j < n → key i = key j → i = j) (hp : Pm n p) {i j : Nat} (hi : i < n) (hj : j < n) (h : i ≠ j) : Ky key p i ≠ Ky key p j := fun q => h (hp.inj hi hj (hk _ _ (hp.lt hi) (hp.lt hj) q))
theorem ask_wp {α : Type} (hc : Tells n key Inv cmp) (hp : Pm n p) {i j : Nat} (hi : i < n) (hj : j < n) (hij : i ≠ j) {k : Bool → KasT α} {Q : α → Shared → Prop} {s : Shared} (hI : Inv s)
    (h1 : Ky key p i < Ky key p j → ∀ s', Inv s' → (k true).kasWp cmp Q s') (h2 : ¬ Ky key p i < Ky key p j → ∀ s', Inv s' → (k false).kasWp cmp Q s') : (KasT.ask (p.getD i 0) (p.getD j 0) k).kasWp cmp Q s := by
  show cmp (p.getD i 0) (p.getD j 0) _ s
  refine hc _ _ _ s (hp.lt hi) (hp.lt hj) (fun q => hij (hp.inj hi hj q)) hI fun s' hi' => ?_
  by_cases h : key (p.getD i 0) < key (p.getD j 0)
  · rw [decide_eq_true h]; exact h1 h s' hi'
  · rw [decide_eq_false h]; exact h2 h s' hi'
theorem asc_wp (hk : ∀ i j, i < n → j < n → key i = key j → i = j) (hc : Tells n key Inv cmp) (hp : Pm n p) {Q : Nat → Shared → Prop} : ∀ (f a : Nat) (s : Shared), 1 ≤ a → a + f ≤ n → UpTo key p a → Inv s →
    (∀ m s', Inv s' → a ≤ m → m ≤ a + f → UpTo key p m → (m = a + f ∨ Ky key p m < Ky key p (m - 1)) → Q m s') → (kas_asc p f a).kasWp cmp Q s
  | 0, a, s, _, _, hu, hi, hq => hq a s hi (Nat.le_refl _) (Nat.le_refl _) hu (.inl rfl)
  | f + 1, a, s, h1, h2, hu, hi, hq => by
    have ha1 : a - 1 < a := Nat.sub_lt h1 Nat.one_pos
    have han : a < n := Nat.lt_of_lt_of_le (Nat.lt_add_of_pos_right (Nat.succ_pos f)) h2
    have e2 : a + 1 + f = a + (f + 1) := by rw [Nat.add_assoc, Nat.add_comm 1 f]
    refine ask_wp hc hp han (Nat.lt_trans ha1 han) (Nat.ne_of_gt ha1) hi (fun h s' hi' => ?_) fun h s' hi' => ?_
    · simp only [if_true]
      exact hq a s' hi' (Nat.le_refl _) (Nat.le_add_right _ _) hu (.inr h)
    · simp only [Bool.false_eq_true, if_false]
      have hne := Ky.ne (key := key) hk hp han (Nat.lt_trans ha1 han) (Nat.ne_of_gt ha1)
      refine asc_wp hk hc hp f (a + 1) s' (Nat.le_add_left 1 a) (e2 ▸ h2) (hu.succ (Int.lt_iff_le_and_ne.mpr ⟨Int.not_lt.mp h, Ne.symm hne⟩) h1) hi' fun m s'' hi'' m1 m2 m3 m4 => hq m s'' hi'' (Nat.le_of_lt m1) (e2 ▸ m2) m3 ?_
      rcases m4 with m4 | m4
      · exact .inl (e2 ▸ m4)
      · exact .inr m4
theorem desc_wp (hk : ∀ i j, i < n → j < n → key i = key j → i = j) (hc : Tells n key Inv cmp) (hp : Pm n p) {Q : Array Nat × Nat × Nat → Shared → Prop} : ∀ (f a : Nat) (s : Shared), 1 ≤ a → a + f ≤ n → DnTo key p a → Inv s →
    (∀ m s', Inv s' → a ≤ m → m ≤ a + f → DnTo key p m → Q (p, m, 0) s') → (kas_desc f p a 0).kasWp cmp Q s
  | 0, a, s, _, _, hu, hi, hq => hq a s hi (Nat.le_refl _) (Nat.le_refl _) hu
  | f + 1, a, s, h1, h2, hu, hi, hq => by
    have ha1 : a - 1 < a := Nat.sub_lt h1 Nat.one_pos
    have han : a < n := Nat.lt_of_lt_of_le (Nat.lt_add_of_pos_right (Nat.succ_pos f)) h2
    have e2 : a + 1 + f = a + (f + 1) := by rw [Nat.add_assoc, Nat.add_comm 1 f]
    refine ask_wp hc hp han (Nat.lt_trans ha1 han) (Nat.ne_of_gt ha1) hi (fun h s' hi' => ?_) fun h s' hi' => ?_
    · simp only [if_true, gt_iff_lt, Nat.lt_irrefl, if_false]
      exact desc_wp hk hc hp f (a + 1) s' (Nat.le_add_left 1 a) (e2 ▸ h2) (hu.succ h h1) hi' fun m s'' hi'' m1 m2 m3 => hq m s'' hi'' (Nat.le_of_lt m1) (e2 ▸ m2) m3
    · simp only [Bool.false_eq_true, if_false]
      have hne := Ky.ne (key := key) hk hp han (Nat.lt_trans ha1 han) (Nat.ne_of_gt ha1)
      refine ask_wp hc hp (Nat.lt_trans ha1 han) han (Nat.ne_of_lt ha1) hi' (fun h' s2 hi2 => ?_) fun h' s2 hi2 => ?_
      · simp only [if_true]
        exact hq a s2 hi2 (Nat.le_refl _) (Nat.le_add_right _ _) hu
      · exact absurd (Int.lt_iff_le_and_ne.mpr ⟨Int.not_lt.mp h, Ne.symm hne⟩) h'
theorem rev_pm (hp : Pm n p) (r : Nat) : Pm n (kas_rev p 0 r) := (mirror_perm p 0 r _).trans hp
theorem rev_up (hp : Pm n p) {r : Nat} (hr : r ≤ n) (h : DnTo key p r) : UpTo key (kas_rev p 0 r) r := by
  have hs := hp.size
  have e : ∀ k, k < r → Ky key (kas_rev p 0 r) k = Ky key p (r - 1 - k) := fun k hk => by
    unfold Ky kas_rev
    rw [Array.getD_eq_getD_getElem?, Array.getD_eq_getD_getElem?, getElem?_mirror_all (i := 0) (by lia) k, if_pos (by lia)]
    rw [Nat.zero_add]
  intro i j hij hj
  rw [e i (Nat.lt_trans hij hj), e j hj]
  exact h _ _ (Nat.sub_lt_sub_left (Nat.lt_of_lt_of_le hij (Nat.le_sub_one_of_lt hj)) hij) (Nat.lt_of_le_of_lt (Nat.sub_le _ _) (Nat.sub_one_lt_of_lt hj))
theorem tail_wp (hk : ∀ i j, i < n → j < n → key i = key j → i = j) (hc : Tells n key Inv cmp) (hp : Pm n p) {Q : Nat × Array Nat → Shared → Prop} {s : Shared} {r : Nat} (h1 : 1 ≤ r) (hr : r ≤ n) (h : DnTo key p r) (hi : Inv s)
    (hq : ∀ m p' s', Inv s' → Pm n p' → 1 ≤ m → m ≤ n → UpTo key p' m → Q (m, p') s') : (kas_tail3 r n p).kasWp cmp Q s := by
  unfold kas_tail3
  rw [KasT.kasWp_bind]
  refine asc_wp hk hc (rev_pm hp r) _ _ s h1 (Nat.le_of_eq (Nat.add_sub_cancel' hr)) (rev_up hp hr h) hi fun m s' hi' m1 m2 m3 _ => ?_
  exact hq m _ s' hi' (rev_pm hp r) (Nat.le_trans h1 m1) (Nat.le_trans m2 (Nat.le_of_eq (Nat.add_sub_cancel' hr))) m3
theorem count_wp (hk : ∀ i j, i < n → j < n → key i = key j → i = j) (hc : Tells n key Inv cmp) (hp : Pm n p) {Q : Nat × Array Nat → Shared → Prop} {s : Shared} (hn : 1 ≤ n) (hi : Inv s)
    (hq : ∀ m p' s', Inv s' → Pm n p' → 1 ≤ m → m ≤ n → UpTo key p' m → Q (m, p') s') : (kas_count n p).kasWp cmp Q s := by
  unfold kas_count
  rw [KasT.kasWp_bind]
  have hn1 : 1 + (n - 1) = n := Nat.add_sub_cancel' hn
  refine asc_wp hk hc hp _ _ s (Nat.le_refl _) (Nat.le_of_eq hn1) up_one hi fun m s' hi' m1 m2 m3 m4 => ?_
  rw [hn1] at m2 m4
  by_cases hm : m = n
  · rw [if_pos (by simpa using hm)]
    exact hq m p s' hi' hp m1 m2 m3
  · rw [if_neg (by simpa using hm)]
    have mn : m < n := Nat.lt_of_le_of_ne m2 hm
    by_cases hm1 : m > 1
    · rw [if_pos hm1]
      have mm : m - 1 < m := Nat.sub_one_lt_of_lt hm1
      have m0 : 0 < m - 1 := Nat.sub_pos_of_lt hm1
      refine ask_wp hc hp hn (Nat.lt_trans mm mn) (Nat.ne_of_lt m0) hi' (fun h s2 hi2 => ?_) fun h s2 hi2 => ?_
      · simp only [if_true]
        exact hq m p s2 hi2 hp m1 m2 m3
      · exact absurd (m3 0 (m - 1) m0 mm) h
    · rw [if_neg hm1]
      obtain rfl : m = 1 := Nat.le_antisymm (Nat.not_lt.mp hm1) m1
      have h2 : Ky key p 1 < Ky key p 0 := by
        rcases m4 with q | q
        · exact absurd q hm
        · exact q
      unfold kas_descPart
      rw [KasT.kasWp_bind]
      have e2 : 1 + 1 + (n - (1 + 1)) = n := Nat.add_sub_cancel' mn
      refine desc_wp hk hc hp _ _ s' (Nat.le_succ 1) (Nat.le_of_eq e2) (dn_one.succ h2 (Nat.le_refl _)) hi' fun r s2 hi2 r1 r2 r3 => ?_
      simp only [gt_iff_lt, Nat.lt_irrefl, if_false]
      rw [e2] at r2
      exact tail_wp hk hc hp (Nat.le_trans (Nat.le_succ 1) r1) r2 r3 hi2 hq
theorem place_wp (hk : ∀ i j, i < n → j < n → key i = key j → i = j) (hc : Tells n key Inv cmp) (hp : Pm n p) {Q : Nat → Shared → Prop} {k : Nat} (hkn : k < n) (hu : UpTo key p k) : ∀ (f l r : Nat) (s : Shared), l ≤ r → r ≤ k → r - l ≤ f →
    (∀ i, i < l → Ky key p i < Ky key p k) → (∀ i, r ≤ i → i < k → Ky key p k < Ky key p i) → Inv s →
    (∀ l' s', Inv s' → l' ≤ k → (∀ i, i < l' → Ky key p i < Ky key p k) → (∀ i, l' ≤ i → i < k → Ky key p k < Ky key p i) → Q l' s') → (kas_place p k f l r).kasWp cmp Q s
  | 0, l, r, s, h1, h2, h3, h4, h5, hi, hq => by
    obtain rfl : l = r := by lia
    exact hq l s hi h2 h4 h5
  | f + 1, l, r, s, h1, h2, h3, h4, h5, hi, hq => by
    unfold kas_place
    by_cases hlr : l ≥ r
    · rw [if_pos hlr]
      obtain rfl : l = r := by lia
      exact hq l s hi h2 h4 h5
    · rw [if_neg hlr]
      have m1 : l ≤ (l + r) / 2 := by lia
      have m2 : (l + r) / 2 < r := by lia
      generalize (l + r) / 2 = mid at m1 m2
      have hmk : mid < k := Nat.lt_of_lt_of_le m2 h2
      refine ask_wp hc hp hkn (Nat.lt_trans hmk hkn) (Nat.ne_of_gt hmk) hi (fun h s2 hi2 => ?_) fun h s2 hi2 => ?_
      · simp only [if_true]
        refine place_wp hk hc hp hkn hu f l mid s2 m1 (Nat.le_trans (Nat.le_of_lt m2) h2) (Nat.le_of_lt_succ (Nat.lt_of_lt_of_le (Nat.sub_lt_sub_right m1 m2) h3)) h4 (fun i hi hik => ?_) hi2 hq
        by_cases hm : i = mid
        · rw [hm]; exact h
        · exact Int.lt_trans h (hu mid i (Nat.lt_of_le_of_ne hi (Ne.symm hm)) hik)
      · simp only [Bool.false_eq_true, if_false]
        have hne := Ky.ne (key := key) hk hp (i := k) (j := mid) hkn (Nat.lt_trans hmk hkn) (Nat.ne_of_gt hmk)
        refine place_wp hk hc hp hkn hu f (mid + 1) r s2 m2 h2 (Nat.sub_le_iff_le_add.mpr (Nat.le_trans (Nat.sub_le_iff_le_add.mp h3) (by rw [Nat.add_assoc, Nat.add_comm 1 l]; exact Nat.add_le_add_left (Nat.succ_le_succ m1) f))) (fun i hi => ?_) h5 hi2 hq
        by_cases hm : i = mid
        · rw [hm]; exact Int.lt_iff_le_and_ne.mpr ⟨Int.not_lt.mp h, Ne.symm hne⟩
        · exact Int.lt_of_lt_of_le (hu i mid (Nat.lt_of_le_of_ne (Nat.le_of_lt_succ hi) hm) (Nat.lt_of_lt_of_le m2 h2)) (Int.not_lt.mp h)
theorem bub_ky (hp : Pm n p) {k l : Nat} (hk : k < n) (hl : l ≤ k) (i : Nat) : Ky key (bubble p k (k - l)) i = if i = l then Ky key p k else if l < i ∧ i ≤ k then Ky key p (i - 1) else Ky key p i := by
  have hs := hp.size
  unfold Ky
  have e := getElem?_bubble (xs := p) (src := k) (by lia) (k - l) (Nat.sub_le _ _) i
  rw [show k - (k - l) = l from Nat.sub_sub_self hl] at e
  simp only [Array.getD_eq_getD_getElem?, e]
  split
  · rfl
  · split <;> rfl
theorem bin_wp (hk : ∀ i j, i < n → j < n → key i = key j → i = j) (hc : Tells n key Inv cmp) {Q : Array Nat → Shared → Prop} : ∀ (f k : Nat) (p : Array Nat) (s : Shared), Pm n p → k + f = n → UpTo key p k → Inv s →
    (∀ p' s', Inv s' → Pm n p' → UpTo key p' n → Q p' s') → (kas_bin f p k).kasWp cmp Q s
  | 0, k, p, s, hp, hf, hu, hi, hq => by
    obtain rfl : k = n := by lia
    exact hq p s hi hp hu
  | f + 1, k, p, s, hp, hf, hu, hi, hq => by
    unfold kas_bin
    rw [KasT.kasWp_bind]
    refine place_wp hk hc hp (by lia) hu k 0 k s (Nat.zero_le _) (Nat.le_refl _) (by lia) (fun i hi => absurd hi (Nat.not_lt_zero i)) (fun i h1 h2 => absurd h2 (Nat.not_lt.mpr h1)) hi fun l s2 hi2 l1 l2 l3 => ?_
    refine bin_wp hk hc f (k + 1) (bubble p k (k - l)) s2 ((bubble_perm p k _).trans hp) (by lia) (fun i j hij hj => ?_) hi2 hq
    have hkn : k < n := by lia
    rw [bub_ky hp hkn l1, bub_ky hp hkn l1]
    by_cases q1 : i = l
    · rw [q1] at hij
      rw [if_pos q1, if_neg (Nat.ne_of_gt hij), if_pos ⟨hij, Nat.le_of_lt_succ hj⟩]
      exact l3 (j - 1) (Nat.le_sub_one_of_lt hij) (Nat.sub_one_lt_of_le (Nat.zero_lt_of_lt hij) (Nat.le_of_lt_succ hj))
    · rw [if_neg q1]
      by_cases q2 : j = l
      · rw [q2] at hij
        rw [if_pos q2, if_neg (fun z => Nat.lt_asymm z.1 hij)]
        exact l2 i hij
      · rw [if_neg q2]
        by_cases q3 : l < i
        · rw [if_pos ⟨q3, Nat.le_of_lt_succ (Nat.lt_trans hij hj)⟩, if_pos ⟨Nat.lt_trans q3 hij, Nat.le_of_lt_succ hj⟩]
          exact hu _ _ (Nat.sub_lt_sub_right (Nat.zero_lt_of_lt q3) hij) (Nat.sub_one_lt_of_le (Nat.zero_lt_of_lt hij) (Nat.le_of_lt_succ hj))
        · rw [if_neg (fun z => q3 z.1)]
          have il : i < l := Nat.lt_of_le_of_ne (Nat.not_lt.mp q3) q1
          by_cases q4 : l < j
          · rw [if_pos ⟨q4, Nat.le_of_lt_succ hj⟩]
            exact hu _ _ (Nat.lt_of_lt_of_le il (Nat.le_sub_one_of_lt q4)) (Nat.sub_one_lt_of_le (Nat.zero_lt_of_lt hij) (Nat.le_of_lt_succ hj))
          · rw [if_neg (fun z => q4 z.1)]
            exact hu _ _ hij (Nat.lt_of_lt_of_le (Nat.lt_of_le_of_ne (Nat.not_lt.mp q4) q2) l1)
theorem sort_wp (hk : ∀ i j, i < n → j < n → key i = key j → i = j) (hc : Tells n key Inv cmp) {Q : Array Nat → Shared → Prop} {s : Shared} (hn : 1 ≤ n) (hi : Inv s)
    (hq : ∀ p' s', Inv s' → Pm n p' → UpTo key p' n → Q p' s') : (kas_sort n).kasWp cmp Q s := by
  unfold kas_sort
  rw [KasT.kasWp_bind]
  refine count_wp hk hc (Array.Perm.refl _) hn hi fun m p' s' hi' hp' m1 m2 hu => ?_
  dsimp only
  by_cases h : m < n
  · rw [if_pos h, show max m 1 = m from Nat.max_eq_left m1]
    exact bin_wp hk hc _ _ _ s' hp' (Nat.add_sub_cancel' (Nat.le_of_lt h)) hu hi' hq
  · rw [if_neg h]
    obtain rfl : m = n := Nat.le_antisymm m2 (Nat.not_lt.mp h)
    exact hq p' s' hi' hp' hu
end
end Mine

end
section
open PySem PySem.W PySem.W.X PyProof.Rows
namespace Mine
noncomputable abbrev prg := PySem.Challenge.pw_ny0262_01
noncomputable def inCls (s : Option Stmt) (j : Nat) : Option Stmt := match s with
  | some (.ClassDef _ _ _ body _ _ _ _ _ _ _) => body[j]?
  | _ => none
/-- a def of the text, made by the top -/
noncomputable abbrev fnAt {nm : Str} {ps : Arguments} {body : List Stmt} {ds : List Expr} {rt : Option Expr} {tps : List TypeParam} {sc : Scope} {ts : Option Scope} {bn : Str} {pos : Pos} (st : Option Stmt)
    (_h : st = some (.FunctionDef nm ps body ds rt tps sc ts bn pos)) (qual : Str) (dV kV doc pm cd ct : Value) : Obj := ⟨.type "function", none, .func (fnOf nm qual ps body sc dV kV doc pm none cd ct), #[]⟩
noncomputable def o3 (P : Params) : Obj := ⟨.type "dict", none, .dict #[⟨PyData.keyHash P (Str.ofString "__name__"), .str (Str.ofString "__name__") 165, .str (Str.ofString "law_ny0262_01") 629⟩, ⟨PyData.keyHash P (Str.ofString "__doc__"), .str (Str.ofString "__doc__") 166, .none⟩, ⟨PyData.keyHash P (Str.ofString "__package__"), .str (Str.ofString "__package__") 167, .none⟩, ⟨PyData.keyHash P (Str.ofString "__loader__"), .str (Str.ofString "__loader__") 168, .builtin "__main__.__loader__#opaque"⟩, ⟨PyData.keyHash P (Str.ofString "__spec__"), .str (Str.ofString "__spec__") 169, .none⟩, ⟨PyData.keyHash P (Str.ofString "__annotations__"), .str (Str.ofString "__annotations__") 170, .ref 6⟩, ⟨PyData.keyHash P (Str.ofString "__builtins__"), .str (Str.ofString "__builtins__") 171, .ref 4⟩, ⟨PyData.keyHash P (Str.ofString "__file__"), .str (Str.ofString "__file__") 173, .str (Str.ofString "/claim/cut.py") 172⟩, ⟨PyData.keyHash P (Str.ofString "__cached__"), .str (Str.ofString "__cached__") 174, .none⟩, ⟨PyData.keyHash P (Str.ofString "_sre"), .str (Str.ofString "_sre") 275, .ref 12⟩, ⟨PyData.keyHash P (Str.ofString "_wall"), .str (Str.ofString "_wall") 288, .ref 38⟩, ⟨PyData.keyHash P (Str.ofString "digits"), .str (Str.ofString "digits") 290, .str (Str.ofString "0123456789") 289⟩, ⟨PyData.keyHash P (Str.ofString "hexdigits"), .str (Str.ofString "hexdigits") 295, .str (Str.ofString "0123456789abcdefABCDEF") 294⟩, ⟨PyData.keyHash P (Str.ofString "HEXDIGIT_CHARS"), .str (Str.ofString "HEXDIGIT_CHARS") 342, .ref 39⟩, ⟨PyData.keyHash P (Str.ofString "TOMLDecodeError"), .str (Str.ofString "TOMLDecodeError") 360, .ref 52⟩, ⟨PyData.keyHash P (Str.ofString "parse_hex_char"), .str (Str.ofString "parse_hex_char") 371, .ref 62⟩, ⟨PyData.keyHash P (Str.ofString "suffixed_err"), .str (Str.ofString "suffixed_err") 381, .ref 69⟩, ⟨PyData.keyHash P (Str.ofString "is_unicode_scalar_value"), .str (Str.ofString "is_unicode_scalar_value") 388, .ref 76⟩, ⟨PyData.keyHash P (Str.ofString "_NODE_OUT"), .str (Str.ofString "_NODE_OUT") 393, .int (-1) 392⟩, ⟨PyData.keyHash P (Str.ofString "_NODE_DONE"), .str (Str.ofString "_NODE_DONE") 396, .int (-2) 395⟩, ⟨PyData.keyHash P (Str.ofString "_NodeInfo"), .str (Str.ofString "_NodeInfo") 433, .ref 95⟩, ⟨PyData.keyHash P (Str.ofString "CycleError"), .str (Str.ofString "CycleError") 451, .ref 110⟩, ⟨PyData.keyHash P (Str.ofString "TopologicalSorter"), .str (Str.ofString "TopologicalSorter") 570, .ref 192⟩, ⟨PyData.keyHash P (Str.ofString "_twin_re_1"), .str (Str.ofString "_twin_re_1") 612, .ref 201⟩, ⟨PyData.keyHash P (Str.ofString "join"), .str (Str.ofString "join") 619, .ref 208⟩, ⟨PyData.keyHash P (Str.ofString "_find_unsafe"), .str (Str.ofString "_find_unsafe") 621, .ref 209⟩, ⟨PyData.keyHash P (Str.ofString "quote"), .str (Str.ofString "quote") 628, .ref 216⟩, ⟨PyData.keyHash P (Str.ofString "_law_signs"), .str (Str.ofString "_law_signs") 636, .ref 223⟩, ⟨PyData.keyHash P (Str.ofString "_law_place"), .str (Str.ofString "_law_place") 645, .ref 230⟩, ⟨PyData.keyHash P (Str.ofString "_law_scalar"), .str (Str.ofString "_law_scalar") 652, .ref 237⟩, ⟨PyData.keyHash P (Str.ofString "_law_due"), .str (Str.ofString "_law_due") 658, .ref 242⟩, ⟨PyData.keyHash P (Str.ofString "_law_told"), .str (Str.ofString "_law_told") 668, .ref 249⟩, ⟨PyData.keyHash P (Str.ofString "_law_rows"), .str (Str.ofString "_law_rows") 674, .ref 254⟩, ⟨PyData.keyHash P (Str.ofString "_law_text"), .str (Str.ofString "_law_text") 681, .ref 261⟩, ⟨PyData.keyHash P (Str.ofString "_law_rounds"), .str (Str.ofString "_law_rounds") 696, .ref 268⟩, ⟨PyData.keyHash P (Str.ofString "_law_plan"), .str (Str.ofString "_law_plan") 702, .ref 273⟩, ⟨PyData.keyHash P (Str.ofString "_law_size"), .str (Str.ofString "_law_size") 708, .ref 278⟩, ⟨PyData.keyHash P (Str.ofString "law"), .str (Str.ofString "law") 714, .ref 283⟩] 38, #[]⟩
noncomputable def o37 (_P : Params) : Obj := ⟨.type "code", none, .fields #[.str (Str.ofString "_wall") 282, .str (Str.ofString "_wall") 283, .str (Str.ofString "/claim/cut.py") 284, .int (2) 0, .int (1) 0, .int (0) 0, .int (0) 0, .int (3) 0, .ref 32, .bool true, .int (276) 0, .ref 33, .none, .ref 34, .ref 35, .ref 36, .int (286) 0, .int (2) 0, .str (Str.ofString "/claim/cut.py") 287], #[]⟩
noncomputable def o38 (_P : Params) : Obj := fnAt prg.main.body[1]? rfl (Str.ofString "_wall") (.none) (.none) (.none) (.str (Str.ofString "__main__") 164) (.ref 37) (.none)
noncomputable def o43 (_P : Params) : Obj := ⟨.type "tuple", none, .seq #[.type "ValueError"] 0, #[]⟩
noncomputable def o51 (P : Params) : Obj := ⟨.type "dict", none, .dict #[⟨PyData.keyHash P (Str.ofString "__module__"), .str (Str.ofString "__module__") 350, .str (Str.ofString "cpy313.tomllib._parser") 296⟩, ⟨PyData.keyHash P (Str.ofString "__firstlineno__"), .str (Str.ofString "__firstlineno__") 354, .int (9) 353⟩, ⟨PyData.keyHash P (Str.ofString "__static_attributes__"), .str (Str.ofString "__static_attributes__") 355, .ref 50⟩, ⟨PyData.keyHash P (Str.ofString "__weakref__"), .str (Str.ofString "__weakref__") 357, .ref 53⟩, ⟨PyData.keyHash P (Str.ofString "__doc__"), .str (Str.ofString "__doc__") 358, .none⟩] 3, #[]⟩
noncomputable def o52 (_P : Params) : Obj := ⟨.type "type", none, .cls ⟨Str.ofString "TOMLDecodeError", [.type "ValueError"], [.ref 52, .type "ValueError", .type "Exception", .type "BaseException", .type "object"], 51, Str.ofString "TOMLDecodeError", true, [], [], false, none, false⟩, #[some (.ref 43), none, some (.str (Str.ofString "TOMLDecodeError") 343), some (.str (Str.ofString "TOMLDecodeError") 351), some (.builtin "ValueError.__new__"), some (.bool true)]⟩
noncomputable def o53 (_P : Params) : Obj := ⟨.type "getset_descriptor", none, .fields #[.str (Str.ofString "__weakref__") 356, .ref 52, .builtin "ExceptionGroup.__weakref__", .none], #[]⟩
noncomputable def o61 (_P : Params) : Obj := ⟨.type "code", none, .fields #[.str (Str.ofString "parse_hex_char") 361, .str (Str.ofString "parse_hex_char") 362, .str (Str.ofString "/claim/cut.py") 363, .int (11) 0, .int (3) 0, .int (0) 0, .int (0) 0, .int (3) 0, .ref 56, .bool true, .int (276) 0, .ref 57, .none, .ref 58, .ref 59, .ref 60, .int (369) 0, .int (11) 0, .str (Str.ofString "/claim/cut.py") 370], #[]⟩
noncomputable def o62 (_P : Params) : Obj := fnAt prg.main.body[7]? rfl (Str.ofString "parse_hex_char") (.none) (.none) (.none) (.str (Str.ofString "cpy313.tomllib._parser") 296) (.ref 61) (.none)
noncomputable def o68 (_P : Params) : Obj := ⟨.type "code", none, .fields #[.str (Str.ofString "suffixed_err") 372, .str (Str.ofString "suffixed_err") 373, .str (Str.ofString "/claim/cut.py") 374, .int (20) 0, .int (3) 0, .int (0) 0, .int (0) 0, .int (3) 0, .ref 63, .bool true, .int (276) 0, .ref 64, .none, .ref 65, .ref 66, .ref 67, .int (379) 0, .int (20) 0, .str (Str.ofString "/claim/cut.py") 380], #[]⟩
noncomputable def o69 (_P : Params) : Obj := fnAt prg.main.body[8]? rfl (Str.ofString "suffixed_err") (.none) (.none) (.none) (.str (Str.ofString "cpy313.tomllib._parser") 296) (.ref 68) (.none)
noncomputable def o75 (_P : Params) : Obj := ⟨.type "code", none, .fields #[.str (Str.ofString "is_unicode_scalar_value") 382, .str (Str.ofString "is_unicode_scalar_value") 383, .str (Str.ofString "/claim/cut.py") 384, .int (32) 0, .int (1) 0, .int (0) 0, .int (0) 0, .int (3) 0, .ref 70, .bool true, .int (276) 0, .ref 71, .none, .ref 72, .ref 73, .ref 74, .int (386) 0, .int (32) 0, .str (Str.ofString "/claim/cut.py") 387], #[]⟩
noncomputable def o76 (_P : Params) : Obj := fnAt prg.main.body[9]? rfl (Str.ofString "is_unicode_scalar_value") (.none) (.none) (.none) (.str (Str.ofString "cpy313.tomllib._parser") 296) (.ref 75) (.none)
noncomputable def o90 (_P : Params) : Obj := ⟨.type "code", none, .fields #[.str (Str.ofString "__init__") 413, .str (Str.ofString "_NodeInfo.__init__") 414, .str (Str.ofString "/claim/cut.py") 415, .int (40) 0, .int (2) 0, .int (0) 0, .int (0) 0, .int (3) 0, .ref 85, .bool true, .int (276) 0, .ref 86, .none, .ref 87, .ref 88, .ref 89, .int (418) 0, .int (40) 0, .str (Str.ofString "/claim/cut.py") 419], #[]⟩
noncomputable def o91 (_P : Params) : Obj := fnAt (inCls prg.main.body[13]? 1) rfl (Str.ofString "_NodeInfo.__init__") (.none) (.none) (.none) (.str (Str.ofString "cpy313.graphlib") 389) (.ref 90) (.none)
noncomputable def o94 (P : Params) : Obj := ⟨.type "dict", none, .dict #[⟨PyData.keyHash P (Str.ofString "__module__"), .str (Str.ofString "__module__") 404, .str (Str.ofString "cpy313.graphlib") 389⟩, ⟨PyData.keyHash P (Str.ofString "__firstlineno__"), .str (Str.ofString "__firstlineno__") 408, .int (37) 407⟩, ⟨PyData.keyHash P (Str.ofString "__slots__"), .str (Str.ofString "__slots__") 412, .ref 84⟩, ⟨PyData.keyHash P (Str.ofString "__init__"), .str (Str.ofString "__init__") 420, .ref 91⟩, ⟨PyData.keyHash P (Str.ofString "__static_attributes__"), .str (Str.ofString "__static_attributes__") 424, .ref 92⟩, ⟨PyData.keyHash P (Str.ofString "node"), .str (Str.ofString "node") 426, .ref 96⟩, ⟨PyData.keyHash P (Str.ofString "npredecessors"), .str (Str.ofString "npredecessors") 428, .ref 97⟩, ⟨PyData.keyHash P (Str.ofString "successors"), .str (Str.ofString "successors") 430, .ref 98⟩, ⟨PyData.keyHash P (Str.ofString "__doc__"), .str (Str.ofString "__doc__") 431, .none⟩] 5, #[]⟩
noncomputable def o95 (_P : Params) : Obj := ⟨.type "type", none, .cls ⟨Str.ofString "_NodeInfo", [.type "object"], [.ref 95, .type "object"], 94, Str.ofString "_NodeInfo", false, [Str.ofString "node", Str.ofString "npredecessors", Str.ofString "successors"], [], false, none, false⟩, #[none, none, some (.str (Str.ofString "_NodeInfo") 397), some (.str (Str.ofString "_NodeInfo") 405), some (.builtin "object.__new__"), some (.bool false)]⟩
noncomputable def o96 (_P : Params) : Obj := ⟨.type "member_descriptor", none, .fields #[.str (Str.ofString "node") 425, .ref 95, .builtin "proto.slot", .builtin "proto.slot#set", .int (2) 0], #[]⟩
noncomputable def o97 (_P : Params) : Obj := ⟨.type "member_descriptor", none, .fields #[.str (Str.ofString "npredecessors") 427, .ref 95, .builtin "proto.slot", .builtin "proto.slot#set", .int (1) 0], #[]⟩
noncomputable def o98 (_P : Params) : Obj := ⟨.type "member_descriptor", none, .fields #[.str (Str.ofString "successors") 429, .ref 95, .builtin "proto.slot", .builtin "proto.slot#set", .int (0) 0], #[]⟩
noncomputable def o101 (_P : Params) : Obj := ⟨.type "tuple", none, .seq #[.type "ValueError"] 0, #[]⟩
noncomputable def o109 (P : Params) : Obj := ⟨.type "dict", none, .dict #[⟨PyData.keyHash P (Str.ofString "__module__"), .str (Str.ofString "__module__") 441, .str (Str.ofString "cpy313.graphlib") 389⟩, ⟨PyData.keyHash P (Str.ofString "__firstlineno__"), .str (Str.ofString "__firstlineno__") 445, .int (44) 444⟩, ⟨PyData.keyHash P (Str.ofString "__static_attributes__"), .str (Str.ofString "__static_attributes__") 446, .ref 108⟩, ⟨PyData.keyHash P (Str.ofString "__weakref__"), .str (Str.ofString "__weakref__") 448, .ref 111⟩, ⟨PyData.keyHash P (Str.ofString "__doc__"), .str (Str.ofString "__doc__") 449, .none⟩] 3, #[]⟩
noncomputable def o110 (_P : Params) : Obj := ⟨.type "type", none, .cls ⟨Str.ofString "CycleError", [.type "ValueError"], [.ref 110, .type "ValueError", .type "Exception", .type "BaseException", .type "object"], 109, Str.ofString "CycleError", true, [], [], false, none, false⟩, #[some (.ref 101), none, some (.str (Str.ofString "CycleError") 434), some (.str (Str.ofString "CycleError") 442), some (.builtin "ValueError.__new__"), some (.bool true)]⟩
noncomputable def o111 (_P : Params) : Obj := ⟨.type "getset_descriptor", none, .fields #[.str (Str.ofString "__weakref__") 447, .ref 110, .builtin "ExceptionGroup.__weakref__", .none], #[]⟩
noncomputable def o121 (_P : Params) : Obj := ⟨.type "tuple", none, .seq #[.none] 0, #[]⟩
noncomputable def o127 (_P : Params) : Obj := ⟨.type "code", none, .fields #[.str (Str.ofString "__init__") 464, .str (Str.ofString "TopologicalSorter.__init__") 465, .str (Str.ofString "/claim/cut.py") 466, .int (48) 0, .int (2) 0, .int (0) 0, .int (0) 0, .int (3) 0, .ref 122, .bool true, .int (276) 0, .ref 123, .none, .ref 124, .ref 125, .ref 126, .int (471) 0, .int (48) 0, .str (Str.ofString "/claim/cut.py") 472], #[]⟩
noncomputable def o128 (_P : Params) : Obj := fnAt (inCls prg.main.body[15]? 0) rfl (Str.ofString "TopologicalSorter.__init__") (.ref 121) (.none) (.none) (.str (Str.ofString "cpy313.graphlib") 389) (.ref 127) (.none)
noncomputable def o134 (_P : Params) : Obj := ⟨.type "code", none, .fields #[.str (Str.ofString "_get_nodeinfo") 474, .str (Str.ofString "TopologicalSorter._get_nodeinfo") 475, .str (Str.ofString "/claim/cut.py") 476, .int (57) 0, .int (2) 0, .int (0) 0, .int (0) 0, .int (3) 0, .ref 129, .bool true, .int (276) 0, .ref 130, .none, .ref 131, .ref 132, .ref 133, .int (480) 0, .int (57) 0, .str (Str.ofString "/claim/cut.py") 481], #[]⟩
noncomputable def o135 (_P : Params) : Obj := fnAt (inCls prg.main.body[15]? 1) rfl (Str.ofString "TopologicalSorter._get_nodeinfo") (.none) (.none) (.none) (.str (Str.ofString "cpy313.graphlib") 389) (.ref 134) (.none)
noncomputable def o141 (_P : Params) : Obj := ⟨.type "code", none, .fields #[.str (Str.ofString "add") 483, .str (Str.ofString "TopologicalSorter.add") 484, .str (Str.ofString "/claim/cut.py") 485, .int (62) 0, .int (2) 0, .int (0) 0, .int (0) 0, .int (7) 0, .ref 136, .bool true, .int (276) 0, .ref 137, .none, .ref 138, .ref 139, .ref 140, .int (492) 0, .int (62) 0, .str (Str.ofString "/claim/cut.py") 493], #[]⟩
noncomputable def o142 (_P : Params) : Obj := fnAt (inCls prg.main.body[15]? 2) rfl (Str.ofString "TopologicalSorter.add") (.none) (.none) (.none) (.str (Str.ofString "cpy313.graphlib") 389) (.ref 141) (.none)
noncomputable def o146 (_P : Params) : Obj := ⟨.type "code", none, .fields #[.str (Str.ofString "prepare") 495, .str (Str.ofString "TopologicalSorter.prepare") 496, .str (Str.ofString "/claim/cut.py") 497, .int (71) 0, .int (1) 0, .int (0) 0, .int (0) 0, .int (3) 0, .ref 143, .bool true, .int (276) 0, .ref 144, .none, .none, .none, .ref 145, .int (498) 0, .int (71) 0, .str (Str.ofString "/claim/cut.py") 499], #[]⟩
noncomputable def o147 (_P : Params) : Obj := fnAt (inCls prg.main.body[15]? 3) rfl (Str.ofString "TopologicalSorter.prepare") (.none) (.none) (.none) (.str (Str.ofString "cpy313.graphlib") 389) (.ref 146) (.none)
noncomputable def o153 (_P : Params) : Obj := ⟨.type "code", none, .fields #[.str (Str.ofString "get_ready") 501, .str (Str.ofString "TopologicalSorter.get_ready") 502, .str (Str.ofString "/claim/cut.py") 503, .int (79) 0, .int (1) 0, .int (0) 0, .int (0) 0, .int (3) 0, .ref 148, .bool true, .int (276) 0, .ref 149, .none, .ref 150, .ref 151, .ref 152, .int (508) 0, .int (79) 0, .str (Str.ofString "/claim/cut.py") 509], #[]⟩
noncomputable def o154 (_P : Params) : Obj := fnAt (inCls prg.main.body[15]? 4) rfl (Str.ofString "TopologicalSorter.get_ready") (.none) (.none) (.none) (.str (Str.ofString "cpy313.graphlib") 389) (.ref 153) (.none)
noncomputable def o160 (_P : Params) : Obj := ⟨.type "code", none, .fields #[.str (Str.ofString "is_active") 511, .str (Str.ofString "TopologicalSorter.is_active") 512, .str (Str.ofString "/claim/cut.py") 513, .int (90) 0, .int (1) 0, .int (0) 0, .int (0) 0, .int (3) 0, .ref 155, .bool true, .int (276) 0, .ref 156, .none, .ref 157, .ref 158, .ref 159, .int (515) 0, .int (90) 0, .str (Str.ofString "/claim/cut.py") 516], #[]⟩
noncomputable def o161 (_P : Params) : Obj := fnAt (inCls prg.main.body[15]? 5) rfl (Str.ofString "TopologicalSorter.is_active") (.none) (.none) (.none) (.str (Str.ofString "cpy313.graphlib") 389) (.ref 160) (.none)
noncomputable def o167 (_P : Params) : Obj := ⟨.type "code", none, .fields #[.str (Str.ofString "__bool__") 518, .str (Str.ofString "TopologicalSorter.__bool__") 519, .str (Str.ofString "/claim/cut.py") 520, .int (95) 0, .int (1) 0, .int (0) 0, .int (0) 0, .int (3) 0, .ref 162, .bool true, .int (276) 0, .ref 163, .none, .ref 164, .ref 165, .ref 166, .int (522) 0, .int (95) 0, .str (Str.ofString "/claim/cut.py") 523], #[]⟩
noncomputable def o168 (_P : Params) : Obj := fnAt (inCls prg.main.body[15]? 6) rfl (Str.ofString "TopologicalSorter.__bool__") (.none) (.none) (.none) (.str (Str.ofString "cpy313.graphlib") 389) (.ref 167) (.none)
noncomputable def o174 (_P : Params) : Obj := ⟨.type "code", none, .fields #[.str (Str.ofString "done") 525, .str (Str.ofString "TopologicalSorter.done") 526, .str (Str.ofString "/claim/cut.py") 527, .int (98) 0, .int (1) 0, .int (0) 0, .int (0) 0, .int (7) 0, .ref 169, .bool true, .int (276) 0, .ref 170, .none, .ref 171, .ref 172, .ref 173, .int (536) 0, .int (98) 0, .str (Str.ofString "/claim/cut.py") 537], #[]⟩
noncomputable def o175 (_P : Params) : Obj := fnAt (inCls prg.main.body[15]? 7) rfl (Str.ofString "TopologicalSorter.done") (.none) (.none) (.none) (.str (Str.ofString "cpy313.graphlib") 389) (.ref 174) (.none)
noncomputable def o181 (_P : Params) : Obj := ⟨.type "code", none, .fields #[.str (Str.ofString "_find_cycle") 539, .str (Str.ofString "TopologicalSorter._find_cycle") 540, .str (Str.ofString "/claim/cut.py") 541, .int (121) 0, .int (1) 0, .int (0) 0, .int (0) 0, .int (3) 0, .ref 176, .bool true, .int (276) 0, .ref 177, .none, .ref 178, .ref 179, .ref 180, .int (549) 0, .int (121) 0, .str (Str.ofString "/claim/cut.py") 550], #[]⟩
noncomputable def o182 (_P : Params) : Obj := fnAt (inCls prg.main.body[15]? 8) rfl (Str.ofString "TopologicalSorter._find_cycle") (.none) (.none) (.none) (.str (Str.ofString "cpy313.graphlib") 389) (.ref 181) (.none)
noncomputable def o188 (_P : Params) : Obj := ⟨.type "code", none, .fields #[.str (Str.ofString "static_order") 552, .str (Str.ofString "TopologicalSorter.static_order") 553, .str (Str.ofString "/claim/cut.py") 554, .int (150) 0, .int (1) 0, .int (0) 0, .int (0) 0, .int (3) 0, .ref 183, .bool true, .int (276) 0, .ref 184, .none, .ref 185, .ref 186, .ref 187, .int (556) 0, .int (150) 0, .str (Str.ofString "/claim/cut.py") 557], #[]⟩
noncomputable def o189 (_P : Params) : Obj := fnAt (inCls prg.main.body[15]? 9) rfl (Str.ofString "TopologicalSorter.static_order") (.none) (.none) (.none) (.str (Str.ofString "cpy313.graphlib") 389) (.ref 188) (.none)
noncomputable def o191 (P : Params) : Obj := ⟨.type "dict", none, .dict #[⟨PyData.keyHash P (Str.ofString "__module__"), .str (Str.ofString "__module__") 459, .str (Str.ofString "cpy313.graphlib") 389⟩, ⟨PyData.keyHash P (Str.ofString "__firstlineno__"), .str (Str.ofString "__firstlineno__") 463, .int (46) 462⟩, ⟨PyData.keyHash P (Str.ofString "__init__"), .str (Str.ofString "__init__") 473, .ref 128⟩, ⟨PyData.keyHash P (Str.ofString "_get_nodeinfo"), .str (Str.ofString "_get_nodeinfo") 482, .ref 135⟩, ⟨PyData.keyHash P (Str.ofString "add"), .str (Str.ofString "add") 494, .ref 142⟩, ⟨PyData.keyHash P (Str.ofString "prepare"), .str (Str.ofString "prepare") 500, .ref 147⟩, ⟨PyData.keyHash P (Str.ofString "get_ready"), .str (Str.ofString "get_ready") 510, .ref 154⟩, ⟨PyData.keyHash P (Str.ofString "is_active"), .str (Str.ofString "is_active") 517, .ref 161⟩, ⟨PyData.keyHash P (Str.ofString "__bool__"), .str (Str.ofString "__bool__") 524, .ref 168⟩, ⟨PyData.keyHash P (Str.ofString "done"), .str (Str.ofString "done") 538, .ref 175⟩, ⟨PyData.keyHash P (Str.ofString "_find_cycle"), .str (Str.ofString "_find_cycle") 551, .ref 182⟩, ⟨PyData.keyHash P (Str.ofString "static_order"), .str (Str.ofString "static_order") 558, .ref 189⟩, ⟨PyData.keyHash P (Str.ofString "__static_attributes__"), .str (Str.ofString "__static_attributes__") 563, .ref 190⟩, ⟨PyData.keyHash P (Str.ofString "__dict__"), .str (Str.ofString "__dict__") 565, .ref 193⟩, ⟨PyData.keyHash P (Str.ofString "__weakref__"), .str (Str.ofString "__weakref__") 567, .ref 194⟩, ⟨PyData.keyHash P (Str.ofString "__doc__"), .str (Str.ofString "__doc__") 568, .none⟩] 4, #[]⟩
noncomputable def o192 (_P : Params) : Obj := ⟨.type "type", none, .cls ⟨Str.ofString "TopologicalSorter", [.type "object"], [.ref 192, .type "object"], 191, Str.ofString "TopologicalSorter", true, [], [], false, none, false⟩, #[none, none, some (.str (Str.ofString "TopologicalSorter") 452), some (.str (Str.ofString "TopologicalSorter") 460), some (.builtin "object.__new__"), some (.bool true)]⟩
noncomputable def o193 (_P : Params) : Obj := ⟨.type "getset_descriptor", none, .fields #[.str (Str.ofString "__dict__") 564, .ref 192, .builtin "function.__dict__", .builtin "function.__dict__#set"], #[]⟩
noncomputable def o194 (_P : Params) : Obj := ⟨.type "getset_descriptor", none, .fields #[.str (Str.ofString "__weakref__") 566, .ref 192, .builtin "ExceptionGroup.__weakref__", .none], #[]⟩
noncomputable def o200 (_P : Params) : Obj := ⟨.type "tuple", none, .seq #[.int (14) 0, .int (17) 0, .int (4) 0, .int (1) 0, .int (1) 0, .int (21) 0, .int (9) 0, .int (0) 0, .int (604043296) 0, .int (1) 0, .int (0) 0, .int (0) 0, .int (0) 0, .int (0) 0, .int (0) 0, .int (8) 0, .int (4) 0, .int (0) 0, .int (13) 0, .int (14) 0, .int (21) 0, .int (9) 0, .int (0) 0, .int (604043296) 0, .int (1) 0, .int (0) 0, .int (0) 0, .int (0) 0, .int (0) 0, .int (0) 0, .int (8) 0, .int (4) 0, .int (0) 0, .int (1) 0] 0, #[]⟩
noncomputable def o201 (_P : Params) : Obj := ⟨.type "re.Pattern", none, .fields #[.str (Str.ofString "[^\\w@%+=:,./-]") 574, .int (256) 611, .int (0) 0, .none, .none, .ref 200, .int (0) 0], #[]⟩
noncomputable def o207 (_P : Params) : Obj := ⟨.type "code", none, .fields #[.str (Str.ofString "join") 613, .str (Str.ofString "join") 614, .str (Str.ofString "/claim/cut.py") 615, .int (154) 0, .int (1) 0, .int (0) 0, .int (0) 0, .int (3) 0, .ref 202, .bool true, .int (276) 0, .ref 203, .none, .ref 204, .ref 205, .ref 206, .int (617) 0, .int (154) 0, .str (Str.ofString "/claim/cut.py") 618], #[]⟩
noncomputable def o208 (_P : Params) : Obj := fnAt prg.main.body[18]? rfl (Str.ofString "join") (.none) (.none) (.none) (.str (Str.ofString "cpy313.shlex") 571) (.ref 207) (.none)
noncomputable def o209 (_P : Params) : Obj := ⟨.type "builtin_function_or_method", none, .fields #[.builtin "re.Pattern.search", .ref 201], #[]⟩
noncomputable def o215 (_P : Params) : Obj := ⟨.type "code", none, .fields #[.str (Str.ofString "quote") 622, .str (Str.ofString "quote") 623, .str (Str.ofString "/claim/cut.py") 624, .int (157) 0, .int (1) 0, .int (0) 0, .int (0) 0, .int (3) 0, .ref 210, .bool true, .int (276) 0, .ref 211, .none, .ref 212, .ref 213, .ref 214, .int (626) 0, .int (157) 0, .str (Str.ofString "/claim/cut.py") 627], #[]⟩
noncomputable def o216 (_P : Params) : Obj := fnAt prg.main.body[20]? rfl (Str.ofString "quote") (.none) (.none) (.none) (.str (Str.ofString "cpy313.shlex") 571) (.ref 215) (.none)
noncomputable def o222 (_P : Params) : Obj := ⟨.type "code", none, .fields #[.str (Str.ofString "_law_signs") 631, .str (Str.ofString "_law_signs") 632, .str (Str.ofString "/claim/cut.py") 633, .int (164) 0, .int (0) 0, .int (0) 0, .int (0) 0, .int (3) 0, .ref 217, .bool true, .int (276) 0, .ref 218, .none, .ref 219, .ref 220, .ref 221, .int (634) 0, .int (164) 0, .str (Str.ofString "/claim/cut.py") 635], #[]⟩
noncomputable def o223 (_P : Params) : Obj := fnAt prg.main.body[22]? rfl (Str.ofString "_law_signs") (.none) (.none) (.none) (.str (Str.ofString "law_ny0262_01") 629) (.ref 222) (.none)
noncomputable def o229 (_P : Params) : Obj := ⟨.type "code", none, .fields #[.str (Str.ofString "_law_place") 637, .str (Str.ofString "_law_place") 638, .str (Str.ofString "/claim/cut.py") 639, .int (166) 0, .int (2) 0, .int (0) 0, .int (0) 0, .int (3) 0, .ref 224, .bool true, .int (276) 0, .ref 225, .none, .ref 226, .ref 227, .ref 228, .int (643) 0, .int (166) 0, .str (Str.ofString "/claim/cut.py") 644], #[]⟩
noncomputable def o230 (_P : Params) : Obj := fnAt prg.main.body[23]? rfl (Str.ofString "_law_place") (.none) (.none) (.none) (.str (Str.ofString "law_ny0262_01") 629) (.ref 229) (.none)
noncomputable def o236 (_P : Params) : Obj := ⟨.type "code", none, .fields #[.str (Str.ofString "_law_scalar") 646, .str (Str.ofString "_law_scalar") 647, .str (Str.ofString "/claim/cut.py") 648, .int (171) 0, .int (1) 0, .int (0) 0, .int (0) 0, .int (3) 0, .ref 231, .bool true, .int (276) 0, .ref 232, .none, .ref 233, .ref 234, .ref 235, .int (650) 0, .int (171) 0, .str (Str.ofString "/claim/cut.py") 651], #[]⟩
noncomputable def o237 (_P : Params) : Obj := fnAt prg.main.body[24]? rfl (Str.ofString "_law_scalar") (.none) (.none) (.none) (.str (Str.ofString "law_ny0262_01") 629) (.ref 236) (.none)
noncomputable def o241 (_P : Params) : Obj := ⟨.type "code", none, .fields #[.str (Str.ofString "_law_due") 653, .str (Str.ofString "_law_due") 654, .str (Str.ofString "/claim/cut.py") 655, .int (173) 0, .int (3) 0, .int (0) 0, .int (0) 0, .int (3) 0, .ref 238, .bool true, .int (276) 0, .ref 239, .none, .none, .none, .ref 240, .int (656) 0, .int (173) 0, .str (Str.ofString "/claim/cut.py") 657], #[]⟩
noncomputable def o242 (_P : Params) : Obj := fnAt prg.main.body[25]? rfl (Str.ofString "_law_due") (.none) (.none) (.none) (.str (Str.ofString "law_ny0262_01") 629) (.ref 241) (.none)
noncomputable def o248 (_P : Params) : Obj := ⟨.type "code", none, .fields #[.str (Str.ofString "_law_told") 659, .str (Str.ofString "_law_told") 660, .str (Str.ofString "/claim/cut.py") 661, .int (183) 0, .int (3) 0, .int (0) 0, .int (0) 0, .int (3) 0, .ref 243, .bool true, .int (276) 0, .ref 244, .none, .ref 245, .ref 246, .ref 247, .int (666) 0, .int (183) 0, .str (Str.ofString "/claim/cut.py") 667], #[]⟩
noncomputable def o249 (_P : Params) : Obj := fnAt prg.main.body[26]? rfl (Str.ofString "_law_told") (.none) (.none) (.none) (.str (Str.ofString "law_ny0262_01") 629) (.ref 248) (.none)
noncomputable def o253 (_P : Params) : Obj := ⟨.type "code", none, .fields #[.str (Str.ofString "_law_rows") 669, .str (Str.ofString "_law_rows") 670, .str (Str.ofString "/claim/cut.py") 671, .int (188) 0, .int (1) 0, .int (0) 0, .int (0) 0, .int (3) 0, .ref 250, .bool true, .int (276) 0, .ref 251, .none, .none, .none, .ref 252, .int (672) 0, .int (188) 0, .str (Str.ofString "/claim/cut.py") 673], #[]⟩
noncomputable def o254 (_P : Params) : Obj := fnAt prg.main.body[27]? rfl (Str.ofString "_law_rows") (.none) (.none) (.none) (.str (Str.ofString "law_ny0262_01") 629) (.ref 253) (.none)
noncomputable def o260 (_P : Params) : Obj := ⟨.type "code", none, .fields #[.str (Str.ofString "_law_text") 675, .str (Str.ofString "_law_text") 676, .str (Str.ofString "/claim/cut.py") 677, .int (195) 0, .int (1) 0, .int (0) 0, .int (0) 0, .int (3) 0, .ref 255, .bool true, .int (276) 0, .ref 256, .none, .ref 257, .ref 258, .ref 259, .int (679) 0, .int (195) 0, .str (Str.ofString "/claim/cut.py") 680], #[]⟩
noncomputable def o261 (_P : Params) : Obj := fnAt prg.main.body[28]? rfl (Str.ofString "_law_text") (.none) (.none) (.none) (.str (Str.ofString "law_ny0262_01") 629) (.ref 260) (.none)
noncomputable def o267 (_P : Params) : Obj := ⟨.type "code", none, .fields #[.str (Str.ofString "_law_rounds") 682, .str (Str.ofString "_law_rounds") 683, .str (Str.ofString "/claim/cut.py") 684, .int (199) 0, .int (2) 0, .int (0) 0, .int (0) 0, .int (3) 0, .ref 262, .bool true, .int (276) 0, .ref 263, .none, .ref 264, .ref 265, .ref 266, .int (694) 0, .int (199) 0, .str (Str.ofString "/claim/cut.py") 695], #[]⟩
noncomputable def o268 (_P : Params) : Obj := fnAt prg.main.body[29]? rfl (Str.ofString "_law_rounds") (.none) (.none) (.none) (.str (Str.ofString "law_ny0262_01") 629) (.ref 267) (.none)
noncomputable def o272 (_P : Params) : Obj := ⟨.type "code", none, .fields #[.str (Str.ofString "_law_plan") 697, .str (Str.ofString "_law_plan") 698, .str (Str.ofString "/claim/cut.py") 699, .int (217) 0, .int (1) 0, .int (0) 0, .int (0) 0, .int (3) 0, .ref 269, .bool true, .int (276) 0, .ref 270, .none, .none, .none, .ref 271, .int (700) 0, .int (217) 0, .str (Str.ofString "/claim/cut.py") 701], #[]⟩
noncomputable def o273 (_P : Params) : Obj := fnAt prg.main.body[30]? rfl (Str.ofString "_law_plan") (.none) (.none) (.none) (.str (Str.ofString "law_ny0262_01") 629) (.ref 272) (.none)
noncomputable def o277 (_P : Params) : Obj := ⟨.type "code", none, .fields #[.str (Str.ofString "_law_size") 703, .str (Str.ofString "_law_size") 704, .str (Str.ofString "/claim/cut.py") 705, .int (237) 0, .int (2) 0, .int (0) 0, .int (0) 0, .int (3) 0, .ref 274, .bool true, .int (276) 0, .ref 275, .none, .none, .none, .ref 276, .int (706) 0, .int (237) 0, .str (Str.ofString "/claim/cut.py") 707], #[]⟩
noncomputable def o278 (_P : Params) : Obj := fnAt prg.main.body[31]? rfl (Str.ofString "_law_size") (.none) (.none) (.none) (.str (Str.ofString "law_ny0262_01") 629) (.ref 277) (.none)
noncomputable def o282 (_P : Params) : Obj := ⟨.type "code", none, .fields #[.str (Str.ofString "law") 709, .str (Str.ofString "law") 710, .str (Str.ofString "/claim/cut.py") 711, .int (247) 0, .int (1) 0, .int (0) 0, .int (0) 0, .int (3) 0, .ref 279, .bool true, .int (276) 0, .ref 280, .none, .none, .none, .ref 281, .int (712) 0, .int (247) 0, .str (Str.ofString "/claim/cut.py") 713], #[]⟩
noncomputable def o283 (_P : Params) : Obj := fnAt prg.main.body[32]? rfl (Str.ofString "law") (.none) (.none) (.none) (.str (Str.ofString "law_ny0262_01") 629) (.ref 282) (.none)
noncomputable def Kf (P : Params) : Frag := (nat_lit 3, o3 P) :: (nat_lit 37, o37 P) :: (nat_lit 38, o38 P) :: (nat_lit 43, o43 P) :: (nat_lit 51, o51 P) :: (nat_lit 52, o52 P) :: (nat_lit 53, o53 P) :: (nat_lit 61, o61 P) :: (nat_lit 62, o62 P) :: (nat_lit 68, o68 P) :: (nat_lit 69, o69 P) :: (nat_lit 75, o75 P) :: (nat_lit 76, o76 P) :: (nat_lit 90, o90 P) :: (nat_lit 91, o91 P) :: (nat_lit 94, o94 P) :: (nat_lit 95, o95 P) :: (nat_lit 96, o96 P) :: (nat_lit 97, o97 P) :: (nat_lit 98, o98 P) :: (nat_lit 101, o101 P) :: (nat_lit 109, o109 P) :: (nat_lit 110, o110 P) :: (nat_lit 111, o111 P) :: (nat_lit 121, o121 P) :: (nat_lit 127, o127 P) :: (nat_lit 128, o128 P) :: (nat_lit 134, o134 P) :: (nat_lit 135, o135 P) :: (nat_lit 141, o141 P) :: (nat_lit 142, o142 P) :: (nat_lit 146, o146 P) :: (nat_lit 147, o147 P) :: (nat_lit 153, o153 P) :: (nat_lit 154, o154 P) :: (nat_lit 160, o160 P) :: (nat_lit 161, o161 P) :: (nat_lit 167, o167 P) :: (nat_lit 168, o168 P) :: (nat_lit 174, o174 P) :: (nat_lit 175, o175 P) :: (nat_lit 181, o181 P) :: (nat_lit 182, o182 P) :: (nat_lit 188, o188 P) :: (nat_lit 189, o189 P) :: (nat_lit 191, o191 P) :: (nat_lit 192, o192 P) :: (nat_lit 193, o193 P) :: (nat_lit 194, o194 P) :: (nat_lit 200, o200 P) :: (nat_lit 201, o201 P) :: (nat_lit 207, o207 P) :: (nat_lit 208, o208 P) :: (nat_lit 209, o209 P) :: (nat_lit 215, o215 P) :: (nat_lit 216, o216 P) :: (nat_lit 222, o222 P) :: (nat_lit 223, o223 P) :: (nat_lit 229, o229 P) :: (nat_lit 230, o230 P) :: (nat_lit 236, o236 P) :: (nat_lit 237, o237 P) :: (nat_lit 241, o241 P) :: (nat_lit 242, o242 P) :: (nat_lit 248, o248 P) :: (nat_lit 249, o249 P) :: (nat_lit 253, o253 P) :: (nat_lit 254, o254 P) :: (nat_lit 260, o260 P) :: (nat_lit 261, o261 P) :: (nat_lit 267, o267 P) :: (nat_lit 268, o268 P) :: (nat_lit 272, o272 P) :: (nat_lit 273, o273 P) :: (nat_lit 277, o277 P) :: (nat_lit 278, o278 P) :: (nat_lit 282, o282 P) :: (nat_lit 283, o283 P) :: []
end Mine
end
local macro_rules | `(tactic| walk_at "fill") => `(tactic| (have hfill9 : Kf = Kf ∧ PySem.Challenge.rw_ny0262_01 = PySem.Challenge.rw_ny0262_01 := (by (k_fill; exact ⟨rfl, rfl⟩)); clear hfill9))
section
open PySem PySem.W PySem.W.X PyProof.Rows PySem.Calls PySem.Spec

namespace Mine

/-- one name more -/
noncomputable def upd (m : Str → Option Value) (x : Str) (v : Value) : Str → Option Value := fun y => if y = x then some v else m y
/-- the state that a walk knows: the kept base g, the frame L with its locals m, the ledger of things that may turn -/
structure St (g : Heap) (L : Addr) (news : List (Addr × Obj)) (h : Heap) (m : Str → Option Value) : Prop where
  ns : h.Ns L m
  keep : ∀ b o, g.get? b = some o → h.get? b = some o
  off : g.get? L = none
  nw : ∀ p ∈ news, h.get? p.1 = some p.2
  nL : ∀ p ∈ news, p.1 ≠ L
  ng : ∀ p ∈ news, g.get? p.1 = none
  nd : (news.map (·.1)).Nodup

noncomputable def Sub (g g' : Heap) : Prop := ∀ b o, g.get? b = some o → g'.get? b = some o
theorem Sub.refl (g : Heap) : Sub g g := fun _ _ e => e
theorem Sub.trans {a b c : Heap} (x : Sub a b) (y : Sub b c) : Sub a c := fun p o e => y p o (x p o e)

section
variable {g g' h h' : Heap} {L : Addr} {m m' : Str → Option Value} {news news' : List (Addr × Obj)}

theorem St.lt (S : St g L news h m) : L < h.objs.size := S.ns.lt
theorem St.news_lt (S : St g L news h m) {p : Addr × Obj} (hp : p ∈ news) : p.1 < h.objs.size := Heap.lt_size (S.nw p hp)

/-- the base may be taken as large as it can be -/
theorem St.rebase (S : St g L news h m) : ∃ g', Sub g g' ∧ St g' L news h m ∧ ∀ a o, h.get? a = some o → a ≠ L → (∀ p ∈ news, p.1 ≠ a) → g'.get? a = some o := by
  refine ⟨hideAll h (L :: news.map (·.1)), fun b o e => ?_, ⟨S.ns, fun b o e => of_hideAll _ e, hideAll_none _ (.head _), S.nw, S.nL, fun p hp => hideAll_none _ (.tail _ (List.mem_map_of_mem hp)), S.nd⟩, fun a o e h1 h2 => ?_⟩
  · refine hideAll_get _ (S.keep b o e) fun q => ?_
    rcases List.mem_cons.mp q with rfl | q
    · rw [S.off] at e; cases e
    · obtain ⟨p, hp, rfl⟩ := List.mem_map.mp q
      rw [S.ng p hp] at e; cases e
  · refine hideAll_get _ e fun q => ?_
    rcases List.mem_cons.mp q with q | q
    · exact h1 q
    · obtain ⟨p, hp, q⟩ := List.mem_map.mp q
      exact h2 p hp q

theorem St.setL (S : St g L news h m) (hn : h'.Ns L m') (hs : Heap.SameBut L h h') : St g L news h' m' :=
  ⟨hn, fun b o e => (hs.2 b (fun q => by rw [q, S.off] at e; cases e)).trans (S.keep b o e), S.off, fun p hp => (hs.2 _ (S.nL p hp)).trans (S.nw p hp), S.nL, S.ng, S.nd⟩

theorem St.push (S : St g L news h m) (o : Obj) (hf : o.isFreed = false) : St g L ((h.objs.size, o) :: news) (h.push o) m := by
  refine ⟨S.ns.push o, fun b ob e => Heap.get?_push_of_some _ (S.keep b ob e), S.off, fun p hp => ?_, fun p hp => ?_, fun p hp => ?_, ?_⟩
  · rcases List.mem_cons.mp hp with rfl | hp
    · exact Heap.get?_push_size _ hf
    · exact Heap.get?_push_of_some _ (S.nw p hp)
  · rcases List.mem_cons.mp hp with rfl | hp
    · exact Nat.ne_of_gt S.lt
    · exact S.nL p hp
  · rcases List.mem_cons.mp hp with rfl | hp
    · cases q : g.get? h.objs.size with
      | none => rfl
      | some o' => exact absurd (Heap.lt_size (S.keep _ _ q)) (Nat.lt_irrefl _)
    · exact S.ng p hp
  · rw [List.map_cons]
    refine List.nodup_cons.mpr ⟨fun hm => ?_, S.nd⟩
    obtain ⟨p, hp, q⟩ := List.mem_map.mp hm
    exact absurd (S.news_lt hp) (by rw [q]; exact Nat.lt_irrefl _)

theorem St.perm (S : St g L news h m) (hp : news.Perm news') : St g L news' h m :=
  ⟨S.ns, S.keep, S.off, fun p q => S.nw p (hp.mem_iff.mpr q), fun p q => S.nL p (hp.mem_iff.mpr q), fun p q => S.ng p (hp.mem_iff.mpr q), (hp.map _).nodup_iff.mp S.nd⟩

theorem St.drop {p : Addr × Obj} (S : St g L (p :: news) h m) : St g L news h m :=
  ⟨S.ns, S.keep, S.off, fun q hq => S.nw q (.tail _ hq), fun q hq => S.nL q (.tail _ hq), fun q hq => S.ng q (.tail _ hq), (List.nodup_cons.mp S.nd).2⟩

theorem St.sub (S : St g L news h m) (hs : ∀ p ∈ news', p ∈ news) (hn : (news'.map (·.1)).Nodup) : St g L news' h m :=
  ⟨S.ns, S.keep, S.off, fun q hq => S.nw q (hs q hq), fun q hq => S.nL q (hs q hq), fun q hq => S.ng q (hs q hq), hn⟩

/-- an entry of the ledger goes over to the base: it turns no more -/
inductive Settle (g : Heap) (L a : Addr) (o : Obj) (news : List (Addr × Obj)) (h : Heap) (m : Str → Option Value) : Prop
  | mk (g' : Heap) (_ : Sub g g') (_ : St g' L news h m) (_ : g'.get? a = some o) : Settle g L a o news h m
theorem St.settle {a : Addr} {o : Obj} (S : St g L ((a, o) :: news) h m) : Settle g L a o news h m := by
  obtain ⟨g', h1, h2, h3⟩ := S.drop.rebase
  exact ⟨g', h1, h2, h3 a o (S.nw _ (.head _)) (S.nL _ (.head _)) fun p hp q => (List.nodup_cons.mp S.nd).1 (by show a ∈ _; rw [← q]; exact List.mem_map_of_mem (f := (·.1)) hp)⟩

/-- a thing at a new address, laid at once into the base -/
theorem St.push0 (S : St g L news h m) (o : Obj) (hf : o.isFreed = false) : Settle g L h.objs.size o news (h.push o) m := (S.push o hf).settle

/-- one entry of the ledger turned -/
theorem St.upd {a : Addr} {o o' : Obj} {f : Obj → Obj} (S : St g L ((a, o) :: news) h m) (e : f o = o') (hf : o'.isFreed = false) : St g L ((a, o') :: news) (h.update a f) m := by
  have hn := (List.nodup_cons.mp S.nd).1
  have ha := S.nw _ (.head _)
  have haL := S.nL _ (.head _)
  have hag := S.ng _ (.head _)
  refine ⟨?_, fun b x q => (Heap.get?_update_ne _ _ _ _ fun z => ?_).trans (S.keep b x q), S.off, fun p hp => ?_, fun p hp => ?_, fun p hp => ?_, S.nd⟩
  · obtain ⟨oL, es, ep, hL, r⟩ := S.ns
    exact ⟨oL, es, ep, (Heap.get?_update_ne _ _ _ _ (Ne.symm haL)).trans hL, r⟩
  · rw [z, hag] at q; cases q
  · rcases List.mem_cons.mp hp with rfl | hp
    · exact e ▸ Heap.get?_update_self _ ha (e ▸ hf)
    · refine (Heap.get?_update_ne _ _ _ _ fun z => hn ?_).trans (S.nw p (.tail _ hp))
      show a ∈ _
      rw [← (z : p.1 = a)]; exact List.mem_map_of_mem hp
  · rcases List.mem_cons.mp hp with rfl | hp
    · exact haL
    · exact S.nL p (.tail _ hp)
  · rcases List.mem_cons.mp hp with rfl | hp
    · exact hag
    · exact S.ng p (.tail _ hp)

/-- the same by SameBut -/
theorem St.turn {a : Addr} {o o' : Obj} (S : St g L ((a, o) :: news) h m) (hs : Heap.SameBut a h h') (ho : h'.get? a = some o') : St g L ((a, o') :: news) h' m := by
  have hn := (List.nodup_cons.mp S.nd).1
  have haL := S.nL _ (.head _)
  have hag := S.ng _ (.head _)
  refine ⟨S.ns.sameBut hs (Ne.symm haL), fun b x q => (hs.2 b fun z => ?_).trans (S.keep b x q), S.off, fun p hp => ?_, fun p hp => ?_, fun p hp => ?_, S.nd⟩
  · rw [z, hag] at q; cases q
  · rcases List.mem_cons.mp hp with rfl | hp
    · exact ho
    · refine (hs.2 _ fun z => hn ?_).trans (S.nw p (.tail _ hp))
      show a ∈ _
      rw [← (z : p.1 = a)]; exact List.mem_map_of_mem hp
  · rcases List.mem_cons.mp hp with rfl | hp
    · exact haL
    · exact S.nL p (.tail _ hp)
  · rcases List.mem_cons.mp hp with rfl | hp
    · exact hag
    · exact S.ng p (.tail _ hp)
end

/-- up to the slots -/
noncomputable def UpO (o o' : Obj) : Prop := ∃ sl, o' = { o with slots := sl }
theorem UpO.refl (o : Obj) : UpO o o := ⟨o.slots, rfl⟩
theorem UpO.trans {a b c : Obj} (x : UpO a b) (y : UpO b c) : UpO a c := by
  obtain ⟨sl, rfl⟩ := x
  obtain ⟨sl', rfl⟩ := y
  exact ⟨sl', rfl⟩
theorem UpO.data {o o' : Obj} (x : UpO o o') : o'.data = o.data := by obtain ⟨_, rfl⟩ := x; rfl
inductive Up : List (Addr × Obj) → List (Addr × Obj) → Prop
  | nil : Up [] []
  | cons {a : Addr} {o o' : Obj} {R R' : List (Addr × Obj)} : UpO o o' → Up R R' → Up ((a, o) :: R) ((a, o') :: R')
theorem Up.refl : ∀ R : List (Addr × Obj), Up R R
  | [] => .nil
  | (_, o) :: R => .cons (.refl o) (Up.refl R)
theorem Up.trans {a b : List (Addr × Obj)} (x : Up a b) : ∀ {c : List (Addr × Obj)}, Up b c → Up a c := by
  induction x with
  | nil => intro c y; exact y
  | cons u _ ih =>
    intro c y
    cases y with
    | cons u' y => exact .cons (u.trans u') (ih y)
theorem Up.keys {R R' : List (Addr × Obj)} (x : Up R R') : R'.map (·.1) = R.map (·.1) := by
  induction x with
  | nil => rfl
  | cons _ _ ih => simp only [List.map_cons, ih]
theorem Up.mem {R R' : List (Addr × Obj)} (x : Up R R') {a : Addr} {o : Obj} (hm : (a, o) ∈ R) : ∃ o', (a, o') ∈ R' ∧ UpO o o' := by
  induction x with
  | nil => cases hm
  | cons u _ ih =>
    cases hm with
    | head => exact ⟨_, .head _, u⟩
    | tail _ hm => obtain ⟨o', h1, h2⟩ := ih hm; exact ⟨o', .tail _ h1, h2⟩

theorem Up.mem' {R R' : List (Addr × Obj)} (x : Up R R') {a : Addr} {o' : Obj} (hm : (a, o') ∈ R') : ∃ o, (a, o) ∈ R ∧ UpO o o' := by
  induction x with
  | nil => cases hm
  | cons u _ ih =>
    cases hm with
    | head => exact ⟨_, .head _, u⟩
    | tail _ hm => obtain ⟨o', h1, h2⟩ := ih hm; exact ⟨o', .tail _ h1, h2⟩

/-- an object that bears the locals m -/
noncomputable def Bears (o : Obj) (m : Str → Option Value) : Prop := ∃ es ep, o.data = .dict es ep ∧ StrKeys es ∧ ∀ name, nsFind es name = m name
theorem Bears.up {o o' : Obj} {m : Str → Option Value} (x : Bears o m) (u : UpO o o') : Bears o' m := by
  obtain ⟨es, ep, hd, r⟩ := x
  exact ⟨es, ep, u.data.trans hd, r⟩
theorem Bears.ns {o : Obj} {m : Str → Option Value} {h : Heap} {a : Addr} (x : Bears o m) (e : h.get? a = some o) : h.Ns a m := by
  obtain ⟨es, ep, hd, r⟩ := x
  exact ⟨o, es, ep, e, hd, r⟩

/-- the frames below: each stands in the ledger -/
noncomputable def FrsIn (outer : List Env) (L : Addr) (R : List (Addr × Obj)) : Prop := ∀ e ∈ outer, e.scope.kind = .function ∧ ∃ f, e.frame = some f ∧ (f = L ∨ ∃ o m, (f, o) ∈ R ∧ Bears o m)
theorem FrsIn.up {outer : List Env} {L : Addr} {R R' : List (Addr × Obj)} (x : FrsIn outer L R) (u : Up R R') : FrsIn outer L R' := fun e he => by
  obtain ⟨hk, f, hf, h⟩ := x e he
  refine ⟨hk, f, hf, h.imp id fun ⟨o, m, hm, hb⟩ => ?_⟩
  obtain ⟨o', hm', hu⟩ := u.mem hm
  exact ⟨o', m, hm', hb.up hu⟩
/-- the frame in work goes onto the ledger -/
theorem FrsIn.push {outer : List Env} {L L' : Addr} {oL : Obj} {m : Str → Option Value} {R : List (Addr × Obj)} (x : FrsIn outer L R) (hb : Bears oL m) : FrsIn outer L' ((L, oL) :: R) := fun e he => by
  obtain ⟨hk, f, hf, h⟩ := x e he
  refine ⟨hk, f, hf, .inr ?_⟩
  rcases h with rfl | ⟨o, m', hm, hb'⟩
  · exact ⟨oL, m, .head _, hb⟩
  · exact ⟨o, m', .tail _ hm, hb'⟩

/-- the surroundings of a walk with room for k more calls -/
structure Ar (A : Around) (L : Addr) (frs : List (Addr × Obj)) (k : Nat) : Prop where
  hand : A.handled = none
  room : A.depth + 2 * k < recursionLimit
  units : A.units + 40 * k < cLine
  bear : ∀ p ∈ frs, ∃ m, Bears p.2 m
  frames : ∃ l, A.frames = some l ∧ FrsIn l L frs
theorem Ar.up {A : Around} {L : Addr} {frs frs' : List (Addr × Obj)} {k : Nat} (x : Ar A L frs k) (u : Up frs frs') : Ar A L frs' k :=
  let ⟨o, h1, h2⟩ := x.frames
  ⟨x.hand, x.room, x.units, fun p hp => let ⟨_, h1, h2⟩ := u.mem' (a := p.1) (o' := p.2) hp; let ⟨m, h3⟩ := x.bear _ h1; ⟨m, h3.up h2⟩, o, h1, h2.up u⟩

section
variable {prog : Program} {w : World} {A : Around} {s : Shared} {g : Heap} {L : Addr} {m : Str → Option Value} {news frs : List (Addr × Obj)}
/-- into a def of the text: the caller's frame goes onto the ledger of frames -/
theorem enter {R : Result → Shared → Prop} {f : Addr} {o : Obj} {fd : FuncData} {body : List Stmt} {args : Args} {binds : List (Str × Value)} {k : Nat}
    (S : St g L (news ++ frs) s.heap m) (Z : Ar A L frs (k + 1)) (ho : g.get? f = some o) (hd : o.data = .func fd) (hlim : g.NoLimit) (hcd : g.CodeRec fd.code fd.qualname)
    (hbody : fd.body = .stmts body) (hbind : BindsTo s fd args binds)
    (hcell : ∀ x ∈ fd.scope.names, x.2 ≠ .cell) (hloc : ∀ x ∈ binds, fd.scope.names.lookup x.1 = some .local)
    (h : ∀ oL L' h₁, Bears oL m → St g L' (news ++ (L, oL) :: frs) h₁ (fun x => binds.reverse.lookup x) → Ar (A.deeper (callEnv fd L' f)) L' ((L, oL) :: frs) k →
      wpAny (model prog w) (A.deeper (callEnv fd L' f)) (execs body (callEnv fd L' f)) (fun fl s' => R (.ok (.ret (match fl with | .ret v => v | _ => .none))) s')
        (fun e s' => wpAny (model prog w) (A.deeper (callEnv fd L' f)) (leaving (callEnv fd L' f) e) (fun _ s'' => R (.error e) s'') (fun e' s'' => R (.error e') s'') s')
        { s with heap := h₁, toks := s.toks + binds.length })
    (hco : fd.scope.isCoroutine = false) (hgen : fd.scope.isGenerator = false) (hk : fd.scope.kind = .function) :
    codeAny (model prog w) A (.call (.ref f) args) R s := by
  refine codeAny_call_def (by have := Z.room; lia) (S.keep _ _ ho) hd (hlim.keeps S.keep) (hcd.keeps S.keep) hbody hbind hcell hloc (fun h₁ hns hk₁ => ?_) hco hgen hk
  obtain ⟨oL, es, ep, hL, hb⟩ := S.ns
  have hlt := S.lt
  have new : ∀ b o, s.heap.get? b = some o → b ≠ s.heap.objs.size := fun b o e => Nat.ne_of_lt (Heap.lt_size e)
  obtain ⟨outer, hfr, hin⟩ := Z.frames
  refine h oL s.heap.objs.size h₁ ⟨es, ep, hb⟩ ⟨hns, fun b o e => hk₁ b o (S.keep b o e), ?_, fun p hp => ?_, fun p hp => ?_, fun p hp => ?_, ?_⟩
    ⟨Z.hand, ?_, ?_, fun p hp => ?_, callEnv fd s.heap.objs.size f :: outer, ?_, ?_⟩
  · cases q : g.get? s.heap.objs.size with
    | none => rfl
    | some o' => exact absurd rfl (new _ _ (S.keep _ _ q))
  · rcases List.mem_append.mp hp with q | q
    · exact hk₁ _ _ (S.nw p (List.mem_append_left _ q))
    · rcases List.mem_cons.mp q with rfl | q
      · exact hk₁ _ _ hL
      · exact hk₁ _ _ (S.nw p (List.mem_append_right _ q))
  · rcases List.mem_append.mp hp with q | q
    · exact new _ _ (S.nw p (List.mem_append_left _ q))
    · rcases List.mem_cons.mp q with rfl | q
      · exact new _ _ hL
      · exact new _ _ (S.nw p (List.mem_append_right _ q))
  · rcases List.mem_append.mp hp with q | q
    · exact S.ng p (List.mem_append_left _ q)
    · rcases List.mem_cons.mp q with rfl | q
      · exact S.off
      · exact S.ng p (List.mem_append_right _ q)
  · have hp : (news ++ (L, oL) :: frs).Perm ((L, oL) :: (news ++ frs)) := List.perm_middle
    refine (hp.map (·.1)).nodup_iff.mpr (List.nodup_cons.mpr ⟨fun hm => ?_, S.nd⟩)
    obtain ⟨p, hp, q⟩ := List.mem_map.mp hm
    exact S.nL p hp q
  · have := Z.room; show A.depth + 1 + 2 * k < _; lia
  · have := Z.units; show A.units + 3 + 40 * k < _; lia
  · rcases List.mem_cons.mp hp with rfl | hp
    · exact ⟨m, es, ep, hb⟩
    · exact Z.bear p hp
  · show A.frames.map _ = _; rw [hfr]; rfl
  · intro e he
    rcases List.mem_cons.mp he with rfl | he
    · exact ⟨hk, _, rfl, .inl rfl⟩
    · exact hin.push ⟨es, ep, hb⟩ e he

inductive Leave (g : Heap) (L : Addr) (frs news : List (Addr × Obj)) (h : Heap) (m : Str → Option Value) : Prop
  | mk (frs' : List (Addr × Obj)) (_ : Up frs frs') (_ : St g L (news ++ frs') h m) : Leave g L frs news h m
/-- out of it again: the callee's frame is forgotten -/
theorem leave {g' h' : Heap} {L' : Addr} {m' : Str → Option Value} {news' frs' : List (Addr × Obj)} {oL : Obj} (hb : Bears oL m) (S' : St g' L' (news' ++ frs') h' m') (u : Up ((L, oL) :: frs) frs') :
    Leave g' L frs news' h' m := by
  cases u with
  | cons u0 u =>
    rename_i o' frs₁
    refine ⟨frs₁, u, ?_⟩
    have hp : (news' ++ (L, o') :: frs₁).Perm ((L, o') :: (news' ++ frs₁)) := List.perm_middle
    have S2 := S'.perm hp
    have nd := List.nodup_cons.mp S2.nd
    exact ⟨(hb.up u0).ns (S2.nw _ (.head _)), S2.keep, S2.ng _ (.head _), fun p q => S2.nw p (.tail _ q), fun p q z => nd.1 (by show L ∈ _; rw [← z]; exact List.mem_map_of_mem (f := (·.1)) q), fun p q => S2.ng p (.tail _ q), nd.2⟩
end
end Mine

end
section
open PySem PySem.W PySem.W.X PyProof.Rows PySem.Calls PySem.Spec

namespace Mine

/-- the base: what the top has left, as far as the walks ask it -/
structure Bs (w : World) (mg mb : Str → Option Value) (g : Heap) : Prop where
  X : (Kf w.params).In g
  G : g.Ns mainGlobals mg
  B : g.Ns builtinsNs mb
  nolimit : g.NoLimit
  builtins : ∀ x : Str, x ≠ "__name__" → mb x = bootBuiltins x
  nodigits : ∃ mc, g.Ns cStatics mc ∧ mc "sys.int_max_str_digits" = none
  bmain : ∃ bm ob, mg "__builtins__" = some (.ref bm) ∧ bm ≠ builtinsNs ∧ g.get? bm = some ob ∧ ob.cls = .type "module" ∧ ob.dict = some builtinsNs ∧ ob.data = .plain
theorem Bs.keeps {w : World} {mg mb : Str → Option Value} {g g' : Heap} (B : Bs w mg mb g) (k : Sub g g') : Bs w mg mb g' :=
  ⟨B.X.keeps k, B.G.keeps k, B.B.keeps k, B.nolimit.keeps k, B.builtins, let ⟨mc, h1, h2⟩ := B.nodigits; ⟨mc, h1.keeps k, h2⟩, let ⟨bm, ob, h1, h2, h3, r⟩ := B.bmain; ⟨bm, ob, h1, h2, k _ _ h3, r⟩⟩

section
variable {M : Model} {A : Around} {E : Value → Shared → Prop} {s : Shared} {g g₀ : Heap} {L a : Addr} {m mg mb : Str → Option Value} {cn : Str} {cs : Scope} {ccd : Value} {cl : List (Str × Addr)} {news : List (Addr × Obj)} {w : World}
  {x : Str} {pos : Pos} {v : Value} {Q : Value → Shared → Prop}
theorem nm_L (S : St g L news s.heap m) (hv : m x = some v) (h : Q v s)
    (hk : cs.kind = .function := by rfl) (hx : (envX cn cs L a ccd cl).kindOf x = some .local := by rfl) (hd : (x == ("__debug__" : Str)) = false := by decide) :
    wpAny M A (eval (.Name x pos) (envX cn cs L a ccd cl)) Q E s := wpAny_Name (wpAny_loadName_local hk hx S.ns hv h) hd
theorem nm_K (S : St g L news s.heap m) (B : Bs w mg mb g₀) (k : Sub g₀ g) (e : nsIn (Kf w.params) mainGlobals x = some (some v)) (h : Q v s)
    (hk : cs.kind = .function := by rfl) (hx : (envX cn cs L a ccd cl).kindOf x = some .globalImplicit := by rfl) (hd : (x == ("__debug__" : Str)) = false := by decide) :
    wpAny M A (eval (.Name x pos) (envX cn cs L a ccd cl)) Q E s := Name_function_global hk hx (loadGlobal_global (env := envX cn cs L a ccd cl) (B.G.keeps (k.trans S.keep)) (mg_of B.X B.G e) h) hd
theorem nm_B (S : St g L news s.heap m) (B : Bs w mg mb g₀) (k : Sub g₀ g) (e : nsIn (Kf w.params) mainGlobals x = some none) (hv : bootBuiltins x = some v) (hn : x ≠ "__name__") (h : Q v s)
    (hk : cs.kind = .function := by rfl) (hx : (envX cn cs L a ccd cl).kindOf x = some .globalImplicit := by rfl) (hd : (x == ("__debug__" : Str)) = false := by decide) :
    wpAny M A (eval (.Name x pos) (envX cn cs L a ccd cl)) Q E s :=
  Name_function_global hk hx (loadGlobal_builtin (env := envX cn cs L a ccd cl) (B.G.keeps (k.trans S.keep)) (mg_none_of B.X B.G e) (B.B.keeps (k.trans S.keep)) ((B.builtins x hn).trans hv) h) hd
theorem st_L {Q : Unit → Shared → Prop} (S : St g L news s.heap m)
    (h : ∀ h', St g L news h' (upd m x v) → Q () { s with heap := h', toks := s.toks + 1 })
    (hk : cs.kind = .function := by rfl) (hx : (envX cn cs L a ccd cl).kindOf x = some .local := by rfl) : wpAny M A (storeName (envX cn cs L a ccd cl) x v) Q E s :=
  wpAny_storeName_local hx S.ns (fun h' hn hs => h h' (S.setL hn hs)) (by show (cs.kind == .class || (cs.kind == .module && L != mainGlobals)) = false; rw [hk]; rfl)
end

section
variable {prog : Program} {w : World} {A : Around} {s : Shared} {g g₀ : Heap} {L : Addr} {m mg mb : Str → Option Value} {news frs : List (Addr × Obj)}
/-- a call of a def of the text that stands in the written part -/
theorem enterK {R : Result → Shared → Prop} {f : Addr} {name qual : Str} {params : Arguments} {body : List Stmt} {scope : Scope} {dV kV doc pm cdv ct oc : Value} {an od : Option Addr} {osl : Array (Option Value)} {args : Args} {binds : List (Str × Value)} {k : Nat}
    (B : Bs w mg mb g₀) (hk₀ : Sub g₀ g) (S : St g L (news ++ frs) s.heap m) (Z : Ar A L frs (k + 1))
    (ho : (Kf w.params).lookup f = some ⟨oc, od, .func (fnOf name qual params body scope dV kV doc pm an cdv ct), osl⟩) (hcd : codeIn (Kf w.params) cdv qual = true)
    (hbind : BindsTo s (fnOf name qual params body scope dV kV doc pm an cdv ct) args binds) (hloc : ∀ y ∈ binds, scope.names.lookup y.1 = some .local)
    (h : ∀ oL L' h₁, Bears oL m → St g L' (news ++ (L, oL) :: frs) h₁ (fun x => binds.reverse.lookup x) → Ar (A.deeper (envX qual scope L' f cdv [])) L' ((L, oL) :: frs) k →
      wpAny (model prog w) (A.deeper (envX qual scope L' f cdv [])) (execs body (envX qual scope L' f cdv [])) (fun fl s' => R (.ok (.ret (match fl with | .ret v => v | _ => .none))) s')
        (fun e s' => wpAny (model prog w) (A.deeper (envX qual scope L' f cdv [])) (leaving (envX qual scope L' f cdv []) e) (fun _ s'' => R (.error e) s'') (fun e' s'' => R (.error e') s'') s')
        { s with heap := h₁, toks := s.toks + binds.length })
    (hco : scope.isCoroutine = false := by rfl) (hgen : scope.isGenerator = false := by rfl) (hk : scope.kind = .function := by rfl)
    (hcell : ∀ x ∈ scope.names, x.2 ≠ .cell := by decide) : codeAny (model prog w) A (.call (.ref f) args) R s :=
  enter (fd := fnOf name qual params body scope dV kV doc pm an cdv ct) S Z (hk₀ _ _ (B.X _ _ ho)) rfl (B.nolimit.keeps hk₀) ((codeRec_of B.X hcd).keeps hk₀) rfl hbind hcell hloc h hco hgen hk
end

theorem enterP {prog : Program} {w : World} {A : Around} {s : Shared} {g g₀ : Heap} {L : Addr} {m mg mb : Str → Option Value} {news frs : List (Addr × Obj)} {R : Result → Shared → Prop} {f : Addr} {name qual : Str} {params : Arguments} {body : List Stmt} {scope : Scope} {dV kV doc pm cdv ct oc : Value} {an od : Option Addr} {osl : Array (Option Value)} {args : List Value} {k : Nat}
    (B : Bs w mg mb g₀) (hk₀ : Sub g₀ g) (S : St g L (news ++ frs) s.heap m) (Z : Ar A L frs (k + 1))
    (ho : (Kf w.params).lookup f = some ⟨oc, od, .func (fnOf name qual params body scope dV kV doc pm an cdv ct), osl⟩) (hcd : codeIn (Kf w.params) cdv qual = true)
    (hbind : bindArgs (fnOf name qual params body scope dV kV doc pm an cdv ct) ⟨args, []⟩ = pure ((params.args.map (·.arg)).zip args)) (hloc : ∀ y ∈ (params.args.map (·.arg)).zip args, scope.names.lookup y.1 = some .local)
    (h : ∀ oL L' h₁, Bears oL m → St g L' (news ++ (L, oL) :: frs) h₁ (fun x => ((params.args.map (·.arg)).zip args).reverse.lookup x) → Ar (A.deeper (envX qual scope L' f cdv [])) L' ((L, oL) :: frs) k →
      wpAny (model prog w) (A.deeper (envX qual scope L' f cdv [])) (execs body (envX qual scope L' f cdv [])) (fun fl s' => R (.ok (.ret (match fl with | .ret v => v | _ => .none))) s')
        (fun e s' => wpAny (model prog w) (A.deeper (envX qual scope L' f cdv [])) (leaving (envX qual scope L' f cdv []) e) (fun _ s'' => R (.error e) s'') (fun e' s'' => R (.error e') s'') s')
        { s with heap := h₁, toks := s.toks + ((params.args.map (·.arg)).zip args).length })
    (hco : scope.isCoroutine = false := by rfl) (hgen : scope.isGenerator = false := by rfl) (hk : scope.kind = .function := by rfl)
    (hcell : ∀ x ∈ scope.names, x.2 ≠ .cell := by decide) : codeAny (model prog w) A (.call (.ref f) ⟨args, []⟩) R s :=
  enterK B hk₀ S Z ho hcd (BindsTo.of_eq hbind) hloc h hco hgen hk hcell

theorem lookN {K : Params → Frag} {P : Params} {ns : Addr} {x : Str} {r : Option (Option Value)} (e : nsIn (K P) ns x = r) : nsIn (K P) ns x = r := e
end Mine
end
local macro_rules | `(tactic| walk_at "sub") => return fs (ex (ap ``Sub.refl [pt '_'])) (fs (pc 's') (rs ``Sub.trans "?s" "S"))
local macro_rules | `(tactic| walk_at "eval Name") => do let k ← Lean.MonadQuotation.getCurrMacroScope; return kd (fs (qs k ``nm_L "Fv_ab" "FAaRbRvv" "") (fs (qs k ``nm_K "FXke_ab" "FAXAkSaRbReI" "") (qs k ``nm_B "FXkevn_ab" "FAXAkSaRbReIvbnD" "")))
local macro_rules | `(tactic| walk_at "storeName") => return rk ``st_L "A?RR" "ii"
local macro_rules | `(tactic| walk_at "enter") => do let k ← Lean.MonadQuotation.getCurrMacroScope; return sq2 (rf ``wpAny_call "?") (kd (qs k ``enterP "abcdefgh_ijkl" "aAcAbSdAeIfIgRlDhliRjRkR" "WEf"))
local macro_rules | `(tactic| walk_at "go") => `(tactic| ((try k_fold); repeat' (first | (k_unfold; (try dsimp only)) | walk1 | (dsimp only; walk1) | fail "no step")))
section
open PySem PySem.W PySem.W.X PyProof.Rows PySem.Calls PySem.Spec PySem.Builtin PySem.Builtin.Str

namespace Mine
theorem St.pushS {g h : Heap} {L : Addr} {m : Str → Option Value} {news : List (Addr × Obj)} (S : St g L news h m) (o : Obj) : St g L news (h.push o) m :=
  ⟨S.ns.push o, fun b ob e => Heap.get?_push_of_some _ (S.keep b ob e), S.off, fun p hp => Heap.get?_push_of_some _ (S.nw p hp), S.nL, S.ng, S.nd⟩
theorem keptSt {g : Heap} {L : Addr} {m : Str → Option Value} {news : List (Addr × Obj)} : KeptH (fun h => St g L news h m) := fun _ ob S => S.pushS ob

section
variable {prog : Program} {w : World} {A : Around} {E : Value → Shared → Prop} {s : Shared} {value slice : Expr} {x y : Str} {t u : Tok} {g : Heap} {L : Addr} {m : Str → Option Value} {news : List (Addr × Obj)} {Q : Value → Shared → Prop}
theorem sl_ns {j : Int} {uj : Tok} (S : St g L news s.heap m) (hsz : x.length ≤ sizeLine) (h : ∀ h' t' k, St g L news h' m → Q (.str (Txt.slice x none (some j)) t') { s with heap := h', toks := k })
    (hs : subscripted slice false (.str x t) (.ref s.heap.objs.size) = operate [.ref s.heap.objs.size, .str x t] (getItem (.str x t) (.ref s.heap.objs.size)) := by with_unfolding_all rfl)
    (ht : ∀ r, letTemporaryGo value (.str x t) r = pure () := by intro _; with_unfolding_all rfl) :
    wpAny (model prog w) A (subscriptTail value slice (.str x t) (.ref s.heap.objs.size)) Q E { s with heap := s.heap.push { cls := .type "slice", data := .fields #[.none, .int j uj, .none] } } :=
  tail_of_ItemOn (SBH.sliceItem_ns keptSt S h hsz) hs ht
theorem sl_ss {i j : Int} {ui uj : Tok} (S : St g L news s.heap m) (hsz : x.length ≤ sizeLine) (h : ∀ h' t' k, St g L news h' m → Q (.str (Txt.slice x (some i) (some j)) t') { s with heap := h', toks := k })
    (hs : subscripted slice false (.str x t) (.ref s.heap.objs.size) = operate [.ref s.heap.objs.size, .str x t] (getItem (.str x t) (.ref s.heap.objs.size)) := by with_unfolding_all rfl)
    (ht : ∀ r, letTemporaryGo value (.str x t) r = pure () := by intro _; with_unfolding_all rfl) :
    wpAny (model prog w) A (subscriptTail value slice (.str x t) (.ref s.heap.objs.size)) Q E { s with heap := s.heap.push { cls := .type "slice", data := .fields #[.int i ui, .int j uj, .none] } } :=
  tail_of_ItemOn (SBH.sliceItem_ss keptSt S h hsz) hs ht

/-- a new list of texts, laid into the base -/
theorem split_S (S : St g L news s.heap m) (hy : (y.length == 0) = false) (hsz : x.length ≤ sizeLine) (hsz2 : (partsBetween x (occurrences x y 0 x.length (x.length + 1)) y.length).length ≤ sizeLine)
    (h : ∀ g' D l h' k, Sub g g' → St g' L news h' m → l.map (·.1) = Txt.split x y → g'.IsList D (strValues l).toArray → Q (.ref D) { s with heap := h', toks := k }) :
    wpAny (model prog w) A (call (.builtin "str.split") [.str x t, .str y u]) Q E s := by
  have key : ∀ (vs : Array Value) (k : Nat) (l : List (Str × Tok)), vs = (strValues l).toArray → l.map (·.1) = Txt.split x y →
      Q (.ref s.heap.objs.size) { s with heap := s.heap.push { cls := .type "list", data := .seq vs }, toks := k } := fun vs k l hv hl => by
    obtain ⟨g', h1, h2, h3⟩ := S.push0 { cls := .type "list", data := .seq vs } rfl
    exact h g' _ l _ k h1 h2 hl ⟨_, h3, rfl, _, by rw [hv]⟩
  cases h1 : (decide (x.length < y.length) || decide (strKind x < strKind y))
  · cases hf : (occurrences x y 0 x.length (x.length + 1)).isEmpty
    · refine call_meets F.slot_str_split (typeIs_str _ _ _) F.entry_str_split (F.args_str_split_2 _ _) (meets_str_split_sep x y t u h1 hy hf hsz hsz2) ?_
      refine key _ _ (numbered s.toks _) (by rw [strsFrom_eq]) ((numbered_texts _ _).trans ((if_neg (ne_true_of_eq_false h1)).trans (if_neg (ne_true_of_eq_false hf))).symm)
    · exact call_meets F.slot_str_split (typeIs_str _ _ _) F.entry_str_split (F.args_str_split_2 _ _) (meets_str_split_not_found x y t u h1 hy hf)
        (key _ s.toks [(x, t)] rfl ((if_neg (ne_true_of_eq_false h1)).trans (if_pos hf)).symm)
  · exact call_meets F.slot_str_split (typeIs_str _ _ _) F.entry_str_split (F.args_str_split_2 _ _) (meets_str_split_cannot_occur x y t u h1) (key _ s.toks [(x, t)] rfl (if_pos h1).symm)

theorem item_neg {l : Addr} {items : Array Value} {k : Int} {v : Value} (hl : s.heap.IsList l items) (h0 : k < 0) (h1 : -(items.size : Int) ≤ k) (hlo : -(2 ^ 63) ≤ k) (hx : items[(k + items.size).toNat]? = some v) (h : Q v s)
    (hs : subscripted slice false (.ref l) (.int k u) = operate [.ref l, .int k u] (getItem (.ref l) (.int k u)) := by with_unfolding_all rfl) :
    wpAny (model prog w) A (subscriptTail value slice (.ref l) (.int k u)) Q E s :=
  tail_any hl.typeIs slot_list_getitem.lookup (wpAny_getItem_list_neg hl h0 h1 hlo hx h) hs
theorem len_LS {g₀ : Heap} {l : Addr} {items : Array Value} (S : St g L news s.heap m) (hl : g₀.IsList l items) (k : Sub g₀ g) (hfit : (items.size : Int) < 2 ^ 63)
    (h : Q (.int items.size (s.toks + 1)) { s with toks := s.toks + 1 + 1 }) : wpAny (model prog w) A (call (.builtin "len") [.ref l]) Q E s := len_list (hl.at fun o e => (k.trans S.keep) _ o e) hfit h
theorem item_negS {g₀ : Heap} {l : Addr} {items : Array Value} {k : Int} {v : Value} (S : St g L news s.heap m) (hl : g₀.IsList l items) (hk : Sub g₀ g) (h0 : k < 0) (h1 : -(items.size : Int) ≤ k) (hlo : -(2 ^ 63) ≤ k) (hx : items[(k + items.size).toNat]? = some v) (h : Q v s)
    (hs : subscripted slice false (.ref l) (.int k u) = operate [.ref l, .int k u] (getItem (.ref l) (.int k u)) := by with_unfolding_all rfl) :
    wpAny (model prog w) A (subscriptTail value slice (.ref l) (.int k u)) Q E s := item_neg (hl.at fun o e => (hk.trans S.keep) _ o e) h0 h1 hlo hx h hs
end
end Mine
end
local macro_rules | `(tactic| walk_at "msz") => `(tactic| first | assumption | walk_at "size" | (simp only [PySem.Str.length_append, PySem.sizeLine_eq] at *; lia) | (rw [PySem.sizeLine_eq]; lia))
local macro_rules | `(tactic| walk_at "call builtin:len") => return sw (cb "len" vstr) (rf ``PyProof.Rows.len_str "O?")
local macro_rules | `(tactic| walk_at "binaryOp Add str str") => return rs ``PyProof.Rows.add_str "?m" "ii"
local macro_rules | `(tactic| walk_at "subscriptTail Name Slice str ref") => return kd (fs (rs ``sl_ns "Am?UV" "Wiiii") (rs ``sl_ss "Am?UV" "Wiiii"))
local macro_rules | `(tactic| walk_at "call builtin:len") => return sw (cb "len" vref) (rf ``len_LS "AASF?")
local macro_rules | `(tactic| walk_at "fit") => `(tactic| first | lia | (simp only [List.size_toArray, List.length_map] at *; lia))
section
open PySem PySem.W PySem.W.X PyProof.Rows PySem.Calls PySem.Spec PySem.Builtin PySem.Builtin.Str
namespace Mine
noncomputable def linesOf (l : List Nat) : Nat := l.count 10 + 1
noncomputable def tailOf (l : List Nat) : Nat := (l.reverse.takeWhile (· != 10)).length
theorem takeWhile_stop {p : Nat → Bool} {c : Nat} (hc : p c = false) : ∀ (a b : List Nat), (a ++ c :: b).takeWhile p = a.takeWhile p
  | [], b => by simp [List.takeWhile, hc]
  | x :: a, b => by
    simp only [List.cons_append, List.takeWhile]
    split
    · rw [takeWhile_stop hc a b]
    · rfl
theorem tailOf_cut (a b : List Nat) : tailOf (a ++ 10 :: b) = tailOf b := by
  unfold tailOf
  rw [List.reverse_append, List.reverse_cons, List.append_assoc]
  rw [show [10] ++ a.reverse = 10 :: a.reverse from rfl, takeWhile_stop (by decide)]
theorem takeWhile_all {p : Nat → Bool} : ∀ l : List Nat, (∀ x ∈ l, p x = true) → l.takeWhile p = l
  | [], _ => rfl
  | x :: l, h => by simp only [List.takeWhile, h x (.head _)]; rw [takeWhile_all l fun y hy => h y (.tail _ hy)]
theorem tailOf_free {l : List Nat} (h : 10 ∉ l) : tailOf l = l.length := by
  unfold tailOf
  rw [takeWhile_all l.reverse (fun x hx => by
    have : x ≠ 10 := fun e => h (by rw [← e]; exact List.mem_reverse.mp hx)
    simpa using this), List.length_reverse]
theorem join_last : ∀ (ps : List Str) (p : Str), (∀ q ∈ p :: ps, 10 ∉ q.cps.toList) →
    ∃ q, (p :: ps).getLast? = some q ∧ q.length = tailOf (Str.join ⟨#[10]⟩ (p :: ps)).cps.toList
  | [], p, h => ⟨p, rfl, by show p.length = tailOf p.cps.toList; rw [tailOf_free (h p (.head _))]; simp [Str.length]⟩
  | r :: ps, p, h => by
    obtain ⟨q, h1, h2⟩ := join_last ps r (fun q hq => h q (.tail _ hq))
    refine ⟨q, by rw [List.getLast?_cons_cons]; exact h1, ?_⟩
    rw [h2]
    show _ = tailOf (p ++ ⟨#[10]⟩ ++ Str.join ⟨#[10]⟩ (r :: ps)).cps.toList
    simp only [Str.cps_append, Array.toList_append]
    rw [List.append_assoc, List.singleton_append, tailOf_cut]
theorem cnt_count (c : Nat) : ∀ l : List Nat, cnt c l = (l.count c : Nat)
  | [] => rfl
  | n :: r => by
    rw [cnt_cons, cnt_count c r, List.count_cons]
    by_cases h : n = c
    · subst h; simp; lia
    · simp [h]
theorem split_facts (x : Str) : ∃ q, (Txt.split x ⟨#[10]⟩).getLast? = some q ∧ q.length = tailOf x.cps.toList ∧ (Txt.split x ⟨#[10]⟩).length = linesOf x.cps.toList := by
  have hj := StrLaws.join_split x ⟨#[10]⟩
  have hf := StrLaws.split_free x 10
  have hl := split_len x 10
  cases hp : Txt.split x ⟨#[10]⟩ with
  | nil => rw [hp, cnt_count] at hl; simp only [List.length_nil] at hl; lia
  | cons p ps =>
    rw [hp] at hj hf hl
    obtain ⟨q, h1, h2⟩ := join_last ps p hf
    rw [hj] at h2
    refine ⟨q, h1, h2, ?_⟩
    rw [cnt_count] at hl
    unfold linesOf
    lia
theorem clip0 (n : Nat) (c : Nat) : Max.max 0 (Min.min (if (c : Int) < 0 then (c : Int) + (n : Int) else (c : Int)) (n : Int)) = ((min c n : Nat) : Int) := by
  rw [if_neg (Int.not_lt.mpr (Int.natCast_nonneg c))]; exact min_max0 c n
theorem slice_take (x : Str) (k : Nat) : (Txt.slice x none (some (k : Int))).cps.toList = x.cps.toList.take k := by
  have hn : x.cps.toList.length = x.length := by simp [Str.length]
  unfold Txt.slice
  have e : strSliceIndices none (some (k : Int)) 1 x.length = strSliceIndices (some ((0 : Nat) : Int)) (some ((min k x.length : Nat) : Int)) 1 x.length := by
    unfold strSliceIndices sliceRange
    simp only [show (1 : Int) > 0 by decide, if_true, clip0, Nat.min_assoc, Nat.min_self, Nat.zero_min]
    rfl
  split
  · rename_i h
    simp only [Bool.and_eq_true, beq_iff_eq] at h
    have h2 := h.2
    rw [e, StrLaws.strSliceIndices_plain (Nat.zero_le _) (Nat.min_le_right _ _)] at h2
    simp only [List.length_map, List.length_range] at h2
    rw [List.take_of_length_le]; rw [hn]; rw [Nat.sub_zero] at h2; exact h2 ▸ Nat.min_le_left k x.length
  · show ((strSliceIndices none (some (k : Int)) 1 x.length).filterMap (x.cps[·]?)).toArray.toList = _
    rw [e, StrLaws.sliced_plain x (Nat.zero_le _) (Nat.min_le_right _ _), List.drop_zero]
    simp only [Nat.sub_zero]
    rw [List.take_eq_take_iff, hn]
    show min (min k x.length) x.length = min k x.length
    rw [Nat.min_assoc, Nat.min_self]
theorem slice_sub (x : Str) {a b : Nat} (hab : a ≤ b) : (Txt.slice x (some (a : Int)) (some (b : Int))).cps.toList = (x.cps.toList.drop a).take (b - a) := by
  have hn : x.cps.toList.length = x.length := by simp [Str.length]
  have hm : min a x.length ≤ min b x.length := Nat.le_min.mpr ⟨Nat.le_trans (Nat.min_le_left _ _) hab, Nat.min_le_right _ _⟩
  unfold Txt.slice
  have e : strSliceIndices (some (a : Int)) (some (b : Int)) 1 x.length = strSliceIndices (some ((min a x.length : Nat) : Int)) (some ((min b x.length : Nat) : Int)) 1 x.length := by
    unfold strSliceIndices sliceRange
    have c1 := clip0 x.length
    simp only [show (1 : Int) > 0 by decide, if_true, c1, Nat.min_assoc, Nat.min_self]
  split
  · rename_i h
    simp only [Bool.and_eq_true, beq_iff_eq] at h
    have h2 := h.2
    rw [e, StrLaws.strSliceIndices_plain hm (Nat.min_le_right _ _)] at h2
    simp only [List.length_map, List.length_range] at h2
    by_cases hx : x.length = 0
    · have : x.cps.toList = [] := List.length_eq_zero_iff.mp (hn.trans hx)
      rw [this]; simp
    · have ha : a = 0 := by
        cases h0 : min a x.length with
        | zero => exact (Nat.min_eq_zero_iff.mp h0).resolve_right hx
        | succ k =>
          rw [h0] at h2
          exact absurd h2 (Nat.ne_of_lt (Nat.lt_of_le_of_lt (Nat.sub_le_sub_right (Nat.min_le_right b _) _) (Nat.sub_lt (Nat.pos_of_ne_zero hx) (Nat.succ_pos k))))
      subst ha
      rw [Nat.zero_min, Nat.sub_zero] at h2
      rw [List.drop_zero, List.take_of_length_le]; rw [hn, Nat.sub_zero]; exact h2 ▸ Nat.min_le_left b x.length
  · show ((strSliceIndices (some (a : Int)) (some (b : Int)) 1 x.length).filterMap (x.cps[·]?)).toArray.toList = _
    rw [e, StrLaws.sliced_plain x hm (Nat.min_le_right _ _)]
    by_cases h : a ≤ x.length
    · rw [Nat.min_eq_left h, List.take_eq_take_iff, List.length_drop, hn, Nat.sub_min_sub_right, Nat.sub_min_sub_right, Nat.min_assoc, Nat.min_self]
    · have hx : x.length ≤ a := Nat.le_of_lt (Nat.not_le.mp h)
      have : List.drop a x.cps.toList = [] := List.drop_eq_nil_of_le (hn ▸ hx)
      rw [this, List.take_nil, Nat.min_eq_right hx, List.drop_eq_nil_of_le (Nat.le_of_eq hn), List.take_nil]

/-- where a place lies, in words -/
noncomputable def coordS (x : Str) (k : Nat) : Str :=
  if x.length ≤ k then Str.ofString "end of document"
  else Str.ofString "line " ++ Str.ofString (toString ((linesOf (x.cps.toList.take k) : Nat) : Int)) ++ Str.ofString ", column " ++ Str.ofString (toString ((tailOf (x.cps.toList.take k) + 1 : Nat) : Int))
noncomputable def placeS (x : Str) (k : Nat) : Str := Str.ofString " (at " ++ coordS x k ++ Str.ofString ")"
end Mine

end
section
open PySem PySem.W PySem.W.X PyProof.Rows PySem.Calls PySem.Spec

namespace Mine
section
variable {w : World} {mg mb : Str → Option Value} {g g₀ h : Heap} {L : Addr} {m : Str → Option Value} {news : List (Addr × Obj)}
theorem fnK {f : Addr} {oc : Value} {od : Option Addr} {fd : FuncData} {sl : Array (Option Value)} (S : St g L news h m) (B : Bs w mg mb g₀) (k : Sub g₀ g) (e : (Kf w.params).lookup f = some ⟨oc, od, .func fd, sl⟩) : FnAt f h :=
  ⟨oc, od, fd, sl, (k.trans S.keep) _ _ (B.X _ _ e)⟩
theorem fnG {f : Addr} {oc : Value} {od : Option Addr} {fd : FuncData} {sl : Array (Option Value)} (S : St g L news h m) (e : g₀.get? f = some ⟨oc, od, .func fd, sl⟩) (k : Sub g₀ g) : FnAt f h := ⟨oc, od, fd, sl, (k.trans S.keep) _ _ e⟩
theorem inK (S : St g L news h m) (B : Bs w mg mb g₀) (k : Sub g₀ g) : (Kf w.params).In h := B.X.keeps (k.trans S.keep)
end
end Mine
end
local macro_rules | `(tactic| walk_at "fnat") => do let k ← Lean.MonadQuotation.getCurrMacroScope; return fs (qs k ``fnK "SBke" "SABAkSeI" "") (rf ``fnG "AsS")
local macro_rules | `(tactic| walk_at "le") => `(tactic| ((with_reducible show _ ≤ sizeLine); simp only [PySem.Str.length_append, PySem.Str.empty_append, PySem.sizeLine_eq]; (try simp only [show (PySem.Str.empty).length = 0 from rfl]); lia))
local macro_rules | `(tactic| walk_at "callWith ref") => return kd (fs (rf ``callWith_F "B?RR") (rs ``callWith_F0 "B?" "N"))
local macro_rules | `(tactic| walk_at "And") => return sh (ap ``And [ap ``FnAt [pt '_', pt '_'], pt '_']) (rs ``And.intro "B?" "N")
local macro_rules | `(tactic| walk_at "And") => return sh (ap ``And [ap ``Frag.In [pt '_', pt '_'], pt '_']) (rs ``And.intro "k?" "N")
local macro_rules | `(tactic| walk_at "callWith ref") => return kd (fs (rf ``callWith_K "xI?RR") (rs ``callWith_K0 "kI?" "N"))
section
open PySem PySem.W PySem.W.X PyProof.Rows PySem.Calls PySem.Spec

namespace Mine
/-- a code table: it holds no code for the place, or one that stands in the base -/
noncomputable def TabS (g : Heap) (pos : Pos) (qual : Str) (ps : Array Value) : Prop := TriplesOk ps.toList ∧ (codeAmong pos ps.toList = none ∨ ∃ c', codeAmong pos ps.toList = some (.ref c') ∧ g.CodeRec (.ref c') qual)
theorem TabS.keeps {g g' : Heap} {pos : Pos} {qual : Str} {ps : Array Value} (T : TabS g pos qual ps) (k : Sub g g') : TabS g' pos qual ps :=
  ⟨T.1, T.2.imp id fun ⟨c', h1, h2⟩ => ⟨c', h1, h2.keeps k⟩⟩

section
variable {M : Model} {A : Around} {E : Value → Shared → Prop} {s : Shared} {name qual : Str} {params : Arguments} {body : List Stmt} {scope : Scope} {env : Env} {c P : Addr} {ps : Array Value} {pos : Pos} {firstLine : Nat} {mg mb m : Str → Option Value}
  {Q : Value → Shared → Prop} {g g₀ : Heap} {L : Addr} {news : List (Addr × Obj)} {w : World}
/-- a def within a def: its code is made once and kept in the outer code's table -/
theorem nest_S (S : St g L ((P, tabObj ps) :: news) s.heap m) (B : Bs w mg mb g₀) (k : Sub g₀ g) (C : CodeHd g₀ c P) (hgP : mainGlobals ≠ P) (T : TabS g pos qual ps)
    (hcl : closureFor scope env = pure []) (hge0 : env.globals = mainGlobals) (hcode : env.code = .ref c)
    (h : ∀ g' f c' doc pm ctv ps' h' tk, Sub g g' → St g' L ((P, tabObj ps') :: news) h' m → TabS g' pos qual ps' →
      g'.get? f = some { cls := .type "function", data := .func (fnX name qual params body scope [] .none .none doc pm none (.ref c') ctv) } → g'.CodeRec (.ref c') qual → Q (.ref f) { s with heap := h', toks := tk }) :
    wpAny M A (makeFunction name qual params (.stmts body) scope env [] [] [] pos firstLine) Q E s := by
  have hPs : s.heap.get? P = some (tabObj ps) := S.nw _ (.head _)
  have hk := k.trans S.keep
  have hg := B.G.keeps hk
  have hb : s.heap.BuiltinsAt mg P := by
    obtain ⟨bm, ob, h1, h2, h3, h4, h5, h6⟩ := B.bmain
    have e := hk _ _ h3
    refine ⟨bm, ob, h1, h2, fun q => ?_, fun q => ?_, e, h4, h5, h6⟩
    · obtain ⟨o, es, ep, ho, hd, _⟩ := hg
      rw [← q, e] at ho; cases ho
      rw [h6] at hd; cases hd
    · rw [q, hPs] at e; cases e; cases h4
  have hC := C.keeps hk
  rcases T.2 with hnf | ⟨c', hf, hr⟩
  · refine makeFunction_K hcl hge0 hg hcode hC hPs T.1 hnf hgP hb fun c' ctv doc h' tk hx hge hlt hrec hP' => ?_
    obtain ⟨c'', oc, vs, tt, e1, e2, e3, e4⟩ := id hrec
    cases e1
    have hnd := List.nodup_cons.mp S.nd
    have S1 : St g L ((P, tabObj (ps ++ #[rawInt pos.line, rawInt pos.col, .ref c'])) :: news) h' m := by
      refine ⟨S.ns.extBut hx (Ne.symm (S.nL _ (.head _))), fun b o e => hx b o (fun q => ?_) (S.keep b o e), S.off, fun p hp => ?_, fun p hp => ?_, fun p hp => ?_, S.nd⟩
      · rw [q, show g.get? P = none from S.ng _ (.head _)] at e; cases e
      · rcases List.mem_cons.mp hp with rfl | hp
        · exact hP'
        · exact hx _ _ (fun q => hnd.1 (by show P ∈ _; rw [← q]; exact List.mem_map_of_mem (f := (·.1)) hp)) (S.nw p (.tail _ hp))
      · rcases List.mem_cons.mp hp with rfl | hp
        · exact S.nL (P, tabObj ps) (.head _)
        · exact S.nL p (.tail _ hp)
      · rcases List.mem_cons.mp hp with rfl | hp
        · exact S.ng (P, tabObj ps) (.head _)
        · exact S.ng p (.tail _ hp)
    obtain ⟨g1, k1, S2, k2⟩ := S1.rebase
    have hc1 : g1.get? c' = some oc := k2 c' oc e2 (Nat.ne_of_gt (Nat.lt_of_lt_of_le S.lt hge)) fun p hp => by
      rcases List.mem_cons.mp hp with rfl | hp
      · exact Nat.ne_of_lt (Nat.lt_of_lt_of_le (Heap.lt_size hPs) hge)
      · exact Nat.ne_of_lt (Nat.lt_of_lt_of_le (S.news_lt (List.mem_cons_of_mem (P, tabObj ps) hp)) hge)
    obtain ⟨g2, k3, S3, hf2⟩ := S2.push0 (fnMade name qual params body scope [] doc ((mg "__name__").getD .none) c' ctv) rfl
    have hr2 : g2.CodeRec (.ref c') qual := ⟨c', oc, vs, tt, rfl, k3 _ _ hc1, e3, e4⟩
    have hts := TriplesOk_snoc pos.line pos.col (.ref c') ps.toList T.1
    exact h g2 _ c' doc _ ctv _ _ tk (k1.trans k3) S3 ⟨by simpa using hts, .inr ⟨c', by simpa using codeAmong_snoc (c := .ref c') ps.toList T.1 hnf, hr2⟩⟩ hf2 hr2
  · refine makeFunction_hit hcl hge0 hg hcode hC hPs T.1 hf hb fun ctv doc h' tk hx hsz => ?_
    have S1 : St g L ((P, tabObj ps) :: news) h' m := ⟨S.ns.keeps hx, fun b o e => hx _ _ (S.keep b o e), S.off, fun p hp => hx _ _ (S.nw p hp), S.nL, S.ng, S.nd⟩
    obtain ⟨g2, k3, S3, hf2⟩ := S1.push0 _ (by rfl : Obj.isFreed { cls := .type "function", data := .func (fnX name qual params body scope [] .none .none doc ((mg "__name__").getD .none) none (.ref c') ctv) } = false)
    exact h g2 _ c' doc _ ctv ps _ tk k3 S3 (T.keeps k3) hf2 (hr.keeps k3)
end
end Mine

end
section
open PySem PySem.W PySem.W.X PyProof.Rows PySem.Calls PySem.Spec PySem.Builtin PySem.Builtin.Str
namespace Mine
noncomputable def cutS (x : Str) (k : Nat) : Str := ⟨(x.cps.toList.take k).toArray⟩
theorem cutS_length (x : Str) {k : Nat} (hk : k ≤ x.length) : (cutS x k).length = k := by
  have hn : x.cps.toList.length = x.length := by simp [Str.length]
  show (x.cps.toList.take k).toArray.size = k
  rw [List.size_toArray, List.length_take, hn]; lia
theorem subAt_cut (x sub : Str) {k i : Nat} (h : i + sub.length ≤ k) : subAt x sub i = subAt (cutS x k) sub i := by
  rw [StrLaws.subAt_eq, StrLaws.subAt_eq]
  congr 1
  show _ = ((x.cps.toList.take k).drop i).take sub.length
  rw [List.drop_take, List.take_take, Nat.min_eq_left (Nat.le_sub_of_add_le' h)]
theorem occBody_cut (x sub : Str) (k lim : Nat) : StrLaws.occBody x sub k lim = StrLaws.occBody (cutS x k) sub k lim := by
  funext i st
  unfold StrLaws.occBody
  by_cases h : i + sub.length ≤ k
  · rw [subAt_cut x sub h]
  · rw [if_neg (fun c => h c.1.2), if_neg (fun c => h c.1.2)]
theorem lastBody_cut (x sub : Str) (k : Nat) : StrLaws.lastBody x sub k = StrLaws.lastBody (cutS x k) sub k := by
  funext i st
  unfold StrLaws.lastBody
  by_cases h : i + sub.length ≤ k
  · rw [subAt_cut x sub h]
  · rw [if_neg (fun c => h c.1), if_neg (fun c => h c.1)]
theorem count_cut (x : Str) {k : Nat} (hk : k ≤ x.length) : (occurrences x ⟨#[10]⟩ 0 k (x.length + 1)).length = (x.cps.toList.take k).count 10 := by
  have hl := cutS_length x hk
  rw [StrLaws.occ_eq, occBody_cut]
  have key := StrLaws.tight_run (cutS x k) ⟨#[10]⟩ k (x.length + 1) 0 (Nat.le_refl 1) (k + 1 - 0) 0 ((#[] : Array Nat), 0) rfl (fun k _ h => by lia) (by simp; lia)
  have hc := chain_count (cutS x k) 10 _ 0 _ (by rw [hl]; exact key.1) (fun j hj hA => by rw [hl] at hA; exact key.2 j hj (by have := hA.1; lia) hA)
  rw [List.drop_zero, cnt_count] at hc
  exact (Int.ofNat.inj hc).symm
theorem last_cut (x : Str) {k : Nat} (hk : k ≤ x.length) (h : (x.cps.toList.take k).count 10 ≠ 0) :
    ∃ i, lastOccurrence x ⟨#[10]⟩ 0 k = some i ∧ (k : Int) - (i : Int) = (tailOf (x.cps.toList.take k) + 1 : Nat) := by
  have hl := cutS_length x hk
  have e : lastOccurrence x ⟨#[10]⟩ 0 k = lastOccurrence (cutS x k) ⟨#[10]⟩ 0 (cutS x k).length := by
    rw [StrLaws.last_eq, StrLaws.last_eq, hl, lastBody_cut]
  rw [e]
  have hmem : 10 ∈ x.cps.toList.take k := List.count_pos_iff.mp (Nat.pos_of_ne_zero h)
  have hcl : (cutS x k).cps.toList = x.cps.toList.take k := rfl
  rcases StrLaws.last_spec (cutS x k) ⟨#[10]⟩ with ⟨h1, h2⟩ | ⟨i, h1, h2, h3⟩
  · obtain ⟨j, hj⟩ := List.getElem?_of_mem hmem
    exact absurd ((StrLaws.subAt_one (cutS x k) 10 j).mpr (by rw [hcl]; exact hj)) (h2 j)
  · refine ⟨i, h1, ?_⟩
    have hi : (x.cps.toList.take k)[i]? = some 10 := by rw [← hcl]; exact (StrLaws.subAt_one (cutS x k) 10 i).mp h2
    obtain ⟨hlt, hge⟩ := List.getElem?_eq_some_iff.mp hi
    have hlen : (x.cps.toList.take k).length = k := by rw [← hcl, ← Array.size_eq_length_toList]; exact hl
    have hs : x.cps.toList.take k = (x.cps.toList.take k).take i ++ 10 :: (x.cps.toList.take k).drop (i + 1) := by
      rw [← hge, ← List.drop_eq_getElem_cons hlt, List.take_append_drop]
    have hf : 10 ∉ (x.cps.toList.take k).drop (i + 1) := fun hm => by
      obtain ⟨j, hj⟩ := List.getElem?_of_mem hm
      rw [List.getElem?_drop] at hj
      exact h3 (i + 1 + j) (by lia) ((StrLaws.subAt_one (cutS x k) 10 (i + 1 + j)).mpr (by rw [hcl]; exact hj))
    rw [hs, tailOf_cut, tailOf_free hf, List.length_drop, hlen]
    rw [hlen] at hlt
    rw [show k - (i + 1) + 1 = k - i from by rw [Nat.sub_succ]; exact Nat.sub_add_cancel (Nat.sub_pos_of_lt hlt)]
    exact (Int.ofNat_sub (Nat.le_of_lt hlt)).symm
theorem tail_none {l : List Nat} (h : l.count 10 = 0) : tailOf l = l.length := tailOf_free fun hm => absurd (List.count_pos_iff.mpr hm) (by rw [h]; exact Nat.lt_irrefl 0)

section
variable {prog : Program} {w : World} {A : Around} {E : Value → Shared → Prop} {s : Shared} {x y : Str} {t u v v' : Tok} {i j : Int} {Q : Value → Shared → Prop}
theorem gives_count4 (x y : Str) (i j : Int) (t u v v' : Tok) : Gives («str.count» ⟨[.str x t, .str y u, .int i v, .int j v'], []⟩) (.int (occurrences x y (fromIndex x.length i) (min (fromIndex x.length j) x.length) (x.length + 1)).length) := .of_eq rfl
theorem count4 (hq : Q (.int (occurrences x y (fromIndex x.length i) (min (fromIndex x.length j) x.length) (x.length + 1)).length s.toks) { s with toks := s.toks + 1 }) :
    wpAny (model prog w) A (call (.builtin "str.count") [.str x t, .str y u, .int i v, .int j v']) Q E s :=
  call_gives F.slot_str_count (typeIs_str _ _ _) F.entry_str_count (F.args_str_count_4 _ _ _ _) (gives_count4 x y i j t u v v') hq
theorem gives_rindex4 (x y : Str) (i j : Int) (t u v v' : Tok) {n : Nat} (h : lastOccurrence x y (fromIndex x.length i) (min (fromIndex x.length j) x.length) = some n) :
    Gives («str.rindex» ⟨[.str x t, .str y u, .int i v, .int j v'], []⟩) (.int n) := by
  have e : «str.rindex» ⟨[.str x t, .str y u, .int i v, .int j v'], []⟩ = (match lastOccurrence x y (fromIndex x.length i) (min (fromIndex x.length j) x.length) with
    | some i => retInt i
    | none => do rule "str.rindex.not-found"; raiseError "ValueError" "substring not found") := rfl
  rw [e, h]
  exact .of_eq rfl
theorem rindex4 {n : Nat} (h : lastOccurrence x y (fromIndex x.length i) (min (fromIndex x.length j) x.length) = some n) (hq : Q (.int n s.toks) { s with toks := s.toks + 1 }) :
    wpAny (model prog w) A (call (.builtin "str.rindex") [.str x t, .str y u, .int i v, .int j v']) Q E s :=
  call_gives F.slot_str_rindex (typeIs_str _ _ _) F.entry_str_rindex (F.args_str_rindex_4 _ _ _ _) (gives_rindex4 x y i j t u v v' h) hq
end
theorem fromIndex_nat (n k : Nat) : fromIndex n (k : Int) = k := by unfold fromIndex; split <;> lia
end Mine

end
section
set_option maxHeartbeats 4000000
open PySem PySem.W PySem.W.X PyProof.Rows PySem.Calls PySem.Spec PySem.Builtin.Str
namespace Mine
noncomputable def scalarB (n : Int) : Bool := decide (0 ≤ n ∧ n ≤ 55295 ∨ 57344 ≤ n ∧ n ≤ 1114111)
section
variable {w : World} {mg mb : PySem.Str → Option Value} {A : Around} {g : Heap} {L : Addr} {m : PySem.Str → Option Value} {news frs : List (Addr × Obj)} {s : Shared} {tk t2 t3 : Tok}
    {Q E : Value → Shared → Prop}
theorem c_scalar {n : Int} (B : Bs w mg mb g) (S : Mine.St g L (news ++ frs) s.heap m) (Z : Ar A L frs 1)
    (hret : ∀ v frs' h' tk', v = .bool (scalarB n) → Up frs frs' → Mine.St g L (news ++ frs') h' m → Q v { s with heap := h', toks := tk' }) : wpAny (model prg w) A (call (.ref 76) [.int n tk]) Q E s := by
  walk_at "fill"; walk_at "enter"; walk_at "go"
  all_goals (obtain ⟨_, hu, hS⟩ := leave (by assumption) (by assumption) (Up.refl _); refine hret _ _ _ _ ?_ hu hS; refine congrArg Value.bool ?_; unfold scalarB; simp only [decide_eq_true_eq, decide_eq_false_iff_not, Bool.not_eq_true, decide_eq_decide] at *; first | exact scal_low (by assumption) (by assumption) | exact scal_top (by assumption) | exact scal_gap (by assumption) (by assumption) | exact scal_neg (by assumption) | exact scal_gap0 (by assumption) (by assumption))
theorem c_lscalar {n : Int} (B : Bs w mg mb g) (S : Mine.St g L (news ++ frs) s.heap m) (Z : Ar A L frs 1)
    (hret : ∀ v frs' h' tk', v = .bool (scalarB n) → Up frs frs' → Mine.St g L (news ++ frs') h' m → Q v { s with heap := h', toks := tk' }) : wpAny (model prg w) A (call (.ref 237) [.int n tk]) Q E s := by
  walk_at "enter"; walk_at "go"
  all_goals (obtain ⟨_, hu, hS⟩ := leave (by assumption) (by assumption) (Up.refl _); refine hret _ _ _ _ ?_ hu hS; refine congrArg Value.bool ?_; unfold scalarB; have hf : n.fdiv 2048 = n / 2048 := Int.fdiv_eq_ediv_of_nonneg n (by decide); (try rw [hf]); rw [Bool.eq_iff_iff]; simp only [bne_iff_ne, decide_eq_true_eq] at *; first | exact scal_div (by assumption) (by assumption) | exact scal_out (by assumption) | exact scal_neg (by assumption) | contradiction)
theorem c_signs (B : Bs w mg mb g) (S : Mine.St g L (news ++ frs) s.heap m) (Z : Ar A L frs 1)
    (hret : ∀ t frs' h' tk', Up frs frs' → Mine.St g L (news ++ frs') h' m → Q (.str (Str.ofString "0123456789abcdeDEfF0ABCd08F0f1g_\n ") t) { s with heap := h', toks := tk' }) : wpAny (model prg w) A (call (.ref 223) []) Q E s := by
  walk_at "enter"; walk_at "go"
  all_goals (obtain ⟨_, hu, hS⟩ := leave (by assumption) (by assumption) (Up.refl _); exact hret _ _ _ _ hu hS)
theorem c_place {x : PySem.Str} {k : Nat} (hx : x.length ≤ 4096) (B : Bs w mg mb g) (S : Mine.St g L (news ++ frs) s.heap m) (Z : Ar A L frs 1)
    (hret : ∀ v t g' frs' h' tk', v = .str (placeS x k) t → Sub g g' → Up frs frs' → Mine.St g' L (news ++ frs') h' m → Q v { s with heap := h', toks := tk' }) : wpAny (model prg w) A (call (.ref 230) [.str x t2, .int k tk]) Q E s := by
  walk_at "enter"; walk_at "go"
  · obtain ⟨_, hu, hS⟩ := leave (by assumption) (by assumption) (Up.refl _)
    have e : placeS x k = Str.ofString " (at end of document)" := by unfold placeS coordS; rw [if_pos (by lia)]; decide
    exact hret _ _ _ _ _ _ (by rw [e]) (Sub.refl _) hu hS
  · have hl : (Txt.slice x none (some (k : Int))).length ≤ x.length := Txt.slice_le _ _ _
    have hs2 := slice_take x k
    obtain ⟨q, hq1, hq2, hq3⟩ := split_facts (Txt.slice x none (some (k : Int)))
    have hle := split_le (Txt.slice x none (some (k : Int))) ⟨#[10]⟩
    refine split_S (by assumption) (by decide) (by walk_at "msz") (by rw [length_partsBetween]; have := StrLaws.occ_length_le (Txt.slice x none (some (k : Int))) (Str.ofString "\n") 0 (Txt.slice x none (some (k : Int))).length ((Txt.slice x none (some (k : Int))).length + 1); rw [sizeLine_eq]; lia) ?_
    intro g1 D l h1 k1 hg1 S1 hl1 hD
    have hz : (strValues l).toArray.size = linesOf ((Txt.slice x none (some (k : Int))).cps.toList) := by
      rw [← hq3, List.size_toArray, strValues, List.length_map, ← List.length_map (f := (·.1)), hl1]; rfl
    have hz2 : linesOf ((Txt.slice x none (some (k : Int))).cps.toList) ≤ 4098 := by
      rw [← hq3]; exact Nat.le_trans hle (by lia)
    have hz3 : (strValues l).toArray.size ≤ 4098 := by rw [hz]; exact hz2
    walk_at "go"
    obtain ⟨tq, htq⟩ : ∃ tq, l.getLast? = some (q, tq) := by
      have e : (l.map (·.1)).getLast? = some q := by rw [hl1]; exact hq1
      rw [List.getLast?_map] at e
      obtain ⟨p, h1, h2⟩ := Option.map_eq_some_iff.mp e
      exact ⟨p.2, by rw [h1, ← h2]⟩
    have hpos : 1 ≤ linesOf ((Txt.slice x none (some (k : Int))).cps.toList) := Nat.le_add_left _ _
    refine item_negS (by assumption) hD (by walk_at "sub") (by decide) (by lia) (by decide) (v := .str q tq) ?_ ?_
    · rw [hz, show ((-1 : Int) + (linesOf ((Txt.slice x none (some (k : Int))).cps.toList) : Nat)).toNat = linesOf ((Txt.slice x none (some (k : Int))).cps.toList) - 1 from pred_nat _, ← hz, List.size_toArray]
      show (strValues l).toArray[_]? = _
      rw [List.getElem?_toArray, ← List.getLast?_eq_getElem?, strValues, List.getLast?_map, htq]
      rfl
    have hqle : q.length ≤ 4096 := by
      rw [hq2]
      have : tailOf ((Txt.slice x none (some (k : Int))).cps.toList) ≤ ((Txt.slice x none (some (k : Int))).cps.toList).length := by
        unfold tailOf
        exact Nat.le_trans (List.takeWhile_prefix _).length_le (Nat.le_of_eq List.length_reverse)
      have h2 : ((Txt.slice x none (some (k : Int))).cps.toList).length = (Txt.slice x none (some (k : Int))).length := by simp [Str.length]
      lia
    walk_at "go"
    obtain ⟨_, hu, hS⟩ := leave (by assumption) (by assumption) (Up.refl _)
    refine hret _ _ _ _ _ _ (congrArg (fun a => Value.str a _) ?_) (by walk_at "sub") hu hS
    have e1 : Str.ofString " (at line " = Str.ofString " (at " ++ Str.ofString "line " := by decide
    unfold placeS coordS
    rw [if_neg (by lia), hz, hs2, hq2, hs2, e1]
    simp only [Str.append_assoc]
    rfl
end
end Mine

end
section
set_option maxHeartbeats 4000000
open PySem PySem.W PySem.W.X PyProof.Rows PySem.Calls PySem.Spec PySem.Builtin PySem.Builtin.Str
namespace Mine
theorem Ar.le {A : Around} {L : Addr} {frs : List (Addr × Obj)} {k k' : Nat} (x : Ar A L frs k) (h : k' ≤ k) : Ar A L frs k' :=
  ⟨x.hand, by have := x.room; lia, by have := x.units; lia, x.bear, x.frames⟩
theorem text_len {n : Nat} (h : n < 10 ^ 10) : (Str.ofString (toString (n : Int))).length ≤ 11 := by
  rw [PySem.ofString_length]
  exact int_text_length_le10 (k := 10) (by decide) (by simpa using h)
theorem coordS_len (x : Str) (k : Nat) (hx : x.length ≤ 4096) : (coordS x k).length ≤ 64 := by
  have hn : x.cps.toList.length = x.length := by simp [Str.length]
  unfold coordS
  split
  · decide
  · have h1 : linesOf (x.cps.toList.take k) < 10 ^ 10 := by
      have : (x.cps.toList.take k).count 10 ≤ (x.cps.toList.take k).length := List.count_le_length
      rw [List.length_take] at this
      unfold linesOf; lia
    have h2 : tailOf (x.cps.toList.take k) + 1 < 10 ^ 10 := by
      have : tailOf (x.cps.toList.take k) ≤ (x.cps.toList.take k).length := by
        unfold tailOf
        exact Nat.le_trans (List.takeWhile_prefix _).length_le (Nat.le_of_eq List.length_reverse)
      rw [List.length_take] at this
      lia
    have e1 := text_len h1
    have e2 := text_len h2
    have e3 : (Str.ofString "line ").length = 5 := by decide
    have e4 : (Str.ofString ", column ").length = 9 := by decide
    simp only [Str.length_append]
    lia
/-- into a def that stands in the base (one that was made within the call) -/
theorem enterG {prog : Program} {w : World} {A : Around} {s : Shared} {g g₀ : Heap} {L : Addr} {m mg mb : Str → Option Value} {news frs : List (Addr × Obj)} {R : Result → Shared → Prop} {f c' : Addr} {name qual : Str} {params : Arguments} {body : List Stmt} {scope : Scope} {doc pm ctv : Value} {args : List Value} {k : Nat}
    (B : Bs w mg mb g₀) (hk₀ : Sub g₀ g) (S : St g L (news ++ frs) s.heap m) (Z : Ar A L frs (k + 1))
    {g₁ : Heap} (ho : g₁.get? f = some { cls := .type "function", data := .func (fnX name qual params body scope [] .none .none doc pm none (.ref c') ctv) }) (hcd : g₁.CodeRec (.ref c') qual) (hk₁ : Sub g₁ g)
    (hbind : bindArgs (fnX name qual params body scope [] .none .none doc pm none (.ref c') ctv) ⟨args, []⟩ = pure ((params.args.map (·.arg)).zip args)) (hloc : ∀ y ∈ (params.args.map (·.arg)).zip args, scope.names.lookup y.1 = some .local)
    (h : ∀ oL L' h₁, Bears oL m → St g L' (news ++ (L, oL) :: frs) h₁ (fun x => ((params.args.map (·.arg)).zip args).reverse.lookup x) → Ar (A.deeper (envX qual scope L' f (.ref c') [])) L' ((L, oL) :: frs) k →
      wpAny (model prog w) (A.deeper (envX qual scope L' f (.ref c') [])) (execs body (envX qual scope L' f (.ref c') [])) (fun fl s' => R (.ok (.ret (match fl with | .ret v => v | _ => .none))) s')
        (fun e s' => wpAny (model prog w) (A.deeper (envX qual scope L' f (.ref c') [])) (leaving (envX qual scope L' f (.ref c') []) e) (fun _ s'' => R (.error e) s'') (fun e' s'' => R (.error e') s'') s')
        { s with heap := h₁, toks := s.toks + ((params.args.map (·.arg)).zip args).length })
    (hco : scope.isCoroutine = false := by rfl) (hgen : scope.isGenerator = false := by rfl) (hk : scope.kind = .function := by rfl)
    (hcell : ∀ x ∈ scope.names, x.2 ≠ .cell := by decide) : codeAny (model prog w) A (.call (.ref f) ⟨args, []⟩) R s :=
  enter (fd := fnX name qual params body scope [] .none .none doc pm none (.ref c') ctv) S Z (hk₁ _ _ ho) rfl (B.nolimit.keeps hk₀) (hcd.keeps hk₁) rfl (BindsTo.of_eq hbind) hcell hloc h hco hgen hk
end Mine

end
section
open PySem PySem.W PySem.W.X PyProof.Rows PySem.Calls PySem.Spec
namespace Mine
section
variable {g h h' : Heap} {L : Addr} {m : Str → Option Value} {news : List (Addr × Obj)}
theorem St.keepsTo (S : St g L news h m) (hk : Sub h h') : St g L news h' m := ⟨S.ns.keeps hk, fun b o e => hk _ _ (S.keep b o e), S.off, fun p hp => hk _ _ (S.nw p hp), S.nL, S.ng, S.nd⟩
theorem St.addNew {e : Addr} {o : Obj} (S : St g L news h m) (hk : Sub h h') (hn : h.get? e = none) (ho : h'.get? e = some o) : St g L ((e, o) :: news) h' m := by
  have S' := S.keepsTo hk
  have ne : ∀ b o', h.get? b = some o' → b ≠ e := fun b o' q z => by rw [z, hn] at q; cases q
  obtain ⟨oL, _, _, hL, _⟩ := S.ns
  refine ⟨S'.ns, S'.keep, S'.off, fun p hp => ?_, fun p hp => ?_, fun p hp => ?_, ?_⟩
  · rcases List.mem_cons.mp hp with rfl | hp
    · exact ho
    · exact S'.nw p hp
  · rcases List.mem_cons.mp hp with rfl | hp
    · exact Ne.symm (ne _ _ hL)
    · exact S'.nL p hp
  · rcases List.mem_cons.mp hp with rfl | hp
    · cases q : g.get? e with
      | none => rfl
      | some o' => exact absurd rfl (ne _ _ (S.keep _ _ q))
    · exact S'.ng p hp
  · rw [List.map_cons]
    refine List.nodup_cons.mpr ⟨fun hm => ?_, S.nd⟩
    obtain ⟨p, hp, q⟩ := List.mem_map.mp hm
    exact ne _ _ (S.nw p hp) q
theorem St.addBase {e : Addr} {o : Obj} (S : St g L news h m) (hk : Sub h h') (hn : h.get? e = none) (ho : h'.get? e = some o) : Settle g L e o news h' m := (S.addNew hk hn ho).settle
end
noncomputable abbrev tupObj (vs : List Value) : Obj := { cls := .type "tuple", data := .seq vs.toArray }
noncomputable abbrev excObj (C t : Addr) : Obj := { cls := .ref C, data := .fields #[.ref t, .none, .none, .none, .bool false, .none] }
section
variable {prog : Program} {w : World} {A : Around} {E : Value → Shared → Prop} {s : Shared} {g g₀ : Heap} {L : Addr} {m mg mb : Str → Option Value} {news : List (Addr × Obj)} {Q : Value → Shared → Prop}
  {nm q : Str} {C N : Addr} {bs bm : List Value} {hdct : Bool} {sn : List Str} {sub : List Value} {ab : Bool} {col : Option Bool} {dd : Option Addr} {k0 k1 k2 k3 k5 : Option Value} {Bn newId initId : String} {rest : List Value}
theorem exc_S (S : St g L news s.heap m) (B : Bs w mg mb g₀) (k : Sub g₀ g) (F : ExcBaseFacts Bn newId initId bm)
    (hC : (Kf w.params).lookup C = some (excClassObj nm q C N bs bm hdct sn sub ab col dd k0 k1 k2 k3 k5 newId)) (hok : nsOkIn (Kf w.params) N = true) (hni : nsIn (Kf w.params) N "__init__" = some none) (hlen : rest.length ≤ sizeLine)
    (h : ∀ e t h', St g L ((e, excObj C t) :: (t, tupObj rest) :: news) h' m → Q (.ref e) { s with heap := h' }) :
    wpAny (model prog w) A (call (.ref C) rest) Q E s := by
  have hk := k.trans S.keep
  have X := B.X.keeps hk
  refine wpAny_call_exc_sub F (X _ _ hC) (.of_isNs (isNs_of_in X hok)) (nsMap_none_of_in X hok hni) (fun h' e hm => ?_) hlen
  obtain ⟨t, he, htn, ht⟩ := hm.there
  have S1 := S.addNew hm.keeps htn ht
  have S2 := S.addNew hm.keeps hm.new he
  refine h e t h' ⟨S1.ns, S1.keep, S1.off, fun p hp => ?_, fun p hp => ?_, fun p hp => ?_, ?_⟩
  · rcases List.mem_cons.mp hp with rfl | hp
    · exact he
    · exact S1.nw p hp
  · rcases List.mem_cons.mp hp with rfl | hp
    · exact S2.nL _ (.head _)
    · exact S1.nL p hp
  · rcases List.mem_cons.mp hp with rfl | hp
    · exact S2.ng _ (.head _)
    · exact S1.ng p hp
  · rw [List.map_cons]
    refine List.nodup_cons.mpr ⟨fun hm' => ?_, S1.nd⟩
    obtain ⟨p, hp, q'⟩ := List.mem_map.mp hm'
    rcases List.mem_cons.mp hp with rfl | hp
    · simp only at q'; rw [q', he] at ht; cases ht
    · exact (List.nodup_cons.mp S2.nd).1 (by have q2 : p.1 = e := q'; show e ∈ _; rw [← q2]; exact List.mem_map_of_mem (f := (·.1)) hp)
end
end Mine

end
section
set_option maxHeartbeats 1000000
open PySem PySem.W PySem.W.X PyProof.Rows PySem.Calls PySem.Spec
namespace Mine
section
variable {prog : Program} {w : World} {A : Around} {E : Value → Shared → Prop} {s : Shared} {a b : Addr} {x1 x2 y1 y2 : Int} {t1 t2 u1 u2 : Tok}
theorem int_cmp_lt {x y : Int} {t u : Tok} {Q : Value → Shared → Prop} (h : Q (.bool (decide (x < y))) s) : wpAny (model prog w) A (richCompare .Lt (.int x t) (.int y u)) Q E s :=
  richCompare_gives (op := .Lt) (typeIs_int s _ t) (typeIs_int s _ u) F.slot_int_lt F.entry_int_lt (F.args_int_lt_2 _ _) (gives_int_lt _ _ t u) (fun x => nomatch x) h
theorem int_cmp_gt {x y : Int} {t u : Tok} {Q : Value → Shared → Prop} (h : Q (.bool (decide (x > y))) s) : wpAny (model prog w) A (richCompare .Gt (.int x t) (.int y u)) Q E s :=
  richCompare_gives (op := .Gt) (typeIs_int s _ t) (typeIs_int s _ u) F.slot_int_gt F.entry_int_gt (F.args_int_gt_2 _ _) (gives_int_gt _ _ t u) (fun x => nomatch x) h
/-- the order of pairs -/
noncomputable def ltP (x y : Int × Int) : Bool := decide (x.1 < y.1 ∨ (x.1 = y.1 ∧ x.2 < y.2))
theorem tup_lt_tree {P : Fin → Shared → Prop} (ha : s.heap.get? a = some (tupObj [.int x1 t1, .int x2 t2])) (hb : s.heap.get? b = some (tupObj [.int y1 u1, .int y2 u2]))
    (h : P (.done (.ret (.bool (ltP (x1, x2) (y1, y2))))) s) : wpAny (model prog w) A (Builtin.«tuple.__lt__» ⟨[.ref a, .ref b], []⟩) P E s := by
  have hTb : s.TypeIs (.ref b) "tuple" := ⟨_, hb, rfl⟩
  show wpAny _ _ (isInstance (.ref b) (.type "tuple") >>= _) _ _ s
  refine wpAny_bind (wpAny_isInstance hTb isSubtype_tuple_tuple ?_)
  simp only [Bool.not_true, Bool.false_eq_true, if_false]
  refine wpAny_bind (wpAny_tupleItemsOf ha rfl ?_)
  refine wpAny_bind (wpAny_tupleItemsOf hb rfl ?_)
  refine wpAny_bind ?_
  show wpAny _ _ (forIn [((Value.int x1 t1), (Value.int y1 u1)), ((Value.int x2 t2), (Value.int y2 u2))] _ _) _ _ s
  rw [List.forIn_cons]
  refine wpAny_bind (wpAny_bind (wpAny_eqBool_int ?_))
  by_cases h1 : x1 = y1
  · subst h1
    simp only [beq_self_eq_true, Bool.not_true, Bool.false_eq_true, if_false]
    refine wpAny_pure ?_
    dsimp only
    rw [List.forIn_cons]
    refine wpAny_bind (wpAny_bind (wpAny_eqBool_int ?_))
    by_cases h2 : x2 = y2
    · subst h2
      simp only [beq_self_eq_true, Bool.not_true, Bool.false_eq_true, if_false]
      refine wpAny_pure ?_
      dsimp only
      rw [List.forIn_nil]
      refine wpAny_pure (wpAny_pure ?_)
      have : ltP (x1, x2) (x1, x2) = false := by unfold ltP; simp
      rw [this] at h
      exact h
    · have h2' : (x2 == y2) = false := beq_eq_false_iff_ne.mpr h2
      simp only [h2', Bool.not_false, if_true]
      refine wpAny_bind (wpAny_rule (wpAny_bind (int_cmp_lt ?_)))
      refine wpAny_bind (wpAny_pure (wpAny_pure ?_))
      dsimp only
      refine wpAny_pure ?_
      have : ltP (x1, x2) (x1, y2) = decide (x2 < y2) := by unfold ltP; simp
      rw [this] at h
      exact wpAny_pure h
  · have h1' : (x1 == y1) = false := beq_eq_false_iff_ne.mpr h1
    simp only [h1', Bool.not_false, if_true]
    refine wpAny_bind (wpAny_rule (wpAny_bind (int_cmp_lt ?_)))
    refine wpAny_bind (wpAny_pure (wpAny_pure ?_))
    dsimp only
    refine wpAny_pure ?_
    have : ltP (x1, x2) (y1, y2) = decide (x1 < y1) := by unfold ltP; simp [h1]
    rw [this] at h
    exact wpAny_pure h
theorem tup_gt_tree {P : Fin → Shared → Prop} (ha : s.heap.get? a = some (tupObj [.int x1 t1, .int x2 t2])) (hb : s.heap.get? b = some (tupObj [.int y1 u1, .int y2 u2]))
    (h : P (.done (.ret (.bool (ltP (y1, y2) (x1, x2))))) s) : wpAny (model prog w) A (Builtin.«tuple.__gt__» ⟨[.ref a, .ref b], []⟩) P E s := by
  have hTb : s.TypeIs (.ref b) "tuple" := ⟨_, hb, rfl⟩
  show wpAny _ _ (isInstance (.ref b) (.type "tuple") >>= _) _ _ s
  refine wpAny_bind (wpAny_isInstance hTb isSubtype_tuple_tuple ?_)
  simp only [Bool.not_true, Bool.false_eq_true, if_false]
  refine wpAny_bind (wpAny_tupleItemsOf ha rfl ?_)
  refine wpAny_bind (wpAny_tupleItemsOf hb rfl ?_)
  refine wpAny_bind ?_
  show wpAny _ _ (forIn [((Value.int x1 t1), (Value.int y1 u1)), ((Value.int x2 t2), (Value.int y2 u2))] _ _) _ _ s
  rw [List.forIn_cons]
  refine wpAny_bind (wpAny_bind (wpAny_eqBool_int ?_))
  by_cases h1 : x1 = y1
  · subst h1
    simp only [beq_self_eq_true, Bool.not_true, Bool.false_eq_true, if_false]
    refine wpAny_pure ?_
    dsimp only
    rw [List.forIn_cons]
    refine wpAny_bind (wpAny_bind (wpAny_eqBool_int ?_))
    by_cases h2 : x2 = y2
    · subst h2
      simp only [beq_self_eq_true, Bool.not_true, Bool.false_eq_true, if_false]
      refine wpAny_pure ?_
      dsimp only
      rw [List.forIn_nil]
      refine wpAny_pure (wpAny_pure ?_)
      have : ltP (x1, x2) (x1, x2) = false := by unfold ltP; simp
      rw [this] at h
      exact h
    · have h2' : (x2 == y2) = false := beq_eq_false_iff_ne.mpr h2
      simp only [h2', Bool.not_false, if_true]
      refine wpAny_bind (wpAny_rule (wpAny_bind (int_cmp_gt ?_)))
      refine wpAny_bind (wpAny_pure (wpAny_pure ?_))
      dsimp only
      refine wpAny_pure ?_
      have : ltP (x1, y2) (x1, x2) = decide (x2 > y2) := by unfold ltP; simp
      rw [this] at h
      exact wpAny_pure h
  · have h1' : (x1 == y1) = false := beq_eq_false_iff_ne.mpr h1
    simp only [h1', Bool.not_false, if_true]
    refine wpAny_bind (wpAny_rule (wpAny_bind (int_cmp_gt ?_)))
    refine wpAny_bind (wpAny_pure (wpAny_pure ?_))
    dsimp only
    refine wpAny_pure ?_
    have : ltP (y1, y2) (x1, x2) = decide (x1 > y1) := by unfold ltP; simp [Ne.symm h1]
    rw [this] at h
    exact wpAny_pure h
theorem tup_lt {Q : Value → Shared → Prop} (hu : A.units < cLine) (ha : s.heap.get? a = some (tupObj [.int x1 t1, .int x2 t2])) (hb : s.heap.get? b = some (tupObj [.int y1 u1, .int y2 u2]))
    (h : Q (.bool (ltP (x1, x2) (y1, y2))) s) : wpAny (model prog w) A (richCompare .Lt (.ref a) (.ref b)) Q E s :=
  wpAny_richCompare_same_room (op := .Lt) ⟨_, ha, rfl⟩ ⟨_, hb, rfl⟩ F.slot_tuple_lt (wpAny_call_entry F.slot_tuple_lt ⟨_, ha, rfl⟩ F.entry_tuple_lt (tup_lt_tree ha hb ⟨_, rfl, (fun e => nomatch e), h⟩) (F.args_tuple_lt_2 _ _)) hu
theorem tup_gt {Q : Value → Shared → Prop} (hu : A.units < cLine) (ha : s.heap.get? a = some (tupObj [.int x1 t1, .int x2 t2])) (hb : s.heap.get? b = some (tupObj [.int y1 u1, .int y2 u2]))
    (h : Q (.bool (ltP (y1, y2) (x1, x2))) s) : wpAny (model prog w) A (richCompare .Gt (.ref a) (.ref b)) Q E s :=
  wpAny_richCompare_same_room (op := .Gt) ⟨_, ha, rfl⟩ ⟨_, hb, rfl⟩ F.slot_tuple_gt (wpAny_call_entry F.slot_tuple_gt ⟨_, ha, rfl⟩ F.entry_tuple_gt (tup_gt_tree ha hb ⟨_, rfl, (fun e => nomatch e), h⟩) (F.args_tuple_gt_2 _ _)) hu
theorem tup_key {x1 x2 : Int} (ha : s.heap.get? a = some (tupObj [.int x1 t1, .int x2 t2])) : IsTupleKey (PySem.intKind prog w) s.heap [x1, x2] a :=
  ⟨_, _, _, ha, rfl, rfl, .cons (intKind_is prog w x1 t1) (.cons (intKind_is prog w x2 t2) .nil)⟩
theorem tup_eq {Q : Bool → Shared → Prop} (hu : A.units < cLine) (ha : s.heap.get? a = some (tupObj [.int x1 t1, .int x2 t2])) (hb : s.heap.get? b = some (tupObj [.int y1 u1, .int y2 u2]))
    (h : Q (decide ((x1, x2) = (y1, y2))) s) : wpAny (model prog w) A (eqBool (.ref a) (.ref b)) Q E s := by
  refine wpAny_eqBool_tuple (knd := PySem.intKind prog w) hu (tup_key ha) (tup_key hb) ?_
  simpa using h
end
end Mine

end
section
set_option maxHeartbeats 4000000
open PySem PySem.W PySem.W.X PyProof.Rows PySem.Calls PySem.Spec PySem.Builtin PySem.Builtin.Str
namespace Mine
section
variable {w : World} {mg mb : PySem.Str → Option Value} {A : Around} {g : Heap} {L : Addr} {m : PySem.Str → Option Value} {news frs : List (Addr × Obj)} {s : Shared} {tk t2 t3 : Tok}
    {Q E : Value → Shared → Prop}
noncomputable abbrev coordQual : Str := Str.ofString "suffixed_err" ++ Str.ofString ".<locals>." ++ Str.ofString "coord_repr"
noncomputable abbrev coordPos : Pos := ⟨22, 4, 30, 46⟩
theorem c_suff {x y : PySem.Str} {k : Nat} {ps : Array Value} (hx : x.length ≤ 4096) (hy : y.length ≤ 4096) (B : Bs w mg mb g) (S : Mine.St g L (((64, tabObj ps) :: news) ++ frs) s.heap m) (Z : Ar A L frs 3)
   (T : TabS g coordPos coordQual ps)
   (hret : ∀ v e t g' frs' h' ps' tx tk', v = .ref e → Sub g g' → Up frs frs' → TabS g' coordPos coordQual ps' →
     Mine.St g' L (((e, excObj 52 t) :: (t, tupObj [.str (y ++ placeS x k) tx]) :: (64, tabObj ps') :: news) ++ frs') h' m → Q v { s with heap := h', toks := tk' }) :
   wpAny (model prg w) A (call (.ref 69) [.str x t2, .int k tk, .str y t3]) Q E s := by
  walk_at "enter"; walk_at "go"
  rename_i oL L1 h1 Lb S1 Z1
  refine nestDef_K rfl rfl rfl ?_
  refine nest_S (P := 64) (c := 68) (by exact S1) B (Sub.refl _) (codeHd_of_K B.X (by kernel_rfl)) (by decide) ?_ rfl rfl rfl ?_
  · exact T
  intro g2 f c2 doc pm ctv ps2 h2 tk2 k2 S2 T2 hf hcr
  have coord : ∀ {g3 : Heap} {L3 : Addr} {news3 frs3 : List (Addr × Obj)} {s3 : Shared} {m3 : Str → Option Value} {A3 : Around} {ta tb : Tok} {Q3 E3 : Value → Shared → Prop}, Sub g2 g3 → St g3 L3 (news3 ++ frs3) s3.heap m3 → Ar A3 L3 frs3 1 →
      (∀ v t frs' h' tk', v = .str (coordS x k) t → Up frs3 frs' → St g3 L3 (news3 ++ frs') h' m3 → Q3 v { s3 with heap := h', toks := tk' }) → wpAny (model prg w) A3 (call (.ref f) [.str x ta, .int k tb]) Q3 E3 s3 := by
    intro g3 L3 news3 frs3 s3 m3 A3 ta tb Q3 E3 k3 S3 Z3 hret
    refine wpAny_call (enterG B (by walk_at "sub") S3 Z3 hf hcr k3 rfl (locs rfl) ?_)
    intro oL' L' h' Lb' S' Z'
    (try dsimp only [List.map, List.zip, List.zipWith, List.reverse, List.reverseAux, List.length] at S' ⊢)
    walk_at "go"
    · obtain ⟨_, hu, hS⟩ := leave (by assumption) (by assumption) (Up.refl _)
      have e : coordS x k = Str.ofString "end of document" := by unfold coordS; rw [if_pos (by lia)]
      exact hret _ _ _ _ _ (by rw [e]) hu hS
    · have hkx : k ≤ x.length := by lia
      have hk4 : k ≤ 4096 := Nat.le_trans hkx hx
      refine count4 ?_
      rw [show fromIndex x.length 0 = 0 from fromIndex_nat _ 0, fromIndex_nat, Nat.min_eq_left hkx, show Str.ofString "\n" = ⟨#[10]⟩ by decide, count_cut x hkx]
      have hcl : (x.cps.toList.take k).count 10 ≤ 4096 := Nat.le_trans List.count_le_length (by rw [List.length_take]; have : x.cps.toList.length = x.length := by simp [Str.length]
                                                                                                lia)
      have hlen : (x.cps.toList.take k).length = k := by rw [List.length_take]; have : x.cps.toList.length = x.length := by simp [Str.length]
                                                         lia
      walk_at "go"
      · obtain ⟨_, hu, hS⟩ := leave (by assumption) (by assumption) (Up.refl _)
        refine hret _ _ _ _ _ (congrArg (fun a => Value.str a _) ?_) hu hS
        unfold coordS linesOf
        rw [if_neg (by lia), tail_none (by lia), hlen, Str.empty_append]
        rfl
      · obtain ⟨i, hi1, hi2⟩ := last_cut x hkx (by lia)
        refine rindex4 (n := i) (by rw [show fromIndex x.length 0 = 0 from fromIndex_nat _ 0, fromIndex_nat, Nat.min_eq_left hkx]; exact hi1) ?_
        have hi4 : i ≤ 4096 := Nat.le_trans (Int.ofNat_le.mp (Int.sub_nonneg.mp (by rw [hi2]; exact Int.natCast_nonneg _))) hk4
        have htl : tailOf (x.cps.toList.take k) ≤ 4096 := by
          unfold tailOf
          exact Nat.le_trans (List.takeWhile_prefix _).length_le (by rw [List.length_reverse, hlen]; lia)
        walk_at "go"
        obtain ⟨_, hu, hS⟩ := leave (by assumption) (by assumption) (Up.refl _)
        refine hret _ _ _ _ _ (congrArg (fun a => Value.str a _) ?_) hu hS
        unfold coordS linesOf
        rw [if_neg (by lia), Str.empty_append, hi2]
        rfl
  replace S2 : St g2 L1 (((64, tabObj ps2) :: news) ++ ((L, oL) :: frs)) h2 _ := S2
  walk_at "go"
  refine coord (by walk_at "sub") (by assumption) (Z1.le (by decide)) ?_
  intro v tv frs3 h3 tk3 hv hu3 S3
  subst hv
  have hcs := coordS_len x k hx
  walk_at "go"
  refine exc_S (C := 52) (N := 51) (by assumption) B (by walk_at "sub") PySem.F.excBase_ValueError (by k_dflt k_is) (by kernel_rfl) (by kernel_rfl) (by show 1 ≤ sizeLine; decide) ?_
  intro e t h4 S4
  walk_at "go"
  have hm : Str.empty ++ y ++ Str.ofString " (at " ++ coordS x k ++ Str.ofString ")" = y ++ placeS x k := by
    rw [Str.empty_append]
    simp only [placeS, Str.append_assoc]
  rw [hm] at S4
  obtain ⟨_, hu, hS⟩ := leave Lb (news' := (e, excObj 52 t) :: (t, tupObj _) :: (64, tabObj ps2) :: news) S4 hu3
  exact hret _ e t g2 _ _ ps2 _ _ rfl (by walk_at "sub") hu T2 hS
end
end Mine

end
section
open PySem PySem.W PySem.W.X PyProof.Rows PySem.Calls PySem.Spec
namespace Mine
noncomputable def hexCp (c : Nat) : Bool := (48 ≤ c && c ≤ 57) || (65 ≤ c && c ≤ 70) || (97 ≤ c && c ≤ 102)
theorem slot_issup : Slot "frozenset" "issuperset" "frozenset.issuperset" :=
  .of (owner := "frozenset") (n := "issuperset") (by rw [typeLookup_type, builtinLookup_eq_fast]; kernel_rfl) (by decide +kernel) (by decide +kernel) (by decide +kernel)
    (by first | exact .inl (by decide +kernel) | exact .inr (by decide +kernel)) (by rw [isSubtype_type]; kernel_rfl)
theorem entry_issup : entryFor table "frozenset.issuperset" = some Builtin.«frozenset.issuperset» := entryFor_of_tree (by kernel_rfl)
theorem entry_issup_loop : entryFor table "frozenset.issuperset.loop" = some Builtin.«frozenset.issuperset.loop» := entryFor_of_tree (by kernel_rfl)
theorem args_issup (a b : Value) : argsOk "frozenset.issuperset" ⟨[a, b], []⟩ := by unfold argsOk; kernel_rfl
section
variable {prog : Program} {w : World} {A : Around} {E : Value → Shared → Prop} {s : Shared} {Q : Value → Shared → Prop}
/-- the set of the hexadecimal figures -/
noncomputable def HexSet (prog : Program) (w : World) (h : Heap) : Prop := ∃ es ep t, h.get? 39 = some { cls := .type "frozenset", data := .set es ep t } ∧ ElemsOf (strKind prog w) es.toList ∧
  (∀ k : Str, (∃ e ∈ es.toList, (strKind prog w).is k e.2 = true) ↔ ∃ c, k = ⟨#[c]⟩ ∧ hexCp c = true) ∧ es.size < scanBound ∧ t.fits es.size = true
theorem HexSet.keeps {h h' : Heap} (x : HexSet prog w h) (k : Sub h h') : HexSet prog w h' := by
  obtain ⟨es, ep, t, e, r⟩ := x
  exact ⟨es, ep, t, k _ _ e, r⟩
theorem hex_contains {c : Nat} {t : Tok} {Q : Bool → Shared → Prop} (X : HexSet prog w s.heap) (h : Q (hexCp c) { s with toks := s.toks + 1 }) :
    wpAny (model prog w) A (setContains 39 (.str ⟨#[c]⟩ t)) Q E s := by
  obtain ⟨es, ep, tb, ho, hel, hmem, hb, hf⟩ := X
  have hkey := strKind_is prog w ⟨#[c]⟩ t
  unfold setContains
  refine wpAny_holding ?_
  refine wpAny_bind ((strKind prog w).pyHash hkey ?_)
  refine wpAny_bind ?_
  unfold setFind setFindIn
  refine wpAny_bind (wpAny_setState_of (s := { s with toks := s.toks + 1 }) ho rfl hf ?_)
  dsimp only
  rw [byScan_of (by rfl) hb hel]
  simp only [↓reduceIte]
  refine wpAny_bind (wpAny_rule ?_)
  refine wpAny_bind (wpAny_setScan_of (s := { s with toks := s.toks + 1 }) hkey ho rfl hf hel ?_)
  have hk := hmem ⟨#[c]⟩
  cases hr : List.findIdx? (fun e => (strKind prog w).is ⟨#[c]⟩ e.2) es.toList with
  | none =>
    dsimp only
    refine wpAny_pure (wpAny_pure ?_)
    have e : hexCp c = false := by
      cases q : hexCp c with
      | false => rfl
      | true =>
        obtain ⟨e, he, hpe⟩ := hk.mpr ⟨c, rfl, q⟩
        have := List.findIdx?_eq_none_iff.mp hr e he
        rw [hpe] at this; cases this
    rw [e] at h
    exact h
  | some j =>
    dsimp only
    refine wpAny_pure (wpAny_pure ?_)
    obtain ⟨hj, hpj, _⟩ := List.findIdx?_eq_some_iff_getElem.mp hr
    obtain ⟨c', h1, h2⟩ := hk.mp ⟨es.toList[j], List.getElem_mem hj, hpj⟩
    have e : c = c' := by injection h1 with h1; injection h1 with h1; injection h1
    rw [e, h2] at h
    exact h
end
section
variable {g h h' : Heap} {L I : Addr} {m : Str → Option Value} {news : List (Addr × Obj)}
/-- nothing that the state speaks of lies at I -/
structure Free (g : Heap) (L : Addr) (news : List (Addr × Obj)) (I : Addr) : Prop where
  nL : I ≠ L
  nn : ∀ p ∈ news, p.1 ≠ I
  ng : g.get? I = none
theorem St.free (S : St g L news h m) (hI : h.get? I = none) : Free g L news I := by
  obtain ⟨oL, _, _, hL, _⟩ := S.ns
  refine ⟨(fun z => by rw [z, hL] at hI; cases hI), (fun p hp z => by rw [← z, S.nw p hp] at hI; cases hI), ?_⟩
  cases q : g.get? I with
  | none => rfl
  | some o => rw [S.keep _ _ q] at hI; cases hI
theorem St.at_size (S : St g L news h m) : Free g L news h.objs.size := S.free (by
  cases q : h.get? h.objs.size with
  | none => rfl
  | some o => exact absurd (Heap.lt_size q) (Nat.lt_irrefl _))
theorem St.extBut (S : St g L news h m) (F : Free g L news I) (hx : ∀ b o, b ≠ I → h.get? b = some o → h'.get? b = some o) : St g L news h' m := by
  obtain ⟨oL, es, ep, hL, r⟩ := S.ns
  exact ⟨⟨oL, es, ep, hx _ _ (Ne.symm F.nL) hL, r⟩, fun b o e => hx b o (fun z => by rw [z, F.ng] at e; cases e) (S.keep b o e), S.off, fun p hp => hx _ _ (F.nn p hp) (S.nw p hp), S.nL, S.ng, S.nd⟩
end
section
variable {prog : Program} {w : World} {A : Around} {E : Value → Shared → Prop} {s : Shared} {Q : Value → Shared → Prop} {g : Heap} {L : Addr} {m : Str → Option Value} {news : List (Addr × Obj)}
theorem hex_loop {x : Str} {I : Addr} {W : Nat → Heap → Prop} (X : HexSet prog w g) (F : Free g L news I) (hA : A.handled = none)
    (Wk : ∀ A' : Around, A'.handled = none → Walks prog w A' I [I] [I] x.cps.size (SignAt x) W) {R : Result → Shared → Prop} :
    ∀ (n i : Nat) (s : Shared), x.cps.size - i = n → i ≤ x.cps.size → St g L news s.heap m → W i s.heap →
    (∀ h' tk', St g L news h' m → R (.ok (.ret (.bool ((x.cps.toList.drop i).all hexCp)))) { s with heap := h', toks := tk' }) →
    codeAny (model prog w) A (.builtin "frozenset.issuperset.loop" ⟨[.ref 39, .ref I], []⟩) R s := by
  intro n
  induction n with
  | zero =>
    intro i s hn hi S hW hR
    have hi' : i = x.cps.size := sub_end hn hi
    subst hi'
    refine codeAny_builtin entry_issup_loop ?_
    rw [Around.under_plainId (by decide +kernel)]
    unfold Builtin.«frozenset.issuperset.loop»
    refine wpAny_bind ((Wk A.in1 hA).done s _ _ hW fun h' tk hk => ?_)
    refine wpAny_pure ?_
    have := hR h' tk (S.extBut F fun b o hb e => hk b o (by simpa using hb) e)
    rw [List.drop_eq_nil_of_le (by simp)] at this
    exact this
  | succ n ih =>
    intro i s hn hi S hW hR
    refine codeAny_builtin entry_issup_loop ?_
    rw [Around.under_plainId (by decide +kernel)]
    unfold Builtin.«frozenset.issuperset.loop»
    refine wpAny_bind ((Wk A.in1 hA).item i s _ _ (Nat.lt_of_sub_eq_succ hn) hW fun v h' tk hv hW' hk => ?_)
    obtain ⟨c, u, hc, rfl⟩ := hv
    have S' : St g L news h' m := S.extBut F fun b o hb e => hk b o (by simpa using hb) e
    refine wpAny_bind (wpAny_holding (hex_contains (s := { s with heap := h', toks := tk }) (X.keeps S'.keep) ?_))
    have hd : x.cps.toList.drop i = c :: x.cps.toList.drop (i + 1) := by
      have hlt : i < x.cps.toList.length := Nat.lt_of_sub_eq_succ hn
      rw [List.drop_eq_getElem_cons hlt]
      congr 1
      have := List.getElem?_eq_getElem hlt
      rw [Array.getElem?_toList, hc] at this
      exact (Option.some.inj this).symm
    rw [hd] at hR
    cases hq : hexCp c with
    | true =>
      simp only [if_true]
      refine wpAny_pure ⟨plainId_quiet (by decide +kernel) _, ?_⟩
      refine ih (i + 1) _ (sub_step hn) (Nat.lt_of_sub_eq_succ hn) S' hW' fun h₂ tk₂ S₂ => ?_
      have := hR h₂ tk₂ S₂
      rw [List.all_cons, hq, Bool.true_and] at this
      exact this
    | false =>
      simp only [Bool.false_eq_true, if_false]
      refine wpAny_pure ?_
      have := hR h' (tk + 1) S'
      rw [List.all_cons, hq, Bool.false_and] at this
      exact this
theorem issuper {x : Str} {t : Tok} (X : HexSet prog w g) (S : St g L news s.heap m) (hA : A.handled = none)
    (h : ∀ h' tk', St g L news h' m → Q (.bool (x.cps.toList.all hexCp)) { s with heap := h', toks := tk' }) : wpAny (model prog w) A (call (.builtin "frozenset.issuperset") [.ref 39, .str x t]) Q E s := by
  obtain ⟨es, ep, tb, ho, _⟩ := id X
  have hT : s.TypeIs (.ref 39) "frozenset" := ⟨_, S.keep _ _ ho, rfl⟩
  refine wpAny_call (codeAny_call_builtin slot_issup.plain entry_issup (slot_issup.check _ _ _ _ _ _ _ _ hT (args_issup _ _) ?_))
  have i1 : isInstance (.str x t) (.type "set") = pure false := by
    have e : isInstance (.str x t) (.type "set") = isSubtype (.type "str") (.type "set") := rfl
    rw [e, isSubtype_type]; kernel_rfl
  have i2 : isInstance (.str x t) (.type "frozenset") = pure false := by
    have e : isInstance (.str x t) (.type "frozenset") = isSubtype (.type "str") (.type "frozenset") := rfl
    rw [e, isSubtype_type]; kernel_rfl
  have e : Builtin.«frozenset.issuperset» ⟨[.ref 39, .str x t], []⟩ = (do
      if ← Builtin.Frozenset.isAnySet (.str x t) then return ← ret (.bool (← Builtin.Frozenset.subsetOf "frozenset.issuperset" (← Builtin.Frozenset.addrOf (.str x t)) 39))
      again (.builtin "frozenset.issuperset.loop" ⟨[.ref 39, ← pyIter (.str x t)], []⟩)) := rfl
  rw [e]
  unfold Builtin.Frozenset.isAnySet
  rw [i1, i2]
  show wpAny _ _ (do again (.builtin "frozenset.issuperset.loop" ⟨[.ref 39, ← pyIter (.str x t)], []⟩)) _ _ _
  refine wpAny_bind (wpAny_pyIter_str fun o W Wk hW => ?_)
  refine wpAny_pure ⟨plainId_quiet (by decide +kernel) _, ?_⟩
  refine hex_loop (x := x) X S.at_size hA Wk _ 0 _ rfl (Nat.zero_le _) (S.pushS o) hW fun h' tk' S' => ?_
  exact h h' tk' S'
end
end Mine

end
section
open PySem PySem.W PySem.W.X PyProof.Rows PySem.Calls PySem.Spec PySem.NumText
namespace Mine
noncomputable def hexDig (c : Nat) : Nat := if c ≤ 57 then c - 48 else if 97 ≤ c then c - 87 else c - 55
noncomputable def hexVal (l : List Nat) : Nat := l.foldl (fun a c => a * 16 + hexDig c) 0
theorem hexCp_iff (c : Nat) : hexCp c = true ↔ (48 ≤ c ∧ c ≤ 57) ∨ (65 ≤ c ∧ c ≤ 70) ∨ (97 ≤ c ∧ c ≤ 102) := by
  simp only [hexCp, Bool.or_eq_true, Bool.and_eq_true, decide_eq_true_eq, or_assoc]
theorem hex_lt {c : Nat} (h : hexCp c = true) : c < 128 := by
  rw [hexCp_iff] at h
  rcases h with h | h | h <;> exact Nat.lt_of_le_of_lt h.2 (by decide)
theorem hex_tab : ∀ c, c < 128 → hexCp c = true → blank c = false ∧ digit? c = some (hexDig c) ∧ hexDig c < 16 ∧ (c == 95) = false ∧ c ≠ 0 := by decide +kernel
theorem hex_blank {c : Nat} (h : hexCp c = true) : blank c = false := (hex_tab c (hex_lt h) h).1
theorem hex_digit {c : Nat} (h : hexCp c = true) : digit? c = some (hexDig c) ∧ hexDig c < 16 := have x := hex_tab c (hex_lt h) h; ⟨x.2.1, x.2.2.1⟩
theorem dropWhile_hex {l : List Nat} (h : l.all hexCp = true) : l.dropWhile blank = l := by
  cases l with
  | nil => rfl
  | cons c l =>
    rw [List.all_cons, Bool.and_eq_true] at h
    simp only [List.dropWhile, hex_blank h.1]
theorem sign_hex {l : List Nat} (h : l.all hexCp = true) : sign l = (false, l) := by
  unfold sign
  split
  · simp [hexCp] at h
  · simp [hexCp] at h
  · rfl
theorem based_hex {l : List Nat} (h : l.all hexCp = true) : based 16 l = (16, false, l) := by
  unfold based
  split
  · rename_i p hp
    have hne : ((16 : Nat) == 0 || (16 : Nat) == p) = false := by
      unfold prefix? at hp
      split at hp
      · rename_i c r
        simp only [List.all_cons, Bool.and_eq_true] at h
        have hc := (hexCp_iff c).mp h.2.1
        split at hp
        · rename_i q; simp only [Bool.or_eq_true, beq_iff_eq] at q; exact (no_x hc q).elim
        · split at hp
          · cases hp; rfl
          · split at hp
            · cases hp; rfl
            · cases hp
      · cases hp
    rw [hne]; rfl
  · rfl
theorem digits_fold : ∀ (l : List Nat) (ds : Array Nat) (b : Bool), l.all hexCp = true → l.foldlM (NumText.step 16) (ds, b) = some (ds ++ (l.map hexDig).toArray, if l.isEmpty then b else true)
  | [], ds, b, _ => by simp
  | c :: l, ds, b, h => by
    rw [List.all_cons, Bool.and_eq_true] at h
    obtain ⟨h1, h2⟩ := hex_digit h.1
    have hc : (c == 95) = false := (hex_tab c (hex_lt h.1) h.1).2.2.2.1
    have e : NumText.step 16 (ds, b) c = some (ds.push (hexDig c), true) := by
      unfold NumText.step
      rw [hc, h1]
      simp [h2]
    rw [List.foldlM_cons, e]
    show l.foldlM (NumText.step 16) (ds.push (hexDig c), true) = _
    rw [digits_fold l _ true h.2]
    simp
theorem readNumeral_hex {l : List Nat} (h : l.all hexCp = true) (hn : l ≠ []) : (int_private% "readNumeral") 0 16 l = (int_private% "Numeral.value") (hexVal l : Nat) := by
  rw [readNumeral_eq, dropWhile_hex h, sign_hex h]
  dsimp only
  rw [based_hex h]
  dsimp only
  have hr : l.reverse.all hexCp = true := by rw [List.all_reverse]; exact h
  rw [dropWhile_hex hr, List.reverse_reverse]
  have hd : digits? 16 l = some (l.map hexDig).toArray := by
    unfold digits?
    rw [digits_fold l #[] false h]
    cases l with
    | nil => exact absurd rfl hn
    | cons c l => simp
  rw [hd]
  unfold judge
  have hv : (l.map hexDig).toArray.foldl (fun acc d => acc * 16 + d) 0 = hexVal l := by
    rw [List.foldl_toArray, List.foldl_map]; rfl
  simp only [hv]
  rfl
set_option maxHeartbeats 4000000 in
theorem wp_text16 {M : Model} {A : Around} {E : Value → Shared → Prop} {s : Shared} {Q : Value → Shared → Prop} {v : Value} {text : List Nat} {n : Int}
    (hs : (text.takeWhile (· != 0)).length ≤ 640) (hr : (int_private% "readNumeral") 0 16 (text.takeWhile (· != 0)) = (int_private% "Numeral.value") n)
    (ha : ((text.takeWhile (· != 0)).length == text.length) = true) (h : Q (.int n s.toks) { s with toks := s.toks + 1 }) :
    wpAny M A ((int_private% "intFromText") v text 16) Q E s := by
  obtain ⟨hp, g, d, tk, os⟩ := s
  repeat (any_goals (first
    | assumption
    | (with_reducible refine wpAny_ite_true (decide_eq_true hs) ?_)
    | (with_reducible refine wpAny_ite_true (decide_eq_true ha) ?_)
    | wp_step))
  all_goals (try rw [hr])
  all_goals (try dsimp only)
  repeat (any_goals (first
    | assumption
    | (with_reducible refine wpAny_ite_true (decide_eq_true hs) ?_)
    | (with_reducible refine wpAny_ite_true (decide_eq_true ha) ?_)
    | wp_step))
theorem takeWhile_hex {l : List Nat} (h : l.all hexCp = true) : l.takeWhile (· != 0) = l := takeWhile_all l fun x hx => by
  have := List.all_eq_true.mp h x hx
  exact bne_iff_ne.mpr (hex_tab x (hex_lt this) this).2.2.2.2
theorem ascii_hex {x : Str} (h : x.cps.toList.all hexCp = true) : x.cps.all (· < 128) = true := by
  rw [← Array.all_toList]
  refine List.all_eq_true.mpr fun c hc => ?_
  exact decide_eq_true (hex_lt (List.all_eq_true.mp h c hc))
set_option maxHeartbeats 4000000 in
theorem gives_text16 {x : Str} {u u2 : Tok} (hl : x.length ≤ 640) (hx : x.cps.toList.all hexCp = true) (hn : x.cps.toList ≠ []) : Gives (Builtin.«int.__new__» ⟨[.type "int", .str x u, .int 16 u2], []⟩) (.int (hexVal x.cps.toList : Nat)) :=
  .of_wp fun M A E s Q h => by
    obtain ⟨hp, g, d, tk, os⟩ := s
    have f1 := F.conv_sub_int
    have f2 := F.madeHere_int
    have f6 : typeOf (.str x u) = pure (.type "str") := rfl
    have hA := ascii_hex hx
    have hk : KIN.Hid (x.cps.toList.all hexCp = true ∧ x.cps.toList ≠ [] ∧ x.length ≤ 640) := ⟨hx, hn, hl⟩
    clear hx hn hl
    repeat (any_goals (first
      | assumption
      | ((with_reducible show wpAny _ _ ((int_private% "intFromText") _ _ _) _ _ _); rw [if_pos hA]; refine wp_text16 (n := (hexVal x.cps.toList : Nat)) ?_ ?_ ?_ ?_)
      | wp_step))
    · rw [takeWhile_hex hk.out.1]; exact hk.out.2.2
    · rw [takeWhile_hex hk.out.1]; exact readNumeral_hex hk.out.1 hk.out.2.1
    · rw [takeWhile_hex hk.out.1]; exact beq_self_eq_true _
    all_goals first | exact ⟨_, rfl, h⟩ | exact h
theorem typeCall_int_2 (a b : Value) : checkTypeCall "int" ⟨[a, b], []⟩ = pure () := by kernel_rfl
theorem newCall_int_2 (a b : Value) : checkBuiltinCall "int.__new__" ⟨[.type "int", a, b], []⟩ = pure () := by kernel_rfl
theorem args_object_init_3 (a b c : Value) : argsOk "object.__init__" ⟨[a, b, c], []⟩ := by unfold argsOk; kernel_rfl
theorem call_int16 {prog : Program} {w : World} {A : Around} {E : Value → Shared → Prop} {s : Shared} {Q : Value → Shared → Prop} {x : Str} {t u : Tok} (hl : x.length ≤ 640) (hx : x.cps.toList.all hexCp = true) (hn : x.cps.toList ≠ [])
    (h : Q (.int (hexVal x.cps.toList : Nat) s.toks) { s with toks := s.toks + 1 }) : wpAny (model prog w) A (call (.type "int") [.str x t, .int 16 u]) Q E s :=
  callType_new F.called_int F.newNe_int (typeCall_int_2 _ _) (newCall_int_2 _ _) (fun obj => args_object_init_3 obj _ _) F.entry_int_new (gives_text16 hl hx hn).meets (show (Made.int _).post _ s from ⟨rfl, h⟩)
end Mine

end
section
open PySem PySem.W PySem.W.X PyProof.Rows PySem.Calls PySem.Spec
namespace Mine
/-- an exception in flight: B is kept, the frames are in the stack -/
noncomputable def Fly (A : Around) (B : Heap) (e : Addr) (cls : Value) (t : Addr) (vs : List Value) (h : Heap) : Prop :=
  ∃ l, A.frames = some l ∧ Heap.FlyingW B l e cls (.ref t) h ∧ h.TupAt t vs ∧ B.get? t = none

section
variable {g h h' B : Heap} {L : Addr} {m : Str → Option Value} {news frs : List (Addr × Obj)}
theorem flew_frs (frs : List (Addr × Obj)) (hw : ∀ p ∈ frs, h.get? p.1 = some p.2) (hb : ∀ p ∈ frs, ∃ m, Bears p.2 m) (x : h.UpToSlots h') :
    ∃ frs', Up frs frs' ∧ ∀ p ∈ frs', h'.get? p.1 = some p.2 := by
  induction frs with
  | nil => exact ⟨[], .nil, fun p hp => by cases hp⟩
  | cons q R ih =>
    obtain ⟨R', h1, h2⟩ := ih (fun p hp => hw p (.tail _ hp)) (fun p hp => hb p (.tail _ hp))
    obtain ⟨m, es, ep, hd, _⟩ := hb q (.head _)
    obtain ⟨sl, hs⟩ := x q.1 q.2 (hw q (.head _)) fun vs z => by rw [hd] at z; cases z
    refine ⟨(q.1, { q.2 with slots := sl }) :: R', .cons ⟨sl, rfl⟩ h1, fun p hp => ?_⟩
    rcases List.mem_cons.mp hp with rfl | hp
    · exact hs
    · exact h2 p hp
/-- the state behind a flight -/
theorem St.flew (S : St g L (news ++ frs) h m) (hb : ∀ p ∈ frs, ∃ m, Bears p.2 m) (kg : Sub g B) (kn : ∀ p ∈ news, B.get? p.1 = some p.2) (kB : Sub B h') (x : h.UpToSlots h') :
    Leave g L frs news h' m := by
  obtain ⟨frs', hu, hw⟩ := flew_frs frs (fun p hp => S.nw p (List.mem_append_right _ hp)) hb x
  have hkeys : (news ++ frs').map (·.1) = (news ++ frs).map (·.1) := by rw [List.map_append, List.map_append, hu.keys]
  have mem : ∀ p ∈ news ++ frs', ∃ q ∈ news ++ frs, q.1 = p.1 := fun p hp => by
    have := List.mem_map_of_mem (f := (·.1)) hp
    rw [hkeys] at this
    exact List.mem_map.mp this
  refine ⟨frs', hu, x.ns S.ns, kg.trans kB, S.off, fun p hp => ?_, fun p hp => ?_, fun p hp => ?_, hkeys ▸ S.nd⟩
  · rcases List.mem_append.mp hp with q | q
    · exact kB _ _ (kn p q)
    · exact hw p q
  · obtain ⟨q, hq, e⟩ := mem p hp; exact e ▸ S.nL q hq
  · obtain ⟨q, hq, e⟩ := mem p hp; exact e ▸ S.ng q hq
theorem frs_funFrames : ∀ {outer : List Env}, FrsIn outer L frs → (∃ o m, h.get? L = some o ∧ Bears o m) → B.get? L = none → (∀ p ∈ frs, h.get? p.1 = some p.2) → (∀ p ∈ frs, B.get? p.1 = none) → h.FunFrames B outer
  | [], _, _, _, _, _ => trivial
  | env :: outer, x, hL, bL, hw, hn => by
    obtain ⟨hk, f, hf, hh⟩ := x env (.head _)
    refine ⟨by rw [hk]; decide, ?_, frs_funFrames (fun e he => x e (.tail _ he)) hL bL hw hn⟩
    rcases hh with rfl | ⟨o, m, hm, es, ep, hd, _⟩
    · obtain ⟨o, m, ho, es, ep, hd, _⟩ := hL
      exact ⟨f, o, hf, bL, ho, fun vs q => by rw [hd] at q; cases q⟩
    · exact ⟨f, o, hf, hn _ hm, hw _ hm, fun vs q => by rw [hd] at q; cases q⟩
end

section
variable {M : Model} {A : Around} {env' : Env} {E : Value → Shared → Prop} {Q : Unit → Shared → Prop} {s : Shared} {g : Heap} {L L' e t C : Addr} {m m' : Str → Option Value} {news frs frs' : List (Addr × Obj)} {vs : List Value} {oL : Obj} {k k' : Nat}
/-- a def is left by a made exception -/
theorem leave_exc (hb : Bears oL m) (Z : Ar A L frs k) (Z' : Ar (A.deeper env') L' ((L, oL) :: frs) k') (u : Up ((L, oL) :: frs) frs') (hf : env'.frame = some L')
    (S : St g L' ((e, excObj C t) :: (t, tupObj vs) :: (news ++ frs')) s.heap m')
    (h : ∀ h' t' frs₁ B, Up frs frs₁ → St g L (news ++ frs₁) h' m → Fly A B e (.ref C) t' vs h' → Sub g B → (∀ p ∈ news, B.get? p.1 = some p.2) → Q () { s with heap := h' }) :
    wpAny M (A.deeper env') (leaving env' (.ref e)) Q E s := by
  obtain ⟨outer, hfr, hin⟩ := Z.frames
  have nd := S.nd
  rw [List.map_cons, List.map_cons] at nd
  obtain ⟨nd1, nd2⟩ := List.nodup_cons.mp nd
  obtain ⟨nd2, nd3⟩ := List.nodup_cons.mp nd2
  have net : e ≠ t := fun q => nd1 (by rw [← q]; exact .head _)
  have S0 : St g L' (news ++ frs') s.heap m' := S.drop.drop
  have oute : ∀ p ∈ news ++ frs', p.1 ≠ e := fun p hp q => nd1 (.tail _ (by rw [← q]; exact List.mem_map_of_mem (f := (·.1)) hp))
  have outt : ∀ p ∈ news ++ frs', p.1 ≠ t := fun p hp q => nd2 (by rw [← q]; exact List.mem_map_of_mem (f := (·.1)) hp)
  have hfr' : (A.deeper env').frames = some (env' :: outer) := Around.frames_deeper hfr
  -- the heap ahead of the exception, and the kept part
  let h₁ := hideAll s.heap [e, t]
  let B := hideAll h₁ (L' :: frs'.map (·.1))
  have eL : e ≠ L' := S.nL _ (.head _)
  have tL : t ≠ L' := S.nL _ (.tail _ (.head _))
  have eg : g.get? e = none := S.ng _ (.head _)
  have tg : g.get? t = none := S.ng _ (.tail _ (.head _))
  have h1of : ∀ b o, s.heap.get? b = some o → b ≠ e → b ≠ t → h₁.get? b = some o := fun b o q n1 n2 => hideAll_get _ q fun hm => by
    rcases List.mem_cons.mp hm with z | hm
    · exact n1 z
    · exact n2 (List.mem_singleton.mp hm)
  have hw1 : ∀ p ∈ frs', h₁.get? p.1 = some p.2 := fun p hp => h1of _ _ (S0.nw p (List.mem_append_right _ hp)) (oute p (List.mem_append_right _ hp)) (outt p (List.mem_append_right _ hp))
  have hns : h₁.Ns L' m' := by
    obtain ⟨o, es, ep, hL, r⟩ := S.ns
    exact ⟨o, es, ep, h1of _ _ hL (Ne.symm eL) (Ne.symm tL), r⟩
  have hF : h₁.FunFrames B (env' :: outer) := by
    obtain ⟨l, hl1, hl2⟩ := (Z'.up u).frames
    rw [hfr'] at hl1
    cases hl1
    refine frs_funFrames hl2 ?_ (hideAll_none _ (.head _)) hw1 fun p hp => hideAll_none _ (.tail _ (List.mem_map_of_mem hp))
    obtain ⟨o, es, ep, hL, r⟩ := hns
    exact ⟨o, m', hL, es, ep, r⟩
  have hx : Heap.MadeExcOf h₁ s.heap e (.ref C) vs := ⟨fun b o q => of_hideAll _ q, hideAll_none _ (.head _), t, S.nw _ (.head _), hideAll_none _ (.tail _ (.head _)), S.nw _ (.tail _ (.head _))⟩
  have kg : Sub g B := fun b o q => by
    refine hideAll_get _ (h1of _ _ (S0.keep _ _ q) (fun z => by rw [z, eg] at q; cases q) (fun z => by rw [z, tg] at q; cases q)) fun hm => ?_
    rcases List.mem_cons.mp hm with rfl | hm
    · rw [S.off] at q; cases q
    · obtain ⟨p, hp, rfl⟩ := List.mem_map.mp hm
      rw [S0.ng p (List.mem_append_right _ hp)] at q; cases q
  have nd4 : (news.map (·.1) ++ frs'.map (·.1)).Nodup := by rw [← List.map_append]; exact nd3
  have kn : ∀ p ∈ news, B.get? p.1 = some p.2 := fun p hp => by
    refine hideAll_get _ (h1of _ _ (S0.nw p (List.mem_append_left _ hp)) (oute p (List.mem_append_left _ hp)) (outt p (List.mem_append_left _ hp))) fun hm => ?_
    rcases List.mem_cons.mp hm with z | hm
    · exact S0.nL p (List.mem_append_left _ hp) z
    · exact (List.nodup_append.mp nd4).2.2 _ (List.mem_map_of_mem hp) _ hm rfl
  refine wpAny_leaves_madeW hfr' hf (fun b o q => of_hideAll _ q) hF hx fun h' t' x1 x2 x3 x4 => ?_
  obtain ⟨frs₂, hu₂, S2⟩ := S0.flew (fun p hp => (Z'.up u).bear p hp) kg kn x1.1 x4
  obtain ⟨frs₃, hu₃, S3⟩ := leave hb S2 (u.trans hu₂)
  exact h h' t' frs₃ B hu₃ S3 ⟨_, hfr, x1, x2, x3⟩ kg kn
end
end Mine

end
section
set_option maxHeartbeats 4000000
open PySem PySem.W PySem.W.X PyProof.Rows PySem.Calls PySem.Spec PySem.Builtin PySem.Builtin.Str
namespace Mine
theorem plainAttrs_frozenset : PlainAttrs "frozenset" := 
  ⟨⟨"object.__getattribute__", by rw [typeLookup_type, builtinLookup_eq_fast]; kernel_rfl, by decide +kernel⟩, by rw [typeLookup_type, builtinLookup_eq_fast]; kernel_rfl⟩
theorem type_issup : typeOf (.builtin "frozenset.issuperset") = pure (.type "method_descriptor") := by show builtinType _ = _; rw [builtinType_eq_fast]; kernel_rfl
section
variable {prog : Program} {w : World} {A : Around} {env : Env} {E : Value → Shared → Prop} {s : Shared} {g g₀ : Heap} {L : Addr} {m : Str → Option Value} {news frs : List (Addr × Obj)}
theorem gm_issup {pl : Sem Bool} {Q : Value × List Value → Shared → Prop} (S : St g L news s.heap m) (X : HexSet prog w g₀) (k : Sub g₀ g) (h : Q (.builtin "frozenset.issuperset", [.ref 39]) s) :
    wpAny (model prog w) A (getMethod (.ref 39) "issuperset" pl) Q E s := by
  obtain ⟨es, ep, tb, ho, _⟩ := X
  have ho' := S.keep _ _ (k _ _ ho)
  exact getMethod_builtin ⟨_, ho', rfl⟩ plainAttrs_frozenset slot_issup type_issup (fun b e => by cases e; exact ⟨_, ho', rfl⟩) h
/-- raise of an exception that a call makes -/
theorem raise_S {x : Expr} {pos : Pos} {Q : Flow → Shared → Prop} {mg mb : Str → Option Value} (C : Addr)
    (B : Bs w mg mb g₀) (hC : ktsIn (Kf w.params) C "BaseException" = true) (hh : A.handled = none)
    (h : wpAny (model prog w) A (eval x env) (fun v s₁ => ∃ e t g L news m, v = .ref e ∧ Sub g₀ g ∧ St g L ((e, excObj C t) :: news) s₁.heap m ∧ E (.ref e) s₁) E s) :
    wpAny (model prog w) A (exec (.Raise (some x) none pos) env) Q E s := by
  obtain ⟨nm, q, N, bs, bm, hdct, sn, sub, ab, col, dd, k0, k1, k2, k3, k5, newId, hC, hbase, _⟩ := kts_cls B.X hC
  rw [arm_exec_Raise]
  refine wpAny_bind (wpAny_standAt ?_)
  show wpAny _ _ (raiseStmt env (some (do let v ← eval x env; standAt pos; pure v)) none) _ _ _
  refine wpAny_raiseStmt_made_sub (C := C) (nm := nm) (q := q) (N := N) (bs := bs) (bm := bm) (hdct := hdct) (sn := sn) (sub := sub) (ab := ab) (col := col) (dd := dd) (k0 := k0) (k1 := k1) (k2 := k2) (k3 := k3) (k5 := k5) (newId := newId) hbase hh (wpAny_bind (wpAny_mono h (fun v s₁ h₁ => ?_) fun _ _ x => x))
  obtain ⟨e, t, g, L, news, m, rfl, k, S, hE⟩ := h₁
  exact wpAny_bind (wpAny_standAt (wpAny_pure ⟨e, t, rfl, S.keep _ _ (k _ _ hC), S.nw _ (.head _), hE⟩))
theorem ld_L {M : Model} {a : Addr} {cn x : Str} {cs : Scope} {ccd v : Value} {cl : List (Str × Addr)} {Q : Value → Shared → Prop} (S : St g L news s.heap m) (hv : m x = some v) (h : Q v s)
    (hk : cs.kind = .function) (hx : (envX cn cs L a ccd cl).kindOf x = some .local) : wpAny M A (loadName (envX cn cs L a ccd cl) x) Q E s := wpAny_loadName_local hk hx S.ns hv h
theorem newTuple_S {vs : List Value} {Q : Value → Shared → Prop} (S : St g L news s.heap m) (hsz : vs.length ≤ sizeLine) (h : ∀ g' a h', Sub g g' → g'.get? a = some (tupObj vs) → St g' L news h' m → Q (.ref a) { s with heap := h' }) :
    wpAny (model prog w) A (newTuple vs) Q E s := by
  refine wpAny_newTuple ?_ hsz
  obtain ⟨g', k, S', e⟩ := S.push0 (tupObj vs) rfl
  exact h g' _ _ k e S'
end
end Mine
end
local macro_rules | `(tactic| walk_at "getMethod ref") => return sw (ap ``getMethod [ap ``Value.ref [Lean.Syntax.mkNumLit "39"], pt '_', pt '_']) (rf ``gm_issup "AAS?")
local macro_rules | `(tactic| walk_at "loadName") => do let k ← Lean.MonadQuotation.getCurrMacroScope; return qs k ``ld_L "Fv_ab" "FAaRbRvv" ""
local macro_rules | `(tactic| walk_at "newTuple") => return rs ``newTuple_S "AZ?" "iiiiii"
section
set_option maxHeartbeats 4000000
open PySem PySem.W PySem.W.X PyProof.Rows PySem.Calls PySem.Spec PySem.Builtin PySem.Builtin.Str
namespace Mine
section
variable {w : World} {mg mb : PySem.Str → Option Value} {A : Around} {g : Heap} {L : Addr} {m : PySem.Str → Option Value} {news frs : List (Addr × Obj)} {s : Shared} {tk t2 t3 : Tok}
    {Q E : Value → Shared → Prop}
/-- the window -/
noncomputable def winL (x : Str) (k n : Nat) : List Nat := (x.cps.toList.drop k).take n
noncomputable def winOk (x : Str) (k n : Nat) : Bool := (winL x k n).length == n && (winL x k n).all hexCp
/-- what parse_hex_char answers: the words of its refusal, or the number -/
noncomputable def toldS (x : Str) (k n : Nat) : Str ⊕ Nat :=
  if winOk x k n then (if scalarB (hexVal (winL x k n) : Nat) then .inr (hexVal (winL x k n)) else .inl (Str.ofString "Escaped character is not a Unicode scalar value" ++ placeS x (k + n)))
  else .inl (Str.ofString "Invalid hex value" ++ placeS x k)
theorem win_slice (x : Str) (k n : Nat) : (Txt.slice x (some (k : Int)) (some ((k : Int) + n))).cps.toList = winL x k n := by
  have := slice_sub x (a := k) (b := k + n) (Nat.le_add_right _ _)
  rw [Int.natCast_add] at this
  rw [this, Nat.add_sub_cancel_left]; rfl
theorem win_len (x : Str) (k n : Nat) : (Txt.slice x (some (k : Int)) (some ((k : Int) + n))).length = (winL x k n).length := by
  rw [← win_slice]; simp [Str.length]
theorem c_hex {x : PySem.Str} {k n : Nat} {ps : Array Value} (hx : x.length ≤ 4096) (hk : k ≤ 4096) (hn : n ≤ 600) (hn0 : 0 < n) (HX : HexSet prg w g) (B : Bs w mg mb g) (S : Mine.St g L (((64, tabObj ps) :: news) ++ frs) s.heap m) (Z : Ar A L frs 4)
   (T : TabS g coordPos coordQual ps)
   (hret : ∀ v a c g' frs' h' ps' tx ty tk', v = .ref a → toldS x k n = .inr c → Sub g g' → Up frs frs' → TabS g' coordPos coordQual ps' → g'.get? a = some (tupObj [.int (k + n : Nat) tx, .str ⟨#[c]⟩ ty]) →
     Mine.St g' L (((64, tabObj ps') :: news) ++ frs') h' m → Q v { s with heap := h', toks := tk' })
   (hexc : ∀ v e t y g' frs' h' ps' tx tk' B', v = .ref e → toldS x k n = .inl y → Sub g g' → Up frs frs' → TabS g' coordPos coordQual ps' → Fly A B' e (.ref 52) t [.str y tx] h' → Sub g' B' → (∀ p ∈ (64, tabObj ps') :: news, B'.get? p.1 = some p.2) →
     Mine.St g' L (((64, tabObj ps') :: news) ++ frs') h' m → E v { s with heap := h', toks := tk' }) :
   wpAny (model prg w) A (call (.ref 62) [.str x t2, .int k tk, .int n t3]) Q E s := by
  have hl : (Txt.slice x (some (k : Int)) (some ((k : Int) + n))).length ≤ x.length := Txt.slice_le _ _ _
  have hwl := win_len x k n
  have hws := win_slice x k n
  walk_at "enter"; walk_at "go"
  · rename_i oL L1 h1 Lb S1 Z1 h2 t4 k4 S4 h3 S5 hne
    refine raise_S 52 B (by kernel_rfl) Z1.hand ?_
    walk_at "go"
    refine c_suff (news := news) (frs := (L, oL) :: frs) hx (by decide) B (by assumption) Z1 T ?_
    intro v e t g' frs' h' ps' tx tk' hv k' hu T' S'
    (try k_fold)
    subst hv
    refine ⟨e, t, g', L1, _, _, rfl, k', S', ?_⟩
    refine leave_exc (news := (64, tabObj ps') :: news) Lb Z Z1 hu rfl S' ?_
    intro h2 t2 frs2 B2 hu2 S2 F2 kg kn
    (try k_fold)
    refine hexc _ e t2 _ g' frs2 h2 ps' tx _ B2 rfl ?_ k' hu2 T' F2 kg kn S2
    unfold toldS
    rw [if_neg]
    unfold winOk
    rw [Bool.and_eq_true, beq_iff_eq]
    lia
  rename_i oL L1 h1 Lb S1 Z1 h2 t4 k4 S4 h3 S5 hne
  refine issuper HX (by assumption) Z1.hand ?_
  intro h' tk' S'
  (try k_fold)
  rw [hws]
  walk_at "go"
  · have hxx : (Txt.slice x (some (k : Int)) (some ((k : Int) + n))).cps.toList.all hexCp = true := by rw [hws]; assumption
    have hxl : (Txt.slice x (some (k : Int)) (some ((k : Int) + n))).cps.toList.length = n := by rw [hws]; lia
    refine call_int16 (by lia) hxx (fun q => by rw [q] at hxl; simp at hxl; lia) ?_
    walk_at "go"
    refine c_scalar (news := (64, tabObj ps) :: news) (frs := (L, oL) :: frs) B (by assumption) (Z1.le (by decide)) ?_
    intro v frs1 h5 tk5 hv hu5 S6
    (try k_fold)
    subst hv
    rw [hws] at *
    have hwn : (winL x k n).length = n := by lia
    have hok : winOk x k n = true := by
      unfold winOk
      rw [hwn, beq_self_eq_true, Bool.true_and]; assumption
    cases hsc : scalarB (hexVal (winL x k n) : Nat) with
    | true =>
      have hsr : (hexVal (winL x k n) : Int) ≤ 1114111 := by
        unfold scalarB at hsc
        simp only [decide_eq_true_eq] at hsc; exact scal_le hsc
      walk_at "go"
      rename_i g2 a2 h6 k6 e6 S7
      obtain ⟨_, hu, hS⟩ := leave (by assumption) S7 hu5
      refine hret _ a2 (hexVal (winL x k n)) g2 _ _ ps _ _ _ rfl ?_ k6 hu (T.keeps k6) (by rw [e6, Int.natCast_add]; rfl) hS
      unfold toldS; rw [if_pos hok, if_pos hsc]
    | false =>
      walk_at "go"
      refine raise_S 52 B (by kernel_rfl) Z1.hand ?_
      walk_at "go"
      rw [← Int.natCast_add]
      refine c_suff (k := k + n) (news := news) (frs := frs1) hx (by decide) B (by assumption) (Z1.up hu5) T ?_
      intro v e t g' frs' h' ps' tx tk' hv k' hu T' S'
      (try k_fold)
      subst hv
      refine ⟨e, t, g', L1, _, _, rfl, k', S', ?_⟩
      refine leave_exc (news := (64, tabObj ps') :: news) Lb Z Z1 (hu5.trans hu) rfl S' ?_
      intro h2 t2 frs2 B2 hu2 S2 F2 kg kn
      (try k_fold)
      refine hexc _ e t2 _ g' frs2 h2 ps' tx _ B2 rfl ?_ k' hu2 T' F2 kg kn S2
      unfold toldS
      rw [if_pos hok, if_neg (by rw [hsc]; decide)]
  · rename_i hbad
    refine raise_S 52 B (by kernel_rfl) Z1.hand ?_
    walk_at "go"
    refine c_suff (news := news) (frs := (L, oL) :: frs) hx (by decide) B (by assumption) Z1 T ?_
    intro v e t g' frs' h' ps' tx tk' hv k' hu T' S'
    (try k_fold)
    subst hv
    refine ⟨e, t, g', L1, _, _, rfl, k', S', ?_⟩
    refine leave_exc (news := (64, tabObj ps') :: news) Lb Z Z1 hu rfl S' ?_
    intro h2 t2 frs2 B2 hu2 S2 F2 kg kn
    (try k_fold)
    refine hexc _ e t2 _ g' frs2 h2 ps' tx _ B2 rfl ?_ k' hu2 T' F2 kg kn S2
    unfold toldS
    rw [if_neg]
    unfold winOk
    rw [Bool.and_eq_true, beq_iff_eq]
    intro q
    (try k_fold)
    rw [q.2] at hbad
    exact absurd hbad (by decide)
end
end Mine

end
section
open PySem PySem.W PySem.W.X PyProof.Rows PySem.Calls PySem.Spec
namespace Mine
section
variable {g h : Heap} {L : Addr} {m : Str → Option Value} {news : List (Addr × Obj)}
theorem St.held {e : Addr} {oe : Obj} (S : St g L news h m) (he : h.get? e = some oe) (hg : g.get? e = none) (hL : e ≠ L) (hn : ∀ p ∈ news, p.1 ≠ e) : St g L ((e, oe) :: news) h m := by
  refine ⟨S.ns, S.keep, S.off, fun p hp => ?_, fun p hp => ?_, fun p hp => ?_, ?_⟩
  · rcases List.mem_cons.mp hp with rfl | hp
    · exact he
    · exact S.nw p hp
  · rcases List.mem_cons.mp hp with rfl | hp
    · exact hL
    · exact S.nL p hp
  · rcases List.mem_cons.mp hp with rfl | hp
    · exact hg
    · exact S.ng p hp
  · rw [List.map_cons]
    refine List.nodup_cons.mpr ⟨fun hm => ?_, S.nd⟩
    refine hold fun R20 hR20 => ?_
    obtain ⟨p, hp, q⟩ := List.mem_map.mp hm
    refine hR20 ?_
    exact hn p hp q
end
section
variable {prog : Program} {w : World} {A : Around} {E : Value → Shared → Prop} {s' : Shared} {g g₀ B : Heap} {L a e t C : Addr} {m mg mb : Str → Option Value} {cn : Str} {cs : Scope} {ccd : Value} {cl : List (Str × Addr)}
  {vs : List Value} {n x : Str} {b₀ : Stmt} {suite : List Stmt} {pos np : Pos} {rest : List ExceptHandler} {Q : Flow → Shared → Prop} {news frs : List (Addr × Obj)} {k : Nat}
/-- the exception lands in a handler that names its class: up to the suite -/
theorem catch_S (Bb : Bs w mg mb g₀) (k₀ : Sub g₀ g) (hfr : ∃ outer, A.frames = some (envX cn cs L a ccd cl :: outer)) (hk : cs.kind = .function) (Z : Ar A L frs k) (S : St g L (news ++ frs) s'.heap m) (F : Fly A B e (.ref C) t vs s'.heap) (kg : Sub g B) (kn : ∀ p ∈ news, B.get? p.1 = some p.2)
    (ex : nsIn (Kf w.params) mainGlobals x = some (some (.ref C))) (q : ktsIn (Kf w.params) C "BaseException" = true) {name : Option Str}
    (h : ∀ h' frs' oe ot ws nt, Up frs frs' → St g L ((e, oe) :: (t, ot) :: (news ++ frs')) h' m → oe.cls = .ref C → oe.data = .fields ws → ws[0]? = some (.ref t) → ot.cls = .type "tuple" → ot.data = .seq vs.toArray nt →
      (∀ R : Unit → Shared → Prop, (∀ frs'' h'' oe ot ws nt, Up frs frs'' → St g L ((e, oe) :: (t, ot) :: (news ++ frs'')) h'' m → oe.cls = .ref C → oe.data = .fields ws → ws[0]? = some (.ref t) → ot.cls = .type "tuple" → ot.data = .seq vs.toArray nt → R () { s' with heap := h'' }) →
        ∀ E', wpAny (model prog w) (A.mark (some (.ref e))) (setFlight (.ref e) none) R E' { s' with heap := h' }) →
      codeAny (model prog w) (A.mark (some (.ref e))) (.handlers (.ref e) [.ExceptHandler none name (b₀ :: suite) pos] (envX cn cs L a ccd cl)) (fun r s₂ => match r with
          | .ok f => (match name with
            | none => Q f s₂
            | some n => wpAny (model prog w) A (do bindName (envX cn cs L a ccd cl) n .none; unbindBehindTheSuite (envX cn cs L a ccd cl) n pos) (fun _ s₃ => Q f s₃) E s₂)
          | .error x => cameBackBy (model prog w) A (envX cn cs L a ccd cl) E x s₂) { s' with heap := h' })
    (hx : (envX cn cs L a ccd cl).kindOf x = some .globalImplicit := by rfl) (hd : (x == ("__debug__" : Str)) = false := by decide) :
    wpAny (model prog w) A (noteFrame (.ref e) (envX cn cs L a ccd cl))
      (fun _ s₂ => wpAny (model prog w) A (setFlight (.ref e) none) (fun _ s₃ =>
        wpAny (model prog w) A (handleBy (.ref e) (envX cn cs L a ccd cl) (.ExceptHandler (some (.Name x np)) name (b₀ :: suite) pos :: rest)) Q E s₃) E s₂) E s' := by
  obtain ⟨l, hl, hfl, htup, hnew⟩ := F
  obtain ⟨outer, hfr⟩ := hfr
  have hll : l = envX cn cs L a ccd cl :: outer := Option.some.inj (hl.symm.trans hfr)
  subst hll
  -- what is known of the exception and its tuple wherever it flies
  have look : ∀ h' frs', Up frs frs' → St g L (news ++ frs') h' m → Heap.FlyingW B (envX cn cs L a ccd cl :: outer) e (.ref C) (.ref t) h' → h'.TupAt t vs →
      ∃ oe ot ws nt, St g L ((e, oe) :: (t, ot) :: (news ++ frs')) h' m ∧ oe.cls = .ref C ∧ oe.data = .fields ws ∧ ws[0]? = some (.ref t) ∧ ot.cls = .type "tuple" ∧ ot.data = .seq vs.toArray nt := by
    intro h' frs' hu S' hfl' htup'
    obtain ⟨oe, ws, hoe, hoec, hoed, hoe0⟩ := hfl'.first
    obtain ⟨ot, nt, hot, hotc, hotd⟩ := htup'
    have notframe : ∀ p ∈ frs', ∃ es ep, p.2.data = .dict es ep := fun p hp => by
      obtain ⟨_, es, ep, hd, _⟩ := (Z.up hu).bear p hp
      exact ⟨es, ep, hd⟩
    obtain ⟨oL, es, ep, hL, hLd, _⟩ := S'.ns
    have gn : ∀ b, B.get? b = none → g.get? b = none := fun b hb => by
      cases z : g.get? b with
      | none => rfl
      | some o => rw [kg _ _ z] at hb; cases hb
    have St1 : St g L ((t, ot) :: (news ++ frs')) h' m := by
      refine S'.held hot (gn _ hnew) (fun z => ?_) fun p hp z => ?_
      · rw [z, hL] at hot; cases hot; rw [hLd] at hotd; cases hotd
      · rcases List.mem_append.mp hp with hp | hp
        · rw [← z, kn p hp] at hnew; cases hnew
        · obtain ⟨es, ep, hd⟩ := notframe p hp
          have := S'.nw p (List.mem_append_right _ hp)
          rw [z, hot] at this; cases this; rw [hd] at hotd; cases hotd
    refine ⟨oe, ot, ws, nt, St1.held hoe (gn _ hfl'.2.1) (fun z => ?_) fun p hp z => ?_, hoec, hoed, hoe0, hotc, hotd⟩
    · rw [z, hL] at hoe; cases hoe; rw [hLd] at hoed; cases hoed
    · rcases List.mem_cons.mp hp with rfl | hp
      · have z' : t = e := z
        rw [← z', hot] at hoe; cases hoe; rw [hotd] at hoed; cases hoed
      · rcases List.mem_append.mp hp with hp | hp
        · have := hfl'.2.1; rw [← z, kn p hp] at this; cases this
        · obtain ⟨es, ep, hd⟩ := notframe p hp
          have := S'.nw p (List.mem_append_right _ hp)
          rw [z, hoe] at this; cases this; rw [hd] at hoed; cases hoed
  refine wpAny_looks_onW hfr rfl hfl fun h₄ hheld₄ hsm₄ => ?_
  refine wpAny_landsW hheld₄ fun h₅ hheld hsm₅' => ?_
  refine hold fun R79 hR79 => ?_
  have hsm₅ := hsm₄.trans hsm₅'
  obtain ⟨frs₅, hu₅, S₅⟩ := S.flew Z.bear kg kn hheld.1 hsm₅
  obtain ⟨oe, ot, ws, nt, S₅', c1, c2, c3, c4, c5⟩ := look h₅ frs₅ hu₅ S₅ hheld (htup.of_slots hsm₅)
  obtain ⟨nm, q', N, bs, bm, hdct, sn, sub, ab, col, dd, k0, k1, k2, k3, k5, newId, hC, hbase, hbT⟩ := kts_cls Bb.X q
  have hC₅ := S₅.keep _ _ (k₀ _ _ hC)
  refine hR79 ?_
  refine wpAny_handleBy_cons (codeAny_handlers_test (nm_K (s := { s' with heap := h₅ }) S₅ Bb k₀ ex ?_ hk hx hd)) (by intro q; cases q)
  refine wpAny_excMatches_sub_self hC₅ (S₅'.nw _ (.head _)) c1 hbase ?_
  refine h h₅ frs₅ oe ot ws nt hu₅ S₅' c1 c2 c3 c4 c5 fun R hR E' => ?_
  refine lands_againW hheld fun h₆ hfl₆ hsm₆ => ?_
  refine hold fun R88 hR88 => ?_
  obtain ⟨frs₆, hu₆, S₆⟩ := S.flew Z.bear kg kn hfl₆.1 (hsm₅.trans hsm₆)
  obtain ⟨oe, ot, ws, nt, S₆', c1, c2, c3, c4, c5⟩ := look h₆ frs₆ hu₆ S₆ hfl₆ ((htup.of_slots hsm₅).of_slots hsm₆)
  refine hR88 ?_
  exact hR frs₆ h₆ oe ot ws nt hu₆ S₆' c1 c2 c3 c4 c5
theorem caught0_S (Bb : Bs w mg mb g₀) (k₀ : Sub g₀ g) (hfr : ∃ outer, A.frames = some (envX cn cs L a ccd cl :: outer)) (hk : cs.kind = .function) (Z : Ar A L frs k) (S : St g L (news ++ frs) s'.heap m) (F : Fly A B e (.ref C) t vs s'.heap) (kg : Sub g B) (kn : ∀ p ∈ news, B.get? p.1 = some p.2)
    (ex : nsIn (Kf w.params) mainGlobals x = some (some (.ref C))) (q : ktsIn (Kf w.params) C "BaseException" = true)
    (h : ∀ frs' h' oe ot ws nt, Up frs frs' → St g L ((e, oe) :: (t, ot) :: (news ++ frs')) h' m → oe.cls = .ref C → oe.data = .fields ws → ws[0]? = some (.ref t) → ot.cls = .type "tuple" → ot.data = .seq vs.toArray nt →
      wpAny (model prog w) (A.mark (some (.ref e))) (execs (b₀ :: suite) (envX cn cs L a ccd cl)) Q (fun _ _ => False) { s' with heap := h' })
    (hx : (envX cn cs L a ccd cl).kindOf x = some .globalImplicit := by rfl) (hd : (x == ("__debug__" : Str)) = false := by decide) :
    wpAny (model prog w) A (noteFrame (.ref e) (envX cn cs L a ccd cl))
      (fun _ s₂ => wpAny (model prog w) A (setFlight (.ref e) none) (fun _ s₃ =>
        wpAny (model prog w) A (handleBy (.ref e) (envX cn cs L a ccd cl) (.ExceptHandler (some (.Name x np)) none (b₀ :: suite) pos :: rest)) Q E s₃) E s₂) E s' := by
  refine catch_S Bb k₀ hfr hk Z S F kg kn ex q (fun h' frs' oe ot ws nt hu S' c1 c2 c3 c4 c5 again => ?_) hx hd
  refine codeAny_handlers_suite (again _ (fun frs'' h'' oe ot ws nt hu' S'' c1 c2 c3 c4 c5 => ?_) _)
  exact wpAny_mono (h frs'' h'' oe ot ws nt hu' S'' c1 c2 c3 c4 c5) (fun _ _ x => x) (fun _ _ x => x.elim)
theorem caughtB_S (Bb : Bs w mg mb g₀) (k₀ : Sub g₀ g) (hfr : ∃ outer, A.frames = some (envX cn cs L a ccd cl :: outer)) (hk : cs.kind = .function) (Z : Ar A L frs k) (S : St g L (news ++ frs) s'.heap m) (F : Fly A B e (.ref C) t vs s'.heap) (kg : Sub g B) (kn : ∀ p ∈ news, B.get? p.1 = some p.2)
    (ex : nsIn (Kf w.params) mainGlobals x = some (some (.ref C))) (q : ktsIn (Kf w.params) C "BaseException" = true)
    (h : ∀ frs' h' oe ot ws nt, Up frs frs' → St g L ((e, oe) :: (t, ot) :: (news ++ frs')) h' (fun y => if y = n then some (.ref e) else m y) → oe.cls = .ref C → oe.data = .fields ws → ws[0]? = some (.ref t) → ot.cls = .type "tuple" → ot.data = .seq vs.toArray nt →
      wpAny (model prog w) (A.mark (some (.ref e))) (execs (b₀ :: suite) (envX cn cs L a ccd cl))
        (fun f s₄ => wpAny (model prog w) A (do bindName (envX cn cs L a ccd cl) n .none; unbindBehindTheSuite (envX cn cs L a ccd cl) n pos) (fun _ s₅ => Q f s₅) E s₄) (fun _ _ => False) { s' with heap := h', toks := s'.toks + 1 })
    (hx : (envX cn cs L a ccd cl).kindOf x = some .globalImplicit := by rfl) (hn : (envX cn cs L a ccd cl).kindOf n = some .local := by rfl) (hd : (x == ("__debug__" : Str)) = false := by decide) :
    wpAny (model prog w) A (noteFrame (.ref e) (envX cn cs L a ccd cl))
      (fun _ s₂ => wpAny (model prog w) A (setFlight (.ref e) none) (fun _ s₃ =>
        wpAny (model prog w) A (handleBy (.ref e) (envX cn cs L a ccd cl) (.ExceptHandler (some (.Name x np)) (some n) (b₀ :: suite) pos :: rest)) Q E s₃) E s₂) E s' := by
  refine catch_S Bb k₀ hfr hk Z S F kg kn ex q (fun h' frs' oe ot ws nt hu S' c1 c2 c3 c4 c5 again => ?_) hx hd
  refine codeAny_handlers_suite_as (again _ (fun frs'' h'' oe ot ws nt hu' S'' c1 c2 c3 c4 c5 => ?_) _)
  refine st_L (s := { s' with heap := h'' }) S'' (fun h₃ S₃ => ?_) hk hn
  exact wpAny_mono (h frs'' h₃ oe ot ws nt hu' S₃ c1 c2 c3 c4 c5) (fun _ _ x => x) (fun _ _ x => x.elim)
theorem nameGoes_S {news : List (Addr × Obj)} {Q : Unit → Shared → Prop} {s : Shared} (S : St g L news s.heap m) (h : ∀ h' v, St g L news h' (fun x => if x = n then v else m x) → Q () { s with heap := h', toks := s.toks + 1 })
    (hk : cs.kind = .function := by rfl) (hl : (envX cn cs L a ccd cl).kindOf n = some .local := by rfl) :
    wpAny (model prog w) A (do bindName (envX cn cs L a ccd cl) n .none; unbindBehindTheSuite (envX cn cs L a ccd cl) n pos) Q E s :=
  wpAny_nameGoes_keeps hl S.ns (by show (cs.kind == .class || (cs.kind == .module && L != mainGlobals)) = false; rw [hk]; rfl) fun h' v hn hs => h h' v (S.setL hn hs)
end
end Mine

end
section
open PySem PySem.W PySem.W.X PyProof.Rows PySem.Calls PySem.Spec
namespace Mine
noncomputable abbrev itO (l : Addr) (i : Nat) : Obj := { cls := .type "list_iterator", data := .fields #[.ref l, .int i 0] }
noncomputable abbrev mwO (I : Addr) : Obj := { cls := .type "method-wrapper", data := .fields #[.builtin "list_iterator.__next__", .ref I] }
theorem slot_li_ga : Slot "list_iterator" "__getattribute__" "object.__getattribute__" :=
  .of (owner := "object") (n := "__getattribute__") (by rw [typeLookup_type, builtinLookup_eq_fast]; kernel_rfl) (by decide +kernel) (by decide +kernel) (by decide +kernel)
    (by first | exact .inl (by decide +kernel) | exact .inr (by decide +kernel)) (by rw [isSubtype_type]; kernel_rfl)
theorem slot_wd_get : Slot "wrapper_descriptor" "__get__" "wrapper_descriptor.__get__" :=
  .of (owner := "wrapper_descriptor") (n := "__get__") (by rw [typeLookup_type, builtinLookup_eq_fast]; kernel_rfl) (by decide +kernel) (by decide +kernel) (by decide +kernel)
    (by first | exact .inl (by decide +kernel) | exact .inr (by decide +kernel)) (by rw [isSubtype_type]; kernel_rfl)
theorem lk_wd_set : typeLookup (.type "wrapper_descriptor") "__set__" = pure none := by rw [typeLookup_type, builtinLookup_eq_fast]; kernel_rfl
theorem lk_wd_del : typeLookup (.type "wrapper_descriptor") "__delete__" = pure none := by rw [typeLookup_type, builtinLookup_eq_fast]; kernel_rfl
theorem entry_wd_get : entryFor table "wrapper_descriptor.__get__" = some Builtin.«wrapper_descriptor.__get__» := entryFor_of_tree (by kernel_rfl)
theorem args_wd_get (a b c : Value) : argsOk "wrapper_descriptor.__get__" ⟨[a, b, c], []⟩ := by unfold argsOk; kernel_rfl
theorem type_li_next : typeOf (.builtin "list_iterator.__next__") = pure (.type "wrapper_descriptor") := by kernel_rfl
theorem lk_li_next : typeLookup (.type "list_iterator") "__next__" = pure (some (.builtin "list_iterator.__next__")) := by rw [typeLookup_type, builtinLookup_eq_fast]; kernel_rfl
theorem entry_ga : entryFor table "object.__getattribute__" = some Builtin.«object.__getattribute__» := by first | exact entryFor_of_fast (by kernel_rfl) | exact entryFor_of_tree (by kernel_rfl)
theorem args_ga (a b : Value) : argsOk "object.__getattribute__" ⟨[a, b], []⟩ := by unfold argsOk; kernel_rfl
theorem sub_li : isSubtype (.type "list_iterator") (.type "list_iterator") = pure true := by rw [isSubtype_type]; kernel_rfl
theorem owner_li : (".".intercalate ("list_iterator.__next__".cutAt '.').dropLast) = "list_iterator" := by
  have e0 : "list_iterator.__next__".cutAt '.' = ["list_iterator", "__next__"] := by first | rfl | decide +kernel
  rw [e0]; rfl
section
variable {prog : Program} {w : World} {A : Around} {E : Value → Shared → Prop} {h : Heap} {g : Array GenState} {d : Drawn} {t : Nat} {os : OsState} {a l : Addr} {i : Nat}
theorem li_get {R : Result → Shared → Prop} (hx : h.get? a = some (itO l i)) (hq : R (.ok (.ret (.ref h.objs.size))) ⟨h.push (mwO a), g, d, t, os⟩) :
    codeAny (model prog w) A (.call (.builtin "wrapper_descriptor.__get__") ⟨[.builtin "list_iterator.__next__", .ref a, .type "list_iterator"], []⟩) R ⟨h, g, d, t, os⟩ := by
  have hT : (⟨h, g, d, t, os⟩ : Shared).TypeIs (.ref a) "list_iterator" := ⟨_, hx, rfl⟩
  have hT5 : (⟨h, g, d, t, os⟩ : Shared).TypeIs (.builtin "list_iterator.__next__") "wrapper_descriptor" := type_li_next
  have f8 : isSubtype (.type "list_iterator") (.type (".".intercalate ("list_iterator.__next__".cutAt '.').dropLast)) = pure true := by rw [owner_li]; exact sub_li
  refine codeAny_call_builtin slot_wd_get.plain entry_wd_get (slot_wd_get.check _ _ _ _ _ _ _ _ hT5 (args_wd_get _ _ _) ?_)
  repeat (any_goals (first | assumption | wp_step))
theorem li_entry {tk : Tok} {Q : Fin → Shared → Prop} (hx : h.get? a = some (itO l i)) (hq : Q (.done (.ret (.ref h.objs.size))) ⟨h.push (mwO a), g, d, t, os⟩) :
    wpAny (model prog w) A (Builtin.«object.__getattribute__» ⟨[.ref a, .str "__next__" tk], []⟩) Q E ⟨h, g, d, t, os⟩ := by
  have hT : (⟨h, g, d, t, os⟩ : Shared).TypeIs (.ref a) "list_iterator" := ⟨_, hx, rfl⟩
  have hT5 : (⟨h, g, d, t, os⟩ : Shared).TypeIs (.builtin "list_iterator.__next__") "wrapper_descriptor" := type_li_next
  have f4 := lk_li_next
  have f5 := type_li_next
  have f6 := slot_wd_get.lookup
  have f7 := lk_wd_set
  have f9 := lk_wd_del
  repeat (any_goals (first | assumption | wp_step))
  refine li_get hx ?_
  repeat (any_goals (first | assumption | wp_step))
theorem li_by {tk : Tok} {expr : Bool} {Q : Value → Shared → Prop} (hx : h.get? a = some (itO l i)) (hq : Q (.ref h.objs.size) ⟨h.push (mwO a), g, d, t, os⟩) : wpAny (model prog w) A (getAttrBy (.ref a) (.str "__next__" tk) true expr) Q E ⟨h, g, d, t, os⟩ := by
  have hT : (⟨h, g, d, t, os⟩ : Shared).TypeIs (.ref a) "list_iterator" := ⟨_, hx, rfl⟩
  have f2 := slot_li_ga.lookup
  have f3 := slot_li_ga.bind (.ref a)
  have hcall : ∀ {R : Result → Shared → Prop} {A' : Around}, R (.ok (.ret (.ref h.objs.size))) ⟨h.push (mwO a), g, d, t, os⟩ → codeAny (model prog w) A' (.call (.builtin "object.__getattribute__") ⟨[.ref a, .str "__next__" tk], []⟩) R ⟨h, g, d, t, os⟩ :=
    fun hr => codeAny_call_builtin slot_li_ga.plain entry_ga (slot_li_ga.check _ _ _ _ _ _ _ _ hT (args_ga _ _) (li_entry hx hr))
  unfold getAttrBy
  repeat (any_goals (first | assumption | wp_step))
  rw [if_neg (show ¬ ((expr && onTheHeap (Value.builtin "object.__getattribute__")) = true) by cases expr <;> decide)]
  repeat (any_goals (first | assumption | wp_step))
  refine hcall ?_
  repeat (any_goals (first | assumption | wp_step))
end
section
variable {prog : Program} {w : World} {A : Around} {E : Value → Shared → Prop} {s : Shared} {g g₀ : Heap} {L I l Wm : Addr} {m : Str → Option Value} {news : List (Addr × Obj)} {Q : Value → Shared → Prop} {i : Nat} {items : Array Value}
theorem iterL_S (S : St g L news s.heap m) (hl : g₀.IsList l items) (k : Sub g₀ g) (h : ∀ I h', St g L ((I, itO l 0) :: news) h' m → Q (.ref I) { s with heap := h' }) : wpAny (model prog w) A (call (.builtin "iter") [.ref l]) Q E s := by
  obtain ⟨ol, hol, r⟩ := id hl
  have hs := S.keep _ _ (k _ _ hol)
  refine call_function_entry (by decide +kernel) (by decide +kernel) kdk_entry_iter (kdk_args_iter _) ?_
  unfold Builtin.«iter»
  refine wpAny_bind (m := someArgs "iter" 1 2 _) (wpAny_of_eq (a := [Value.ref l]) (by first | rfl | kernel_rfl!) ?_)
  show wpAny _ _ (pyIter (.ref l) >>= _) _ _ _
  refine wpAny_bind (wpAny_pyIter_list ⟨ol, hs, r⟩ ?_)
  exact wpAny_pure ⟨_, rfl, h _ _ (S.push (itO l 0) rfl)⟩
theorem nextAttr_S {expr : Bool} (S : St g L news s.heap m) (hm : (I, itO l i) ∈ news) (h : ∀ g' W h', Sub g g' → g'.get? W = some (mwO I) → St g' L news h' m → Q (.ref W) { s with heap := h', toks := s.toks + 1 }) : wpAny (model prog w) A (getAttr (.ref I) "__next__" expr) Q E s := by
  obtain ⟨hp, gs, d, t, os⟩ := s
  unfold getAttr
  refine wpAny_bind (wpAny_mkText ?_)
  refine li_by (S.nw _ hm) ?_
  obtain ⟨g', k, S', e⟩ := S.push0 (mwO I) rfl
  exact h g' _ _ k e S'
theorem entry_lin : entryFor table "list_iterator.__next__" = some Builtin.«list_iterator.__next__» := entry_listiter_next
theorem quiet_lin : (Code.builtin "list_iterator.__next__" ⟨[Value.ref I], []⟩).quiet = true := Code.quiet_builtin _ (by decide +kernel)
theorem check_lin : checkBoundCall "list_iterator.__next__" ⟨[.ref I], []⟩ = pure () := by first | kernel_rfl | rfl
theorem callMw {Wm : Addr} (hW : s.heap.get? Wm = some (mwO I))
    (h : wpAny (model prog w) A.in1 (Builtin.«list_iterator.__next__» ⟨[.ref I], []⟩) (fun f s' => match f with | .done (.ret v) => Q v s' | _ => False) E s) : wpAny (model prog w) A (call (.ref Wm) []) Q E s := by
  refine wpAny_call (codeAny_of_tree ?_)
  show wpAny _ A.in1 (callAny (.ref Wm) ⟨[], []⟩) _ _ s
  simp only [callAny]
  refine wpAny_bind (wpAny_load hW ?_)
  simp only [show (Value.type "method-wrapper" == Value.type "method" || Value.type "method-wrapper" == Value.type "builtin_function_or_method" || Value.type "method-wrapper" == Value.type "method-wrapper") = true by decide, if_true]
  refine PySem.W.KFB.if_so (by decide) ?_
  refine wpAny_bind (wpAny_of_eq (a := ()) check_lin ?_)
  refine wpAny_bind (wpAny_pure (wpAny_pure ?_))
  refine ⟨quiet_lin, codeAny_builtin entry_lin (wpAny_mono h (fun f s' hf => ?_) fun _ _ x => x)⟩
  rcases f with (_ | _ | _ | _) | _ <;> first | exact hf | exact hf.elim
theorem lin_item {A' : Around} {x : Value} {Q : Fin → Shared → Prop} (ho : s.heap.get? I = some (itO l i)) (hl : s.heap.IsList l items) (hx : items[i]? = some x)
    (h : ∀ h', Heap.SameBut I s.heap h' → h'.get? I = some (itO l (i + 1)) → Q (.done (.ret x)) { s with heap := h' }) : wpAny (model prog w) A' (Builtin.«list_iterator.__next__» ⟨[.ref I], []⟩) Q E s := by
  obtain ⟨ol, hol, _, nl, hdl⟩ := hl
  show wpAny _ _ (field (.ref I) 0 >>= _) _ _ s
  refine wpAny_bind (wpAny_field ho rfl (x := .ref l) rfl ?_)
  show wpAny _ _ (if (Value.ref l == Value.none) = true then _ else _) _ _ s
  rw [if_neg (show ¬ ((Value.ref l == Value.none) = true) from Bool.false_ne_true)]
  show wpAny _ _ (field (.ref I) 1 >>= _) _ _ s
  refine wpAny_bind (wpAny_field ho rfl (x := .int i 0) rfl ?_)
  show wpAny _ _ (seqItems? (.ref l) >>= _) _ _ s
  refine wpAny_bind (wpAny_seqItems hol hdl ?_)
  simp only [Int.toNat_natCast, hx]
  refine wpAny_bind (wpAny_setField ho rfl (by simp) (wpAny_pure (h _ (Heap.SameBut.update ..) ?_)))
  rw [Heap.get?_update_self _ ho rfl]
  rfl
theorem lin_end {A' : Around} {Q : Fin → Shared → Prop} (hh : A'.handled = none) (ho : s.heap.get? I = some (itO l i)) (hl : s.heap.IsList l items) (hx : items[i]? = none)
    (h : ∀ h₁ h' e t, Heap.SameBut I s.heap h₁ → Sub h₁ h' → h₁.get? e = none → h₁.get? t = none → e ≠ t → h'.get? e = some { cls := .type "StopIteration", data := .fields #[.ref t, .none, .none, .none, .bool false, .none] } → h'.get? t = some { cls := .type "tuple", data := .seq #[] } →
      E (.ref e) { s with heap := h' }) : wpAny (model prog w) A' (Builtin.«list_iterator.__next__» ⟨[.ref I], []⟩) Q E s := by
  obtain ⟨ol, hol, _, nl, hdl⟩ := hl
  show wpAny _ _ (field (.ref I) 0 >>= _) _ _ s
  refine wpAny_bind (wpAny_field ho rfl (x := .ref l) rfl ?_)
  show wpAny _ _ (if (Value.ref l == Value.none) = true then _ else _) _ _ s
  rw [if_neg (show ¬ ((Value.ref l == Value.none) = true) from Bool.false_ne_true)]
  show wpAny _ _ (field (.ref I) 1 >>= _) _ _ s
  refine wpAny_bind (wpAny_field ho rfl (x := .int i 0) rfl ?_)
  show wpAny _ _ (seqItems? (.ref l) >>= _) _ _ s
  refine wpAny_bind (wpAny_seqItems hol hdl ?_)
  simp only [Int.toNat_natCast, hx]
  refine wpAny_bind (wpAny_rule (wpAny_bind (wpAny_setField ho rfl (by simp) ?_)))
  show wpAny _ _ (newExc (.type "StopIteration") [] >>= _) _ _ _
  refine wpAny_bind ?_
  simp only [newExc, newTuple]
  refine wpAny_bind (wpAny_newObj_type ?_ (by size_fits))
  refine wpAny_bind (m := firstArgMember _ _) (wpAny_of_eq (a := Value.none) (by first | rfl | (simp only [firstArgMember]; rfl)) ?_)
  refine wpAny_newObj_type ?_ (by size_fits)
  simp only [raiseNew]
  refine wpAny_bind (wpAny_handled ?_)
  rw [hh]
  refine wpAny_bind (wpAny_pure (wpAny_throw ?_))
  refine h _ _ _ _ (Heap.SameBut.update ..) (fun b o e => Heap.get?_push_of_some _ (Heap.get?_push_of_some _ e)) (Heap.get?_none_of_le (by rw [Heap.size_push]; exact Nat.le_succ _)) (Heap.get?_none_of_le (Nat.le_refl _)) (by rw [Heap.size_push]; exact Nat.ne_of_gt (Nat.lt_succ_self _)) (Heap.get?_push_size _ rfl) (Heap.get?_push_of_some _ (Heap.get?_push_size _ rfl))
end
end Mine

end
section
open PySem PySem.W PySem.W.X PyProof.Rows PySem.Calls PySem.Spec
namespace Mine
theorem bs_kind : builtinKind "BaseException.__str__" = some .slot := by decide +kernel
theorem bs_split : splitId "BaseException.__str__" = some ("BaseException", "__str__") := by decide +kernel
section
variable {prog : Program} {w : World} {A : Around} {E : Value → Shared → Prop} {s : Shared}
/-- str() of an exception of the text's own class over ValueError, with one text -/
theorem str_own {K : Frag} {C e t : Addr} {y : Str} {tk : Tok} {Q : Value → Shared → Prop} (X : K.In s.heap) (q : ktsIn K C "BaseException" = true) (hs : findIn K (.ref C) "__str__" = some (some (.builtin "BaseException.__str__")))
    {oe ot : Obj} {ws : Array Value} {nt : Nat} (hoe : s.heap.get? e = some oe) (c1 : oe.cls = .ref C) (c2 : oe.data = .fields ws) (c3 : ws[0]? = some (.ref t)) (hot : s.heap.get? t = some ot) (c4 : ot.cls = .type "tuple") (c5 : ot.data = .seq [.str y tk].toArray nt)
    (hu : A.units + 2 < cLine) (h : Q (.str y tk) s) : wpAny (model prog w) A (call (.type "str") [.ref e]) Q E s := by
  have hm : Meets (Builtin.«str.__new__» ⟨[.type "str", .ref e], []⟩) (fun A' R s' => A'.units + 1 < cLine ∧ s'.heap = s.heap ∧ R (.ok (.ret (.str y tk))) s') := meets_str_new fun prog w A' R s' hq => ?_
  · exact callType_new PySem.F.called_str (by decide) (PySem.F.typeCall_str_1 _) (PySem.F.newCall_str_1 _) (fun obj => PySem.F.args_object_init_2 obj _) PySem.F.entry_str_new hm ⟨(show A.units + 1 + 1 < cLine from hu), rfl, typeIs_str _ _ _, h⟩
  obtain ⟨hu', hh, hR⟩ := hq
  have X' : K.In s'.heap := hh ▸ X
  have hoe' : s'.heap.get? e = some oe := hh ▸ hoe
  have hot' : s'.heap.get? t = some ot := hh ▸ hot
  have ty : Looks (model prog w) s'.heap (typeOf (.ref e)) (.ref C) := c1 ▸ (Looks.ld hoe').andThen .now
  have inst : Looks (model prog w) s'.heap (isInstance (.ref e) (.type "BaseException")) true := by
    refine ty.andThen ?_
    obtain ⟨nm, q', N, bs, bm, hdct, sn, sub, ab, col, dd, k0, k1, k2, k3, k5, newId, hC, hbase, hbT⟩ := kts_cls X' q
    intro A Q E s k hq
    obtain ⟨hp, g, d, t, os⟩ := s
    have hcB : (Value.ref C :: bm).contains (.type "BaseException") = true := by rw [List.contains_cons, hbase, Bool.or_true]
    refine wpAny_isSubtype_exc (k _ _ hC) ?_
    rw [hcB]; exact hq
  unfold PySem.Builtin.Str.strOf
  rw [show PySem.Builtin.Str.isExactStr (.ref e) = false from rfl]
  refine wpAny_bind (m := cRoomFor _ _) (wpAny_cRoomFor hu' ?_)
  refine wpAny_bind (m := callSpecial? (.ref e) (Str.ofString "__str__")) ?_
  refine wpAny_bind (wpAny_bind (ty.here ((looks_findIn X' hs).here (wpAny_holding (wpAny_bind ?_)))))
  refine wpAny_of_eq (PySem.F.excStr_ValueError.str.bind _) ?_
  show wpAny _ _ (do return some (← call (.builtin "BaseException.__str__") [.ref e])) _ _ _
  have f : ∀ {Q : Value × List Value → Shared → Prop} {A'' : Around} {E'' : Value → Shared → Prop}, Q (.ref t, [.str y tk]) s' → wpAny (model prog w) A'' (PySem.Builtin.BaseException.bexcArgs (.ref e)) Q E'' s' := by
    intro Q A'' E'' hq
    unfold PySem.Builtin.BaseException.bexcArgs
    refine wpAny_bind (wpAny_field hoe' c2 c3 (wpAny_bind (wpAny_seqItems hot' c5 ?_)))
    exact wpAny_pure hq
  have hcall : ∀ {Q : Value → Shared → Prop} {A'' : Around} {E'' : Value → Shared → Prop}, Q (.str y tk) s' → wpAny (model prog w) A'' (call (.builtin "BaseException.__str__") [.ref e]) Q E'' s' := by
    intro Q A'' E'' hq
    refine wpAny_call (codeAny_call_builtin PySem.F.excStr_ValueError.str.plain PySem.F.entry_bexc_str (@check_slot (model prog w) _ _ _ "BaseException.__str__" "BaseException" "__str__" (.ref e) [] [] _ bs_kind bs_split inst (PySem.F.args_bexc_str _) ?_))
    unfold PySem.Builtin.«BaseException.__str__»
    repeat (first | with_reducible refine f ?_ | wp_step)
    exact hq
  refine wpAny_bind (hcall (wpAny_pure ?_))
  exact wpAny_bind (wpAny_pure (wpAny_pure hR))
end
end Mine

end
section
set_option maxHeartbeats 4000000
open PySem PySem.W PySem.W.X PyProof.Rows PySem.Calls PySem.Spec PySem.Builtin PySem.Builtin.Str
namespace Mine
section
variable {w : World} {mg mb : PySem.Str → Option Value} {A : Around} {g : Heap} {L : Addr} {m : PySem.Str → Option Value} {news frs : List (Addr × Obj)} {s : Shared} {tk t2 t3 : Tok}
    {Q E : Value → Shared → Prop}
theorem c_told {x : PySem.Str} {k n : Nat} {ps : Array Value} (hx : x.length ≤ 4096) (hk : k ≤ 4096) (hn : n ≤ 600) (hn0 : 0 < n) (HX : HexSet prg w g) (B : Bs w mg mb g) (S : Mine.St g L (((64, tabObj ps) :: news) ++ frs) s.heap m) (Z : Ar A L frs 5)
   (T : TabS g coordPos coordQual ps)
   (hret : ∀ v g' frs' h' ps' tk', (∀ y, toldS x k n = .inl y → ∃ t, v = .str y t) → (∀ c, toldS x k n = .inr c → ∃ a tx ty, v = .ref a ∧ g'.get? a = some (tupObj [.int (k + n : Nat) tx, .str ⟨#[c]⟩ ty])) → Sub g g' → Up frs frs' → TabS g' coordPos coordQual ps' →
     Mine.St g' L (((64, tabObj ps') :: news) ++ frs') h' m → Q v { s with heap := h', toks := tk' }) :
   wpAny (model prg w) A (call (.ref 249) [.str x t2, .int k tk, .int n t3]) Q E s := by
  walk_at "enter"; walk_at "go"
  rename_i oL L1 h1 Lb S1 Z1
  refine wpAny_Try_except ?_
  walk_at "go"
  refine c_hex hx hk hn hn0 HX B (news := news) (frs := (L, oL) :: frs) (by assumption) (Z1.le (by decide)) T ?_ ?_
  · intro v a c g' frs' h' ps' tx ty tk' hv ht k' hu T' ha S'
    subst hv
    walk_at "go"
    obtain ⟨_, hu2, hS⟩ := leave Lb (news' := (64, tabObj ps') :: news) S' hu
    refine hret _ g' _ _ ps' _ (fun y hy => ?_) (fun c' hc => ?_) k' hu2 T' hS
    · rw [ht] at hy; cases hy
    · rw [ht] at hc; cases hc
      exact ⟨a, tx, ty, rfl, ha⟩
  · intro v e t y g' frs' h' ps' tx tk' B' hv ht k' hu T' F kg kn S'
    subst hv
    refine caughtB_S B k' (let ⟨l, hl, _⟩ := Z.frames; ⟨l, Around.frames_deeper hl⟩) rfl (Z1.up hu) S' F kg kn (by k_dflt k_is) (by kernel_rfl) ?_
    intro frs'' h'' oe ot ws nt hu2 S2 c1 c2 c3 c4 c5
    walk_at "go"
    refine str_own (B.keeps (k'.trans S2.keep)).X (by kernel_rfl) (by kernel_rfl) (S2.nw _ (.head _)) c1 c2 c3 (S2.nw _ (.tail _ (.head _))) c4 c5 (Nat.lt_of_le_of_lt (Nat.add_le_add_left (by decide) _) Z1.units) ?_
    walk_at "go"
    refine nameGoes_S (news := (e, oe) :: (t, ot) :: (((64, tabObj ps') :: news) ++ frs'')) S2 ?_
    intro h3 v3 S3
    have S4 := S3.drop.drop
    obtain ⟨_, hu3, hS⟩ := leave Lb (news' := (64, tabObj ps') :: news) S4 (hu.trans hu2)
    refine hret _ g' _ _ ps' _ (fun y' hy => ?_) (fun c' hc => ?_) k' hu3 T' hS
    · rw [ht] at hy; cases hy
      exact ⟨_, rfl⟩
    · rw [ht] at hc; cases hc
end
end Mine

end
section
open PySem PySem.W PySem.W.X PyProof.Rows PySem.Calls PySem.Spec
namespace Mine
noncomputable abbrev lstO (vs : List Value) (ep : Nat) : Obj := { cls := .type "list", data := .seq vs.toArray ep }

section
variable {g h h' : Heap} {L : Addr} {m : Str → Option Value} {news : List (Addr × Obj)}
/-- one entry of the ledger turned by something that keeps all else -/
theorem St.turnBut {a : Addr} {o o' : Obj} (S : St g L ((a, o) :: news) h m) (hk : ∀ b x, b ∉ [a] → h.get? b = some x → h'.get? b = some x) (ho : h'.get? a = some o') : St g L ((a, o') :: news) h' m := by
  have hn := (List.nodup_cons.mp S.nd).1
  have haL := S.nL _ (.head _)
  have hag := S.ng _ (.head _)
  refine ⟨S.ns.at' fun o e => hk L o (fun q => haL (List.mem_singleton.mp q).symm) e, fun b x q => hk b x (fun z => ?_) (S.keep b x q), S.off, fun p hp => ?_, fun p hp => ?_, fun p hp => ?_, S.nd⟩
  · rw [List.mem_singleton.mp z, hag] at q; cases q
  · rcases List.mem_cons.mp hp with rfl | hp
    · exact ho
    · refine hk _ _ (fun z => hn ?_) (S.nw p (.tail _ hp))
      show a ∈ _
      rw [← (List.mem_singleton.mp z : p.1 = a)]; exact List.mem_map_of_mem hp
  · rcases List.mem_cons.mp hp with rfl | hp
    · exact haL
    · exact S.nL p (.tail _ hp)
  · rcases List.mem_cons.mp hp with rfl | hp
    · exact hag
    · exact S.ng p (.tail _ hp)
theorem St.dropBut {a : Addr} {o : Obj} (S : St g L ((a, o) :: news) h m) (hk : ∀ b x, b ∉ [a] → h.get? b = some x → h'.get? b = some x) : St g L news h' m := by
  have hn := (List.nodup_cons.mp S.nd).1
  have haL := S.nL _ (.head _)
  have hag := S.ng _ (.head _)
  refine ⟨S.ns.at' fun o e => hk L o (fun q => haL (List.mem_singleton.mp q).symm) e, fun b x q => hk b x (fun z => ?_) (S.keep b x q), S.off, fun p hp => ?_, fun p hp => S.nL p (.tail _ hp), fun p hp => S.ng p (.tail _ hp), (List.nodup_cons.mp S.nd).2⟩
  · rw [List.mem_singleton.mp z, hag] at q; cases q
  · refine hk _ _ (fun z => hn ?_) (S.nw p (.tail _ hp))
    show a ∈ _
    rw [← (List.mem_singleton.mp z : p.1 = a)]; exact List.mem_map_of_mem hp
end

/-- an iterator at I that stands on the ledger -/
structure It (prog : Program) (w : World) (I : Addr) (g : Heap) (n : Nat) (P : Nat → Value → Prop) (ob : Nat → Obj → Prop) : Prop where
  item : ∀ (A : Around) i o (s : Shared) (Q : Option Value → Shared → Prop) (E : Value → Shared → Prop) g' L news m, A.handled = none → i < n → Sub g g' → ob i o → St g' L ((I, o) :: news) s.heap m →
    (∀ v o' h' tk, P i v → ob (i + 1) o' → St g' L ((I, o') :: news) h' m → Q (some v) { s with heap := h', toks := tk }) → wpAny (model prog w) A (pyNext (.ref I)) Q E s
  done : ∀ (A : Around) o (s : Shared) (Q : Option Value → Shared → Prop) (E : Value → Shared → Prop) g' L news m, A.handled = none → Sub g g' → ob n o → St g' L ((I, o) :: news) s.heap m →
    (∀ h' tk, St g' L news h' m → Q none { s with heap := h', toks := tk }) → wpAny (model prog w) A (pyNext (.ref I)) Q E s
  self : ∀ (A : Around) i o (s : Shared) (Q : Value → Shared → Prop) (E : Value → Shared → Prop) g' L news m, A.handled = none → Sub g g' → ob i o → St g' L ((I, o) :: news) s.heap m → Q (.ref I) s → wpAny (model prog w) A (pyIter (.ref I)) Q E s

section
variable {prog : Program} {w : World}
theorem It.of_walks {I : Addr} {fp : List Addr} {g : Heap} {n : Nat} {P : Nat → Value → Prop} {st : Nat → Heap → Prop} (W : ∀ A : Around, A.handled = none → Walks prog w A I fp [I] n P st) (hIo : ∀ i h, st i h → ∃ o, h.get? I = some o)
    (hfp : ∀ b ∈ fp, b = I ∨ ∃ o, g.get? b = some o) : It prog w I g n P (fun i o => ∀ h, Sub g h → h.get? I = some o → st i h) where
  item := fun A i o s Q E g' L news m hA hi k ho S hQ => by
    refine (W A hA).item i s Q E hi (ho _ (k.trans S.keep) (S.nw _ (.head _))) fun v h' tk hP hst hk => ?_
    obtain ⟨o', ho'⟩ := hIo _ _ hst
    have S' := S.turnBut hk ho'
    refine hQ v o' h' tk hP (fun h'' k'' e'' => (W A hA).frame _ _ _ hst fun b hb x ex => ?_) S'
    rcases hfp b hb with rfl | ⟨ob, eb⟩
    · rw [ho'] at ex; cases ex; exact e''
    · have := (k.trans S'.keep) _ _ eb
      rw [ex] at this; cases this; exact k'' _ _ eb
  done := fun A o s Q E g' L news m hA k ho S hQ => (W A hA).done s Q E (ho _ (k.trans S.keep) (S.nw _ (.head _))) fun h' tk hk => hQ h' tk (S.dropBut hk)
  self := fun A i o s Q E g' L news m hA k ho S hQ => (W A hA).self i s Q E (ho _ (k.trans S.keep) (S.nw _ (.head _))) hQ

variable {A : Around} {E : Value → Shared → Prop} {s : Shared} {Q : Value → Shared → Prop} {g g₀ : Heap} {L : Addr} {m : Str → Option Value} {news : List (Addr × Obj)}
theorem St.fresh (S : St g L news s.heap m) {a : Addr} (ha : s.heap.objs.size ≤ a) : g.get? a = none := by
  cases q : g.get? a with
  | none => rfl
  | some o => exact absurd (Heap.lt_size (S.keep _ _ q)) (Nat.not_lt.mpr ha)
theorem iter_list {l : Addr} {items : Array Value} (S : St g L news s.heap m) (hl : g₀.IsList l items) (k : Sub g₀ g)
    (h : ∀ I o ob h', It prog w I g items.size (fun i v => items[i]? = some v) ob → ob 0 o → St g L ((I, o) :: news) h' m → Q (.ref I) { s with heap := h' }) : wpAny (model prog w) A (pyIter (.ref l)) Q E s := by
  obtain ⟨ol, hol, r⟩ := id hl
  have hg := k _ _ hol
  have hs := S.keep _ _ hg
  have hne : l ≠ s.heap.objs.size := Nat.ne_of_lt (Heap.lt_size hs)
  refine wpAny_pyIter_list ⟨ol, hs, r⟩ ?_
  refine h s.heap.objs.size { cls := .type "list_iterator", data := .fields #[.ref l, .int 0 0] } _ _ (It.of_walks (fun A hA => Walks.list hA s.heap.objs.size l hne items) (fun i h st => by obtain ⟨o, e, _⟩ := st.1; exact ⟨o, e⟩) fun b hb => ?_) (fun h k' e => ⟨⟨_, e, rfl, rfl⟩, ol, k' _ _ hg, r⟩) (S.push _ rfl)
  rcases List.mem_cons.mp hb with rfl | hb
  · exact .inl rfl
  · rw [List.mem_singleton.mp hb]; exact .inr ⟨ol, hg⟩
theorem iter_tuple {l : Addr} {items : Array Value} (S : St g L news s.heap m) (hl : g₀.IsTuple l items) (k : Sub g₀ g)
    (h : ∀ I o ob h', It prog w I g items.size (fun i v => items[i]? = some v) ob → ob 0 o → St g L ((I, o) :: news) h' m → Q (.ref I) { s with heap := h' }) : wpAny (model prog w) A (pyIter (.ref l)) Q E s := by
  obtain ⟨ol, hol, r⟩ := id hl
  have hg := k _ _ hol
  have hs := S.keep _ _ hg
  have hne : l ≠ s.heap.objs.size := Nat.ne_of_lt (Heap.lt_size hs)
  refine wpAny_pyIter_tuple ⟨ol, hs, r⟩ ?_
  refine h s.heap.objs.size { cls := .type "tuple_iterator", data := .fields #[.ref l, .int 0 0] } _ _ (It.of_walks (fun A hA => Walks.tuple hA s.heap.objs.size l hne items) (fun i h st => by obtain ⟨o, e, _⟩ := st.1; exact ⟨o, e⟩) fun b hb => ?_) (fun h k' e => ⟨⟨_, e, rfl, rfl⟩, ol, k' _ _ hg, r⟩) (S.push _ rfl)
  rcases List.mem_cons.mp hb with rfl | hb
  · exact .inl rfl
  · rw [List.mem_singleton.mp hb]; exact .inr ⟨ol, hg⟩
theorem iter_range {r : Addr} {a b : Int} {t u v : Tok} {n : Nat} (S : St g L news s.heap m) (hr : IsRange g₀ r a b 1 t u v) (k : Sub g₀ g) (hsm : Builtin.Range.small a b 1 = true) (hn : Builtin.Range.rangeSize a b 1 = ((n : Nat) : Int))
    (h : ∀ I o ob h', It prog w I g n (fun i v => ∃ t, v = .int (a + (i : Int)) t) ob → ob 0 o → St g L ((I, o) :: news) h' m → Q (.ref I) { s with heap := h' }) : wpAny (model prog w) A (pyIter (.ref r)) Q E s := by
  have hr' : IsRange s.heap r a b 1 t u v := S.keep _ _ (k _ _ hr)
  refine wpAny_pyIter_range hr' hsm ?_
  refine h s.heap.objs.size { cls := .type "range_iterator", data := .fields #[rawInt a, rawInt (Builtin.Range.rangeSize a b 1), rawInt 1] } _ _ (It.of_walks (st := fun i h => IsRangeIter h s.heap.objs.size (a + (i : Nat) * 1) ((n : Int) - (i : Nat)) 1) (fun A hA => ?_) (fun i h st => ⟨_, st⟩) fun b hb => .inl (List.mem_singleton.mp hb)) (fun h k' e => ?_) (S.push _ rfl)
  · exact LCg.range_walks hA a n
  · show IsRangeIter _ _ _ _ _
    rw [hn] at e
    simpa using e
theorem iter_str {x : Str} {t : Tok} (S : St g L news s.heap m)
    (h : ∀ I o ob h', It prog w I g x.cps.size (SignAt x) ob → ob 0 o → St g L ((I, o) :: news) h' m → Q (.ref I) { s with heap := h' }) : wpAny (model prog w) A (pyIter (.str x t)) Q E s := by
  cases ha : x.cps.all (· < 128)
  · refine wpAny_pyIter_wide ha ?_
    exact h _ _ _ _ (It.of_walks (fun A hA => Walks.strWide hA _ x t) (fun i h st => by obtain ⟨o, e, _⟩ := st; exact ⟨o, e⟩) fun b hb => .inl (List.mem_singleton.mp hb)) (fun h k' e => ⟨_, e, rfl, rfl⟩) (S.push _ rfl)
  · refine wpAny_pyIter_ascii ha ?_
    exact h _ _ _ _ (It.of_walks (fun A hA => Walks.strAscii hA _ x t) (fun i h st => by obtain ⟨o, e, _⟩ := st; exact ⟨o, e⟩) fun b hb => .inl (List.mem_singleton.mp hb)) (fun h k' e => ⟨_, e, rfl, rfl⟩) (S.push _ rfl)
end
end Mine

end
section
open PySem PySem.W PySem.W.X PyProof.Rows PySem.Calls PySem.Spec
namespace Mine
theorem perm2 {α : Type} (l f : List α) (a b : α) : ((l ++ [a, b]) ++ f).Perm (a :: b :: (l ++ f)) := by
  have : (l ++ [a, b]) ++ f = l ++ a :: b :: f := by simp
  rw [this]
  exact (List.perm_middle).trans (List.Perm.cons _ List.perm_middle)
theorem perm1 {α : Type} (l f : List α) (a : α) : ((l ++ [a]) ++ f).Perm (a :: (l ++ f)) := by
  have : (l ++ [a]) ++ f = l ++ a :: f := by simp
  rw [this]
  exact List.perm_middle

theorem leaveIn {g' h' : Heap} {L L' : Addr} {m m' : Str → Option Value} {news' frs frs' : List (Addr × Obj)} {oL : Obj} (hb : Bears oL m) (S' : St g' L' (news' ++ frs') h' m') (u : Up ((L, oL) :: frs) frs') :
    ∃ frs₁, Up frs frs₁ ∧ St g' L (news' ++ frs₁) h' m ∧ (∀ p ∈ frs₁, p ∈ frs') ∧ ∃ o', (L, o') ∈ frs' := by
  cases u with
  | cons u0 u =>
    rename_i o' frs₁
    obtain ⟨frs₂, hu, S2⟩ := leave hb S' (.cons u0 (Up.refl frs₁))
    have e : frs₁.map (·.1) = frs₂.map (·.1) := hu.keys.symm
    refine ⟨frs₁, u, ?_, fun p hp => .tail _ hp, o', .head _⟩
    have hp : (news' ++ (L, o') :: frs₁).Perm ((L, o') :: (news' ++ frs₁)) := List.perm_middle
    have S3 := S'.perm hp
    have nd := List.nodup_cons.mp S3.nd
    exact ⟨(hb.up u0).ns (S3.nw _ (.head _)), S3.keep, S3.ng _ (.head _), fun p q => S3.nw p (.tail _ q), fun p q z => nd.1 (by show L ∈ _; rw [← z]; exact List.mem_map_of_mem (f := (·.1)) q), fun p q => S3.ng p (.tail _ q), nd.2⟩
/-- behind one turn of a comprehension -/
inductive After (s : Shared) (C I D : Addr) (o : Obj) (ys : List Value) (ep : Nat) (g : Heap) (fs : List (Addr × Obj)) (Inv : Heap → List (Addr × Obj) → Prop) (s' : Shared) : Prop
  | mk (g' : Heap) (news' : List (Addr × Obj)) (fs' : List (Addr × Obj)) (h' : Heap) (tk' : Nat) (m' : Str → Option Value)
      (_ : s' = { s with heap := h', toks := tk' }) (_ : Sub g g') (_ : Up fs fs') (_ : St g' C ((news' ++ [(I, o), (D, lstO ys ep)]) ++ fs') h' m') (_ : Inv g' news') : After s C I D o ys ep g fs Inv s'
section
variable {prog : Program} {w : World} {A : Around} {s : Shared} {R : Result → Shared → Prop} {g : Heap} {C I D : Addr} {cenv : Env} {fs : List (Addr × Obj)} {n : Nat} {P : Nat → Value → Prop} {ob : Nat → Obj → Prop}
inductive CompAt (s : Shared) (n : Nat) (ob : Nat → Obj → Prop) (Inv : Nat → List Value → Heap → List (Addr × Obj) → Prop) (g : Heap) (fs : List (Addr × Obj)) (C D I : Addr) (k : Nat) (s' : Shared) : Prop
  | mk (i : Nat) (ys : List Value) (ep : Nat) (o : Obj) (g' : Heap) (news' fs' : List (Addr × Obj)) (h' : Heap) (tk : Nat) (m' : Str → Option Value) (_ : s' = { s with heap := h', toks := tk }) (_ : i ≤ n) (_ : k = n + 1 - i) (_ : ob i o) (_ : Inv i ys g' news') (_ : Sub g g') (_ : Up fs fs')
      (_ : St g' C ((news' ++ [(I, o), (D, lstO ys ep)]) ++ fs') h' m') : CompAt s n ob Inv g fs C D I k s'
theorem compLoop_S {elt target iter : Expr} {ifs : List Expr} {scope : Scope} {pos : Pos} (Inv : Nat → List Value → Heap → List (Addr × Obj) → Prop)
    (hA : A.handled = none) (W : It prog w I g n P ob) (hsz : n ≤ sizeLine) (hlen : ∀ i ys g news, Inv i ys g news → ys.length ≤ i) (ht : ∀ v, letOwnedTupleGo target (.ref I) v = pure ())
    (step : ∀ i v ys ep o g' news' fs' h tk m', i < n → P i v → Inv i ys g' news' → Sub g g' → Up fs fs' → St g' C ((news' ++ [(I, o), (D, lstO ys ep)]) ++ fs') h m' →
      wpAny (model prog w) A (assign target cenv v) (fun _ s₂ => wpAny (model prog w) A (forIn ifs true fun c r => if r = true then do let ok ← isTrue c cenv (eval c cenv); pure (ForInStep.yield ok) else pure (ForInStep.yield r)) (fun ok s₃ =>
        if ok = true then wpAny (model prog w) A (eval elt cenv) (fun y s₄ => After s C I D o ys ep g' fs' (Inv (i + 1) (ys ++ [y])) s₄) (fun _ _ => False) s₃ else After s C I D o ys ep g' fs' (Inv (i + 1) ys) s₃) (fun _ _ => False) s₂) (fun _ _ => False) { s with heap := h, toks := tk })
    (fin : ∀ ys ep g' news' fs' h tk m', Inv n ys g' news' → Sub g g' → Up fs fs' → St g' C ((news' ++ [(D, lstO ys ep)]) ++ fs') h m' → R (.ok .next) { s with heap := h, toks := tk })
    {news : List (Addr × Obj)} {o : Obj} {ep : Nat} {h₁ : Heap} {tk₁ : Nat} {m : Str → Option Value} (h0 : ob 0 o) (hS : St g C ((news ++ [(I, o), (D, lstO [] ep)]) ++ fs) h₁ m) (hI : Inv 0 [] g news) :
    codeAny (model prog w) A (.compLoop (.ListComp elt [⟨target, iter, ifs, 0⟩] scope pos) 0 (.ref I) (.ref D) cenv) R { s with heap := h₁, toks := tk₁ } := by
  refine codeAny_compLoop_tests (CompAt s n ob Inv g fs C D I) ?_ (n + 1)
    ⟨0, [], ep, o, g, news, fs, h₁, tk₁, m, rfl, Nat.zero_le _, rfl, h0, hI, Sub.refl _, Up.refl _, hS⟩ ht
  rintro k s' ⟨i, ys, ep, o, g', news', fs', h', tk, m', rfl, hi, rfl, hob, hInv, hk, hu, S⟩
  have S1 := S.perm (perm2 _ _ _ _)
  by_cases hlt : i < n
  · refine W.item A i o _ _ _ g' C _ m' hA hlt hk hob S1 fun v o' h₂ tk₂ hP hob' S2 => ?_
    have S3 : St g' C ((news' ++ [(I, o'), (D, lstO ys ep)]) ++ fs') h₂ m' := S2.perm (perm2 _ _ _ _).symm
    refine wpAny_mono (step i v ys ep o' g' news' fs' h₂ tk₂ m' hlt hP hInv hk hu S3) (fun _ s₂ h₂ => wpAny_mono h₂ (fun ok s₃ h₃ => ?_) fun _ _ x => x.elim) fun _ _ x => x.elim
    cases ok with
    | false =>
      simp only [Bool.false_eq_true, if_false] at h₃ ⊢
      obtain ⟨g₄, news₄, fs₄, h₄, tk₄, m₄, rfl, k₄, u₄, S₄, I₄⟩ := h₃
      exact ⟨n + 1 - (i + 1), turn_lt (by assumption), i + 1, ys, ep, o', g₄, news₄, fs₄, h₄, tk₄, m₄, rfl, hlt, rfl, hob', I₄, hk.trans k₄, hu.trans u₄, S₄⟩
    | true =>
      simp only [if_true] at h₃ ⊢
      refine wpAny_mono h₃ (fun y s₄ h₄ => ?_) fun _ _ x => x.elim
      obtain ⟨g₄, news₄, fs₄, h₄, tk₄, m₄, rfl, k₄, u₄, S₄, I₄⟩ := h₄
      have S5 : St g₄ C ((D, lstO ys ep) :: (I, o') :: (news₄ ++ fs₄)) h₄ m₄ := (S₄.perm (perm2 _ _ _ _)).perm (List.Perm.swap _ _ _)
      refine append_at (hsz := ?_) (S5.nw _ (.head _)) fun h₅ hs₅ hD₅ => ?_
      · rw [List.push_toArray] at hD₅
        have S6 := S5.turn hs₅ hD₅
        have S7 : St g₄ C ((news₄ ++ [(I, o'), (D, lstO (ys ++ [y]) (ep + 1))]) ++ fs₄) h₅ m₄ := (S6.perm (List.Perm.swap _ _ _)).perm (perm2 _ _ _ _).symm
        exact ⟨n + 1 - (i + 1), turn_lt (by assumption), i + 1, ys ++ [y], ep + 1, o', g₄, news₄, fs₄, h₅, tk₄, m₄, rfl, hlt, rfl, hob', I₄, hk.trans k₄, hu.trans u₄, S7⟩
      · show ys.toArray.size ≤ sizeLine
        rw [List.size_toArray]
        exact Nat.le_trans (hlen _ _ _ _ hInv) (Nat.le_trans hi hsz)
  · obtain rfl : i = n := Nat.le_antisymm hi (Nat.not_lt.mp hlt)
    refine W.done A o _ _ _ g' C _ m' hA hk hob S1 fun h₂ tk₂ S2 => ?_
    exact fin ys ep g' news' fs' h₂ tk₂ m' hInv hk hu (S2.perm (perm1 _ _ _).symm)
end

section
variable {prog : Program} {w : World} {A : Around} {E : Value → Shared → Prop} {s : Shared} {g : Heap} {L a : Addr} {m : Str → Option Value} {news frs : List (Addr × Obj)} {env : Env} {k : Nat} {n : Nat} {P : Nat → Value → Prop} {ob : Nat → Obj → Prop} {I : Addr}
/-- the block of a comprehension: the new list, the namespace, the loop -/
theorem comp_block {elt target iter : Expr} {ifs : List Expr} {scope : Scope} {cl : List (Str × Addr)} {pos : Pos} {RR : Value → Addr → Result → Shared → Prop} {o : Obj}
    (Inv : Nat → List Value → Heap → List (Addr × Obj) → Prop) (Z : Ar A L frs k) (W : It prog w I g n P ob) (hsz : n ≤ sizeLine) (hlen : ∀ i ys g news, Inv i ys g news → ys.length ≤ i)
    (ht : ∀ v, letOwnedTupleGo target (.ref I) v = pure ()) (hcell : ∀ y ∈ scope.names, y.2 ≠ .cell) (hkind : scope.kind = .function)
    (S : St g L ((I, o) :: (news ++ frs)) s.heap m) (h0 : ob 0 o) (hI : Inv 0 [] g news)
    (step : ∀ C D oL i v ys ep o g' news' fs' h tk m', Bears oL m → i < n → P i v → Inv i ys g' news' → Sub g g' → Up ((L, oL) :: frs) fs' → Ar A C fs' k → St g' C ((news' ++ [(I, o), (D, lstO ys ep)]) ++ fs') h m' →
      wpAny (model prog w) A (assign target (compEnvC scope cl C env) v) (fun _ s₂ => wpAny (model prog w) A (forIn ifs true fun c r => if r = true then do let ok ← isTrue c (compEnvC scope cl C env) (eval c (compEnvC scope cl C env)); pure (ForInStep.yield ok) else pure (ForInStep.yield r)) (fun ok s₃ =>
        if ok = true then wpAny (model prog w) A (eval elt (compEnvC scope cl C env)) (fun y s₄ => After s C I D o ys ep g' fs' (Inv (i + 1) (ys ++ [y])) s₄) (fun _ _ => False) s₃ else After s C I D o ys ep g' fs' (Inv (i + 1) ys) s₃) (fun _ _ => False) s₂) (fun _ _ => False) { s with heap := h, toks := tk })
    (hRR : ∀ D C ys ep g' news' frs' h tk mC oC, Inv n ys g' news' → Sub g g' → Up frs frs' → St g' L ((C, oC) :: ((D, lstO ys ep) :: news' ++ frs')) h m → Bears oC mC → RR (.ref D) C (.ok .next) { s with heap := h, toks := tk }) :
    wpAny (model prog w) A (newList []) (fun acc s₃ => wpAny (model prog w) A (newFunctionEnv scope env.globals cl [] env.qual none .none (some env)) (fun cenv s₄ =>
      codeAny (model prog w) A (.compStart (.ListComp elt [⟨target, iter, ifs, 0⟩] scope pos) 0 (.ref I) acc { cenv with scope := relabel scope env }) (RR acc cenv.locals) s₄) E s₃) E s := by
  refine wpAny_newObj_type (wpAny_newFunctionEnv hcell (by intro y hy; simp at hy) (fun h₁ hns₁ hsb₁ => ?_) hkind)
  dsimp only at hns₁ hsb₁ ⊢
  have S1 := S.push { cls := .type "list", dict := none, data := .seq ([] : List Value).toArray } rfl
  generalize hD : s.heap.objs.size = D at S1 ⊢
  generalize hH2 : s.heap.push { cls := .type "list", dict := none, data := .seq ([] : List Value).toArray } = H2 at hns₁ hsb₁ S1 ⊢
  have S2 := S1.push { cls := .type (if (some env).isSome then "dict" else "frame"), data := .dict #[] } rfl
  generalize hC : H2.objs.size = C at S2 hns₁ hsb₁ ⊢
  obtain ⟨oL, es, ep, hL, hb⟩ := S2.ns
  have hbL : Bears oL m := ⟨es, ep, hb⟩
  -- C takes the place of the frame
  have S3 : St g C ((news ++ [(I, o), (D, lstO [] 0)]) ++ ((L, oL) :: frs)) h₁ (fun x => List.lookup x []) := by
    have S2t := S2
    have ndC := List.nodup_cons.mp S2.nd
    have CL : C ≠ L := S2.nL _ (.head _)
    have hp : ((news ++ [(I, o), (D, lstO [] 0)]) ++ ((L, oL) :: frs)).Perm ((L, oL) :: ((D, lstO [] 0) :: (I, o) :: (news ++ frs))) := by
      refine (perm2 _ _ _ _).trans ((List.Perm.swap _ _ _).trans ?_)
      have : ((D, lstO [] 0) :: (I, o) :: (news ++ (L, oL) :: frs)).Perm ((D, lstO [] 0) :: (I, o) :: ((L, oL) :: (news ++ frs))) := ((List.perm_middle).cons _).cons _
      exact this.trans ((((List.Perm.swap _ _ _)).cons _).trans (List.Perm.swap _ _ _))
    have keep : ∀ b o, (H2.push { cls := .type (if (some env).isSome then "dict" else "frame"), data := .dict #[] }).get? b = some o → b ≠ C → h₁.get? b = some o := fun b o e q => (hsb₁.2 b q).trans e
    have core : St g C ((L, oL) :: ((D, lstO [] 0) :: (I, o) :: (news ++ frs))) h₁ (fun x => List.lookup x []) := by
      refine ⟨hns₁, fun b o e => keep b o (S2.keep b o e) fun q => ?_, S2.ng _ (.head _), fun p hp => ?_, fun p hp => ?_, fun p hp => ?_, ?_⟩
      · rw [q, show g.get? C = none from S2.ng _ (.head _)] at e; cases e
      · rcases List.mem_cons.mp hp with rfl | hp
        · exact keep _ _ hL (Ne.symm CL)
        · exact keep _ _ (S2.nw p (.tail _ hp)) fun q => ndC.1 (by show C ∈ _; rw [← q]; exact List.mem_map_of_mem (f := (·.1)) hp)
      · rcases List.mem_cons.mp hp with rfl | hp
        · exact Ne.symm CL
        · exact fun q => ndC.1 (by show C ∈ _; rw [← q]; exact List.mem_map_of_mem (f := (·.1)) hp)
      · rcases List.mem_cons.mp hp with rfl | hp
        · exact S2.off
        · exact S2.ng p (.tail _ hp)
      · rw [List.map_cons]
        refine List.nodup_cons.mpr ⟨fun hm => ?_, ndC.2⟩
        obtain ⟨p, hp, q⟩ := List.mem_map.mp hm
        exact S2.nL p (.tail _ hp) q
    exact core.perm hp.symm
  have ZC : ∀ fs', Up ((L, oL) :: frs) fs' → Ar A C fs' k := fun fs' u => by
    obtain ⟨l, hl1, hl2⟩ := Z.frames
    refine Ar.up ⟨Z.hand, Z.room, Z.units, fun p hp => ?_, l, hl1, hl2.push hbL⟩ u
    rcases List.mem_cons.mp hp with rfl | hp
    · exact ⟨m, hbL⟩
    · exact Z.bear p hp
  have loop : ∀ tk₁, codeAny (model prog w) A (.compLoop (.ListComp elt [⟨target, iter, ifs, 0⟩] scope pos) 0 (.ref I) (.ref D) (compEnvC scope cl C env)) (RR (.ref D) C) { s with heap := h₁, toks := tk₁ } := fun tk₁ => by
    refine compLoop_S (fs := (L, oL) :: frs) Inv Z.hand W hsz hlen ht (fun i v ys ep o g' news' fs' h tk m' hi hP hv hk hu hS => step C D oL i v ys ep o g' news' fs' h tk m' hbL hi hP hv hk hu (ZC fs' hu) hS) (fun ys ep g' news' fs' h tk m' hv hk hu hS => ?_) h0 S3 hI
    have ndC := hS
    obtain ⟨oC, esC, epC, hCo, hbC⟩ := hS.ns
    obtain ⟨frs₁, hu₁, S4, hsub, hLin⟩ := leaveIn hbL hS hu
    have S5 : St g' L ((D, lstO ys ep) :: news' ++ frs₁) h m := S4.perm (perm1 _ _ _)
    refine hRR D C ys ep g' news' frs₁ h tk m' oC hv hk hu₁ (S5.held hCo hS.off (fun q => ?_) fun p hp => ?_) ⟨esC, epC, hbC⟩
    · obtain ⟨o', hm⟩ := hLin
      exact hS.nL _ (List.mem_append_right _ hm) q.symm
    · refine hS.nL p ?_
      rcases List.mem_append.mp ((perm1 news' frs₁ (D, lstO ys ep)).symm.mem_iff.mp hp) with h1 | h1
      · exact List.mem_append_left _ h1
      · exact List.mem_append_right _ (hsub p h1)
  exact codeAny_compStart_list (loop _) (W.self A 0 o _ _ _ g C _ _ Z.hand (Sub.refl _) h0 (S3.perm (perm2 _ _ _ _)) (loop _))
/-- what a comprehension needs once its iterator stands -/
inductive CompGo (prog : Program) (w : World) (A : Around) (env : Env) (elt target : Expr) (ifs : List Expr) (scope : Scope) (cl : List (Str × Addr)) (Fin : Heap → Addr → (Str → Option Value) → List (Addr × Obj) → Addr → Shared → Prop) (it : Value) (s : Shared) : Prop
  | mk (I : Addr) (g : Heap) (L : Addr) (m : Str → Option Value) (news : List (Addr × Obj)) (frs : List (Addr × Obj)) (k : Nat) (n : Nat) (P : Nat → Value → Prop) (ob : Nat → Obj → Prop) (o : Obj) (Inv : Nat → List Value → Heap → List (Addr × Obj) → Prop)
      (_ : it = .ref I) (_ : Ar A L frs k) (_ : It prog w I g n P ob) (_ : n ≤ sizeLine) (_ : ∀ i ys g news, Inv i ys g news → ys.length ≤ i) (_ : St g L ((I, o) :: (news ++ frs)) s.heap m) (_ : ob 0 o) (_ : Inv 0 [] g news) (_ : ∀ v, letOwnedTupleGo target (.ref I) v = pure ()) (_ : ∀ C D oL i v ys ep o g' news' fs' h tk m', Bears oL m → i < n → P i v → Inv i ys g' news' → Sub g g' → Up ((L, oL) :: frs) fs' → Ar A C fs' k → St g' C ((news' ++ [(I, o), (D, lstO ys ep)]) ++ fs') h m' → wpAny (model prog w) A (assign target (compEnvC scope cl C env) v) (fun _ s₂ => wpAny (model prog w) A (forIn ifs true fun c r => if r = true then do let ok ← isTrue c (compEnvC scope cl C env) (eval c (compEnvC scope cl C env)); pure (ForInStep.yield ok) else pure (ForInStep.yield r)) (fun ok s₃ => if ok = true then wpAny (model prog w) A (eval elt (compEnvC scope cl C env)) (fun y s₄ => After s C I D o ys ep g' fs' (Inv (i + 1) (ys ++ [y])) s₄) (fun _ _ => False) s₃ else After s C I D o ys ep g' fs' (Inv (i + 1) ys) s₃) (fun _ _ => False) s₂) (fun _ _ => False) { s with heap := h, toks := tk }) (_ : ∀ D ys ep g' news' frs' h tk, Inv n ys g' news' → Sub g g' → Up frs frs' → St g' L ((D, lstO ys ep) :: news' ++ frs') h m → Fin g' L m ((D, lstO ys ep) :: news' ++ frs') D { s with heap := h, toks := tk }) : CompGo prog w A env elt target ifs scope cl Fin it s
theorem ListComp_S {elt target iter : Expr} {ifs : List Expr} {scope : Scope} {cl : List (Str × Addr)} {pos : Pos} {Q : Value → Shared → Prop}
    (hclos : closureFor scope env = pure cl) (hcell : ∀ y ∈ scope.names, y.2 ≠ .cell) (hkind : scope.kind = .function) (hnames : ∀ y ∈ scope.names, y.2 = .local → scope.names.lookup y.1 = some .local)
    (h : wpAny (model prog w) A (eval iter env) (fun xv s₁ => wpAny (model prog w) A (pyIter xv) (CompGo prog w A env elt target ifs scope cl (fun _ _ _ _ D s' => Q (.ref D) s')) E s₁) E s)
    (hs : ∀ x, foldedSetIterable iter env x = pure x := by intro _; rfl) :
    wpAny (model prog w) A (eval (.ListComp elt [⟨target, iter, ifs, 0⟩] scope pos) env) Q E s := by
  rw [eval_ListComp]
  refine wpAny_comprehension_free (use := none) rfl hs hclos hkind hnames (wpAny_mono h (fun xv s₁ h₁ => wpAny_mono h₁ (fun it s₂ h₂ => ?_) fun _ _ e => e) fun _ _ e => e)
  obtain ⟨I, g, L, m, news, frs, k, n, P, ob, o, Inv, rfl, Z, W, hsz, hlen, S, h0, hI, ht, step, fin⟩ := h₂
  refine comp_block (frs := frs) Inv Z W hsz hlen ht hcell hkind S h0 hI step fun D C ys ep g' news' frs' h tk mC oC hv hk hu S' hb => ?_
  refine ⟨mC, hb.ns (S'.nw _ (.head _)), fun h' hs' => fin D ys ep g' news' frs' h' tk hv hk hu (S'.dropBut fun b x hb e => (hs'.2 b (fun q => hb (List.mem_singleton.mpr q))).trans e)⟩
theorem Assign_ListComp_S {elt target iter : Expr} {ifs : List Expr} {y : Str} {py : Pos} {scope : Scope} {cl : List (Str × Addr)} {pos spos : Pos} {Q : Flow → Shared → Prop}
    (hsw : swapsWith (.ListComp elt [⟨target, iter, ifs, 0⟩] scope pos) (some (.Name y py)) spos.line env = pure true)
    (hclos : closureFor scope env = pure cl) (hcell : ∀ y ∈ scope.names, y.2 ≠ .cell) (hkind : scope.kind = .function) (hnames : ∀ y ∈ scope.names, y.2 = .local → scope.names.lookup y.1 = some .local)
    (hy : env.kindOf y = some .local) (hp : (env.scope.kind == .class || (env.scope.kind == .module && env.locals != env.globals)) = false)
    (h : wpAny (model prog w) A (eval iter env) (fun xv s₁ => wpAny (model prog w) A (pyIter xv) (CompGo prog w A env elt target ifs scope cl (fun g L m ledger D s' => env.locals = L ∧ ∀ h', St g L ledger h' (upd m y (.ref D)) → Q .next { s' with heap := h', toks := s'.toks + 1 })) E s₁) E s)
    (hs : ∀ x, foldedSetIterable iter env x = pure x := by intro _; rfl) :
    wpAny (model prog w) A (exec (.Assign [.Name y py] (.ListComp elt [⟨target, iter, ifs, 0⟩] scope pos) spos) env) Q E s := by
  rw [exec_Assign_Name_used _ _ _ _ hsw]
  refine wpAny_bind (wpAny_standAt (wpAny_bind ?_))
  show wpAny _ A (do let _ ← comprehension (.ListComp elt [⟨target, iter, ifs, 0⟩] scope pos) scope env _ (newList []) false (eval iter env) (some (assign (.Name y py) env))) _ _ s
  refine wpAny_bind (wpAny_mono (wpAny_comprehension_free (use := some (assign (.Name y py) env)) (Q := fun _ s' => Q .next s') rfl hs hclos hkind hnames
    (wpAny_mono h (fun xv s₁ h₁ => wpAny_mono h₁ (fun it s₂ h₂ => ?_) fun _ _ e => e) fun _ _ e => e)) (fun _ s' hq => wpAny_pure (wpAny_pure hq)) fun _ _ e => e)
  obtain ⟨I, g, L, m, news, frs, k, n, P, ob, o, Inv, rfl, Z, W, hsz, hlen, S, h0, hI, ht, step, fin⟩ := h₂
  refine comp_block (frs := frs) Inv Z W hsz hlen ht hcell hkind S h0 hI step fun D C ys ep g' news' frs' h tk mC oC hv hk hu S' hb => ?_
  have S0 : St g' L ((D, lstO ys ep) :: news' ++ frs') h m := S'.drop
  obtain ⟨rfl, fin⟩ := fin D ys ep g' news' frs' h tk hv hk hu S0
  refine wpAny_assign_Name (wpAny_storeName_local hy S'.ns (fun h₃ hn₃ hs₃ => ?_) hp)
  have S4 := S'.setL hn₃ hs₃
  refine ⟨mC, hb.ns (S4.nw _ (.head _)), fun h' hs' => fin h' (S4.dropBut fun b x hb e => (hs'.2 b (fun q => hb (List.mem_singleton.mpr q))).trans e)⟩
end
end Mine

end
section
open PySem PySem.W PySem.W.X PyProof.Rows PySem.Calls PySem.Spec
namespace Mine
section
variable {prog : Program} {w : World} {A : Around} {E : Value → Shared → Prop} {s : Shared} {g g₀ : Heap} {L a e t I l : Addr} {m mg mb : Str → Option Value} {cn : Str} {cs : Scope} {ccd : Value} {cl : List (Str × Addr)}
  {b₀ : Stmt} {suite : List Stmt} {pos np : Pos} {Q : Flow → Shared → Prop} {news frs : List (Addr × Obj)} {k i : Nat}
theorem stop_S (Bb : Bs w mg mb g₀) (k₀ : Sub g₀ g) (hfr : ∃ outer, A.frames = some (envX cn cs L a ccd cl :: outer)) (hk : cs.kind = .function) (Z : Ar A L frs k) (S : St g L ((I, itO l i) :: (news ++ frs)) s.heap m)
    {h₁ h' : Heap} (hs₁ : Heap.SameBut I s.heap h₁) (hs' : Sub h₁ h') (ne : h₁.get? e = none) (nt : h₁.get? t = none) (het : e ≠ t)
    (he : h'.get? e = some { cls := .type "StopIteration", data := .fields #[.ref t, .none, .none, .none, .bool false, .none] })
    (h : ∀ frs' h'', Up frs frs' → St g L (news ++ frs') h'' m → wpAny (model prog w) (A.mark (some (.ref e))) (execs (b₀ :: suite) (envX cn cs L a ccd cl)) Q (fun _ _ => False) { s with heap := h'' })
    (ex : nsIn (Kf w.params) mainGlobals (Str.ofString "StopIteration") = some none)
    (hx : (envX cn cs L a ccd cl).kindOf (Str.ofString "StopIteration") = some .globalImplicit := by rfl) :
    wpAny (model prog w) A (noteFrame (.ref e) (envX cn cs L a ccd cl))
      (fun _ s₂ => wpAny (model prog w) A (setFlight (.ref e) none) (fun _ s₃ =>
        wpAny (model prog w) A (handleBy (.ref e) (envX cn cs L a ccd cl) [.ExceptHandler (some (.Name (Str.ofString "StopIteration") np)) none (b₀ :: suite) pos]) Q E s₃) E s₂) E { s with heap := h' } := by
  obtain ⟨outer, hfr⟩ := hfr
  have S0 : St g L (news ++ frs) h' m := (S.dropBut fun b x hb q => hs' _ _ ((hs₁.2 b (fun z => hb (List.mem_singleton.mpr z))).trans q))
  have S00 : St g L (news ++ frs) h₁ m := (S.dropBut fun b x hb q => ((hs₁.2 b (fun z => hb (List.mem_singleton.mpr z))).trans q))
  let B := hideAll h₁ (L :: frs.map (·.1))
  have kg : Sub g B := fun b o q => by
    refine hideAll_get _ (S00.keep _ _ q) fun hm => ?_
    rcases List.mem_cons.mp hm with rfl | hm
    · rw [S.off] at q; cases q
    · obtain ⟨p, hp, rfl⟩ := List.mem_map.mp hm
      rw [S00.ng p (List.mem_append_right _ hp)] at q; cases q
  have nd4 : (news.map (·.1) ++ frs.map (·.1)).Nodup := by rw [← List.map_append]; exact S00.nd
  have kn : ∀ p ∈ news, B.get? p.1 = some p.2 := fun p hp => by
    refine hideAll_get _ (S00.nw p (List.mem_append_left _ hp)) fun hm => ?_
    rcases List.mem_cons.mp hm with z | hm
    · exact S00.nL p (List.mem_append_left _ hp) z
    · exact (List.nodup_append.mp nd4).2.2 _ (List.mem_map_of_mem hp) _ hm rfl
  have kB : Sub B h' := fun b o q => hs' _ _ (of_hideAll _ q)
  have hen : B.get? e = none := by
    cases q : B.get? e with
    | none => rfl
    | some o => rw [of_hideAll _ q] at ne; cases ne
  have hF : h'.FunFrames B (envX cn cs L a ccd cl :: outer) := by
    obtain ⟨l, hl1, hl2⟩ := Z.frames
    rw [hfr] at hl1
    cases hl1
    refine frs_funFrames hl2 ?_ (hideAll_none _ (.head _)) (fun p hp => S0.nw p (List.mem_append_right _ hp)) fun p hp => hideAll_none _ (.tail _ (List.mem_map_of_mem hp))
    obtain ⟨o, es, ep, hL, r⟩ := S0.ns
    exact ⟨o, m, hL, es, ep, r⟩
  unfold noteFrame
  simp only [show (envX cn cs L a ccd cl).frame = some L from rfl]
  refine wpAny_bind (wpAny_field he rfl (x := .none) rfl ?_)
  rw [if_neg (by decide)]
  refine wpAny_entryW hfr hF rfl he kB hen rfl (by show 1 < 6; decide) rfl fun h₂ hN => ?_
  obtain ⟨n1, n2, n3, n4⟩ := hN
  have hheld : Heap.HeldW B (envX cn cs L a ccd cl :: outer) e (.type "StopIteration") (.ref t) L h₂ := ⟨n1, hen, n2, n3⟩
  refine wpAny_landsW hheld fun h₃ hfl hsm => ?_
  have hsm2 : h'.UpToSlots h₃ := Heap.UpToSlots.trans n4 hsm
  obtain ⟨frs₃, hu₃, S₃⟩ := S0.flew Z.bear kg kn hfl.1 hsm2
  obtain ⟨oe, ws, hoe, hoec, _⟩ := hfl.first
  refine wpAny_handleBy_builtin (X := "StopIteration") (T := "StopIteration") (b := true) (by rw [isSubtype_type]; kernel_rfl) (by rw [isSubtype_type]; kernel_rfl) isSubtype_stop ?_
  refine nm_B (s := { s with heap := h₃ }) S₃ Bb k₀ ex (show bootBuiltins (Str.ofString "StopIteration") = some (.type "StopIteration") by kernel_rfl) (by decide) ⟨rfl, ⟨oe, hoe, hoec⟩, ?_⟩ hk hx
  simp only [if_true]
  refine lands_againW hfl fun h₄ hfl₄ hsm₄ => ?_
  obtain ⟨frs₄, hu₄, S₄⟩ := S0.flew Z.bear kg kn hfl₄.1 (hsm2.trans hsm₄)
  exact wpAny_mono (h frs₄ h₄ hu₄ S₄) (fun _ _ x => x) (fun _ _ x => x.elim)
end
end Mine

end
section
open PySem PySem.W PySem.W.X PyProof.Rows PySem.Calls PySem.Spec
namespace Mine
/-- behind one turn of a loop -/
inductive TurnB (s : Shared) (L I : Addr) (o : Obj) (g : Heap) (frs : List (Addr × Obj)) (Inv : Heap → (Str → Option Value) → List (Addr × Obj) → Prop) (s' : Shared) : Prop
  | mk (g' : Heap) (m' : Str → Option Value) (news' frs' : List (Addr × Obj)) (h' : Heap) (tk' : Nat) (_ : s' = { s with heap := h', toks := tk' }) (_ : Sub g g') (_ : Up frs frs') (_ : St g' L ((news' ++ [(I, o)]) ++ frs') h' m') (_ : Inv g' m' news') : TurnB s L I o g frs Inv s'
noncomputable def Turned (s : Shared) (L I : Addr) (o : Obj) (g : Heap) (frs : List (Addr × Obj)) (Inv : Heap → (Str → Option Value) → List (Addr × Obj) → Prop) (Qb : Shared → Prop) (Qr : Value → Shared → Prop) (f : Flow) (s' : Shared) : Prop :=
  match f with
  | .next | .cont => TurnB s L I o g frs Inv s'
  | .brk => Qb s'
  | .ret v => Qr v s'
section
variable {prog : Program} {w : World} {A : Around} {s : Shared} {R : Result → Shared → Prop} {g : Heap} {L I : Addr} {env : Env} {frs : List (Addr × Obj)} {n : Nat} {P : Nat → Value → Prop} {ob : Nat → Obj → Prop}
inductive LoopAt (s : Shared) (n : Nat) (ob : Nat → Obj → Prop) (Inv : Nat → Heap → (Str → Option Value) → List (Addr × Obj) → Prop) (g : Heap) (frs : List (Addr × Obj)) (L I : Addr) (k : Nat) (s' : Shared) : Prop
  | mk (i : Nat) (o : Obj) (g' : Heap) (m' : Str → Option Value) (news' frs' : List (Addr × Obj)) (h' : Heap) (tk : Nat) (_ : s' = { s with heap := h', toks := tk }) (_ : i ≤ n) (_ : k = n + 1 - i) (_ : ob i o) (_ : Inv i g' m' news') (_ : Sub g g') (_ : Up frs frs') (_ : St g' L ((I, o) :: (news' ++ frs')) h' m') : LoopAt s n ob Inv g frs L I k s'
theorem forLoop_S {target : Expr} {body : List Stmt} (Inv : Nat → Heap → (Str → Option Value) → List (Addr × Obj) → Prop)
    (hA : A.handled = none) (W : It prog w I g n P ob) (ht : ∀ v, letOwnedTupleGo target (.ref I) v = pure ())
    (step : ∀ i v o g' m' news' frs' h tk, i < n → P i v → Inv i g' m' news' → Sub g g' → Up frs frs' → St g' L ((news' ++ [(I, o)]) ++ frs') h m' →
      wpAny (model prog w) A (assign target env v) (fun _ s₂ => wpAny (model prog w) A (execs body env) (Turned s L I o g' frs' (Inv (i + 1)) (fun s' => R (.ok .next) s') (fun v s' => R (.ok (.ret v)) s')) (fun _ _ => False) s₂) (fun _ _ => False) { s with heap := h, toks := tk })
    (fin : ∀ g' m' news' frs' h tk, Inv n g' m' news' → Sub g g' → Up frs frs' → St g' L (news' ++ frs') h m' → R (.ok .next) { s with heap := h, toks := tk })
    {news : List (Addr × Obj)} {o : Obj} {m : Str → Option Value} {h₁ : Heap} {tk₁ : Nat} (h0 : ob 0 o) (hS : St g L ((I, o) :: (news ++ frs)) h₁ m) (hI : Inv 0 g m news) :
    codeAny (model prog w) A (.forLoop target (.ref I) body [] env) R { s with heap := h₁, toks := tk₁ } := by
  refine codeAny_forLoop (LoopAt s n ob Inv g frs L I) ?_ (n + 1)
    ⟨0, o, g, m, news, frs, h₁, tk₁, rfl, Nat.zero_le _, rfl, h0, hI, Sub.refl _, Up.refl _, hS⟩ ht
  rintro k s' ⟨i, o, g', m', news', frs', h', tk, rfl, hi, rfl, hob, hInv, hk, hu, S⟩
  by_cases hlt : i < n
  · refine W.item A i o _ _ _ g' L _ m' hA hlt hk hob S fun v o' h₂ tk₂ hP hob' S2 => ?_
    refine wpAny_mono (step i v o' g' m' news' frs' h₂ tk₂ hlt hP hInv hk hu (S2.perm (perm1 _ _ _).symm)) (fun _ s₂ h₂ => wpAny_mono h₂ (fun f s₃ h₃ => ?_) fun _ _ x => x.elim) fun _ _ x => x.elim
    cases f with
    | ret v => exact h₃
    | brk => exact h₃
    | next =>
      obtain ⟨g₄, m₄, news₄, fs₄, h₄, tk₄, rfl, k₄, u₄, S₄, I₄⟩ := h₃
      exact ⟨n + 1 - (i + 1), turn_lt (by assumption), i + 1, o', g₄, m₄, news₄, fs₄, h₄, tk₄, rfl, hlt, rfl, hob', I₄, hk.trans k₄, hu.trans u₄, S₄.perm (perm1 _ _ _)⟩
    | cont =>
      obtain ⟨g₄, m₄, news₄, fs₄, h₄, tk₄, rfl, k₄, u₄, S₄, I₄⟩ := h₃
      exact ⟨n + 1 - (i + 1), turn_lt (by assumption), i + 1, o', g₄, m₄, news₄, fs₄, h₄, tk₄, rfl, hlt, rfl, hob', I₄, hk.trans k₄, hu.trans u₄, S₄.perm (perm1 _ _ _)⟩
  · obtain rfl : i = n := Nat.le_antisymm hi (Nat.not_lt.mp hlt)
    refine W.done A o _ _ _ g' L _ m' hA hk hob S fun h₂ tk₂ S2 => ?_
    exact wpAny_execs_nil (fin g' m' news' frs' h₂ tk₂ hInv hk hu S2)
end
section
variable {M : Model} {w : World} {A : Around} {E : Value → Shared → Prop} {s : Shared} {g g₀ : Heap} {L : Addr} {m mg mb : Str → Option Value} {news : List (Addr × Obj)} {env : Env} {x : Str} {pos : Pos} {v : Value} {Q : Value → Shared → Prop}
theorem nmE_L (S : St g L news s.heap m) (hL : env.locals = L) (hv : m x = some v) (h : Q v s) (hk : env.scope.kind = .function) (hx : env.kindOf x = some .local) (hd : (x == ("__debug__" : Str)) = false := by decide) :
    wpAny M A (eval (.Name x pos) env) Q E s := by subst hL; exact wpAny_Name (wpAny_loadName_local hk hx S.ns hv h) hd
theorem nmE_K (S : St g L news s.heap m) (B : Bs w mg mb g₀) (k : Sub g₀ g) (hG : env.globals = mainGlobals) (e : nsIn (Kf w.params) mainGlobals x = some (some v)) (h : Q v s)
    (hk : env.scope.kind = .function) (hx : env.kindOf x = some .globalImplicit) (hd : (x == ("__debug__" : Str)) = false := by decide) :
    wpAny M A (eval (.Name x pos) env) Q E s := Name_function_global hk hx (loadGlobal_global (env := env) (hG ▸ B.G.keeps (k.trans S.keep)) (mg_of B.X B.G e) h) hd
theorem nmE_B (S : St g L news s.heap m) (B : Bs w mg mb g₀) (k : Sub g₀ g) (hG : env.globals = mainGlobals) (hN : env.builtins = builtinsNs) (e : nsIn (Kf w.params) mainGlobals x = some none) (hv : bootBuiltins x = some v) (hn : x ≠ "__name__") (h : Q v s)
    (hk : env.scope.kind = .function) (hx : env.kindOf x = some .globalImplicit) (hd : (x == ("__debug__" : Str)) = false := by decide) :
    wpAny M A (eval (.Name x pos) env) Q E s :=
  Name_function_global hk hx (loadGlobal_builtin (env := env) (hG ▸ B.G.keeps (k.trans S.keep)) (mg_none_of B.X B.G e) (hN ▸ B.B.keeps (k.trans S.keep)) ((B.builtins x hn).trans hv) h) hd
theorem stE_L {Q : Unit → Shared → Prop} (S : St g L news s.heap m) (hL : env.locals = L)
    (h : ∀ h', St g L news h' (upd m x v) → Q () { s with heap := h', toks := s.toks + 1 })
    (hp : (env.scope.kind == .class || (env.scope.kind == .module && env.locals != env.globals)) = false) (hx : env.kindOf x = some .local) : wpAny M A (storeName env x v) Q E s := by
  subst hL; exact wpAny_storeName_local hx S.ns (fun h' hn hs => h h' (S.setL hn hs)) hp
end
theorem lookup_relabel_global {env : Env} : ∀ {names : List (Str × NameKind)} {x : Str}, names.lookup x = some .globalImplicit →
    (names.map fun (n, k) => if (k == NameKind.free && env.scope.kind == .function && env.kindOf n == some .cell) then (n, NameKind.cell) else (n, k)).lookup x = some .globalImplicit
  | [], _, h => by simp at h
  | (n, k) :: r, x, h => by
    have ih := @lookup_relabel_global env r x
    show List.lookup x ((if (k == NameKind.free && env.scope.kind == .function && env.kindOf n == some .cell) = true then (n, NameKind.cell) else (n, k)) :: _) = _
    rw [List.lookup_cons] at h
    split at h
    · rename_i hx
      cases h
      rw [if_neg (by simp), List.lookup_cons, hx]
    · rename_i hx
      split
      · rw [List.lookup_cons, hx]; exact ih h
      · rw [List.lookup_cons, hx]; exact ih h
section
variable {M : Model} {w : World} {A : Around} {E : Value → Shared → Prop} {s : Shared} {g g₀ : Heap} {C : Addr} {m mg mb : Str → Option Value} {news : List (Addr × Obj)} {env : Env} {x : Str} {pos : Pos} {v : Value} {Q : Value → Shared → Prop} {scope : Scope} {cl : List (Str × Addr)}
theorem nmC_L (hx : scope.names.lookup x = some .local) (S : St g C news s.heap m) (hv : m x = some v) (h : Q v s) (hk : scope.kind = .function) (hd : (x == ("__debug__" : Str)) = false := by decide) :
    wpAny M A (eval (.Name x pos) (compEnvC scope cl C env)) Q E s := nmE_L (env := compEnvC scope cl C env) S rfl hv h hk (lookup_relabel_local hx) hd
theorem nmC_K (hx : scope.names.lookup x = some .globalImplicit) (S : St g C news s.heap m) (B : Bs w mg mb g₀) (k : Sub g₀ g) (hG : env.globals = mainGlobals) (e : nsIn (Kf w.params) mainGlobals x = some (some v)) (h : Q v s)
    (hk : scope.kind = .function) (hd : (x == ("__debug__" : Str)) = false := by decide) :
    wpAny M A (eval (.Name x pos) (compEnvC scope cl C env)) Q E s := nmE_K (env := compEnvC scope cl C env) S B k hG e h hk (lookup_relabel_global hx) hd
theorem nmC_B (hx : scope.names.lookup x = some .globalImplicit) (S : St g C news s.heap m) (B : Bs w mg mb g₀) (k : Sub g₀ g) (hG : env.globals = mainGlobals) (hN : env.builtins = builtinsNs) (e : nsIn (Kf w.params) mainGlobals x = some none) (hv : bootBuiltins x = some v) (hn : x ≠ "__name__") (h : Q v s)
    (hk : scope.kind = .function) (hd : (x == ("__debug__" : Str)) = false := by decide) :
    wpAny M A (eval (.Name x pos) (compEnvC scope cl C env)) Q E s := nmE_B (env := compEnvC scope cl C env) S B k hG hN e hv hn h hk (lookup_relabel_global hx) hd
theorem stC_L {Q : Unit → Shared → Prop} (hx : scope.names.lookup x = some .local) (S : St g C news s.heap m)
    (h : ∀ h', St g C news h' (upd m x v) → Q () { s with heap := h', toks := s.toks + 1 })
    (hk : scope.kind = .function) : wpAny M A (storeName (compEnvC scope cl C env) x v) Q E s := stE_L (env := compEnvC scope cl C env) S rfl h (by simp [compEnvC, relabel, hk]) (lookup_relabel_local hx)
end
end Mine
end
local macro_rules | `(tactic| walk_at "eval Name") => do let k ← Lean.MonadQuotation.getCurrMacroScope; return sw (ap ``PySem.eval [pt '_', ap ``compEnvC [pt '_', pt '_', pt '_', pt '_']]) (kd (fs (qs k ``nmC_L "bFv_a" "bDFAaRvv" "") (fs (qs k ``nmC_K "bFXkhe_a" "bDFAXAkShRaReI" "") (qs k ``nmC_B "bFXkhmevn_a" "bDFAXAkShRmRaReIvbnD" ""))))
local macro_rules | `(tactic| walk_at "storeName") => return sw (ap ``storeName [ap ``compEnvC [pt '_', pt '_', pt '_', pt '_'], pt '_', pt '_']) (rk ``stC_L "DA?R" "ii")
local macro_rules | `(tactic| walk_at "exec Assign cons ListComp") => return rk ``Assign_ListComp_S "UUDUDRR?V" ""
local macro_rules | `(tactic| walk_at "eval ListComp") => return rk ``ListComp_S "UDUD?V" ""
local macro_rules | `(tactic| walk_at "exec For") => return rk ``wpAny_For "?V" ""
section
set_option maxHeartbeats 4000000
open PySem PySem.W PySem.W.X PyProof.Rows PySem.Calls PySem.Spec PySem.Builtin PySem.Builtin.Str
namespace Mine
section
variable {w : World} {mg mb : PySem.Str → Option Value} {A : Around} {g : Heap} {L : Addr} {m : PySem.Str → Option Value} {news frs : List (Addr × Obj)} {s : Shared} {tk t2 t3 : Tok}
    {Q E : Value → Shared → Prop}
/-- the figure of a sign, or -1 -/
noncomputable def digC (c : Nat) : Int := if 48 ≤ c ∧ c ≤ 57 then c - 48 else if 65 ≤ c ∧ c ≤ 70 then c - 55 else if 97 ≤ c ∧ c ≤ 102 then c - 87 else -1
theorem dig_find : ∀ c, c < 128 → Txt.find (PySem.Str.ofString "0123456789abcdef") (Txt.lower ⟨#[c]⟩) = digC c := by unfold digC; decide +kernel
theorem digC_tab : ∀ c, c < 128 → digC c = if hexCp c = true then ((hexDig c : Nat) : Int) else -1 := by unfold digC; decide +kernel
theorem digC_hex {c : Nat} (h : hexCp c = true) : digC c = (hexDig c : Nat) := by rw [digC_tab c (hex_lt h), if_pos h]
theorem digC_not {c : Nat} (h : hexCp c = false) : digC c = -1 := by
  by_cases hc : c < 128
  · rw [digC_tab c hc, h]; rfl
  · have q : ∀ {a b : Nat}, b < 128 → ¬ (a ≤ c ∧ c ≤ b) := fun hb q => hc (Nat.lt_of_le_of_lt q.2 hb)
    unfold digC
    rw [if_neg (q (by decide)), if_neg (q (by decide)), if_neg (q (by decide))]
theorem any_neg (l : List Nat) : (l.map digC).any (· == -1) = !l.all hexCp := by
  induction l with
  | nil => rfl
  | cons c l ih =>
    rw [List.map_cons, List.any_cons, List.all_cons, ih]
    cases h : hexCp c with
    | true => rw [digC_hex h]; have : (((hexDig c : Nat) : Int) == -1) = false := by rw [beq_eq_false_iff_ne]; lia
              rw [this]; rfl
    | false => rw [digC_not h]; rfl
theorem hexVal_snoc (l : List Nat) (c : Nat) : hexVal (l ++ [c]) = hexVal l * 16 + hexDig c := by
  unfold hexVal; rw [List.foldl_append]; rfl
theorem hexVal_bound : ∀ (l : List Nat) (a b : Nat), l.all hexCp = true → a < 16 ^ b → l.foldl (fun a c => a * 16 + hexDig c) a < 16 ^ (b + l.length)
  | [], a, b, _, ha => by simpa using ha
  | c :: l, a, b, h, ha => by
    rw [List.all_cons, Bool.and_eq_true] at h
    have h3 := (hex_digit h.1).2
    have := hexVal_bound l (a * 16 + hexDig c) (b + 1) h.2 (by rw [Nat.pow_succ]; exact dig_lt ha h3)
    rw [List.foldl_cons, List.length_cons, show b + (l.length + 1) = b + 1 + l.length from (Nat.succ_add _ _).symm]
    exact this
theorem ints_get {vs : List Value} {ns : List Int} (h : IntsAre vs ns) {i : Nat} {v : Value} (e : vs[i]? = some v) : ∃ n t, ns[i]? = some n ∧ v = .int n t := by
  induction h generalizing i with
  | nil => simp at e
  | cons n t _ ih =>
    cases i with
    | zero => simp at e; exact ⟨n, t, rfl, e.symm⟩
    | succ i => simp at e; simpa using ih e
theorem placeS_len (x : PySem.Str) (k : Nat) (hx : x.length ≤ 4096) : (placeS x k).length ≤ 80 := by
  have := coordS_len x k hx
  unfold placeS
  simp only [PySem.Str.length_append]
  have h1 : (PySem.Str.ofString " (at ").length = 5 := by decide
  have h2 : (PySem.Str.ofString ")").length = 1 := by decide
  lia
theorem lk {g h : Heap} {D : Addr} {a : Array Value} (x : g.IsList D a) (k : Sub g h) : h.IsList D a := let ⟨o, e, r⟩ := x; ⟨o, k _ _ e, r⟩
theorem win_le (x : PySem.Str) (k n : Nat) : (winL x k n).length ≤ n := by unfold winL; rw [List.length_take]; exact Nat.min_le_left _ _
theorem c_due {x : PySem.Str} {k n : Nat} (h7 : ∀ c ∈ x.cps.toList, c < 128) (hx : x.length ≤ 4096) (hk : k ≤ 4096) (hn : n ≤ 600) (hn0 : 0 < n) (B : Bs w mg mb g) (S : Mine.St g L (news ++ frs) s.heap m) (Z : Ar A L frs 3)
   (hret : ∀ v g' frs' h' tk', (∀ y, toldS x k n = .inl y → ∃ t, v = .str y t) → (∀ c, toldS x k n = .inr c → ∃ a tx ty, v = .ref a ∧ g'.get? a = some (tupObj [.int (k + n : Nat) tx, .str ⟨#[c]⟩ ty])) → Sub g g' → Up frs frs' →
     Mine.St g' L (news ++ frs') h' m → Q v { s with heap := h', toks := tk' }) :
   wpAny (model prg w) A (call (.ref 242) [.str x t2, .int k tk, .int n t3]) Q E s := by
  have hl : (Txt.slice x (some (k : Int)) (some ((k : Int) + n))).length ≤ x.length := Txt.slice_le _ _ _
  have hwl := win_len x k n
  have hws := win_slice x k n
  have hwn := win_le x k n
  walk_at "enter"; walk_at "go"
  rename_i oL L1 h1 Lb S1 Z1 h2 t2 k2 S2
  refine iter_str S2 ?_
  intro I o ob h3 W h0 S3
  (try k_fold)
  refine ⟨I, g, L1, _, news, ((L, oL) :: frs), _, _, _, ob, o, (fun i ys g' news' => g = g' ∧ news = news' ∧ IntsAre ys (((winL x k n).take i).map digC)), rfl, Z1, W, ?_, ?_, S3, h0, ⟨rfl, rfl, .nil⟩, fun _ => rfl, ?_, ?_⟩
  · have : (Txt.slice x (some (k : Int)) (some ((k : Int) + n))).cps.size = (winL x k n).length := by rw [← hws]; simp
    rw [this, sizeLine_eq]; lia
  · rintro i ys g' news' ⟨_, _, hi⟩
    rw [hi.length, List.length_map, List.length_take]; exact Nat.min_le_left _ _
  · intro C D oL2 i v ys ep o' g' news' fs' h tk m' hb hi hP hInv hk' hu' Z2 S4
    (try k_fold)
    obtain ⟨c, u, hc, rfl⟩ := hP
    obtain ⟨rfl, rfl, hpr⟩ := hInv
    have hc' : (winL x k n)[i]? = some c := by rw [← hws]; simpa using hc
    have hc7 : c < 128 := h7 c (List.mem_of_mem_drop (List.mem_of_mem_take (List.mem_of_getElem? hc')))
    walk_at "go"
    refine SCL.lower (by show 1 ≤ 5592405; decide) ?_
    intro hlow
    (try k_fold)
    walk_at "go"
    rw [dig_find c hc7]
    refine ⟨_, _, _, _, _, _, rfl, Sub.refl _, Up.refl _, by assumption, rfl, rfl, ?_⟩
    rw [List.take_add_one, hc', List.map_append]
    exact hpr.append (.cons _ _ .nil)
  · intro D ys ep g' news' frs' h tk hInv hk' hu' S4
    (try k_fold)
    obtain ⟨rfl, rfl, hys⟩ := hInv
    refine ⟨rfl, ?_⟩
    intro h5 S5
    (try k_fold)
    have hn' : (Txt.slice x (some (k : Int)) (some ((k : Int) + n))).cps.size = (winL x k n).length := by rw [← hws]; simp
    rw [hn', List.take_length] at hys
    obtain ⟨g2, k2, S6, hD⟩ := S5.settle
    have hDl : g2.IsList D ys.toArray := ⟨_, hD, rfl, _, rfl⟩
    have hyl := hys.length
    rw [List.length_map] at hyl
    walk_at "go"
    · rename_i hlt
      refine c_place hx (B.keeps k2) S6 ((Z1.up hu').le (by decide)) ?_
      intro v t g3 frs3 h6 tk6 hv k3 hu3 S7
      (try k_fold)
      subst hv
      have hpl := placeS_len x k hx
      walk_at "go"
      obtain ⟨_, hu4, hS⟩ := leave Lb S7 (hu'.trans hu3)
      have ht : toldS x k n = .inl (PySem.Str.ofString "Invalid hex value" ++ placeS x k) := by
        unfold toldS
        rw [if_neg]
        unfold winOk
        rw [Bool.and_eq_true, beq_iff_eq]
        rw [List.size_toArray] at hlt
        lia
      refine hret _ g3 _ _ _ (fun y hy => ?_) (fun c hc => ?_) (k2.trans k3) hu4 hS
      · rw [ht] at hy; cases hy; exact ⟨_, rfl⟩
      · rw [ht] at hc; cases hc
    · rename_i hge
      have hwl2 : (winL x k n).length = n := by rw [List.size_toArray] at hge; lia
      refine in_list_ints (ns := (winL x k n).map digC) (lk hDl S6.keep) hys ?_
      rw [any_neg]
      cases hall : (winL x k n).all hexCp with
      | false =>
        walk_at "go"
        refine c_place hx (B.keeps k2) S6 ((Z1.up hu').le (by decide)) ?_
        intro v t g3 frs3 h6 tk6 hv k3 hu3 S7
        (try k_fold)
        subst hv
        have hpl := placeS_len x k hx
        walk_at "go"
        obtain ⟨_, hu4, hS⟩ := leave Lb S7 (hu'.trans hu3)
        have ht : toldS x k n = .inl (PySem.Str.ofString "Invalid hex value" ++ placeS x k) := by
          unfold toldS
          rw [if_neg]
          unfold winOk
          rw [hall, Bool.and_false]
          decide
        refine hret _ g3 _ _ _ (fun y hy => ?_) (fun c hc => ?_) (k2.trans k3) hu4 hS
        · rw [ht] at hy; cases hy; exact ⟨_, rfl⟩
        · rw [ht] at hc; cases hc
      | true =>
        walk_at "go"
        rename_i h8 S8
        refine iter_list S8 hDl (Sub.refl _) ?_
        intro I2 o2 ob2 h9 W2 h02 S9
        (try k_fold)
        refine forLoop_S (L := L1) (frs := frs') (news := news) (fun i g' m' news' => g2 = g' ∧ news = news' ∧ (∃ t, m' "number" = some (.int (hexVal ((winL x k n).take i) : Nat) t)) ∧ (∃ t, m' "text" = some (.str x t)) ∧ (∃ t, m' "place" = some (.int k t)) ∧ ∃ t, m' "size" = some (.int n t)) Z1.hand W2 (fun _ => rfl) ?_ ?_ h02 S9 ⟨rfl, rfl, ⟨_, rfl⟩, ⟨_, rfl⟩, ⟨_, rfl⟩, ⟨_, rfl⟩⟩
        · intro i v o3 g3 m3 news3 frs3 h10 tk10 hi hP hInv k3 hu3 S10
          (try k_fold)
          obtain ⟨rfl, rfl, ⟨t1, e1⟩, ⟨t2, e2⟩, ⟨t3, e3⟩, ⟨t4, e4⟩⟩ := hInv
          obtain ⟨d, t5, hd, rfl⟩ := ints_get hys (by simpa using hP)
          rw [List.getElem?_map] at hd
          obtain ⟨c, hc, rfl⟩ := Option.map_eq_some_iff.mp hd
          have hcx : hexCp c = true := List.all_eq_true.mp hall c (List.mem_of_getElem? hc)
          rw [digC_hex hcx]
          walk_at "go"
          rename_i h13 S13
          refine ⟨_, _, _, _, _, _, rfl, Sub.refl _, Up.refl _, S13, rfl, rfl, ?_, ⟨t2, e2⟩, ⟨t3, e3⟩, t4, e4⟩
          have e5 : ((hexVal ((winL x k n).take (i + 1)) : Nat) : Int) = (hexVal ((winL x k n).take i) : Nat) * 16 + (hexDig c : Nat) := by
            rw [List.take_add_one, hc]
            show ((hexVal ((winL x k n).take i ++ [c]) : Nat) : Int) = _
            rw [hexVal_snoc, Int.natCast_add, Int.natCast_mul]
            rfl
          rw [e5]
          exact ⟨_, rfl⟩
        · intro g3 m3 news3 frs3 h10 tk10 hInv k3 hu3 S10
          (try k_fold)
          obtain ⟨rfl, rfl, ⟨t1, e1⟩, ⟨t2, e2⟩, ⟨t3, e3⟩, ⟨t4, e4⟩⟩ := hInv
          rw [List.size_toArray, hyl, List.take_length] at e1
          walk_at "go"
          refine c_lscalar (B.keeps k2) S10 ((Z1.up (hu'.trans hu3)).le (by decide)) ?_
          intro v frs4 h11 tk11 hv hu4 S11
          (try k_fold)
          subst hv
          have hok : winOk x k n = true := by
            unfold winOk
            rw [hwl2, beq_self_eq_true, Bool.true_and]; exact hall
          cases hsc : scalarB (hexVal (winL x k n) : Nat) with
          | true =>
            have hsr : (hexVal (winL x k n) : Int) ≤ 1114111 := by
              unfold scalarB at hsc
              simp only [decide_eq_true_eq] at hsc; exact scal_le hsc
            walk_at "go"
            rename_i g5 a5 h12 k5 e5 S12
            obtain ⟨_, hu5, hS⟩ := leave Lb S12 ((hu'.trans hu3).trans hu4)
            have ht : toldS x k n = .inr (hexVal (winL x k n)) := by unfold toldS; rw [if_pos hok, if_pos hsc]
            refine hret _ g5 _ _ _ (fun y hy => ?_) (fun c hc => ?_) (k2.trans k5) hu5 hS
            · rw [ht] at hy; cases hy
            · rw [ht] at hc; cases hc
              exact ⟨a5, _, _, rfl, by rw [e5, Int.natCast_add]; rfl⟩
          | false =>
            walk_at "go"
            rw [← Int.natCast_add]
            refine c_place (k := k + n) hx (B.keeps k2) S11 ((Z1.up ((hu'.trans hu3).trans hu4)).le (by decide)) ?_
            intro v t g3 frs5 h6 tk6 hv k3 hu5 S7
            (try k_fold)
            subst hv
            have hpl := placeS_len x (k + n) hx
            walk_at "go"
            obtain ⟨_, hu6, hS⟩ := leave Lb S7 (((hu'.trans hu3).trans hu4).trans hu5)
            have ht : toldS x k n = .inl (PySem.Str.ofString "Escaped character is not a Unicode scalar value" ++ placeS x (k + n)) := by
              unfold toldS
              rw [if_pos hok, if_neg (by rw [hsc]; decide)]
            refine hret _ g3 _ _ _ (fun y hy => ?_) (fun c hc => ?_) (k2.trans k3) hu6 hS
            · rw [ht] at hy; cases hy; exact ⟨_, rfl⟩
            · rw [ht] at hc; cases hc
end
end Mine

end
section
open PySem PySem.W PySem.W.X PyProof.Rows PySem.Calls PySem.Spec
namespace Mine
section
variable {prog : Program} {w : World} {A : Around} {E : Value → Shared → Prop} {s : Shared} {g g₀ : Heap} {L : Addr} {m : Str → Option Value} {news : List (Addr × Obj)} {Q : Value → Shared → Prop} {value slice : Expr} {u : Tok}
theorem tupk {g h : Heap} {D : Addr} {a : Array Value} (x : IsTup g D a) (k : Sub g h) : IsTup h D a := let ⟨o, e, r⟩ := x; ⟨o, k _ _ e, r⟩
theorem item_S {l : Addr} {items : Array Value} {n : Nat} {v : Value} (S : St g L news s.heap m) (hl : g₀.IsList l items) (k : Sub g₀ g) (hn : n < 2 ^ 62) (hx : items[n]? = some v) (h : Q v s)
    (hs : subscripted slice false (.ref l) (.int n u) = operate [.ref l, .int n u] (getItem (.ref l) (.int n u)) := by with_unfolding_all rfl) :
    wpAny (model prog w) A (subscriptTail value slice (.ref l) (.int n u)) Q E s :=
  have hl' := lk hl (k.trans S.keep)
  tail_any hl'.typeIs slot_list_getitem.lookup (wpAny_getItem_list hl' (by lia) (by lia) hx h) hs
theorem itemT_S {l : Addr} {items : Array Value} {n : Nat} {v : Value} (S : St g L news s.heap m) (hl : IsTup g₀ l items) (k : Sub g₀ g) (hn : n < 2 ^ 62) (hx : items[n]? = some v) (h : Q v s)
    (hs : subscripted slice false (.ref l) (.int n u) = operate [.ref l, .int n u] (getItem (.ref l) (.int n u)) := by with_unfolding_all rfl) :
    wpAny (model prog w) A (subscriptTail value slice (.ref l) (.int n u)) Q E s := by
  have hl' := tupk hl (k.trans S.keep)
  have hlt : n < items.size := (Array.getElem?_eq_some_iff.mp hx).1
  refine tail_any hl'.typeIs slot_tuple_getitem.lookup (getItem_tuple hl' (by lia) (by lia) (j := n) ?_ hx h) hs
  have e1 : (if (n : Int) < 0 then (n : Int) + items.size else (n : Int)) = n := if_neg (by lia)
  unfold seqIndex?
  simp only [e1]
  rw [if_pos (by simp only [Bool.and_eq_true, decide_eq_true_eq]; lia)]
  simp
theorem itemI_S {l : Addr} {items : Array Value} {n : Int} {v : Value} (S : St g L news s.heap m) (hl : g₀.IsList l items) (k : Sub g₀ g) (h0 : 0 ≤ n) (hn : n < 2 ^ 62) (hx : items[n.toNat]? = some v) (h : Q v s)
    (hs : subscripted slice false (.ref l) (.int n u) = operate [.ref l, .int n u] (getItem (.ref l) (.int n u)) := by with_unfolding_all rfl) :
    wpAny (model prog w) A (subscriptTail value slice (.ref l) (.int n u)) Q E s :=
  have hl' := lk hl (k.trans S.keep)
  tail_any hl'.typeIs slot_list_getitem.lookup (wpAny_getItem_list hl' (by lia) (by lia) hx h) hs
theorem itemTI_S {l : Addr} {items : Array Value} {n : Int} {v : Value} (S : St g L news s.heap m) (hl : IsTup g₀ l items) (k : Sub g₀ g) (h0 : 0 ≤ n) (hn : n < 2 ^ 62) (hx : items[n.toNat]? = some v) (h : Q v s)
    (hs : subscripted slice false (.ref l) (.int n u) = operate [.ref l, .int n u] (getItem (.ref l) (.int n u)) := by with_unfolding_all rfl) :
    wpAny (model prog w) A (subscriptTail value slice (.ref l) (.int n u)) Q E s := by
  obtain ⟨j, rfl⟩ : ∃ j : Nat, n = j := ⟨n.toNat, by lia⟩
  exact itemT_S S hl k (by lia) (by simpa using hx) h hs
theorem slice_S {l : Addr} {items : Array Value} {vl vu : Value} {lo hi : Option Int} (S : St g L news s.heap m) (hl : g₀.IsList l items) (k : Sub g₀ g) (pl : IsPart vl lo) (pu : IsPart vu hi) (hsz : items.size ≤ sizeLine)
    (h : ∀ g' D h', Sub g g' → g'.IsList D (slicePick items lo hi none) → St g' L news h' m → Q (.ref D) { s with heap := h' })
    (hs : subscripted slice false (.ref l) (.ref s.heap.objs.size) = operate [.ref s.heap.objs.size, .ref l] (getItem (.ref l) (.ref s.heap.objs.size)) := by with_unfolding_all rfl)
    (ht : ∀ r, letTemporaryGo value (.ref l) r = pure () := by intro _; with_unfolding_all rfl) :
    wpAny (model prog w) A (subscriptTail value slice (.ref l) (.ref s.heap.objs.size)) Q E { s with heap := s.heap.push { cls := .type "slice", data := .fields #[vl, vu, .none] } } := by
  refine slice_listK (lk hl (k.trans S.keep)) pl pu ?_ hs ht hsz
  obtain ⟨g', k', S1, e⟩ := (S.pushS { cls := .type "slice", data := .fields #[vl, vu, .none] }).push0 (lstO (slicePick items lo hi none).toList 0) rfl
  rw [Heap.size_push] at e
  exact h g' _ _ k' ⟨_, e, rfl, _, rfl⟩ S1
theorem addL_S {l b : Addr} {vs ws : List Value} (S : St g L news s.heap m) (hl : s.heap.IsList l vs.toArray) (hb : s.heap.IsList b ws.toArray) (hsz : vs.length + ws.length ≤ sizeLine)
    (h : ∀ D h', St g L ((D, lstO (vs ++ ws) 0) :: news) h' m → Q (.ref D) { s with heap := h' }) : wpAny (model prog w) A (binaryOp .Add (.ref l) (.ref b)) Q E s := by
  obtain ⟨⟨cls, dd, data, sl⟩, ho, hc, n, hd⟩ := id hl
  obtain ⟨⟨cls2, dd2, data2, sl2⟩, ho2, hc2, n2, hd2⟩ := id hb
  simp only at hc hd hc2 hd2
  subst hc hd hc2 hd2
  have e : vs.toArray ++ ws.toArray = (vs ++ ws).toArray := by simp
  refine concat_meets ⟨_, ho, rfl⟩ ⟨_, ho2, rfl⟩ noFill_list_add seq_list_add PySem.F.slot_list_add PySem.F.entry_list_add (PySem.F.args_list_add_2 _ _) (list_addW l b vs.toArray ws.toArray n n2 dd dd2 sl sl2 (by simpa using hsz)) ⟨ho, ho2, ?_⟩
  rw [e]
  exact h _ _ (S.push (lstO (vs ++ ws) 0) rfl)
theorem isiT_S {l : Addr} {items : Array Value} (S : St g L news s.heap m) (hl : IsTup g₀ l items) (k : Sub g₀ g) (h : Q (.bool false) { s with toks := s.toks + 1 }) : wpAny (model prog w) A (call (.builtin "isinstance") [.ref l, .type "str"]) Q E s := by
  obtain ⟨o, ho, hc, _⟩ := hl
  exact PySem.IsiPair.tuple_str (S.keep _ _ (k _ _ ho)) hc h
theorem append_S {D : Addr} {ys : List Value} {ep : Nat} {x : Value} (S : St g L ((D, lstO ys ep) :: news) s.heap m) (hsz : ys.length ≤ sizeLine)
    (h : ∀ h', St g L ((D, lstO (ys ++ [x]) (ep + 1)) :: news) h' m → Q .none { s with heap := h' }) : wpAny (model prog w) A (call (.builtin "list.append") [.ref D, x]) Q E s := by
  refine append_at (S.nw _ (.head _)) (fun h₅ hs₅ hD₅ => ?_) (by rw [List.size_toArray]; exact hsz)
  rw [List.push_toArray] at hD₅
  exact h h₅ (S.turn hs₅ hD₅)
theorem gm_append {D : Addr} {vs : List Value} {ep : Nat} {pl : Sem Bool} {Q : Value × List Value → Shared → Prop} (S : St g L news s.heap m) (hm : (D, lstO vs ep) ∈ news) (h : Q (.builtin "list.append", [.ref D]) s) :
    wpAny (model prog w) A (getMethod (.ref D) "append" pl) Q E s :=
  have e := S.nw _ hm
  getMethod_list_append e rfl rfl h
end
end Mine
end
local macro_rules | `(tactic| walk_at "idx") => return fs (pc 's') (pc 'R')
local macro_rules | `(tactic| walk_at "subscriptTail") => return kd (fs (rf ``item_S "AASOX?U") (fs (rf ``itemT_S "AASOX?U") (fs (rf ``itemI_S "AASOOX?U") (rf ``itemTI_S "AASOOX?U"))))
local macro_rules | `(tactic| walk_at "call builtin:isinstance") => return sw (ap ``call [pt '_', Lean.Unhygienic.run `([PySem.Value.ref _, PySem.Value.type "str"])]) (rk ``isiT_S "AAS?" "")
local macro_rules | `(tactic| walk_at "mem") => return fs (ex (ap ``List.Mem.head [pt '_'])) (fs (rs ``List.Mem.tail "_?" "M") (pc 's'))
local macro_rules | `(tactic| walk_at "getMethod ref") => return sw (gms vref "append") (rk ``gm_append "AM?" "")
local macro_rules | `(tactic| walk_at "part") => return fs (ex (ap ``IsPart.int [pt '_', pt '_'])) (fs (ex (ap ``IsPart.none [])) (pc 'q'))
local macro_rules | `(tactic| walk_at "subscriptTail Name Slice ref ref") => return rk ``slice_S "AASPPL?UV" "Wiiiiii"
local macro_rules | `(tactic| walk_at "lsz") => `(tactic| first | assumption | (simp only [List.size_toArray, PySem.sizeLine_eq] at *; lia))
section
set_option maxHeartbeats 2000000
open PySem PySem.W PySem.W.X PyProof.Rows PySem.Calls PySem.Spec PySem.Builtin PySem.Builtin.Str
namespace Mine
theorem newList_S {prog : Program} {w : World} {A : Around} {E : Value → Shared → Prop} {s : Shared} {g : Heap} {L : Addr} {m : PySem.Str → Option Value} {news : List (Addr × Obj)} {vs : List Value} {Q : Value → Shared → Prop} (S : Mine.St g L news s.heap m) (hsz : vs.length ≤ sizeLine)
    (h : ∀ D h', Mine.St g L ((D, lstO vs 0) :: news) h' m → Q (.ref D) { s with heap := h' }) : wpAny (model prog w) A (newList vs) Q E s := by
  exact wpAny_newObj_type (h _ _ (S.push (lstO vs 0) rfl)) (by show vs.toArray.size ≤ sizeLine; rw [List.size_toArray]; exact hsz)
theorem range_S {prog : Program} {w : World} {A : Around} {E : Value → Shared → Prop} {s : Shared} {g : Heap} {L : Addr} {m : PySem.Str → Option Value} {news : List (Addr × Obj)} {n : Int} {t : Tok} {Q : Value → Shared → Prop} (S : Mine.St g L news s.heap m)
    (h : ∀ g' r h' tk t₁ u₁ v₁, Sub g g' → IsRange g' r 0 n 1 t₁ u₁ v₁ → Mine.St g' L news h' m → Q (.ref r) { s with heap := h', toks := tk }) : wpAny (model prog w) A (call (.type "range") [.int n t]) Q E s := by
  refine call_range_1 ?_
  obtain ⟨g', k, S', e⟩ := S.push0 _ (by rfl : Obj.isFreed { cls := .type "range", dict := none, data := .fields #[.int 0 _, .int n _, .int 1 _], slots := #[] } = false)
  exact h g' _ _ _ _ _ _ k e S'
theorem range_iter {prog : Program} {w : World} {A : Around} {E : Value → Shared → Prop} {s : Shared} {g g₀ : Heap} {L : Addr} {m : PySem.Str → Option Value} {news : List (Addr × Obj)} {r : Addr} {n : Nat} {t u v : Tok} {Q : Value → Shared → Prop} (S : Mine.St g L news s.heap m) (hr : IsRange g₀ r 0 n 1 t u v) (k : Sub g₀ g) (hn : n ≤ 100000)
    (h : ∀ I o ob h', It prog w I g n (fun i v => ∃ t, v = .int (i : Int) t) ob → ob 0 o → Mine.St g L ((I, o) :: news) h' m → Q (.ref I) { s with heap := h' }) : wpAny (model prog w) A (pyIter (.ref r)) Q E s := by
  refine iter_range (n := n) S hr k (small_one (by decide) (by decide) (by lia) (by lia)) (by rw [rangeSize_nat]; simp) ?_
  intro I o ob h' W h0 S'
  (try k_fold)
  refine h I o ob h' ⟨fun A i o s Q E g' L news m hA hi k ho S hQ => W.item A i o s Q E g' L news m hA hi k ho S fun v o' h' tk hv => hQ v o' h' tk (by simpa using hv), W.done, W.self⟩ h0 S'
end Mine
end
local macro_rules | `(tactic| walk_at "call type:range") => return rs ``range_S "A?" "iiiiiiiiii"
local macro_rules | `(tactic| walk_at "newList") => return rs ``newList_S "AZ?" "iii"
section
set_option maxHeartbeats 2000000
open PySem PySem.W PySem.W.X PyProof.Rows PySem.Calls PySem.Spec PySem.Builtin PySem.Builtin.Str
namespace Mine
theorem paired_get {α β : Type} {F : α → β → Prop} {l₁ : List α} {l₂ : List β} (h : Paired F l₁ l₂) {i : Nat} {b : β} (e : l₂[i]? = some b) : ∃ a, l₁[i]? = some a ∧ F a b := by
  induction h generalizing i with
  | nil => simp at e
  | cons hf _ ih =>
    cases i with
    | zero => simp at e; subst e; exact ⟨_, rfl, hf⟩
    | succ i => simp at e; simpa using ih e
/-- what the windows told -/
noncomputable def ToldAt (g : Heap) (v : Value) : PySem.Str ⊕ Nat → Prop
  | .inl y => ∃ t, v = .str y t
  | .inr c => ∃ a p tx ty, v = .ref a ∧ g.get? a = some (tupObj [.int p tx, .str ⟨#[c]⟩ ty])
/-- the rows that the windows give: a sign and, if the window ahead is read, its sign -/
noncomputable def rowsFrom : Option Nat → List (PySem.Str ⊕ Nat) → List (List Nat)
  | _, [] => []
  | _, .inl _ :: r => rowsFrom none r
  | p, .inr c :: r => (c :: p.toList) :: rowsFrom (some c) r
noncomputable def rowsOf (rs : List (PySem.Str ⊕ Nat)) : List (List Nat) := rowsFrom none rs
/-- a list of signs -/
noncomputable def SignsAt (vs : List Value) (cs : List Nat) : Prop := StrsAre vs (cs.map fun c => ⟨#[c]⟩)
inductive RowAt (g : Heap) (v : Value) (r : List Nat) : Prop
  | mk (a : Addr) (vs : List Value) (ep : Nat)
      (_ : v = .ref a) (_ : g.get? a = some (lstO vs ep)) (_ : SignsAt vs r) : RowAt g v r
noncomputable def RowsAt (g : Heap) (vs : List Value) (rows : List (List Nat)) : Prop := Paired (fun r v => RowAt g v r) rows vs
theorem rowsFrom_snoc (x : PySem.Str ⊕ Nat) : ∀ (l : List (PySem.Str ⊕ Nat)) (p : Option Nat), rowsFrom p (l ++ [x]) = rowsFrom p l ++ (match x with | .inl _ => [] | .inr c => [c :: (match l.getLast? with | none => p | some (.inl _) => none | some (.inr c') => some c').toList])
  | [], p => by cases x <;> rfl
  | .inl y :: l, p => by
    have := rowsFrom_snoc x l none
    rw [List.cons_append, rowsFrom, this, rowsFrom]
    cases x with
    | inl _ => rfl
    | inr c =>
      cases l with
      | nil => rfl
      | cons a l =>
        rw [List.getLast?_cons_cons]
        cases hq : (a :: l).getLast? with
        | none => simp at hq
        | some q => cases q <;> rfl
  | .inr d :: l, p => by
    have := rowsFrom_snoc x l (some d)
    rw [List.cons_append, rowsFrom, this, rowsFrom, List.cons_append]
    cases x with
    | inl _ => rfl
    | inr c =>
      cases l with
      | nil => rfl
      | cons a l =>
        rw [List.getLast?_cons_cons]
        cases hq : (a :: l).getLast? with
        | none => simp at hq
        | some q => cases q <;> rfl
theorem signs_append {vs ws : List Value} {cs ds : List Nat} (h : SignsAt vs cs) (h' : SignsAt ws ds) : SignsAt (vs ++ ws) (cs ++ ds) := by
  unfold SignsAt at *
  rw [List.map_append]
  generalize List.map (fun c => (⟨#[c]⟩ : PySem.Str)) cs = xs at *
  induction h with
  | nil => exact h'
  | cons y t _ ih => exact .cons y t ih
theorem paired_drop {α β : Type} {F : α → β → Prop} {l₁ : List α} {l₂ : List β} (h : Paired F l₁ l₂) : ∀ n, Paired F (l₁.drop n) (l₂.drop n) := by
  induction h with
  | nil => intro n; simp; exact .nil
  | cons hf hr ih => intro n; cases n with
    | zero => exact .cons hf hr
    | succ n => simpa using ih n
theorem paired_take {α β : Type} {F : α → β → Prop} {l₁ : List α} {l₂ : List β} (h : Paired F l₁ l₂) : ∀ n, Paired F (l₁.take n) (l₂.take n) := by
  induction h with
  | nil => intro n; simp; exact .nil
  | cons hf hr ih => intro n; cases n with
    | zero => exact .nil
    | succ n => exact .cons hf (ih n)
theorem RowAt.keeps {g g' : Heap} {v : Value} {r : List Nat} (h : RowAt g v r) (k : Sub g g') : RowAt g' v r := let ⟨a, vs, ep, h1, h2, h3⟩ := h; ⟨a, vs, ep, h1, k _ _ h2, h3⟩
theorem paired_mono {α β : Type} {F F' : α → β → Prop} (hf : ∀ a b, F a b → F' a b) {l₁ : List α} {l₂ : List β} (h : Paired F l₁ l₂) : Paired F' l₁ l₂ := by
  induction h with
  | nil => exact .nil
  | cons h _ ih => exact .cons (hf _ _ h) ih
theorem RowsAt.keeps {g g' : Heap} {vs : List Value} {rows : List (List Nat)} (h : RowsAt g vs rows) (k : Sub g g') : RowsAt g' vs rows := paired_mono (fun _ _ x => x.keeps k) h
theorem rows_append {g : Heap} {vs ws : List Value} {r r' : List (List Nat)} (h : RowsAt g vs r) (h' : RowsAt g ws r') : RowsAt g (vs ++ ws) (r ++ r') := by
  unfold RowsAt at *
  induction h with
  | nil => exact h'
  | cons h _ ih => exact .cons h ih
theorem rowsFrom_le : ∀ (l : List (PySem.Str ⊕ Nat)) (p : Option Nat), (rowsFrom p l).length ≤ l.length
  | [], _ => Nat.le_refl _
  | .inl _ :: l, _ => Nat.le_succ_of_le (rowsFrom_le l none)
  | .inr c :: l, _ => Nat.succ_le_succ (rowsFrom_le l (some c))
theorem rowsOf_le (l : List (PySem.Str ⊕ Nat)) : (rowsOf l).length ≤ l.length := rowsFrom_le l none
/-- the windows ahead of the i-th -/
theorem told_slice {g : Heap} {vs : List Value} {rs : List (PySem.Str ⊕ Nat)} (hP : Paired (fun r v => ToldAt g v r) rs vs) {i c : Nat} (hi : i < vs.length) (hr : rs[i]? = some (.inr c)) :
    ∃ rs', Paired (fun r v => ToldAt g v r) rs' (slicePick vs.toArray (some ((i : Int) - 1)) (some (i : Int)) none).toList ∧ rs'.length ≤ 1 ∧ rowsOf (rs.take (i + 1)) = rowsOf (rs.take i) ++ [c :: rs'.filterMap Sum.getRight?] := by
  have hl := hP.length
  refine ⟨if i = 0 then [] else (rs.drop (i - 1)).take 1, ?_, ?_, ?_⟩
  · rw [slicePick_plain]
    by_cases h0 : i = 0
    · subst h0
      rw [if_pos rfl]
      have : Option.elim (some ((0 : Nat) : Int)) vs.toArray.size (clipAt vs.toArray.size) = 0 := by
        show clipAt _ ((0 : Nat) : Int) = 0
        rw [clipAt_nat]; simp
      rw [this, Nat.zero_sub, List.take_zero]
      exact .nil
    · rw [if_neg h0]
      have e1 : ((i : Int) - 1) = ((i - 1 : Nat) : Int) := pred_int h0
      rw [e1]
      show Paired _ _ ((vs.toArray.toList.drop (clipAt vs.toArray.size ((i - 1 : Nat) : Int))).take (clipAt vs.toArray.size (i : Int) - clipAt vs.toArray.size ((i - 1 : Nat) : Int))).toArray.toList
      rw [clipAt_nat, clipAt_nat, List.size_toArray, Nat.min_eq_left (Nat.le_of_lt hi), Nat.min_eq_left (Nat.le_trans (Nat.sub_le _ _) (Nat.le_of_lt hi)), show i - (i - 1) = 1 from sub_pred h0]
      exact paired_take (paired_drop hP _) 1
  · split
    · exact Nat.zero_le _
    · rw [List.length_take]; exact Nat.min_le_left _ _
  · rw [List.take_add_one, hr]
    show rowsFrom none (rs.take i ++ [.inr c]) = _
    rw [rowsFrom_snoc]
    refine congrArg (fun z => rowsOf (rs.take i) ++ [c :: z]) ?_
    by_cases h0 : i = 0
    · subst h0; rfl
    · rw [if_neg h0]
      have hir : i < rs.length := hl ▸ hi
      have hpl : i - 1 < rs.length := Nat.lt_of_le_of_lt (Nat.sub_le _ _) hir
      obtain ⟨q, hq⟩ : ∃ q, rs[i - 1]? = some q := ⟨rs[i - 1], List.getElem?_eq_getElem hpl⟩
      have e1 : (rs.take i).getLast? = some q := by
        rw [List.getLast?_eq_getElem?, List.length_take, Nat.min_eq_left (Nat.le_of_lt hir), List.getElem?_take, if_pos (Nat.sub_lt (Nat.pos_of_ne_zero h0) Nat.one_pos), hq]
      have e2 : (rs.drop (i - 1)).take 1 = [q] := by
        have := List.drop_eq_getElem_cons (l := rs) (i := i - 1) hpl
        rw [this]
        have : rs[i - 1] = q := by rw [List.getElem?_eq_getElem hpl] at hq; exact Option.some.inj hq
        rw [this]; rfl
      rw [e1, e2]
      cases q <;> rfl
section
variable {w : World} {mg mb : PySem.Str → Option Value} {A : Around} {g : Heap} {L : Addr} {m : PySem.Str → Option Value} {news frs : List (Addr × Obj)} {s : Shared} {tk t2 t3 : Tok}
    {Q E : Value → Shared → Prop}
inductive RwI (D T : Addr) (news : List (Addr × Obj)) (rs : List (PySem.Str ⊕ Nat)) (i : Nat) (g' : Heap) (m' : PySem.Str → Option Value) (news' : List (Addr × Obj)) : Prop
  | mk  (ys : List Value) (ep : Nat) (_ : news' = (D, lstO ys ep) :: news) (_ : RowsAt g' ys (rowsOf (rs.take i))) (_ : m' "told" = some (.ref T)) (_ : m' "rows" = some (.ref D)) : RwI D T news rs i g' m' news'
theorem c_rows {T : Addr} {vs : List Value} {ep : Nat} {rs : List (PySem.Str ⊕ Nat)} (hT : g.get? T = some (lstO vs ep)) (hP : Paired (fun r v => ToldAt g v r) rs vs) (hl : vs.length ≤ 4096) (B : Bs w mg mb g) (S : Mine.St g L (news ++ frs) s.heap m) (Z : Ar A L frs 3)
   (hret : ∀ v D ys ep' g' frs' h' tk', v = .ref D → Sub g g' → Up frs frs' → g'.get? D = some (lstO ys ep') → RowsAt g' ys (rowsOf rs) → Mine.St g' L (news ++ frs') h' m → Q v { s with heap := h', toks := tk' }) :
   wpAny (model prg w) A (call (.ref 254) [.ref T]) Q E s := by
  have hTl : g.IsList T vs.toArray := ⟨_, hT, rfl, _, rfl⟩
  walk_at "enter"; walk_at "go"
  rename_i oL L1 h1 Lb S1 Z1 D h2 S2 h3 S3 g4 r h4 tk4 t4 u4 v4 k4 R4 S4
  refine range_iter S4 R4 (Sub.refl _) (by rw [List.size_toArray]; lia) ?_
  intro I o ob h5 W h0 S5
  (try k_fold)
  refine forLoop_S (L := L1) (frs := (L, oL) :: frs) (news := (D, lstO [] 0) :: news) (fun i g' m' news' => RwI D T news rs i g' m' news') Z1.hand W (fun _ => rfl) ?_ ?_ h0 S5 ?_
  · intro i v o3 g3 m3 news3 frs3 h6 tk6 hi hP hInv k3 hu3 S6
    (try k_fold)
    obtain ⟨ys, ep, rfl, hR, e1, e2⟩ := hInv
    obtain ⟨t6, rfl⟩ := hP
    have hi' : i < vs.length := by simpa using hi
    obtain ⟨v, hv⟩ : ∃ v, vs.toArray[i]? = some v := ⟨vs.toArray[i], by simp [hi]⟩
    obtain ⟨r, hr, hto⟩ := paired_get hP (by simpa using hv)
    cases r with
    | inl y =>
      obtain ⟨t7, rfl⟩ := hto
      walk_at "go"
      rename_i h7 S7
      refine ⟨g3, _, ((D, lstO ys ep) :: news), frs3, _, _, rfl, Sub.refl _, Up.refl _, S7, ys, ep, rfl, ?_, e1, e2⟩
      rw [List.take_add_one, hr]
      show RowsAt g3 ys (rowsFrom none (rs.take i ++ [.inl y]))
      rw [rowsFrom_snoc, List.append_nil]; exact hR
    | inr c =>
      obtain ⟨a, p, tx, ty, rfl, ha⟩ := hto
      have hat : IsTup g a #[.int p tx, .str ⟨#[c]⟩ ty] := ⟨_, ha, rfl, _, rfl⟩
      have ha3 := S6.keep _ _ (k3 _ _ (k4 _ _ ha))
      walk_at "go"
      rename_i h7 S7 g8 D8 h8 k8 e8 S8 h9 S9 D10 h10 S10
      obtain ⟨rs', hP8, hlen8, hrow⟩ := told_slice hP hi' hr
      generalize hxs : slicePick vs.toArray (some ((i : Int) - 1)) (some (i : Int)) none = xs at hP8 e8
      have hxs' : xs.size = rs'.length := by rw [hP8.length]; simp
      refine iter_list S10 e8 (Sub.refl _) ?_
      intro I2 o2 ob2 h11 W2 h02 S11
      (try k_fold)
      refine ⟨I2, g8, L1, _, ((D10, lstO _ 0) :: ((D, lstO ys ep) :: news ++ [(I, o3)])), frs3, _, _, _, ob2, o2, (fun j ws g' news' => g8 = g' ∧ (D10, lstO _ 0) :: ((D, lstO ys ep) :: news ++ [(I, o3)]) = news' ∧ ws.length ≤ j ∧ SignsAt ws ((rs'.take j).filterMap Sum.getRight?)), rfl, Z1.up hu3, W2, ?_, ?_, S11, h02, ⟨rfl, rfl, Nat.le_refl _, .nil⟩, fun _ => rfl, ?_, ?_⟩
      · rw [hxs', sizeLine_eq]; lia
      · rintro j ws g' news' ⟨_, _, hj, _⟩; exact hj
      · intro C2 D2 oL2 j v2 ws ep2 o4 g9 news9 fs9 h12 tk12 m9 hb9 hj hPv hInv k9 hu9 Z9 S12
        (try k_fold)
        obtain ⟨rfl, rfl, hjl, hsg⟩ := hInv
        clear k9
        obtain ⟨r2, hr2, hto2⟩ := paired_get hP8 (by simpa using hPv)
        cases r2 with
        | inl y2 =>
          obtain ⟨t8, rfl⟩ := hto2
          walk_at "go"
          rename_i h13 S13
          refine ⟨_, _, _, _, _, _, rfl, Sub.refl _, Up.refl _, S13, rfl, rfl, Nat.le_succ_of_le hjl, ?_⟩
          rw [List.take_add_one, hr2, List.filterMap_append]
          show SignsAt ws (_ ++ [])
          rw [List.append_nil]; exact hsg
        | inr c2 =>
          obtain ⟨a2, p2, tx2, ty2, rfl, ha2⟩ := hto2
          have hat2 : IsTup g a2 #[.int p2 tx2, .str ⟨#[c2]⟩ ty2] := ⟨_, ha2, rfl, _, rfl⟩
          walk_at "go"
          rename_i h13 S13
          refine ⟨_, _, _, _, _, _, rfl, Sub.refl _, Up.refl _, S13, rfl, rfl, by rw [List.length_append, List.length_singleton]; exact Nat.succ_le_succ hjl, ?_⟩
          rw [List.take_add_one, hr2, List.filterMap_append]
          exact signs_append hsg (.cons _ _ .nil)
      · intro D2 ws ep2 g9 news9 frs9 h12 tk12 hInv k9 hu9 S12
        (try k_fold)
        obtain ⟨rfl, rfl, hjl, hsg⟩ := hInv
        clear k9
        rw [hxs'] at hjl hsg
        refine addL_S S12 ⟨_, S12.nw _ (.tail _ (.head _)), rfl, _, rfl⟩ ⟨_, S12.nw _ (.head _), rfl, _, rfl⟩ (by rw [sizeLine_eq]; simp only [List.length]; lia) ?_
        intro D3 h13 S13
        (try k_fold)
        obtain ⟨g10, k10, S14, hD3⟩ := S13.settle
        have S15 : Mine.St g10 L1 ((D, lstO ys ep) :: ((news ++ [(I, o3)]) ++ frs9)) h13 _ := S14.drop.drop
        walk_at "go"
        refine append_S S15 (by rw [sizeLine_eq]; have := hR.length; have := rowsOf_le (rs.take i); rw [List.length_take] at this; lia) ?_
        intro h16 S16
        (try k_fold)
        walk_at "go"
        refine ⟨g10, _, ((D, lstO (ys ++ [Value.ref D3]) (ep + 1)) :: news), frs9, h16, _, rfl, k8.trans k10, hu9, S16, _, _, rfl, ?_, e1, e2⟩
        rw [hrow]
        refine rows_append (hR.keeps (k8.trans k10)) (.cons ⟨D3, _, _, rfl, hD3, signs_append (show SignsAt [Value.str ⟨#[c]⟩ ty] [c] from .cons _ _ .nil) ?_⟩ .nil)
        rw [List.take_length] at hsg
        exact hsg
  · intro g3 m3 news3 frs3 h6 tk6 hInv k3 hu3 S6
    (try k_fold)
    obtain ⟨ys, ep, rfl, hR, e1, e2⟩ := hInv
    rw [List.size_toArray, hP.length.symm, List.take_length] at hR
    obtain ⟨g5, k5, S7, hD⟩ := S6.settle
    walk_at "go"
    obtain ⟨_, hu, hS⟩ := leave Lb S7 hu3
    exact hret _ D ys ep g5 _ _ _ rfl ((k4.trans k3).trans k5) hu hD (hR.keeps k5) hS
  · exact ⟨[], 0, rfl, .nil, rfl, rfl⟩
end
end Mine

end
section
set_option maxHeartbeats 1000000
open PySem PySem.W PySem.W.X PyProof.Rows PySem.Calls PySem.Spec PySem.Builtin PySem.Builtin.Str
namespace Mine
/-- a sign that shlex leaves bare -/
noncomputable def safeC (c : Nat) : Bool := (48 ≤ c && c ≤ 57) || (65 ≤ c && c ≤ 90) || (97 ≤ c && c ≤ 122) || [95, 64, 37, 43, 61, 58, 44, 46, 47, 45].contains c
noncomputable def textS (c : Nat) : PySem.Str := if safeC c then ⟨#[c]⟩ else if c = 39 then PySem.Str.ofString "''\"'\"''" else PySem.Str.ofString "'" ++ ⟨#[c]⟩ ++ PySem.Str.ofString "'"
theorem lt1 (c d : Nat) (x : PySem.Str) (h : x = ⟨#[d]⟩) : ((⟨#[c]⟩ : PySem.Str).cps.toList < x.cps.toList) ↔ c < d := by
  subst h
  show [c] < [d] ↔ c < d
  rw [List.cons_lt_cons_iff]; simp
theorem lt2 (c d : Nat) (x : PySem.Str) (h : x = ⟨#[d]⟩) : (x.cps.toList < (⟨#[c]⟩ : PySem.Str).cps.toList) ↔ d < c := by
  subst h
  show [d] < [c] ↔ d < c
  rw [List.cons_lt_cons_iff]; simp
theorem eq1 (c : Nat) : ((⟨#[c]⟩ : PySem.Str) == PySem.Str.ofString "'") = decide (c = 39) := by
  rw [show PySem.Str.ofString "'" = ⟨#[39]⟩ by decide, Bool.eq_iff_iff, beq_iff_eq, decide_eq_true_eq]
  constructor
  · intro h; injection h with h; simpa using h
  · rintro rfl; rfl
theorem in1 (c : Nat) : (occurrences (PySem.Str.ofString "_@%+=:,./-") ⟨#[c]⟩ 0 (PySem.Str.ofString "_@%+=:,./-").length 1).isEmpty = !([95, 64, 37, 43, 61, 58, 44, 46, 47, 45].contains c) := by
  have := StrLaws.found_one (PySem.Str.ofString "_@%+=:,./-") c
  rw [show (PySem.Str.ofString "_@%+=:,./-").cps.toList = [95, 64, 37, 43, 61, 58, 44, 46, 47, 45] by decide] at this
  rw [← Bool.not_not (List.isEmpty _), this]
  congr 1
  rw [Bool.eq_iff_iff, decide_eq_true_eq, List.contains_iff_mem]
section
variable {w : World} {mg mb : PySem.Str → Option Value} {A : Around} {g : Heap} {L : Addr} {m : PySem.Str → Option Value} {news frs : List (Addr × Obj)} {s : Shared} {tk t2 t3 : Tok}
    {Q E : Value → Shared → Prop}
theorem c_text {c : Nat} (B : Bs w mg mb g) (S : Mine.St g L (news ++ frs) s.heap m) (Z : Ar A L frs 1)
   (hret : ∀ v t frs' h' tk', v = .str (textS c) t → Up frs frs' → Mine.St g L (news ++ frs') h' m → Q v { s with heap := h', toks := tk' }) :
   wpAny (model prg w) A (call (.ref 261) [.str ⟨#[c]⟩ t2]) Q E s := by
  walk_at "enter"; walk_at "go"
  all_goals (obtain ⟨_, hu, hS⟩ := leave (by assumption) (by assumption) (Up.refl _); refine hret _ _ _ _ _ (congrArg (fun a => Value.str a _) ?_) hu hS)
  all_goals (clear hret; simp only [lt1 c 48 (PySem.Str.ofString "0") (by decide), lt1 c 65 (PySem.Str.ofString "A") (by decide), lt1 c 97 (PySem.Str.ofString "a") (by decide), lt2 c 57 (PySem.Str.ofString "9") (by decide), lt2 c 90 (PySem.Str.ofString "Z") (by decide), lt2 c 122 (PySem.Str.ofString "z") (by decide), eq1, in1, decide_eq_true_eq, decide_eq_false_iff_not, Bool.not_eq_true', Bool.not_eq_false'] at *)
  all_goals (unfold textS safeC; simp only [Bool.or_eq_true, Bool.and_eq_true, decide_eq_true_eq])
  all_goals first
    | (exfalso; lia)
    | (rw [if_pos (by first | exact .inr (by assumption) | exact .inl (by lia))])
    | (rw [if_neg (by rintro (h | h); (first | lia | (exfalso; lia)); (rename (_ = false) => hf; rw [hf] at h; cases h)), if_pos (by assumption)])
    | (rw [if_neg (by rintro (h | h); (first | lia | (exfalso; lia)); (rename (_ = false) => hf; rw [hf] at h; cases h)), if_neg (by assumption)])
end
end Mine

end
section
open PySem PySem.W PySem.W.X PyProof.Rows PySem.Calls PySem.Spec
namespace Mine
noncomputable def codeQ : Array Nat := #[14, 17, 4, 1, 1, 21, 9, 0, 604043296, 1, 0, 0, 0, 0, 0, 8, 4, 0, 13, 14, 21, 9, 0, 604043296, 1, 0, 0, 0, 0, 0, 8, 4, 0, 1]
noncomputable def mQ (c : Nat) : Sre.M := (Sre.forSearch codeQ #[c] 0 0 1 false).runFor 4
noncomputable def outB (c : Nat) : Option Bool := match (mQ c).outcome with | some .matched => some true | some .failed => some false | _ => none
theorem out_0 : ∀ d, d < 64 → outB (64 * 0 + d) = some (!safeC (64 * 0 + d)) := by decide +kernel
theorem out_1 : ∀ d, d < 64 → outB (64 * 1 + d) = some (!safeC (64 * 1 + d)) := by decide +kernel
theorem out_2 : ∀ d, d < 64 → outB (64 * 2 + d) = some (!safeC (64 * 2 + d)) := by decide +kernel
theorem out_3 : ∀ d, d < 64 → outB (64 * 3 + d) = some (!safeC (64 * 3 + d)) := by decide +kernel
theorem out_low (c : Nat) (h : c < 256) : outB c = some (!safeC c) := by
  have e := Nat.div_add_mod c 64
  have hm := Nat.mod_lt c (show 64 > 0 by decide)
  have hd : c / 64 < 4 := Nat.div_lt_of_lt_mul h
  rw [← e]
  generalize c / 64 = q at hd
  rcases q with _ | _ | _ | _ | q
  · exact out_0 _ hm
  · exact out_1 _ hm
  · exact out_2 _ hm
  · exact out_3 _ hm
  · exact absurd hd (Nat.not_lt.mpr (Nat.le_add_left 4 q))
theorem out_high (k : Nat) : outB (k + 256) = some true := by kernel_rfl
theorem safe_high (k : Nat) : safeC (k + 256) = false := by
  unfold safeC
  simp
theorem out_all (c : Nat) : outB c = some (!safeC c) := by
  by_cases h : c < 256
  · exact out_low c h
  · obtain ⟨k, rfl⟩ : ∃ k, c = k + 256 := ⟨c - 256, (Nat.sub_add_cancel (Nat.not_lt.mp h)).symm⟩
    rw [out_high, safe_high]; rfl
theorem sig_search : Manifest.signature? "re.Pattern.search" = some ⟨.keywords, "Pattern.search", "search", .self, [⟨"string", .posOrKw, true⟩, ⟨"pos", .posOrKw, false⟩, ⟨"endpos", .posOrKw, false⟩]⟩ := by kernel_rfl
theorem kind_search : builtinKind "re.Pattern.search" = some .method := by decide +kernel
theorem va_search : Manifest.varargsMethods.contains "re.Pattern.search" = false := by decide +kernel
theorem chkA (x : Str) (t : Tok) : Bind.checkArgs "re.Pattern.search" ⟨.keywords, s!"{Bind.lastOf "re.Pattern"}.{Bind.lastOf "re.Pattern.search"}", "search", .self, [⟨"string", .posOrKw, true⟩, ⟨"pos", .posOrKw, false⟩, ⟨"endpos", .posOrKw, false⟩]⟩ ⟨[.ref 201, .str x t], []⟩ = pure () := by kernel_rfl
section
variable {prog : Program} {w : World} {A : Around} {E : Value → Shared → Prop} {s : Shared}
theorem chk {o : Obj} {x : Str} {t : Tok} {Q : Unit → Shared → Prop} {vs : Array Value} (h201 : s.heap.get? 201 = some o) (hc : o.cls = .type "re.Pattern") (hd : o.data = .fields vs) (h : Q () s) : wpAny (model prog w) A (checkBoundCall "re.Pattern.search" ⟨[.ref 201, .str x t], []⟩) Q E s := by
  have f1 : isSubtype (.type "re.Pattern") (.type "module") = pure false := by rw [isSubtype_type]; kernel_rfl
  have hT : s.TypeIs (.ref 201) "re.Pattern" := ⟨_, h201, hc⟩
  unfold checkBoundCall
  simp only [sig_search, kind_search, va_search]
  rw [if_neg (by decide)]
  refine wpAny_bind (wpAny_isInstance hT f1 ?_)
  simp only [Bool.or_false, Bool.false_eq_true, if_false]
  refine wpAny_bind (wpAny_bind ?_)
  refine wpAny_loadPart_at h201 ?_
  rw [hd]
  refine wpAny_pure ?_
  simp only [Bool.false_eq_true, if_false]
  refine wpAny_bind (wpAny_typeOf hT ?_)
  dsimp only
  exact wpAny_of_eq (chkA x t) h
end
theorem entry_search : entryFor table "re.Pattern.search" = some Builtin.«re.Pattern.search» := entryFor_of_tree (by kernel_rfl)
noncomputable abbrev patO : Obj := { cls := .type "re.Pattern", data := .fields #[.str (Str.ofString "[^\\w@%+=:,./-]") 574, .int 256 611, .int 0 0, .none, .none, .ref 200, .int 0 0] }
noncomputable abbrev bmO : Obj := { cls := .type "builtin_function_or_method", data := .fields #[.builtin "re.Pattern.search", .ref 201] }
noncomputable abbrev codeO : Obj := tupObj (codeQ.toList.map fun (n : Nat) => rawInt n)
theorem K209 (P : Params) : (Kf P).lookup 209 = some bmO := by kernel_rfl
theorem K201 (P : Params) : (Kf P).lookup 201 = some patO := by kernel_rfl
theorem K200 (P : Params) : (Kf P).lookup 200 = some codeO := by kernel_rfl
section
variable {prog : Program} {w : World} {A : Around} {E : Value → Shared → Prop} {s : Shared} {g g₀ : Heap} {L : Addr} {m mg mb : Str → Option Value} {news : List (Addr × Obj)} {Q : Value → Shared → Prop}
theorem search_call {c : Nat} {t : Tok} (h209 : s.heap.get? 209 = some bmO) (h201 : s.heap.get? 201 = some patO)
   (hq : wpAny (model prog w) A.in1 (Builtin.«re.Pattern.search» ⟨[.ref 201, .str ⟨#[c]⟩ t], []⟩) (fun fin s' => ∃ v, fin = .done (.ret v) ∧ Q v s') E s) : wpAny (model prog w) A (call (.ref 209) [.str ⟨#[c]⟩ t]) Q E s := by
  refine wpAny_call (codeAny_of_tree ?_)
  show wpAny _ A.in1 (callAny (.ref 209) ⟨[.str ⟨#[c]⟩ t], []⟩) _ _ _
  unfold callAny
  refine wpAny_bind (wpAny_load h209 ?_)
  dsimp only
  rw [if_pos (by decide)]
  show wpAny _ _ (do checkBoundCall "re.Pattern.search" ⟨[.ref 201, .str ⟨#[c]⟩ t], []⟩; again (.builtin "re.Pattern.search" ⟨[.ref 201, .str ⟨#[c]⟩ t], []⟩)) _ _ _
  refine wpAny_bind (chk h201 rfl rfl ?_)
  refine wpAny_pure ⟨plainId_quiet (by decide +kernel) _, codeAny_builtin entry_search ?_⟩
  rw [Around.under_plainId (by decide +kernel) _]
  refine wpAny_mono hq (fun fin s' h => ?_) fun _ _ x => x
  obtain ⟨v, rfl, hv⟩ := h
  exact hv
end
end Mine

end
section
open PySem PySem.W PySem.W.X PyProof.Rows PySem.Calls PySem.Spec
namespace Mine
theorem reNamed_search (x : Str) (t : Tok) : Builtin.Re.reNamed "re.Pattern.search" "search" ["string", "pos", "endpos"] 1 [.str x t] [] = pure [some (.str x t), none, none] := by kernel_rfl
section
variable {prog : Program} {w : World} {A : Around} {E : Value → Shared → Prop} {s : Shared} {g g₀ : Heap} {L : Addr} {m mg mb : Str → Option Value} {news : List (Addr × Obj)} {Q : Value → Shared → Prop}
theorem rules_pass {p : Nat → Bool} {f : Nat → String} {Q : PUnit → Shared → Prop} (h : Q PUnit.unit s) : ∀ l : List Nat,
    wpAny (model prog w) A (forIn l PUnit.unit fun i _ => if p i = true then do rule (f i); pure (ForInStep.yield PUnit.unit) else pure (ForInStep.yield PUnit.unit)) Q E s
  | [] => wpAny_pure h
  | i :: l => by
    rw [List.forIn_cons]
    refine wpAny_bind ?_
    split
    · exact wpAny_bind (wpAny_rule (wpAny_pure (rules_pass h l)))
    · exact wpAny_pure (rules_pass h l)
theorem target {c : Nat} {t : Tok} {Q : Builtin.Re.ReTarget → Shared → Prop} (h201 : s.heap.get? 201 = some patO) (h200 : s.heap.get? 200 = some codeO)
    (h : Q { pattern := .ref 201, string := .str ⟨#[c]⟩ t, code := codeQ, text := #[c], kind := 0, groups := 0, pos := 0, lim := 1 } s) :
    wpAny (model prog w) A (Builtin.Re.reTarget "re.Pattern.search" "search" ⟨[.ref 201, .str ⟨#[c]⟩ t], []⟩) Q E s := by
  unfold Builtin.Re.reTarget
  dsimp only
  refine wpAny_bind (wpAny_of_eq (reNamed_search _ _) ?_)
  dsimp only
  refine wpAny_bind (wpAny_pure (wpAny_bind (wpAny_pure (wpAny_bind ?_))))
  refine wpAny_fieldsOf h201 rfl ?_
  have eT : Builtin.Re.reTextOf (.str ⟨#[c]⟩ t) = pure (#[c], 0) := by kernel_rfl
  refine wpAny_bind (wpAny_of_eq eT ?_)
  dsimp only
  rw [if_neg (by decide), if_neg (by decide)]
  have eN : Builtin.Re.reNoCollectionInside (.str ⟨#[c]⟩ t) 0 = pure () := by kernel_rfl
  refine wpAny_bind (wpAny_of_eq eN (wpAny_bind ?_))
  show wpAny _ _ (Builtin.Re.reRawItems (.ref 200)) _ _ _
  unfold Builtin.Re.reRawItems
  refine wpAny_bind ?_
  unfold seqItems?
  refine wpAny_bind (wpAny_load h200 ?_)
  refine wpAny_pure (wpAny_pure (wpAny_pure ?_))
  have e : Array.map (fun x => x.toNat) (Array.map Builtin.Re.reRawOf ((some (codeQ.toList.map fun (n : Nat) => rawInt n).toArray : Option (Array Value)).getD #[])) = codeQ := by decide +kernel
  have z := h
  rw [← e] at z
  exact z
theorem drive_succ (n : Nat) (m : Sre.M) : Builtin.Re.reDrive (n + 1) m = (if (m.runFor 4).outcome.isSome then pure (m.runFor 4) else do rule "sre.turn"; Builtin.Re.reDrive n (m.runFor 4)) := rfl
theorem search_run {c : Nat} {t : Tok} {Q : Fin → Shared → Prop} (h201 : s.heap.get? 201 = some patO) (h200 : s.heap.get? 200 = some codeO) (S : St g L news s.heap m)
    (h1 : safeC c = true → Q (.done (.ret .none)) s) (h2 : safeC c = false → ∀ a h', St g L news h' m → Q (.done (.ret (.ref a))) { s with heap := h' }) :
    wpAny (model prog w) A (Builtin.«re.Pattern.search» ⟨[.ref 201, .str ⟨#[c]⟩ t], []⟩) Q E s := by
  unfold Builtin.«re.Pattern.search»
  refine wpAny_bind (target h201 h200 ?_)
  dsimp only
  unfold Builtin.Re.reAnswer
  refine wpAny_bind ?_
  unfold Builtin.Re.reRunToEnd
  refine wpAny_bind ?_
  have ho := out_all c
  have e64 : ∃ n, 2 ^ 64 = n + 1 := ⟨2 ^ 64 - 1, by decide⟩
  obtain ⟨n, e64⟩ := e64
  rw [e64, drive_succ]
  change wpAny _ _ (if (mQ c).outcome.isSome = true then pure (mQ c) else _) _ _ _
  have hs : (mQ c).outcome.isSome = true := by
    unfold outB at ho
    cases hq : (mQ c).outcome with
    | none => rw [hq] at ho; cases ho
    | some _ => rfl
  rw [if_pos hs]
  refine wpAny_pure (wpAny_bind (rules_pass ?_ _))
  unfold outB at ho
  generalize mQ c = M at ho hs ⊢
  cases hsafe : safeC c with
  | true =>
    rw [hsafe] at ho
    have : M.outcome = some .failed := by
      cases hq : M.outcome with
      | none => rw [hq] at ho; cases ho
      | some o => cases o <;> rw [hq] at ho <;> first | rfl | cases ho
    rw [this]
    exact wpAny_pure (wpAny_pure (h1 hsafe))
  | false =>
    rw [hsafe] at ho
    have : M.outcome = some .matched := by
      cases hq : M.outcome with
      | none => rw [hq] at ho; cases ho
      | some o => cases o <;> rw [hq] at ho <;> first | rfl | cases ho
    rw [this]
    refine wpAny_pure (wpAny_bind ?_)
    have e : Builtin.Re.reNewMatch (.ref 201) (.str ⟨#[c]⟩ t) 0 0 1 M = (do newFields "re.Match" [.str ⟨#[c]⟩ t, .ref 201, rawInt 0, rawInt 1, rawInt M.lastindex, ← newTuple [rawInt M.start, rawInt M.handed]]) := rfl
    rw [e]
    refine wpAny_bind (wpAny_newTuple ?_ (by rw [sizeLine_eq]; simp only [List.length]; lia))
    refine wpAny_newObj_type ?_ (by show (6 : Nat) ≤ _; rw [sizeLine_eq]; lia)
    refine wpAny_pure (h2 hsafe _ _ ((S.pushS _).pushS _))
/-- _find_unsafe of one sign -/
theorem search_S {c : Nat} {t : Tok} {Q : Value → Shared → Prop} (S : St g L news s.heap m) (B : Bs w mg mb g₀) (k : Sub g₀ g) (h1 : safeC c = true → Q .none s) (h2 : safeC c = false → ∀ a h', St g L news h' m → Q (.ref a) { s with heap := h' }) :
    wpAny (model prog w) A (call (.ref 209) [.str ⟨#[c]⟩ t]) Q E s := by
  have kk := k.trans S.keep
  have e1 := kk _ _ (B.X _ _ (K209 w.params))
  have e2 := kk _ _ (B.X _ _ (K201 w.params))
  have e3 := kk _ _ (B.X _ _ (K200 w.params))
  exact search_call e1 e2 (search_run e2 e3 S (fun h => ⟨_, rfl, h1 h⟩) fun h a h' S' => ⟨_, rfl, h2 h a h' S'⟩)
/-- a bound builtin as callee -/
noncomputable def BmAt (u : Addr) (o : Obj) (h : Heap) : Prop := h.get? u = some o
theorem callWith_BM {M : Model} {pos : Pos} {u : Addr} {o : Obj} {vs : Array Value} {first : List Value} {env : Env} {e : Expr} {rest : List Expr} {Q : Value → Shared → Prop} (hc : o.cls = .type "builtin_function_or_method" ∨ o.cls = .type "method-wrapper") (hd : o.data = .fields vs)
    (h : wpAny M A (spliced (backTo pos (starEach (e :: rest) env))) (fun vs s₁ => BmAt u o s₁.heap ∧ wpAny M A (call (.ref u) (first ++ vs)) Q E s₁) E s)
    (he : starEach (e :: rest) env = (false, eval e env) :: starEach rest env := by rfl) (hplain : (backTo pos (starEach rest env)).any (·.1) = false := by rfl) :
    wpAny M A (callWith pos (.ref u) first (backTo pos (starEach (e :: rest) env)) []) Q E s := by
  rw [he] at h ⊢
  have hp : ((backTo pos ((false, eval e env) :: starEach rest env)).any (·.1)) = false := by show (false || (backTo pos (starEach rest env)).any (·.1)) = false; rw [hplain]; rfl
  have h' : wpAny M A (evalArgs (.ref u) true (backTo pos ((false, eval e env) :: starEach rest env)) []) (fun x s₁ => BmAt u o s₁.heap ∧ wpAny M A (call (.ref u) (first ++ x.pos) x.kw) Q E s₁) E s := evalArgs_plain (Q := fun x s₁ => BmAt u o s₁.heap ∧ wpAny M A (call (.ref u) (first ++ x.pos) x.kw) Q E s₁) h
  unfold callWith
  refine wpAny_bind (wpAny_holding (wpAny_mono h' (fun x s₁ h₁ => wpAny_bind (wpAny_standAt ?_)) fun _ _ x => x))
  obtain ⟨ho, hcall⟩ := h₁
  simp only [hp, List.any_nil, Bool.or_false]
  refine wpAny_bind (m := keeperOf (.ref u)) ?_
  unfold keeperOf
  refine wpAny_bind (wpAny_load ho ?_)
  rw [hd]
  dsimp only
  have c1 : (o.cls != .type "method") = true := by rcases hc with h | h <;> rw [h] <;> decide
  have c2 : (o.cls == .type "builtin_function_or_method" || o.cls == .type "method-wrapper") = true := by rcases hc with h | h <;> rw [h] <;> decide
  simp only [c1, c2, if_true]
  refine wpAny_pure ?_
  exact wpAny_bind (wpAny_mono hcall (fun r s₂ hr => wpAny_bind (wpAny_holding (wpAny_point (wpAny_pure hr)))) fun _ _ x => x)
end
end Mine

end
section
set_option maxHeartbeats 1000000
open PySem PySem.W PySem.W.X PyProof.Rows PySem.Calls PySem.Spec PySem.Builtin PySem.Builtin.Str
namespace Mine
theorem leave0 {g' h' : Heap} {L L' : Addr} {m m' : PySem.Str → Option Value} {news' frs : List (Addr × Obj)} {oL : Obj} (hb : Bears oL m) (S' : Mine.St g' L' (news' ++ (L, oL) :: frs) h' m') : Mine.St g' L (news' ++ frs) h' m := by
  have hp : (news' ++ (L, oL) :: frs).Perm ((L, oL) :: (news' ++ frs)) := List.perm_middle
  have S2 := S'.perm hp
  have nd := List.nodup_cons.mp S2.nd
  exact ⟨hb.ns (S2.nw _ (.head _)), S2.keep, S2.ng _ (.head _), fun p q => S2.nw p (.tail _ q), fun p q z => nd.1 (by show L ∈ _; rw [← z]; exact List.mem_map_of_mem (f := (·.1)) q), fun p q => S2.ng p (.tail _ q), nd.2⟩
theorem occ1 (c : Nat) (h : c ≠ 39) (lim : Nat) : occurrences ⟨#[c]⟩ ⟨#[39]⟩ 0 1 lim = [] := by
  rw [StrLaws.occ_eq]
  have h0 : subAt ⟨#[c]⟩ ⟨#[39]⟩ 0 = false := by
    rw [StrLaws.subAt_eq]
    simp [PySem.Str.length, h]
  show (forIn [0, 1] ((#[] : Array Nat), 0) (StrLaws.occBody ⟨#[c]⟩ ⟨#[39]⟩ 1 lim)).run.fst.toList = []
  simp [StrLaws.occBody, h0, PySem.Str.length]
theorem rep_one' (c : Nat) (h : c ≠ 39) (z : PySem.Str) : Txt.replace ⟨#[c]⟩ ⟨#[39]⟩ z = ⟨#[c]⟩ := by
  rw [StrLaws.replace_one]
  have : Txt.split ⟨#[c]⟩ ⟨#[39]⟩ = [⟨#[c]⟩] := by
    unfold Txt.split
    split
    · rfl
    · split
      · rfl
      · show partsBetween ⟨#[c]⟩ (occurrences ⟨#[c]⟩ ⟨#[39]⟩ 0 1 _) _ = _
        rw [occ1 c h]
        rfl
  rw [this]
  rfl
theorem rep_one (c : Nat) : Txt.replace ⟨#[c]⟩ (PySem.Str.ofString "'") (PySem.Str.ofString "'\"'\"'") = if c = 39 then PySem.Str.ofString "'\"'\"'" else ⟨#[c]⟩ := by
  by_cases h : c = 39
  · subst h; decide +kernel
  · rw [if_neg h, show PySem.Str.ofString "'" = ⟨#[39]⟩ by decide]
    exact rep_one' c h _
section
variable {prog : Program} {w : World} {A : Around} {s : Shared} {mg mb : PySem.Str → Option Value}
/-- into a def of the text, from surroundings whose frames are not known: the whole heap is the base -/
theorem enterQ {R : Result → Shared → Prop} {f : Addr} {name qual : PySem.Str} {params : Arguments} {body : List Stmt} {scope : Scope} {dV kV doc pm cdv ct oc : Value} {an od : Option Addr} {osl : Array (Option Value)} {args : List Value}
    (B : Bs w mg mb s.heap) (hroom : A.depth + 2 < recursionLimit)
    (ho : (Kf w.params).lookup f = some ⟨oc, od, .func (fnOf name qual params body scope dV kV doc pm an cdv ct), osl⟩) (hcd : codeIn (Kf w.params) cdv qual = true)
    (hbind : bindArgs (fnOf name qual params body scope dV kV doc pm an cdv ct) ⟨args, []⟩ = pure ((params.args.map (·.arg)).zip args)) (hloc : ∀ y ∈ (params.args.map (·.arg)).zip args, scope.names.lookup y.1 = some .local)
    (h : ∀ L' h₁, Mine.St s.heap L' [] h₁ (fun x => ((params.args.map (·.arg)).zip args).reverse.lookup x) →
      wpAny (model prog w) (A.deeper (envX qual scope L' f cdv [])) (execs body (envX qual scope L' f cdv [])) (fun fl s' => R (.ok (.ret (match fl with | .ret v => v | _ => .none))) s')
        (fun e s' => wpAny (model prog w) (A.deeper (envX qual scope L' f cdv [])) (leaving (envX qual scope L' f cdv []) e) (fun _ s'' => R (.error e) s'') (fun e' s'' => R (.error e') s'') s')
        { s with heap := h₁, toks := s.toks + ((params.args.map (·.arg)).zip args).length })
    (hco : scope.isCoroutine = false := by rfl) (hgen : scope.isGenerator = false := by rfl) (hk : scope.kind = .function := by rfl)
    (hcell : ∀ x ∈ scope.names, x.2 ≠ .cell := by decide) : codeAny (model prog w) A (.call (.ref f) ⟨args, []⟩) R s := by
  refine codeAny_call_def (by lia) (B.X _ _ ho) rfl B.nolimit (codeRec_of B.X hcd) rfl (BindsTo.of_eq hbind) hcell hloc (fun h₁ hns hk₁ => ?_) hco hgen hk
  refine h s.heap.objs.size h₁ ⟨hns, hk₁, ?_, fun p hp => (nomatch hp), fun p hp => (nomatch hp), fun p hp => (nomatch hp), List.nodup_nil⟩
  cases q : s.heap.get? s.heap.objs.size with
  | none => rfl
  | some o' => exact absurd (Heap.lt_size q) (Nat.lt_irrefl _)
end
section
variable {w : World} {mg mb : PySem.Str → Option Value} {A : Around} {g : Heap} {L : Addr} {m : PySem.Str → Option Value} {news frs : List (Addr × Obj)} {s : Shared} {tk t2 t3 : Tok}
    {Q E : Value → Shared → Prop}
theorem c_quote {c : Nat} (B : Bs w mg mb s.heap) (hroom : A.depth + 2 < recursionLimit)
   (hret : ∀ v t h' tk', v = .str (textS c) t → Sub s.heap h' → Q v { s with heap := h', toks := tk' }) :
   wpAny (model prg w) A (call (.ref 216) [.str ⟨#[c]⟩ t2]) Q E s := by
  refine wpAny_call ?_
  k_dflt (refine' enterQ ?k1 ?k3 ?k6 ?k7 ?k9 ?kB ?_ ?c2 ?c3 ?c4 ?c5; (case k1 => k_asm); (case k3 => k_asm); (case k6 => k_is); (case k7 => k_is); (case k9 => exact rfl); (case c5 => decide); (case kB => exact locs rfl); (case c2 => exact rfl); (case c3 => exact rfl); (case c4 => exact rfl); k_whole; intro L1 h1 S1; (try dsimp only [List.map, List.zip, List.zipWith, List.reverse, List.reverseAux, List.length] at S1 ⊢); (try k_fold))
  walk_at "go"
  · rename_i hne
    refine callWith_BM (o := bmO) (.inl rfl) rfl ?_
    walk_at "go"
    · exact S1.keep _ _ (B.X _ _ (K209 w.params))
    refine search_S (c := c) S1 B (Sub.refl _) (fun hs => ?_) fun hs a h' S' => ?_
    · walk_at "go"
      refine hret _ _ _ _ (congrArg (fun a => Value.str a _) ?_) S1.keep
      unfold textS; rw [if_pos hs]
    · walk_at "go"
      have hr := rep_one c
      have hrl : (Txt.replace ⟨#[c]⟩ (PySem.Str.ofString "'") (PySem.Str.ofString "'\"'\"'")).length ≤ 10 := by
        rw [hr]; split
        · decide
        · exact (by decide : 1 ≤ 10)
      walk_at "go"
      refine hret _ _ _ _ (congrArg (fun a => Value.str a _) ?_) S'.keep
      unfold textS
      rw [if_neg (by rw [hs]; decide), hr]
      split
      · decide
      · rfl
  · rename_i hne
    exact absurd hne (by simp [PySem.Str.length])
end
end Mine

end
section
open PySem PySem.W PySem.W.X PyProof.Rows PySem.Calls PySem.Spec
namespace Mine
/-- the machine comes from one state to another (up to what frames keep), calm all the way -/
noncomputable def Go (p : Program) (w : World) (s : Shared) (t : Thread) (s' : Shared) (t' : Thread) : Prop :=
  ∃ n s₂ t₂, runN (denote table) p w n s t = .running s₂ t₂ ∧ s₂.forget = s'.forget ∧ t₂.forget = t'.forget ∧ ∀ k, k < n → ∀ s₁ t₁, runN (denote table) p w k s t = .running s₁ t₁ → t₁.calm = true
section
variable {p : Program} {w : World} {s s' s'' : Shared} {t t' t'' : Thread}
theorem Go.refl : Go p w s t s t := ⟨0, s, t, rfl, rfl, rfl, fun k hk => absurd hk (Nat.not_lt_zero _)⟩
theorem runN_add (den : Code → Sem Fin) : ∀ (n m : Nat) (s : Shared) (t : Thread) (s' : Shared) (t' : Thread), runN den p w n s t = .running s' t' → runN den p w (n + m) s t = runN den p w m s' t'
  | 0, m, s, t, s', t', h => by
    obtain ⟨rfl, rfl⟩ : s = s' ∧ t = t' := by injection h with a b; exact ⟨a, b⟩
    rw [Nat.zero_add]
  | n + 1, m, s, t, s', t', h => by
    rw [show n + 1 + m = n + m + 1 from Nat.succ_add n m]
    simp only [runN] at h ⊢
    cases hs : step den p w s t with
    | halt o s₁ => rw [hs] at h; cases h
    | go s₁ t₁ => rw [hs] at h; exact runN_add den n m s₁ t₁ s' t' h
theorem runN_fg {n : Nat} {s₁ s₂ : Shared} {t₁ t₂ : Thread} (hs : s₁.forget = s₂.forget) (ht : t₁.forget = t₂.forget) {a : Shared} {b : Thread} (h : runN (denote table) p w n s₁ t₁ = .running a b) :
    ∃ a' b', runN (denote table) p w n s₂ t₂ = .running a' b' ∧ a'.forget = a.forget ∧ b'.forget = b.forget := by
  have e := runN_same (denote table) p w n hs ht
  rw [h] at e
  cases hr : runN (denote table) p w n s₂ t₂ with
  | halted o s₂ => rw [hr] at e; cases e
  | running a' b' => rw [hr] at e; simp only [Run.forget] at e; injection e with e1 e2; exact ⟨a', b', rfl, e1.symm, e2.symm⟩
theorem Go.trans (x : Go p w s t s' t') (y : Go p w s' t' s'' t'') : Go p w s t s'' t'' := by
  obtain ⟨n, s₂, t₂, h1, h2, h3, h4⟩ := x
  obtain ⟨m, s₃, t₃, k1, k2, k3, k4⟩ := y
  obtain ⟨a, b, r1, r2, r3⟩ := runN_fg h2.symm h3.symm k1
  refine ⟨n + m, a, b, (runN_add _ n m s t s₂ t₂ h1).trans r1, r2.trans k2, r3.trans k3, fun k hk s₁ t₁ hr => ?_⟩
  by_cases hkn : k < n
  · exact h4 k hkn s₁ t₁ hr
  · obtain ⟨j, rfl⟩ : ∃ j, k = n + j := Nat.exists_eq_add_of_le (Nat.not_lt.mp hkn)
    rw [runN_add _ n j s t s₂ t₂ h1] at hr
    obtain ⟨a', b', q1, q2, q3⟩ := runN_fg h2 h3 hr
    have := k4 j (Nat.lt_of_add_lt_add_left hk) a' b' q1
    rw [← Thread.calm_forget, ← q3, Thread.calm_forget]; exact this
theorem Go.step1 (hc : t.calm = true) (h : step (denote table) p w s t = .go s' t') : Go p w s t s' t' :=
  ⟨1, s', t', by simp only [runN, h], rfl, rfl, fun k hk s₁ t₁ hr => by
    obtain rfl : k = 0 := Nat.lt_one_iff.mp hk
    injection hr with a b; exact b ▸ hc⟩
/-- a run of n steps on a tree of objects, calm all the way -/
noncomputable def goT (tb : String → Option Builtin) (p : Program) (w : World) : Nat → SharedT → Thread → Option (SharedT × Thread)
  | 0, s, t => some (s, t)
  | n + 1, s, t => match PySem.W.Fast.tw2348191978395082540 t with
    | false => none
    | true => match PySem.W.Fast.tw10156331382660048174 (PySem.W.Fast.tw11892475500146522536 tb) p w s t with
      | some (s', t') => goT tb p w n s' t'
      | none => none
/-- the library's quick twins of the step, the codes, the table -/
theorem quick_step (p : Program) (w : World) (s : SharedT) (t : Thread) : PySem.W.Fast.tw10156331382660048174 (PySem.W.Fast.tw11892475500146522536 PySem.W.Fast.tw14364793385576792824) p w s t = stepT (denote treeTable) p w s t := by
  rw [← PySem.W.Fast.te10156331382660048174, ← PySem.W.Fast.te11892475500146522536, ← PySem.W.Fast.te14364793385576792824]
theorem go_of_goT : ∀ {n : Nat} {s s' : SharedT} {t t' : Thread}, goT PySem.W.Fast.tw14364793385576792824 p w n s t = some (s', t') → Go p w s.abs t s'.abs t'
  | 0, s, s', t, t', h => by
    obtain ⟨rfl, rfl⟩ : s = s' ∧ t = t' := by simpa [goT] using h
    exact .refl
  | n + 1, s, s', t, t', h => by
    unfold goT at h
    rw [← PySem.W.Fast.te2348191978395082540] at h
    cases hc : t.calm with
    | false => rw [hc] at h; cases h
    | true =>
      rw [hc] at h
      simp only [quick_step] at h
      cases hs : stepT (denote treeTable) p w s t with
      | none => rw [hs] at h; cases h
      | some x =>
        obtain ⟨s₁, t₁⟩ := x
        rw [hs] at h
        have e := stepT_spec hs
        rw [← table_eq_tree] at e
        exact (Go.step1 hc e).trans (go_of_goT h)
theorem runNI_go {n : Nat} : ∀ {s : Shared} {t : Thread} {s' : Shared} {t' : Thread}, runNI (denote table) p w n s t = .running s' t' → Go p w s t s' t' := by
  induction n with
  | zero => intro s t s' t' h; obtain ⟨rfl, rfl⟩ : s = s' ∧ t = t' := by injection h with a b; exact ⟨a, b⟩
            exact .refl
  | succ n ih =>
    intro s t s' t' h
    simp only [runNI] at h
    cases hl : t.loud with
    | true => simp only [stepI_loud _ _ _ hl] at h; cases h
    | false =>
      simp only [stepI_quiet _ _ _ hl] at h
      cases hs : stepK (denote table) p w s t with
      | halt o s₁ => rw [hs] at h; cases h
      | go s₁ t₁ =>
        rw [hs] at h
        have hcalm : t.calm = true := by
          rw [Thread.calm_eq, hl]
          cases hr : t.refused with
          | false => rfl
          | true =>
            obtain ⟨what, e⟩ := stepK_refused (denote table) p w (s := s) hr
            rw [e] at hs; cases hs
        have e := stepK_forget (denote table) p w s t
        rw [hs] at e
        refine Go.trans (s' := s₁) (t' := t₁) ?_ (ih h)
        cases hr : step (denote table) p w s t with
        | halt o s₂ => rw [hr] at e; cases e
        | go s₂ t₂ =>
          rw [hr] at e
          simp only [Step.forget] at e
          injection e with e1 e2
          refine ⟨1, s₂, t₂, by simp only [runN, hr], e1.symm, e2.symm, fun k hk s₃ t₃ hr => ?_⟩
          obtain rfl : k = 0 := Nat.lt_one_iff.mp hk
          injection hr with a b; exact b ▸ hcalm
/-- a code by its contract, upon any stack -/
theorem go_code {A : Around} {c : Code} {R : Result → Shared → Prop} {pos : Pos} {base : List Frame} (h : codeAny (model p w) A c R s) (hb : (Ctx.of c base).Below A) :
    ∃ r s' c' p', R r s' ∧ Go p w s ⟨denote table c, c, pos, base⟩ s' ⟨leafOf r, c', p', base⟩ := by
  have h1 := h (Ctx.of c base) pos rfl hb
  rw [wpCode_iff_wp] at h1
  obtain ⟨n, r, s', c', p', hn, hR⟩ := wp_runN (M := model p w) (base := base) (c := c) h1
  exact ⟨r, s', c', p', hR, runNI_go hn⟩
theorem through_forget {t t' : Thread} (h3 : t.forget = t'.forget) (ht : through t' = true) : through t = true := by
  obtain ⟨c1, d1, p1, st1⟩ := t
  obtain ⟨c2, d2, p2, st2⟩ := t'
  simp only [Thread.forget, Thread.mk.injEq] at h3
  obtain ⟨rfl, _, _, h3⟩ := h3
  unfold through at ht ⊢
  obtain ⟨a, b⟩ := Bool.and_eq_true_iff.mp ht
  have : st2 = [] := by simpa using a
  subst this
  have : st1 = [] := by cases st1 with
    | nil => rfl
    | cons f r => cases h3
  subst this
  exact ht
theorem cur_done {c : Sem Fin} (b : (match c with | .pure (.done _) => true | _ => false) = true) : ∃ f, c = .pure (.done f) := by
  cases c with
  | pure f =>
    cases f with
    | done f => exact ⟨f, rfl⟩
    | again c => cases b
  | _ => cases b
theorem through_done {t : Thread} (h : through t = true) : ∃ f d p, t = ⟨.pure (.done f), d, p, []⟩ := by
  obtain ⟨c, d, p, st⟩ := t
  unfold through at h
  obtain ⟨a, b⟩ := Bool.and_eq_true_iff.mp h
  obtain rfl : st = [] := by simpa using a
  obtain ⟨f, rfl⟩ := cur_done b
  exact ⟨f, d, p, rfl⟩
theorem halt_of {s : Shared} {t : Thread} (h : through t = true) (hg : s.gens = #[]) : ∃ o, step (denote table) p w s t = .halt o s ∧ ∀ what, o ≠ .unsupported what := by
  obtain ⟨f, d, q, rfl⟩ := through_done h
  obtain ⟨heap, gens, drawn, toks, os⟩ := s
  simp only at hg
  subst hg
  exact ⟨.done f, by simp only [step, finish]; exact if_neg (by simp [leftWithCleanup]), fun what q => by cases q⟩
/-- the end: the scheduler comes to it too -/
theorem Go.sched (hz : s.asleep) (x : Go p w s t s' t') (ht : through t' = true) (hg : s'.gens = #[]) (hc : t'.calm = true) :
    ∃ n t₁, schedN (denote table) p w n (.single s t) = .running (.single s' t₁) ∧ through t₁ = true := by
  obtain ⟨n, s₂, t₂, h1, h2, h3, h4⟩ := x
  obtain rfl : s₂ = s' := Shared.eq_of_forget_eq h2 hg
  have ht₂ : through t₂ = true := through_forget h3 ht
  have hc₂ : t₂.calm = true := by rw [← Thread.calm_forget, h3, Thread.calm_forget]; exact hc
  obtain ⟨o, ho, hne⟩ := halt_of (p := p) (w := w) ht₂ hg
  have past : ∀ j, runN (denote table) p w (n + (j + 1)) s t = .halted o s₂ := fun j => by
    rw [runN_add _ n (j + 1) s t s₂ t₂ h1]
    simp only [runN, ho]
  refine ⟨n, t₂, ?_, ht₂⟩
  rw [schedN_eq_runN (denote table) p w s t hz ⟨fun k s₁ t₁ hk => ?_, fun k s₁ hk => ?_⟩ n, h1]
  · rfl
  · rcases Nat.lt_trichotomy k n with q | q | q
    · exact h4 k q s₁ t₁ hk
    · subst q; rw [h1] at hk; injection hk with a b; exact b ▸ hc₂
    · obtain ⟨j, rfl⟩ : ∃ j, k = n + (j + 1) := Nat.exists_eq_add_of_lt q
      rw [past j] at hk; cases hk
  · rcases Nat.lt_or_ge n k with q | q
    · obtain ⟨j, rfl⟩ : ∃ j, k = n + (j + 1) := Nat.exists_eq_add_of_lt q
      rw [past j] at hk; injection hk with a b; exact hne _ a
    · obtain ⟨j, rfl⟩ : ∃ j, n = k + j := Nat.exists_eq_add_of_le q
      have := runN_mono (denote table) p w k j s t _ s₁ hk
      rw [h1] at this; cases this
end
/-- a tree of a list's objects -/
noncomputable def ofFn : Nat → (Nat → Option Obj) → BT
  | 0, _ => .nil
  | n + 1, f => match f 0 with
    | none => .nil
    | some o => .node o (ofFn n fun j => f (2 * j + 1)) (ofFn n fun j => f (2 * j + 2))
theorem get_ofFn : ∀ (n : Nat) (f : Nat → Option Obj), (∀ a b, a ≤ b → (f b).isSome = true → (f a).isSome = true) → ∀ i, i + 1 < 2 ^ n → (ofFn n f).get i = f i
  | 0, f, _, i, h => by simp at h
  | n + 1, f, hf, i, h => by
    unfold ofFn
    cases h0 : f 0 with
    | none =>
      have : f i = none := by
        cases q : f i with
        | none => rfl
        | some o => have := hf 0 i (Nat.zero_le _) (by rw [q]; rfl); rw [h0] at this; cases this
      rw [this]; rfl
    | some o =>
      show (BT.node o _ _).get i = _
      rw [BT.get_node]
      rw [Nat.pow_succ] at h
      by_cases hi : i = 0
      · subst hi; rw [if_pos rfl, h0]
      · rw [if_neg hi]
        by_cases ho : i % 2 = 1
        · rw [if_pos ho, get_ofFn n _ (fun a b hab => hf _ _ (Nat.succ_le_succ (Nat.mul_le_mul_left 2 hab))) _ (odd_half h ho)]
          congr 1; exact odd_back ho
        · rw [if_neg ho, get_ofFn n _ (fun a b hab => hf _ _ (Nat.succ_le_succ (Nat.succ_le_succ (Nat.mul_le_mul_left 2 hab)))) _ (even_half h hi ho)]
          congr 1; exact even_back hi ho
noncomputable def toT (s : Shared) : SharedT := ⟨ofFn 10 (fun i => s.heap.objs.toList[i]?), s.heap.objs.size, s.heap.life, s.gens, s.drawn, s.toks, s.os⟩
theorem abs_toT {s : Shared} (h : s.heap.objs.size < 1000) : (toT s).abs = s := by
  obtain ⟨⟨objs, life⟩, gens, drawn, toks, os⟩ := s
  unfold toT SharedT.abs absHeap BT.list
  simp only [Shared.mk.injEq, Heap.mk.injEq, and_true]
  refine Array.ext' ?_
  refine List.ext_getElem? fun i => ?_
  show ((List.range objs.size).map _)[i]? = objs.toList[i]?
  rw [List.getElem?_map]
  by_cases hi : i < objs.size
  · rw [List.getElem?_range hi]
    simp only [Option.map_some]
    have h : objs.size < 1000 := h
    rw [get_ofFn 10 _ (fun a b hab hb => ?_) i (Nat.lt_of_le_of_lt hi (Nat.lt_trans h (by decide)))]
    · rw [List.getElem?_eq_getElem (by simpa using hi)]; rfl
    · have : b < objs.toList.length := by
        cases q : objs.toList[b]? with
        | none => rw [q] at hb; cases hb
        | some o => exact (List.getElem?_eq_some_iff.mp q).1
      rw [List.getElem?_eq_getElem (Nat.lt_of_le_of_lt hab this)]; rfl
  · rw [List.getElem?_eq_none (by simpa using hi), List.getElem?_eq_none (by simpa using hi)]; rfl
end Mine

end
section
open PySem PySem.W PySem.W.X PyProof.Rows PySem.Calls PySem.Spec PySem.Builtin PySem.Builtin.Str
namespace Mine
section
variable {prog : Program} {w : World} {A : Around} {E : Value → Shared → Prop} {s : Shared}
/-- a frozenset of signs -/
noncomputable def FzOf (prog : Program) (w : World) (h : Heap) (a : Addr) (l : List Nat) : Prop := ∃ es ep t, h.get? a = some { cls := .type "frozenset", data := .set es ep t } ∧ ElemsOf (PySem.strKind prog w) es.toList ∧
  (∀ k : PySem.Str, (∃ e ∈ es.toList, (PySem.strKind prog w).is k e.2 = true) ↔ ∃ c, k = ⟨#[c]⟩ ∧ c ∈ l) ∧ es.size ≤ l.length ∧ t.fits es.size = true
theorem FzOf.at {h h' : Heap} {a : Addr} {l : List Nat} (x : FzOf prog w h a l) (e : h'.get? a = h.get? a) : FzOf prog w h' a l := by
  obtain ⟨es, ep, t, e1, r⟩ := x
  exact ⟨es, ep, t, e.trans e1, r⟩
theorem fz_store {h : Heap} {a : Addr} {es es' : Array (Int × Value)} {ep : Nat} {t t' : SetTable} (ho : h.get? a = some { cls := .type "frozenset", data := .set es ep t }) :
    (h.update a (Obj.putSet es' t')).get? a = some { cls := .type "frozenset", data := .set es' (ep + 1) t' } := by
  have := Heap.get?_update_self (Obj.putSet es' t') ho (by rw [putSet_of es' t' rfl]; rfl)
  rw [putSet_of es' t' rfl] at this; exact this
theorem fz_tail {g : Bool → Sem Unit} (hg : ∀ (b : Bool) (s₁ : Shared) (Q' : Unit → Shared → Prop), Q' () s₁ → wpAny (model prog w) A (g b) Q' E s₁)
    {a : Addr} {es : Array (Int × Value)} {ep : Nat} {t : SetTable} (ho : s.heap.get? a = some { cls := .type "frozenset", data := .set es ep t })
    {es1 : Array (Int × Value)} {t2 : SetTable} (hb1 : es1.size < scanBound) (hf2 : t2.fits es1.size = true) {wasDummy : Bool} {R : Option Bool → Shared → Prop}
    (h : ∀ h' es' ep' t', Heap.SameBut a s.heap h' → h'.get? a = some { cls := .type "frozenset", data := .set es' ep' t' } → es'.toList.Perm es1.toList → t'.fits es'.size = true → R (some true) { s with heap := h' }) :
    wpAny (model prog w) A (do
        storeSet a es1 t2
        if (!wasDummy && t2.tooFull) = true then do
            g (relayAll t2 es1 (SetTable.grown es1.size)).2.2
            storeSet a (relayAll t2 es1 (SetTable.grown es1.size)).1 (relayAll t2 es1 (SetTable.grown es1.size)).2.1
            pure (some true)
          else pure (some true)) R E s := by
  refine wpAny_bind (wpAny_storeSet_of ho rfl ?_ (fits_of_scanBound hb1))
  have ho1 := fz_store (es' := es1) (t' := t2) ho
  have hsb1 := Heap.SameBut.update s.heap a (Obj.putSet es1 t2)
  split
  · have hp := relayAll_perm t2 es1 (SetTable.grown es1.size)
    have hfr := relayAll_fits t2 es1 (SetTable.grown es1.size)
    generalize hRl : relayAll t2 es1 (SetTable.grown es1.size) = Rl at hp hfr ⊢
    obtain ⟨es2, t3, gave2⟩ := Rl
    dsimp only at hp hfr ⊢
    have hsz : es2.size = es1.size := by rw [← Array.length_toList, hp.length_eq, Array.length_toList]
    refine wpAny_bind (hg _ _ _ ?_)
    refine wpAny_bind (wpAny_storeSet_of ho1 rfl ?_ (fits_of_scanBound (by rw [hsz]; exact hb1)))
    exact wpAny_pure (h _ es2 _ t3 (hsb1.trans (Heap.SameBut.update _ a _)) (fz_store ho1) hp hfr)
  · exact wpAny_pure (h _ es1 _ t2 hsb1 ho1 (List.Perm.refl _) hf2)
/-- one more sign -/
theorem fz_add {a : Addr} {l : List Nat} {c : Nat} {tk : Tok} {Q : Bool → Shared → Prop} (hS : FzOf prog w s.heap a l) (hroom : l.length + 1 < scanBound)
    (h : ∀ b h', Heap.SameBut a s.heap h' → FzOf prog w h' a (l ++ [c]) → Q b { s with heap := h' }) :
    wpAny (model prog w) A (setAddHashed a (.str ⟨#[c]⟩ tk) ((PySem.strKind prog w).hash ⟨#[c]⟩)) Q E s := by
  obtain ⟨es, ep, t, ho, hel, hmem, hb, hf⟩ := hS
  have hkey := strKind_is prog w ⟨#[c]⟩ tk
  have hb1 : es.size + 1 < scanBound := by lia
  unfold setAddHashed setAddHashedIn
  refine wpAny_holding (wpAny_bind (wpAny_setState_of ho rfl hf ?_))
  dsimp only
  rw [byScan_of (by rfl) (by lia) hel]
  simp only [↓reduceIte]
  unfold setAddByScan
  refine wpAny_bind ?_
  refine wpAny_bind (wpAny_rule ?_)
  refine wpAny_bind (wpAny_setScan_of hkey ho rfl hf hel ?_)
  cases hr : List.findIdx? (fun e => (PySem.strKind prog w).is ⟨#[c]⟩ e.2) es.toList with
  | some j =>
    dsimp only
    obtain ⟨hj, hpj, _⟩ := List.findIdx?_eq_some_iff_getElem.mp hr
    obtain ⟨c', e1, e2⟩ := (hmem ⟨#[c]⟩).mp ⟨es.toList[j], List.getElem_mem hj, hpj⟩
    have ec : c = c' := by injection e1 with e1; injection e1 with e1; injection e1
    refine wpAny_pure (wpAny_pure ?_)
    have e : s = { s with heap := s.heap } := by cases s; rfl
    rw [e]
    refine h _ s.heap (Heap.SameBut.refl a s.heap) ⟨es, ep, t, ho, hel, fun k => (hmem k).trans ⟨fun ⟨d, q1, q2⟩ => ⟨d, q1, List.mem_append_left _ q2⟩, fun ⟨d, q1, q2⟩ => ⟨d, q1, ?_⟩⟩, by rw [List.length_append]; lia, hf⟩
    rcases List.mem_append.mp q2 with q | q
    · exact q
    · rw [List.mem_singleton.mp q, ec]; exact e2
  | none =>
    dsimp only
    have hgw : ∀ (b : Bool) {s₁ : Shared} {Q' : Unit → Shared → Prop}, Q' () s₁ → wpAny (model prog w) A (match b with | true => rule "set.scan.the-table-gave-way" | false => pure ()) Q' E s₁ :=
      fun b s₁ Q' hq => by cases b <;> first | exact wpAny_pure hq | exact wpAny_rule hq
    have hperm := layNew_perm t es ((PySem.strKind prog w).hash ⟨#[c]⟩) (.str ⟨#[c]⟩ tk)
    have hfits := layNew_fits t es ((PySem.strKind prog w).hash ⟨#[c]⟩) (.str ⟨#[c]⟩ tk)
    generalize hL : layNew t es ((PySem.strKind prog w).hash ⟨#[c]⟩) (.str ⟨#[c]⟩ tk) = L at hperm hfits ⊢
    obtain ⟨es1, t1, wasDummy, gave⟩ := L
    dsimp only at hperm hfits ⊢
    rw [Array.toList_push] at hperm
    have hel1 : ElemsOf (PySem.strKind prog w) es1.toList := (hel.push hkey rfl).perm hperm
    have hsz1 : es1.size = es.size + 1 := by rw [← Array.length_toList, hperm.length_eq, List.length_append, Array.length_toList]; rfl
    have hb1' : es1.size < scanBound := by lia
    refine wpAny_bind (hgw _ ?_)
    have hend : ∀ h' es' ep' t', Heap.SameBut a s.heap h' → h'.get? a = some { cls := .type "frozenset", data := .set es' ep' t' } → es'.toList.Perm es1.toList → t'.fits es'.size = true → Q true { s with heap := h' } := by
      intro h' es' ep' t' hsb he hp hf'
      have hsz : es'.size = es1.size := by rw [← Array.length_toList, hp.length_eq, Array.length_toList]
      refine h _ h' hsb ⟨es', ep', t', he, hel1.perm hp, fun k => ?_, by rw [List.length_append, List.length_singleton]; lia, hf'⟩
      have m1 : (∃ e ∈ es'.toList, (PySem.strKind prog w).is k e.2 = true) ↔ ∃ e ∈ es.toList ++ [((PySem.strKind prog w).hash ⟨#[c]⟩, Value.str ⟨#[c]⟩ tk)], (PySem.strKind prog w).is k e.2 = true :=
        ⟨fun ⟨e, q1, q2⟩ => ⟨e, (hp.trans hperm).mem_iff.mp q1, q2⟩, fun ⟨e, q1, q2⟩ => ⟨e, (hp.trans hperm).mem_iff.mpr q1, q2⟩⟩
      rw [m1]
      constructor
      · rintro ⟨e, q1, q2⟩
        rcases List.mem_append.mp q1 with q | q
        · obtain ⟨d, r1, r2⟩ := (hmem k).mp ⟨e, q, q2⟩
          exact ⟨d, r1, List.mem_append_left _ r2⟩
        · rw [List.mem_singleton.mp q] at q2
          exact ⟨c, (PySem.strKind prog w).inj _ _ _ q2 hkey, List.mem_append_right _ (List.mem_singleton.mpr rfl)⟩
      · rintro ⟨d, r1, r2⟩
        rcases List.mem_append.mp r2 with q | q
        · obtain ⟨e, q1, q2⟩ := (hmem k).mpr ⟨d, r1, q⟩
          exact ⟨e, List.mem_append_left _ q1, q2⟩
        · rw [List.mem_singleton.mp q] at r1
          exact ⟨_, List.mem_append_right _ (List.mem_singleton.mpr rfl), by rw [r1]; exact hkey⟩
    split
    · refine wpAny_bind ?_
      rw [hashByValue_scannable 8 (by rfl)]
      refine wpAny_pure ?_
      refine fz_tail ?_ ho hb1' ?_ ?_
      · intro b s₁ Q' hq; cases b <;> first | exact wpAny_pure hq | exact wpAny_rule hq
      · split
        · exact hfits
        · exact SetTable.fits_plain_off hfits
      · intro h' es' ep' t' q1 q2 q3 q4; dsimp only; exact wpAny_pure (hend h' es' ep' t' q1 q2 q3 q4)
    · refine wpAny_bind (wpAny_pure ?_)
      simp only [↓reduceIte]
      refine fz_tail ?_ ho hb1' hfits ?_
      · intro b s₁ Q' hq; cases b <;> first | exact wpAny_pure hq | exact wpAny_rule hq
      · intro h' es' ep' t' q1 q2 q3 q4; dsimp only; exact wpAny_pure (hend h' es' ep' t' q1 q2 q3 q4)
/-- the end of a text's iterator: two objects more -/
theorem next_end {it : Addr} {x : PySem.Str} {t : Tok} {i : Nat} {Q : Option Value → Shared → Prop} (hh : A.handled = none) (hit : s.heap.IsStrIter it "str_ascii_iterator" x t i) (hx : x.cps[i]? = none)
    (hQ : ∀ h', h'.objs.size = s.heap.objs.size + 2 → (∀ b o, b ≠ it → s.heap.get? b = some o → h'.get? b = some o) → Q none { s with heap := h' }) : wpAny (model prog w) A (pyNext (.ref it)) Q E s := by
  obtain ⟨o, ho, hc, hd⟩ := id hit
  unfold pyNext
  refine wpAny_bind (wpAny_attempt (wpAny_callSpecial?_slot (name := PySem.Str.ofString "__next__") hit.typeIs PySem.F.slot_str_ascii_iterator_next
    (wpAny_call_entry PySem.F.slot_str_ascii_iterator_next hit.typeIs PySem.F.entry_str_ascii_iterator_next ?_ (PySem.F.args_str_ascii_iterator_next_1 _))))
  show wpAny _ _ (field (.ref it) 0 >>= _) _ _ s
  refine wpAny_bind (wpAny_field ho hd (x := .str x t) rfl ?_)
  show wpAny _ _ (field (.ref it) 1 >>= _) _ _ s
  refine wpAny_bind (wpAny_field ho hd (x := .int i 0) rfl ?_)
  simp only [Int.toNat_natCast, hx]
  refine wpAny_bind (wpAny_rule (wpAny_bind (wpAny_setField ho hd (by simp) (wpAny_bind (wpAny_letGo ?_)))))
  show wpAny _ _ (newExc (.type "StopIteration") [] >>= _) _ _ _
  refine wpAny_bind ?_
  simp only [newExc, newTuple]
  refine wpAny_bind (wpAny_newObj_type ?_ (by size_fits))
  refine wpAny_bind (m := firstArgMember _ _) (wpAny_of_eq (a := Value.none) (by first | rfl | (simp only [firstArgMember]; rfl)) ?_)
  refine wpAny_newObj_type ?_ (by size_fits)
  simp only [raiseNew]
  refine wpAny_bind (wpAny_handled ?_)
  rw [show A.in1.handled = none from hh]
  refine wpAny_bind (wpAny_pure (wpAny_throw ?_))
  refine wpAny_bind (wpAny_isInstance (T := "StopIteration") (b := true) ⟨_, Heap.get?_push_size _ rfl, rfl⟩ isSubtype_stop ?_)
  refine wpAny_pure (hQ _ ?_ fun b o' hb e => ?_)
  · rw [Heap.size_push, Heap.size_push, Heap.size_update]
  · exact Heap.get?_push_of_some _ (Heap.get?_push_of_some _ ((Heap.get?_update_ne _ _ _ _ hb).trans e))
/-- the loop that fills it -/
theorem fz_loop {x : PySem.Str} {t : Tok} {S I : Addr} {R : Result → Shared → Prop} (hA : A.handled = none) (hSI : S ≠ I) (hx : x.cps.size + 1 < scanBound) :
    ∀ (k i : Nat) (s : Shared), x.cps.size - i = k → i ≤ x.cps.size → s.heap.IsStrIter I "str_ascii_iterator" x t i → FzOf prog w s.heap S (x.cps.toList.take i) →
      (∀ h', h'.objs.size = s.heap.objs.size + 2 → (∀ b o, b ≠ S → b ≠ I → s.heap.get? b = some o → h'.get? b = some o) → FzOf prog w h' S x.cps.toList → R (.ok (.ret .none)) { s with heap := h', toks := s.toks + 2 * k }) →
      codeAny (model prog w) A (.builtin "set.update.loop" ⟨[.ref S, .ref I], []⟩) R s := by
  intro k
  induction k with
  | zero =>
    intro i s hk hi hst hS hR
    have hin : i = x.cps.size := sub_end hk hi
    subst hin
    refine codeAny_builtin PyProof.Rows.F.entry_set_update_loop ?_
    rw [Around.under_plainId PyProof.Rows.F.plain_set_update_loop _]
    show wpAny _ A.in1 (pyNext (.ref I) >>= _) _ _ s
    refine wpAny_bind (next_end hA hst (by simp) fun h' hsz hkeep => ?_)
    show wpAny _ A.in1 (ret Value.none) _ _ _
    refine wpAny_pure (hR h' hsz (fun b o _ hb e => hkeep b o hb e) ?_)
    rw [List.take_of_length_le (by simp)] at hS
    obtain ⟨es, ep, tb, e1, r⟩ := hS
    exact ⟨es, ep, tb, hkeep _ _ hSI e1, r⟩
  | succ k ih =>
    intro i s hk hi hst hS hR
    have hlt : i < x.cps.size := Nat.lt_of_sub_eq_succ hk
    refine codeAny_builtin PyProof.Rows.F.entry_set_update_loop ?_
    rw [Around.under_plainId PyProof.Rows.F.plain_set_update_loop _]
    show wpAny _ A.in1 (pyNext (.ref I) >>= _) _ _ s
    refine wpAny_bind (wpAny_pyNext_ascii_item hst (c := x.cps[i]) (Array.getElem?_eq_getElem hlt) fun h₁ hst₁ hsb₁ => ?_)
    show wpAny _ A.in1 (holding [Value.str ⟨#[x.cps[i]]⟩ s.toks] (setAdd S (.str ⟨#[x.cps[i]]⟩ s.toks)) >>= _) _ _ _
    refine wpAny_bind (wpAny_holding ?_)
    unfold setAdd
    refine wpAny_holding ?_
    refine wpAny_bind ((PySem.strKind prog w).pyHash (strKind_is prog w _ _) ?_)
    have htl : (x.cps.toList.take i).length ≤ x.cps.size := by rw [List.length_take, Array.length_toList]; exact Nat.min_le_right _ _
    refine fz_add (s := { s with heap := h₁, toks := s.toks + 1 + 1 }) (l := x.cps.toList.take i) (hS.at (hsb₁.2 _ hSI)) (Nat.lt_of_le_of_lt (Nat.succ_le_succ htl) hx) fun b h' hsb hS2 => ?_
    refine wpAny_pure ⟨plainId_quiet PyProof.Rows.F.plain_set_update_loop _, ih (i + 1) _ (sub_step hk) hlt ?_ ?_ fun h'' hsz hkeep hF => ?_⟩
    · obtain ⟨o, ho, r⟩ := hst₁
      exact ⟨o, (hsb.2 _ (Ne.symm hSI)).trans ho, r⟩
    · have e : x.cps.toList.take (i + 1) = x.cps.toList.take i ++ [x.cps[i]] := by
        rw [List.take_add_one, Array.getElem?_toList, Array.getElem?_eq_getElem hlt]; rfl
      rw [e]; exact hS2
    · have := hR h'' (by rw [hsz, hsb.1, hsb₁.1]) (fun b o h1 h2 e => hkeep b o h1 h2 ((hsb.2 _ h1).trans ((hsb₁.2 _ h2).trans e))) hF
      rw [show s.toks + 2 * (k + 1) = s.toks + 1 + 1 + 2 * k from two_step _ _] at this
      exact this
theorem entry_fz_new : entryFor table "frozenset.__new__" = some Builtin.«frozenset.__new__» := entryFor_of_tree (by kernel_rfl)
theorem plain_fz_new : plainId "frozenset.__new__" = true := by decide +kernel
theorem sub_fz : isSubtype (.type "frozenset") (.type "frozenset") = pure true := by rw [isSubtype_type]; kernel_rfl
theorem init_fz : typeLookup (.type "frozenset") "__init__" = pure (some (.builtin "object.__init__")) := by rw [typeLookup_type, builtinLookup_eq_fast]; kernel_rfl
/-- frozenset of an ASCII text -/
theorem fz_new {x : PySem.Str} {t : Tok} {R : Result → Shared → Prop} (hA : A.handled = none) (ha : x.cps.all (· < 128) = true) (hx : x.cps.size + 1 < scanBound)
    (h : ∀ h', h'.objs.size = s.heap.objs.size + 4 → (∀ b o, s.heap.get? b = some o → h'.get? b = some o) → FzOf prog w h' s.heap.objs.size x.cps.toList →
      R (.ok (.ret (.ref s.heap.objs.size))) { s with heap := h', toks := s.toks + 2 * x.cps.size }) :
    codeAny (model prog w) A (.builtin "frozenset.__new__" ⟨[.type "frozenset", .str x t], []⟩) R s := by
  refine codeAny_builtin entry_fz_new ?_
  rw [Around.under_plainId plain_fz_new _]
  have i1 : isInstance (.str x t) (.type "set") = pure false := by
    have e : isInstance (.str x t) (.type "set") = isSubtype (.type "str") (.type "set") := rfl
    rw [e, isSubtype_type]; kernel_rfl
  have i2 : isInstance (.str x t) (.type "frozenset") = pure false := by
    have e : isInstance (.str x t) (.type "frozenset") = isSubtype (.type "str") (.type "frozenset") := rfl
    rw [e, isSubtype_type]; kernel_rfl
  have e : Builtin.«frozenset.__new__» ⟨[.type "frozenset", .str x t], []⟩ = (do ret (← Builtin.Frozenset.newFrom "frozenset.__new__" (.type "frozenset") (.str x t))) := by
    unfold Builtin.«frozenset.__new__» Builtin.Frozenset.newClass
    have hsub := sub_fz
    have hin := init_fz
    kernel_rfl
  rw [e]
  unfold Builtin.Frozenset.newFrom newSet setsByText
  refine wpAny_bind (wpAny_bind (wpAny_bind (wpAny_bind (wpAny_askSetting (wpAny_pure ?_)))))
  dsimp only
  simp only [newObj]
  refine wpAny_bind (wpAny_alloc (wpAny_pure ?_))
  refine wpAny_bind (wpAny_of_eq (a := s.heap.objs.size) rfl ?_)
  refine wpAny_bind (wpAny_holding ?_)
  unfold Builtin.Frozenset.updateFrom Builtin.Frozenset.isAnySet
  rw [i1, i2]
  show wpAny _ _ (do let _ ← runValue (.builtin "set.update.loop" ⟨[.ref s.heap.objs.size, ← pyIter (.str x t)], []⟩)) _ _ _
  refine wpAny_bind (wpAny_pyIter_ascii ha ?_)
  refine wpAny_bind (wpAny_runValue ?_)
  have hne : s.heap.objs.size ≠ (s.heap.push { cls := .type "frozenset", data := .set #[] 0 (.fresh 0 0 (!w.params.followText "set-order")) }).objs.size := by rw [Heap.size_push]; lia
  refine fz_loop (x := x) (t := t) (S := s.heap.objs.size) (by exact hA) hne hx x.cps.size 0 _ rfl (Nat.zero_le _) ⟨_, Heap.get?_push_size _ rfl, rfl, rfl⟩ ?_ fun h' hsz hkeep hF => ?_
  · exact ⟨#[], 0, _, Heap.get?_push_of_some _ (Heap.get?_push_size _ rfl), fun e he => by simp at he, fun k => by simp, Nat.zero_le _, by rfl⟩
  · refine wpAny_pure (wpAny_pure (wpAny_pure ?_))
    refine h h' ?_ (fun b o e => ?_) hF
    · rw [hsz, Heap.size_push, Heap.size_push]
    · have hb := Heap.lt_size e
      exact hkeep b o (Nat.ne_of_lt hb) (by rw [Heap.size_push]; exact Nat.ne_of_lt (Nat.lt_succ_of_lt hb)) (Heap.get?_push_of_some _ (Heap.get?_push_of_some _ e))
end
end Mine

end
section
set_option maxHeartbeats 0
open PySem PySem.W PySem.W.X PyProof.Rows PySem.Calls PySem.Spec
namespace Mine
noncomputable def sZ : SharedT := ⟨.nil, 0, (start (opening prg)).1.heap.life, (start (opening prg)).1.gens, (start (opening prg)).1.drawn, (start (opening prg)).1.toks, (start (opening prg)).1.os⟩
theorem sZ_abs : sZ.abs = (start (opening prg)).1 := by kernel_rfl
noncomputable def opR (w : World) : Option (SharedT × Thread) := PySem.W.Fast.tw14789777615569096658 PySem.W.Fast.tw14364793385576792824 (opening prg) w 798 sZ (start (opening prg)).2
theorem op_looks (w : World) : ((opR w).bind fun x => (fenceModules? prg x.1.abs).map fun z => (x.2.atExitBegin, z.gens, Nat.blt z.heap.objs.size 29)) = some (some [], #[], true) := by kernel_rfl
noncomputable def s0R (w : World) : Option Shared := (opR w).bind fun x => fenceModules? prg x.1.abs
theorem s0_ok (w : World) : (s0R w).isSome = true := by
  obtain ⟨x, h1, h2⟩ := Option.bind_eq_some_iff.mp (op_looks w)
  obtain ⟨z, h3, _⟩ := Option.map_eq_some_iff.mp h2
  unfold s0R
  rw [h1]
  show (fenceModules? prg x.1.abs).isSome = true
  rw [h3]; rfl
noncomputable def s0 (w : World) : Shared := (s0R w).get (s0_ok w)
noncomputable def aR (w : World) : Option (SharedT × Thread) := goT PySem.W.Fast.tw14364793385576792824 prg w 94 (toT (s0 w)) (topStub prg)
/-- behind the frozenset's making -/
noncomputable def cR (w : World) (a : SharedT × Thread) (es : Array (Int × Value)) (ep : Nat) (t : SetTable) (y2 y3 y4 : Obj) (c : Code) (p : Pos) : Option (SharedT × Thread) :=
  goT PySem.W.Fast.tw14364793385576792824 prg w 1813 (toT ⟨⟨(a.1.abs.heap.objs.toList ++ [{ cls := .type "frozenset", data := .set es ep t }, y2, y3, y4]).toArray, a.1.life⟩, a.1.gens, a.1.drawn, 342, a.1.os⟩) ⟨leafOf (.ok (.ret (.ref 39))), c, p, a.2.stack⟩
noncomputable def seenOld : List Addr := [0, 1, 4, 5, 6, 7, 8, 9, 10, 11, 12, 13, 14, 15, 16, 17, 18, 19, 20, 21, 22, 23, 24, 25, 26, 27]
/-- what is asked of the state behind the top -/
noncomputable def looks (w : World) (x : SharedT × Thread) :=
  (through x.2 && x.2.calm && staticsOk (importedModules prg.main.body) (s0 w).heap x.1.abs.heap && namesBound prg x.1.abs.heap && gensDone x.1.abs && laidKept (s0 w).heap x.1.abs.heap && PySem.W.Fast.tw14722251495701143533 x.1.abs.heap (importedModules prg.main.body) &&
    x.1.abs.heap.isNs mainGlobals && x.1.abs.heap.isNs builtinsNs && x.1.abs.heap.bmainOk && x.1.abs.heap.noLimitOk && x.1.abs.heap.noDigitsOk && x.1.gens.size == 0 && x.1.n == 284,
   x.1.abs.heap.bltView, seenOld.map x.1.abs.heap.get?, ((Kf w.params).map (·.1)).map x.1.abs.heap.get?, x.1.abs.heap.get? 39, x.1.abs.heap.get? 64, x.1.abs.heap.get? 203, x.1.os)
noncomputable abbrev fzC : Code := .builtin "frozenset.__new__" ⟨[.type "frozenset", .str (Str.ofString "0123456789abcdefABCDEF") 294], []⟩
/-- what is asked of the state ahead of the frozenset -/
noncomputable def looksA (a : SharedT × Thread) :=
  ((a.1.n, a.1.toks, a.1.gens, a.1.os, a.2.code, topHandled a.2.stack, frameCount (a.2.stack.map Frame.where_), unitsOf (a.2.stack.map Frame.where_), (List.range 39).all fun i => (a.1.abs.heap.get? i).isSome), a.2.cur)
theorem ac_looks (w : World) (es : Array (Int × Value)) (ep : Nat) (t : SetTable) (y2 y3 y4 : Obj) (c : Code) (p : Pos) :
    ((aR w).bind fun a => (cR w a es ep t y2 y3 y4 c p).map fun x => (looksA a, looks w x)) =
      some (((39, 298, #[], (s0 w).os, fzC, none, 302, 8, true), PySem.W.Fast.tw11892475500146522536 PySem.W.Fast.tw14364793385576792824 fzC), (true, bltViewBooted, seenOld.map (s0 w).heap.get?, (Kf w.params).map (fun q => some q.2), some { cls := .type "frozenset", data := .set es ep t }, some (tabObj #[]), some (tabObj #[]), (s0 w).os)) := by kernel_rfl
end Mine

end
section
set_option maxHeartbeats 1000000
open PySem PySem.W PySem.W.X PyProof.Rows PySem.Calls PySem.Spec
namespace Mine
/-- what the top leaves -/
structure Left (w : World) (s₀ s₁ : Shared) : Prop where
  ran : TopRan prg w s₀ s₁
  asleep : s₁.asleep
  gens : s₁.gens = #[]
  main : s₁.heap.isNs mainGlobals = true
  base : Bs w (s₁.heap.nsMap mainGlobals) (s₁.heap.nsMap builtinsNs) s₁.heap
  hex : HexSet prg w s₁.heap
  t64 : s₁.heap.get? 64 = some (tabObj #[])
  t203 : s₁.heap.get? 203 = some (tabObj #[])
theorem Go.life {p : Program} {w : World} {s s' : Shared} {t t' : Thread} (x : Go p w s t s' t') : s'.heap.life = s.heap.life := by
  obtain ⟨n, s₂, t₂, h1, h2, _⟩ := x
  have := runN_life_running h1
  rw [(Shared.forget_eq h2).1] at this
  exact this
theorem get_objs {h : Heap} {a : Addr} {o : Obj} (e : h.get? a = some o) : h.objs[a]? = some o := by
  have h1 := Heap.lt_size e
  unfold Heap.get? at e
  rw [Array.getElem?_eq_getElem h1] at e ⊢
  revert e
  cases h.objs[a] with
  | mk c d dt sl => cases dt <;> simp
theorem list4 {α : Type} (d : List α) (h : d.length = 4) : ∃ y1 y2 y3 y4, d = [y1, y2, y3, y4] := by
  cases d with
  | nil => cases h
  | cons y1 d => cases d with
    | nil => cases h
    | cons y2 d => cases d with
      | nil => cases h
      | cons y3 d => cases d with
        | nil => cases h
        | cons y4 d => cases d with
          | nil => exact ⟨y1, y2, y3, y4, rfl⟩
          | cons y5 d => exfalso; simp only [List.length_cons] at h; lia
theorem heap_tail {h h' : Heap} (hs : h'.objs.size = h.objs.size + 4) (hk : ∀ i, i < h.objs.size → h'.objs[i]? = h.objs[i]?) : ∃ y1 y2 y3 y4, h'.objs = (h.objs.toList ++ [y1, y2, y3, y4]).toArray := by
  have hl : h'.objs.toList.length = h.objs.toList.length + 4 := by simpa using hs
  have e1 : h'.objs.toList.take h.objs.toList.length = h.objs.toList := by
    refine List.ext_getElem? fun i => ?_
    rw [List.getElem?_take]
    by_cases hi : i < h.objs.toList.length
    · rw [if_pos hi]
      have := hk i (by simpa using hi)
      rw [← Array.getElem?_toList, ← Array.getElem?_toList] at this
      exact this
    · rw [if_neg hi, List.getElem?_eq_none (Nat.not_lt.mp hi)]
  have e2 := List.take_append_drop h.objs.toList.length h'.objs.toList
  rw [e1] at e2
  have e3 : (h'.objs.toList.drop h.objs.toList.length).length = 4 := by rw [List.length_drop, hl, Nat.add_sub_cancel_left]
  generalize h'.objs.toList.drop h.objs.toList.length = d at e2 e3
  obtain ⟨y1, y2, y3, y4, rfl⟩ := list4 d e3
  exact ⟨y1, y2, y3, y4, by rw [e2]⟩
theorem hex_small : ∀ c, c < 128 → (decide (c ∈ (Str.ofString "0123456789abcdefABCDEF").cps.toList) = hexCp c) := by decide +kernel
theorem hex_all : ∀ c ∈ (Str.ofString "0123456789abcdefABCDEF").cps.toList, c < 128 := by decide +kernel
theorem hex_mem (c : Nat) : c ∈ (Str.ofString "0123456789abcdefABCDEF").cps.toList ↔ hexCp c = true := by
  by_cases h : c < 128
  · rw [← hex_small c h, decide_eq_true_iff]
  · refine ⟨fun q => absurd (hex_all c q) h, fun q => ?_⟩
    rw [hexCp_iff] at q
    lia
theorem get_eq {α : Type} {o : Option α} {x : α} (h : o.isSome = true) (e : o = some x) : o.get h = x := by subst e; rfl
theorem s0_eq (w : World) {x : Shared} (h : s0R w = some x) : s0 w = x := by unfold s0; exact get_eq _ h
/-- the state ahead of the frozenset is one, whatever is laid behind it -/
theorem a_ex (w : World) : ∃ a, aR w = some a ∧ looksA a = ((39, 298, #[], (s0 w).os, fzC, none, 302, 8, true), PySem.W.Fast.tw11892475500146522536 PySem.W.Fast.tw14364793385576792824 fzC) ∧ ∀ es ep t y2 y3 y4 c p, (cR w a es ep t y2 y3 y4 c p).map (looks w) =
    some (true, bltViewBooted, seenOld.map (s0 w).heap.get?, (Kf w.params).map (fun q => some q.2), some { cls := .type "frozenset", data := .set es ep t }, some (tabObj #[]), some (tabObj #[]), (s0 w).os) := by
  obtain ⟨a, h1, h2⟩ := Option.bind_eq_some_iff.mp (ac_looks w #[] 0 default default default default default default)
  obtain ⟨x, h3, h4⟩ := Option.map_eq_some_iff.mp h2
  refine ⟨a, h1, (Prod.mk.inj h4).1, fun es ep t y2 y3 y4 c p => ?_⟩
  obtain ⟨a', g1, g2⟩ := Option.bind_eq_some_iff.mp (ac_looks w es ep t y2 y3 y4 c p)
  obtain ⟨x', g3, g4⟩ := Option.map_eq_some_iff.mp g2
  rw [h1] at g1
  obtain rfl := Option.some.inj g1
  exact Option.map_eq_some_iff.mpr ⟨x', g3, (Prod.mk.inj g4).2⟩
theorem left (w : World) : (∃ s, AfterRun (opening prg) w s) ∧ ∀ s, AfterRun (opening prg) w s → ∃ s₀, fenceModules? prg s = some s₀ ∧ s₀.gens = #[] ∧ ∃ s₁, Left w s₀ s₁ := by
  obtain ⟨op, hop, h2⟩ := Option.bind_eq_some_iff.mp (op_looks w)
  obtain ⟨z0, hfence, h3⟩ := Option.map_eq_some_iff.mp h2
  have hoe : op.2.atExitBegin = some [] := (Prod.mk.inj h3).1
  have hs0 : (z0.gens, Nat.blt z0.heap.objs.size 29) = (#[], true) := (Prod.mk.inj h3).2
  have e0 : s0 w = z0 := s0_eq w (by unfold s0R; rw [hop]; exact hfence)
  obtain ⟨a, ha, hal, hlk⟩ := a_ex w
  unfold opR at hop
  rw [← PySem.W.Fast.te14789777615569096658, ← PySem.W.Fast.te14364793385576792824] at hop
  unfold aR at ha
  unfold cR looks at hlk
  have hath := (Prod.mk.inj hal).2
  replace hal := (Prod.mk.inj hal).1
  rw [e0] at ha hal
  simp only [e0] at hlk
  clear e0 h2 h3
  obtain ⟨op1, op2⟩ := op
  obtain ⟨a1, a2⟩ := a
  have h1 := impGo_of hop
  rw [sZ_abs] at h1
  have h2 : importEnds treeTable (opening prg) w 1 op1.abs op2 = some op1.abs := by
    simp only [importEnds, hoe]
  have h3 := imp_go h1 h2
  rw [← table_eq_tree] at h3
  have A := AfterImport.of_importEnds h3
  refine ⟨⟨_, A⟩, fun s' hs' => ?_⟩
  obtain rfl : s' = op1.abs := AfterImport.unique hs' A
  simp only [Prod.mk.injEq] at hs0
  obtain ⟨hg0, hz0⟩ := hs0
  have hz0' : z0.heap.objs.size < 29 := by simpa using hz0
  have z : z0.asleep := Shared.asleep_of_life (fence_lifeW hfence) A.life
  refine ⟨z0, hfence, hg0, ?_⟩
  -- to the frozenset
  have Ga := go_of_goT ha
  rw [abs_toT (by lia)] at Ga
  simp only [Prod.mk.injEq] at hal
  obtain ⟨an, at_, ag, aos, ac, ah, af, au, aall⟩ := hal
  have asz : a1.abs.heap.objs.size = 39 := by
    show (a1.tree.list a1.n).toArray.size = 39
    rw [an]; simp [BT.list]
  have atk : a1.abs.toks = 298 := at_
  have agn : a1.abs.gens = #[] := ag
  obtain ⟨acur, acode, apos, astk⟩ := a2
  rw [← PySem.W.Fast.te11892475500146522536, ← PySem.W.Fast.te14364793385576792824] at hath
  obtain ⟨hcu, hco⟩ : acur = denote treeTable fzC ∧ acode = fzC := ⟨hath, ac⟩
  clear hath
  subst hcu hco
  rw [← table_eq_tree] at Ga
  -- the frozenset
  have hcode : codeAny (model prg w) { depth := 302, units := 8 } fzC (fun r s' => ∃ h', r = .ok (.ret (.ref 39)) ∧ s' = { a1.abs with heap := h', toks := 342 } ∧ h'.objs.size = 43 ∧
      (∀ b o, a1.abs.heap.get? b = some o → h'.get? b = some o) ∧ FzOf prg w h' 39 (Str.ofString "0123456789abcdefABCDEF").cps.toList) a1.abs := by
    refine fz_new (s := a1.abs) rfl (by decide +kernel) (by decide +kernel) fun h' q1 q2 q3 => ?_
    rw [asz] at q1 q3 ⊢
    refine ⟨h', rfl, ?_, q1, q2, q3⟩
    rw [atk]
    rfl
  obtain ⟨r, s₂, c', p', ⟨h', rfl, hs2, q1, q2, q3⟩, Gb⟩ := go_code (pos := apos) (base := astk) hcode ⟨ah, by show frameCount (astk.map Frame.where_) ≤ 302; rw [af]; exact Nat.le_refl _, (fun l hl => by cases hl), (fun l hl => by cases hl), by show unitsOf (astk.map Frame.where_) ≤ 8; rw [au]; exact Nat.le_refl _⟩
  subst hs2
  refine hold fun RR hRR => ?_
  obtain ⟨es, ep, t, e39, hel, hmem, hesz, hfit⟩ := q3
  obtain ⟨y1, y2, y3, y4, hy⟩ := heap_tail (h := a1.abs.heap) (h' := h') (by rw [q1, asz]) (fun i hi => by
    rw [asz] at hi
    have := List.all_eq_true.mp aall i (List.mem_range.mpr hi)
    obtain ⟨o, ho⟩ := Option.isSome_iff_exists.mp this
    rw [get_objs (q2 i o ho), get_objs ho])
  have ey1 : y1 = { cls := .type "frozenset", data := .set es ep t } := by
    have := get_objs e39
    rw [hy, List.getElem?_toArray, List.getElem?_append_right (by simpa using Nat.le_of_eq asz)] at this
    rw [show (39 : Nat) - a1.abs.heap.objs.toList.length = 0 by rw [Array.length_toList, asz]] at this
    exact Option.some.inj this
  have hlife := Gb.life
  have hsB : ({ a1.abs with heap := h', toks := 342 } : Shared) = ⟨⟨(a1.abs.heap.objs.toList ++ [{ cls := .type "frozenset", data := .set es ep t }, y2, y3, y4]).toArray, a1.life⟩, a1.gens, a1.drawn, 342, a1.os⟩ := by
    obtain ⟨objs, life⟩ := h'
    have hl2 : life = a1.life := hlife
    simp only at hy
    subst hy hl2 ey1
    rfl
  rw [hsB] at Gb
  -- the rest
  obtain ⟨x, hx, hl⟩ := Option.map_eq_some_iff.mp (hlk es ep t y2 y3 y4 c' p')
  clear hlk
  have Gc := go_of_goT (s' := x.1) (t' := x.2) hx
  have hszB : ((⟨⟨(a1.abs.heap.objs.toList ++ [{ cls := .type "frozenset", data := .set es ep t }, y2, y3, y4]).toArray, a1.life⟩, a1.gens, a1.drawn, 342, a1.os⟩ : Shared)).heap.objs.size < 1000 := by
    show (a1.abs.heap.objs.toList ++ [_, _, _, _]).toArray.size < 1000
    rw [List.size_toArray, List.length_append, Array.length_toList, asz]; exact (by decide : 43 < 1000)
  rw [abs_toT hszB] at Gc
  have G := (Ga.trans Gb).trans Gc
  obtain ⟨x1, x2⟩ := x
  simp only [Prod.mk.injEq, Bool.and_eq_true] at hl
  obtain ⟨⟨⟨⟨⟨⟨⟨⟨⟨⟨⟨⟨⟨⟨b1, b2⟩, b3⟩, b4⟩, b5⟩, b6⟩, b7⟩, b8⟩, b9⟩, b10⟩, b11⟩, b12⟩, b13⟩, b14⟩, l1, l2, l3, l4, l5, l6, l7⟩ := hl
  have hg1 : x1.abs.gens = #[] := Array.eq_empty_of_size_eq_zero (beq_iff_eq.mp b13)
  have keep : ∀ b o, z0.heap.get? b = some o → ¬ theTopsOwn z0.heap b → x1.abs.heap.get? b = some o := fun b o hb hn => by
    have hlt : b < 29 := Nat.lt_trans (Heap.lt_size hb) hz0'
    have h2 : b ≠ 2 := fun q => hn (.inr (.inl q))
    have h3 : b ≠ 3 := fun q => hn (.inl q)
    have hlt2 : b < 28 := by
      exact Nat.lt_of_lt_of_le (Heap.lt_size hb) (Nat.le_of_lt_succ hz0')
    have hm : b ∈ seenOld := by
      unfold seenOld
      have : ∀ n : Nat, n < 28 → n ≠ 2 → n ≠ 3 → n ∈ ([0, 1, 4, 5, 6, 7, 8, 9, 10, 11, 12, 13, 14, 15, 16, 17, 18, 19, 20, 21, 22, 23, 24, 25, 26, 27] : List Nat) := by decide
      exact this b hlt2 h2 h3
    have := List.map_inj_left.mp l2 b hm
    rw [this]; exact hb
  obtain ⟨bm, ob, a1, a2, a3, a4, a5, a6⟩ := Heap.bmainOk_spec b10
  refine hRR ?_
  refine ⟨x1.abs, ⟨G.sched z b1 hg1 b2, G.life, Shared.rest_eq l7, keep, Heap.accountedI_of_ok ((congrFun (congrFun PySem.W.Fast.te14722251495701143533 _) _).trans b7), statics_of_ok b3, Pin.keysAreStrs_of b8, fun x hx => (Pin.builtinOf_eq b9 x).trans (Heap.of_bltView b9 l1 x hx),
    ⟨bm, ob, (Pin.globalOf_eq b8 _).trans a1, a3, a4, a5⟩, gens_of_done b5, names_of_bound b4, laid_of_kept b6⟩, Shared.asleep_of_life G.life z, hg1, b8, ?_, ?_, l5, l6⟩
  · exact ⟨Frag.in_of rfl l3, .of_isNs b8, .of_isNs b9, .of_ok b11, fun x hx => Heap.of_bltView b9 l1 x hx, Heap.noDigits_of_ok b12, ⟨bm, ob, a1, a2, a3, a4, a5, a6⟩⟩
  · refine ⟨es, ep, t, l4, hel, fun k => (hmem k).trans ⟨fun ⟨c, h1, h2⟩ => ⟨c, h1, (hex_mem c).mp h2⟩, fun ⟨c, h1, h2⟩ => ⟨c, h1, (hex_mem c).mpr h2⟩⟩, ?_, hfit⟩
    have : (Str.ofString "0123456789abcdefABCDEF").cps.toList.length = 22 := by decide
    have hb : scanBound = 4096 := rfl
    lia
end Mine

end
section
open PySem PySem.W PySem.W.X PyProof.Rows PySem.Calls PySem.Spec
namespace Mine
section
variable {M : Model} {A : Around} {E : Value → Shared → Prop} {s : Shared} {qual : Str} {scope : Scope} {env : Env} {c P : Addr} {ps : Array Value} {pos : Pos} {m : Str → Option Value}
  {Q : Value → Shared → Prop} {g g₀ : Heap} {L : Addr} {news : List (Addr × Obj)}
/-- the code of a generator expression: made once and kept in the outer code's table -/
theorem genCode_S (S : St g L ((P, tabObj ps) :: news) s.heap m) (C : CodeHd g₀ c P) (k : Sub g₀ g) (T : TabS g pos qual ps) (hcode : env.code = .ref c)
    (h : ∀ g' c' ps' h' tk, Sub g g' → St g' L ((P, tabObj ps') :: news) h' m → TabS g' pos qual ps' → g'.CodeRec (.ref c') qual → Q (.ref c') { s with heap := h', toks := tk }) :
    wpAny M A (genexprCode env pos qual scope) Q E s := by
  have hPs : s.heap.get? P = some (tabObj ps) := S.nw _ (.head _)
  have hk := k.trans S.keep
  have hC := C.keeps hk
  have hok : s.heap.IsCode c P ps := CodeHd.code hC hPs T.1
  have htab : s.heap.TableAt c P ps := CodeHd.tab hC hPs
  rcases T.2 with hnf | ⟨c', hf, hr⟩
  · refine wpAny_genexprCodeX hcode hok htab hnf fun c' h' tk hx hge hlt _ hrec htab' _ => ?_
    obtain ⟨c'', oc, vs, tt, e1, e2, e3, e4⟩ := id hrec
    cases e1
    have hP' : h'.get? P = some (tabObj (ps ++ #[rawInt pos.line, rawInt pos.col, .ref c'])) := htab'.2
    have hnd := List.nodup_cons.mp S.nd
    have S1 : St g L ((P, tabObj (ps ++ #[rawInt pos.line, rawInt pos.col, .ref c'])) :: news) h' m := by
      refine ⟨S.ns.extBut hx (Ne.symm (S.nL _ (.head _))), fun b o e => hx b o (fun q => ?_) (S.keep b o e), S.off, fun p hp => ?_, fun p hp => ?_, fun p hp => ?_, S.nd⟩
      · rw [q, show g.get? P = none from S.ng _ (.head _)] at e; cases e
      · rcases List.mem_cons.mp hp with rfl | hp
        · exact hP'
        · exact hx _ _ (fun q => hnd.1 (by show P ∈ _; rw [← q]; exact List.mem_map_of_mem (f := (·.1)) hp)) (S.nw p (.tail _ hp))
      · rcases List.mem_cons.mp hp with rfl | hp
        · exact S.nL (P, tabObj ps) (.head _)
        · exact S.nL p (.tail _ hp)
      · rcases List.mem_cons.mp hp with rfl | hp
        · exact S.ng (P, tabObj ps) (.head _)
        · exact S.ng p (.tail _ hp)
    obtain ⟨g1, k1, S2, k2⟩ := S1.rebase
    have hc1 : g1.get? c' = some oc := k2 c' oc e2 (Nat.ne_of_gt (Nat.lt_of_lt_of_le S.lt hge)) fun p hp => by
      rcases List.mem_cons.mp hp with rfl | hp
      · exact Nat.ne_of_lt (Nat.lt_of_lt_of_le (Heap.lt_size hPs) hge)
      · exact Nat.ne_of_lt (Nat.lt_of_lt_of_le (S.news_lt (List.mem_cons_of_mem (P, tabObj ps) hp)) hge)
    have hr2 : g1.CodeRec (.ref c') qual := ⟨c', oc, vs, tt, rfl, hc1, e3, e4⟩
    have hts := TriplesOk_snoc pos.line pos.col (.ref c') ps.toList T.1
    exact h g1 c' _ _ tk k1 S2 ⟨by simpa using hts, .inr ⟨c', by simpa using codeAmong_snoc (c := .ref c') ps.toList T.1 hnf, hr2⟩⟩ hr2
  · exact wpAny_genexprCode_hit hcode hok hf (h g c' ps s.heap s.toks (Sub.refl _) S T hr)
end
end Mine

end
section
set_option maxHeartbeats 1000000
open PySem PySem.W PySem.W.X PyProof.Rows PySem.Calls PySem.Spec PySem.Builtin PySem.Builtin.Str
namespace Mine
theorem signs_get {vs : List Value} {cs : List Nat} (h : SignsAt vs cs) {i : Nat} {v : Value} (e : vs[i]? = some v) : ∃ c t, cs[i]? = some c ∧ v = .str ⟨#[c]⟩ t := by
  unfold SignsAt at h
  induction cs generalizing vs i with
  | nil => cases h; simp at e
  | cons c cs ih =>
    cases h with
    | cons y t h =>
      cases i with
      | zero => simp at e; exact ⟨c, t, rfl, e.symm⟩
      | succ i => simp at e; simpa using ih h e
theorem St.offAll {g h h' : Heap} {L : Addr} {m : PySem.Str → Option Value} {news : List (Addr × Obj)} {wr : List Addr} (S : Mine.St g L news h m) (F : ∀ a ∈ wr, Free g L news a) (hx : ∀ b o, b ∉ wr → h.get? b = some o → h'.get? b = some o) : Mine.St g L news h' m := by
  obtain ⟨oL, es, ep, hL, r⟩ := S.ns
  refine ⟨⟨oL, es, ep, hx _ _ (fun q => (F _ q).nL rfl) hL, r⟩, fun b o e => hx b o (fun q => ?_) (S.keep b o e), S.off, fun p hp => hx _ _ (fun q => (F _ q).nn p hp rfl) (S.nw p hp), S.nL, S.ng, S.nd⟩
  rw [(F _ q).ng] at e; cases e
theorem passing_all (n : Nat) : passing (fun _ => true) n 0 = List.range n := by
  unfold passing; rw [List.drop_zero, List.filter_eq_self.mpr (fun _ _ => rfl)]
theorem textS_len (c : Nat) : (textS c).length ≤ 10 := by
  unfold textS
  split
  · exact (by decide : 1 ≤ 10)
  · split
    · decide
    · simp only [PySem.Str.length_append]
      exact (by decide : (PySem.Str.ofString "'").length + 1 + (PySem.Str.ofString "'").length ≤ 10)
theorem join_fold : ∀ (l : List PySem.Str) (k a : Nat), (∀ x ∈ l, x.length ≤ k) → l.foldl (fun a x => a + x.length + (PySem.Str.ofString " ").length) a ≤ a + l.length * (k + 1)
  | [], k, a, _ => by simp
  | x :: l, k, a, h => by
    have h1 := h x (.head _)
    have h2 := join_fold l k (a + x.length + (PySem.Str.ofString " ").length) (fun y hy => h y (.tail _ hy))
    have h3 : (PySem.Str.ofString " ").length = 1 := by decide
    rw [List.foldl_cons, List.length_cons, Nat.add_mul]
    exact Nat.le_trans h2 (fold_le h1 h3)
section
variable {w : World} {mg mb : PySem.Str → Option Value} {A : Around} {g : Heap} {L : Addr} {m : PySem.Str → Option Value} {news frs : List (Addr × Obj)} {s : Shared} {tk t2 t3 : Tok}
    {Q E : Value → Shared → Prop}
noncomputable abbrev joinPos : Pos := ⟨155, 20, 155, 57⟩
noncomputable abbrev joinQual : PySem.Str := PySem.Str.ofString "join" ++ PySem.Str.ofString ".<locals>." ++ PySem.Str.ofString "<genexpr>"
theorem c_join {T : Addr} {vs : List Value} {cs : List Nat} {ps : Array Value} (hT : g.get? T = some (tupObj vs)) (hsg : SignsAt vs cs) (hlen : cs.length ≤ 4096) (hbare : AllBare s.gens) (B : Bs w mg mb g) (S : Mine.St g L (((203, tabObj ps) :: news) ++ frs) s.heap m) (Z : Ar A L frs 3) (Tb : TabS g joinPos joinQual ps)
   (hret : ∀ v t g' frs' s' ps', v = .str (Txt.join (PySem.Str.ofString " ") (cs.map textS)) t → Sub g g' → Up frs frs' → TabS g' joinPos joinQual ps' → AllBare s'.gens → s'.os = s.os → Mine.St g' L (((203, tabObj ps') :: news) ++ frs') s'.heap m → Q v s') :
   wpAny (model prg w) A (call (.ref 208) [.ref T]) Q E s := by
  have hTt : IsTup g T vs.toArray := ⟨_, hT, rfl, _, rfl⟩
  walk_at "enter"; walk_at "go"
  rename_i oL L1 h1 Lb S1 Z1
  refine wpAny_GeneratorExp_walksQD Z1.hand rfl (by with_unfolding_all rfl) (by decide) (by decide) (by decide) rfl (by have := Z1.room; lia) ?_ (by intro _; with_unfolding_all rfl)
  walk_at "go"
  have hTh : h1.IsTuple T vs.toArray := ⟨_, S1.keep _ _ hT, rfl, _, rfl⟩
  refine wpAny_pyIter_tuple hTh ?_
  have S2 : Mine.St g L1 ((203, tabObj ps) :: ((h1.objs.size, { cls := .type "tuple_iterator", data := .fields #[.ref T, .int 0 0] }) :: (news ++ (L, oL) :: frs))) (h1.push { cls := .type "tuple_iterator", data := .fields #[.ref T, .int 0 0] }) _ := (S1.push _ rfl).perm (List.Perm.swap _ _ _)
  refine ⟨B.nolimit.keeps S2.keep, ?_⟩
  refine genCode_S (c := 207) (P := 203) S2 (codeHd_of_K B.X (by kernel_rfl)) (Sub.refl _) Tb rfl ?_
  intro g3 c3 ps3 h3 tk3 k3 S3 T3 hr3
  (try k_fold)
  obtain ⟨bm, obm, b1, b2, b3, b4, b5, b6⟩ := (B.keeps k3).bmain
  refine wpAny_builtinsFor (m := mg) ?_ b1 b2 ?_ b4 b5 b6 ?_
  · exact ((B.keeps k3).keeps S3.keep).G
  · exact S3.keep _ _ b3
  have hIt : h3.get? h1.objs.size = some { cls := .type "tuple_iterator", data := .fields #[.ref T, .int 0 0] } := S3.nw _ (.tail _ (.head _))
  have hT3 : h3.get? T = some (tupObj vs) := S3.keep _ _ (k3 _ _ hT)
  have hTI : T ≠ h1.objs.size := Nat.ne_of_lt (Heap.lt_size (S1.keep _ _ hT))
  have B3 := B.keeps k3
  refine ⟨h1.objs.size, [h1.objs.size, T], [h1.objs.size], vs.toArray.size, fun i v => vs.toArray[i]? = some v, fun i h => h.IsTupleIter h1.objs.size T i ∧ h.IsTuple T vs.toArray, fun _ => true, fun i y => ∃ t c, cs[i]? = some c ∧ y = .str (textS c) t, rfl, fun A' hA => Walks.tuple hA _ _ hTI _, ⟨⟨_, hIt, rfl, rfl⟩, _, hT3, rfl, _, rfl⟩, fun b hb => ?_, B3.nolimit.keeps S3.keep, ?_, ?_, ?_⟩
  · rcases List.mem_cons.mp hb with rfl | hb
    · exact Heap.lt_size hIt
    · rw [List.mem_singleton.mp hb]; exact Heap.lt_size hT3
  · intro hm
    (try k_fold)
    obtain ⟨mc, hn, _⟩ := B.nodigits
    have := (hn.keeps S1.keep).lt
    rw [List.mem_singleton.mp hm] at this
    exact Nat.lt_irrefl _ this
  · intro href hk
    (try k_fold)
    refine ⟨fun A' E' i v s₂ m₂ hA hD hU hP hn hv hkp => wpAny_tests_nil ⟨rfl, s₂.heap, s₂.toks, rfl, fun _ _ e => e⟩, fun A' E' i v s₂ m₂ hA hD hU hP _ hn hv hkp => ?_⟩
    have kk : Sub g3 s₂.heap := fun b o e => by
      have e3 := S3.keep _ _ e
      refine hkp b (List.mem_range.mpr (Heap.lt_size e3)) (fun q => ?_) o (hk _ _ e3)
      rw [List.mem_singleton.mp q, show g3.get? h1.objs.size = none from S3.ng _ (.tail _ (.head _))] at e
      cases e
    have hC0 : g3.get? h3.objs.size = none := by
      cases q : g3.get? h3.objs.size with
      | none => rfl
      | some o => exact absurd (Heap.lt_size (S3.keep _ _ q)) (Nat.lt_irrefl _)
    have S4 : Mine.St (hideAll s₂.heap [h3.objs.size]) h3.objs.size [] s₂.heap m₂ := ⟨hn, fun b o q => of_hideAll _ q, hideAll_none _ (.head _), fun p hp => (nomatch hp), fun p hp => (nomatch hp), fun p hp => (nomatch hp), List.nodup_nil⟩
    have k4 : Sub g3 (hideAll s₂.heap [h3.objs.size]) := fun b o e => hideAll_get _ (kk b o e) fun q => by
      rw [List.mem_singleton.mp q, hC0] at e; cases e
    have B4 := B3.keeps k4
    walk1
    refine nmE_K S4 B4 (Sub.refl _) rfl (by k_is) ?_ rfl rfl
    walk1
    walk1
    refine nmE_L S4 rfl hv ?_ rfl rfl
    obtain ⟨c, tv, hc, rfl⟩ := signs_get hsg (by simpa using hP)
    walk1
    refine ⟨(B3.keeps kk).X, ?_⟩
    refine c_quote (c := c) (B3.keeps kk) (by have := Z1.room; lia) ?_
    intro v t h' tk' hv' hs'
    (try k_fold)
    exact ⟨⟨t, c, hc, hv'⟩, h', tk', rfl, hs'⟩
  · intro a h5 tk5 gs hgs ha hsz hk5 W hgen
    (try k_fold)
    walk_at "go"
    have hcl : vs.length = cs.length := by
      unfold SignsAt at hsg
      have := StrsAre.length hsg
      simpa using this
    refine SC.joinGen W.in4_2 (fun i s' st => st.1.typeIs) hgen ?_ List.mem_cons_self (fun j v hv => ?_) (fun s' l hm hacc => ?_) ?_
    · intro b hb
      (try k_fold)
      show b < h5.objs.size
      rw [hsz]
      rcases List.mem_cons.mp hb with rfl | hb
      · exact Nat.lt_succ_self _
      · rcases List.mem_cons.mp hb with rfl | hb
        · exact Nat.lt_succ_of_lt ha
        · exact Nat.lt_succ_of_lt (Nat.lt_trans (List.mem_range.mp hb) ha)
    · obtain ⟨i, _, t, c, _, rfl⟩ := hv
      exact ⟨_, _, rfl⟩
    · have hl : l.map (·.1) = cs.map textS := by
        refine List.ext_getElem? fun j => ?_
        have hsz2 : l.length = cs.length := by
          have := hacc.1
          rw [passing_all] at this
          simpa [strValues, hcl] using this
        rw [List.getElem?_map, List.getElem?_map]
        by_cases hj : j < l.length
        · obtain ⟨i, hi, t, c, hc, hv⟩ := hacc.2 j (.str l[j].1 l[j].2) (by simp [strValues, List.getElem?_eq_getElem hj])
          rw [passing_all] at hi
          have hij : i = j := by
            obtain ⟨h1, h2⟩ := List.getElem?_eq_some_iff.mp hi
            simpa using h2.symm
          subst hij
          rw [hc, List.getElem?_eq_getElem hj]
          injection hv with h1 _
          simp only [Option.map_some, h1]
        · rw [List.getElem?_eq_none (by lia), List.getElem?_eq_none (by lia)]; rfl
      rw [hl]
      constructor
      · unfold JoinOk
        have h1 := join_fold (cs.map textS) 10 0 (fun x hx => by obtain ⟨c, _, rfl⟩ := List.mem_map.mp hx; exact textS_len c)
        rw [List.length_map] at h1
        have h2 : (cs.map textS).toArray.foldl (· + ·.length + (PySem.Str.ofString " ").length) 0 = (cs.map textS).foldl (fun a x => a + x.length + (PySem.Str.ofString " ").length) 0 := by rw [List.foldl_toArray]
        rw [h2]
        simp only [tooLong, Bool.not_eq_true', decide_eq_false_iff_not]
        have h3 := sizeLine_eq
        lia
      · intro t' k
        (try k_fold)
        have hnd := List.nodup_cons.mp S3.nd
        have S5 := S3.perm (List.Perm.swap _ _ _)
        have Fi : Free g3 L1 ((203, tabObj ps3) :: (news ++ (L, oL) :: frs)) h1.objs.size := by
          have hnd5 := List.nodup_cons.mp S5.nd
          refine ⟨S5.nL _ (.head _), fun p hp q => hnd5.1 ?_, S5.ng _ (.head _)⟩
          show h1.objs.size ∈ _
          rw [← q]; exact List.mem_map_of_mem (f := (·.1)) hp
        have S6 := S5.drop
        have S7 := St.offAll (h' := s'.heap) (wr := [h3.objs.size, h1.objs.size]) (S6.keepsTo hk5) (fun b hb => by
          rcases List.mem_cons.mp hb with rfl | hb
          · exact S6.at_size
          · rw [List.mem_singleton.mp hb]; exact Fi) (fun b o hb e => by exact Moved.heap hm b o hb e)
        obtain ⟨frs4, hu4, hS4⟩ := leave (news' := (203, tabObj ps3) :: news) Lb S7 (Up.refl _)
        exact hret _ _ g3 frs4 _ ps3 rfl k3 hu4 T3 (AllBare.moved (hbare.push hgs) hm.gens) hm.os hS4
    · rw [passing_all, List.length_range, sizeLine_eq]; simp only [List.size_toArray]; lia
end
end Mine

end
section
open PySem PySem.W PySem.W.X PyProof.Rows PySem.Calls PySem.Spec
namespace Mine
section
variable {g g₀ h h' : Heap} {L a : Addr} {o o' : Obj} {m m' mg mb : Str → Option Value} {news news' : List (Addr × Obj)} {w : World}
theorem St.fr (S : St g L news h m) : Fr {} L h m := ⟨S.ns, fun b o e => by simp [Heap.get?] at e, Nat.zero_le _⟩
theorem no_get (b : Addr) : ({} : Heap).get? b = none := by simp [Heap.get?]
theorem St.nws (S : St g L news h m) : News {} L h news := fun p hp => ⟨S.nw p hp, S.nL p hp, no_get _⟩
/-- every other object of the heap -/
noncomputable def others (h : Heap) (L a : Addr) : List (Addr × Obj) := (List.range h.objs.size).filterMap fun b => if b = L ∨ b = a then none else (h.get? b).map fun o => (b, o)
theorem others_mem {b : Addr} {x : Obj} (e : h.get? b = some x) (h1 : b ≠ L) (h2 : b ≠ a) : (b, x) ∈ others h L a := by
  unfold others
  refine List.mem_filterMap.mpr ⟨b, List.mem_range.mpr (Heap.lt_size e), ?_⟩
  rw [if_neg (by rintro (q | q); exact h1 q; exact h2 q), e]; rfl
theorem others_of {p : Addr × Obj} (hp : p ∈ others h L a) : h.get? p.1 = some p.2 ∧ p.1 ≠ L ∧ p.1 ≠ a := by
  obtain ⟨b, _, e⟩ := List.mem_filterMap.mp hp
  split at e
  · cases e
  · rename_i q
    obtain ⟨x, hx, rfl⟩ := Option.map_eq_some_iff.mp e
    exact ⟨hx, fun z => q (.inl z), fun z => q (.inr z)⟩
theorem St.full (S : St g L ((a, o) :: news) h m) : News {} L h ((a, o) :: others h L a) := fun p hp => by
  rcases List.mem_cons.mp hp with rfl | hp
  · exact S.nws _ (.head _)
  · exact ⟨(others_of hp).1, (others_of hp).2.1, no_get _⟩
theorem St.back (S : St g L ((a, o) :: news) h m) (F : Fr {} L h' m') (N : News {} L h' ((a, o') :: others h L a)) : St g L ((a, o') :: news) h' m' := by
  have hk : ∀ b x, b ≠ L → b ≠ a → h.get? b = some x → h'.get? b = some x := fun b x h1 h2 e => (N _ (.tail _ (others_mem e h1 h2))).1
  have hnd := List.nodup_cons.mp S.nd
  have hag := S.ng _ (.head _)
  refine ⟨F.ns, fun b x e => hk b x (fun q => ?_) (fun q => ?_) (S.keep b x e), S.off, fun p hp => ?_, fun p hp => ?_, fun p hp => ?_, S.nd⟩
  · rw [q, S.off] at e; cases e
  · rw [q, show g.get? a = none from hag] at e; cases e
  · rcases List.mem_cons.mp hp with rfl | hp
    · exact (N _ (.head _)).1
    · refine hk _ _ (S.nL p (.tail _ hp)) (fun q => hnd.1 ?_) (S.nw p (.tail _ hp))
      show a ∈ _
      rw [← q]; exact List.mem_map_of_mem (f := (·.1)) hp
  · rcases List.mem_cons.mp hp with rfl | hp
    · exact S.nL (a, o) (.head _)
    · exact S.nL p (.tail _ hp)
  · rcases List.mem_cons.mp hp with rfl | hp
    · exact hag
    · exact S.ng p (.tail _ hp)
/-- one entry turned, wherever it stands -/
inductive UpdS (a : Addr) (o o' : Obj) : List (Addr × Obj) → List (Addr × Obj) → Prop
  | head {r} : UpdS a o o' ((a, o) :: r) ((a, o') :: r)
  | tail {p r r'} : UpdS a o o' r r' → UpdS a o o' (p :: r) (p :: r')
theorem UpdS.split {l l' : List (Addr × Obj)} (U : UpdS a o o' l l') : ∃ r, l.Perm ((a, o) :: r) ∧ ((a, o') :: r).Perm l' := by
  induction U with
  | head => exact ⟨_, .refl _, .refl _⟩
  | tail U ih =>
    rename_i p r r'
    obtain ⟨q, h1, h2⟩ := ih
    exact ⟨p :: q, (h1.cons p).trans (.swap _ _ _), (List.Perm.swap _ _ _).trans (h2.cons p)⟩
theorem UpdS.mem {l l' : List (Addr × Obj)} (U : UpdS a o o' l l') : (a, o) ∈ l := by
  induction U with
  | head => exact .head _
  | tail _ ih => exact .tail _ ih
theorem UpdS.app {l l' r : List (Addr × Obj)} (U : UpdS a o o' l l') : UpdS a o o' (l ++ r) (l' ++ r) := by
  induction U with
  | head => exact .head
  | tail _ ih => exact .tail ih
theorem UpdS.pre {l l' : List (Addr × Obj)} (U : UpdS a o o' l l') : ∀ r, UpdS a o o' (r ++ l) (r ++ l')
  | [] => U
  | _ :: r => .tail (U.pre r)
/-- the news of a rule of the library, and the way back -/
theorem St.rule (S : St g L news h m) (U : UpdS a o o' news news') : News {} L h ([] ++ (a, o) :: others h L a) ∧ (∀ p ∈ others h L a, p.1 ≠ a) ∧
    ∀ h' m', Fr {} L h' m' → News {} L h' ([] ++ (a, o') :: others h L a) → St g L news' h' m' := by
  obtain ⟨r, h1, h2⟩ := U.split
  have S1 := S.perm h1
  exact ⟨S1.full, fun p hp => (others_of hp).2.2, fun h' m' F N => (S1.back F N).perm h2⟩
/-- two new objects -/
theorem St.made (S : St g L news h m) {x dx : Addr} {ox od : Obj} (F : Fr {} L h' m') (N : News {} L h' ((x, ox) :: (dx, od) :: others h L L)) (h1 : h.get? x = none) (h2 : h.get? dx = none) (hne : x ≠ dx) : St g L ((x, ox) :: (dx, od) :: news) h' m' := by
  have hk : ∀ b y, b ≠ L → h.get? b = some y → h'.get? b = some y := fun b y q e => (N _ (.tail _ (.tail _ (others_mem e q q)))).1
  have ne : ∀ p ∈ news, p.1 ≠ x ∧ p.1 ≠ dx := fun p hp => ⟨(fun q => by rw [← q, S.nw p hp] at h1; cases h1), (fun q => by rw [← q, S.nw p hp] at h2; cases h2)⟩
  have gn : ∀ b, h.get? b = none → g.get? b = none := fun b e => by
    cases q : g.get? b with
    | none => rfl
    | some y => rw [S.keep _ _ q] at e; cases e
  refine ⟨F.ns, fun b y e => hk b y (fun q => by rw [q, S.off] at e; cases e) (S.keep b y e), S.off, fun p hp => ?_, fun p hp => ?_, fun p hp => ?_, ?_⟩
  · rcases List.mem_cons.mp hp with rfl | hp
    · exact (N _ (.head _)).1
    · rcases List.mem_cons.mp hp with rfl | hp
      · exact (N _ (.tail _ (.head _))).1
      · exact hk _ _ (S.nL p hp) (S.nw p hp)
  · rcases List.mem_cons.mp hp with rfl | hp
    · exact (N _ (.head _)).2.1
    · rcases List.mem_cons.mp hp with rfl | hp
      · exact (N _ (.tail _ (.head _))).2.1
      · exact S.nL p hp
  · rcases List.mem_cons.mp hp with rfl | hp
    · exact gn _ h1
    · rcases List.mem_cons.mp hp with rfl | hp
      · exact gn _ h2
      · exact S.ng p hp
  · refine List.nodup_cons.mpr ⟨fun hm => ?_, List.nodup_cons.mpr ⟨fun hm => ?_, S.nd⟩⟩
    · rcases List.mem_cons.mp hm with q | hm
      · exact hne q
      · obtain ⟨p, hp, q⟩ := List.mem_map.mp hm; exact (ne p hp).1 q
    · obtain ⟨p, hp, q⟩ := List.mem_map.mp hm; exact (ne p hp).2 q
end
section
variable {prog : Program} {w : World} {A : Around} {E : Value → Shared → Prop} {s : Shared} {g g₀ : Heap} {L x dx C p : Addr} {m mg mb : Str → Option Value} {news news' : List (Addr × Obj)} {es es' : List DictEntry} {n n' i : Nat} {name : Str} {v : Value} {ox ox' od : Obj} {sl : Array (Option Value)}
theorem inst_S (S : St g L news s.heap m) (hx : (x, (⟨.ref C, some dx, .plain, sl⟩ : Obj)) ∈ news) (hd : (dx, od) ∈ news) : InstAt s.heap x ⟨.ref C, some dx, .plain, sl⟩ C (some od) := ⟨S.nw _ hx, rfl, rfl, S.nw _ hd⟩
theorem getOwn_S {expr : Bool} {Q : Value → Shared → Prop} {attr : Option Value} (S : St g L news s.heap m) (B : Bs w mg mb g₀) (k : Sub g₀ g) (hx : (x, (⟨.ref C, some dx, .plain, sl⟩ : Obj)) ∈ news) (hd : (dx, dictOf es n) ∈ news)
    (hg : plainGet (Kf w.params) C name = true) (hh : hasDictIn (Kf w.params) C = true) (ha : findIn (Kf w.params) (.ref C) name = some attr) (hn : noGet (Kf w.params) attr = true) (hl : getL name es = some (some v)) (hv : handedIn v = true) (h : Q v { s with toks := s.toks + 1 }) :
    wpAny (model prog w) A (getAttr (.ref x) name expr) Q E s :=
  get_value (inK S B k) (inst_S S hx hd) (plainGet_of hg).1 (findObj_own hh ha hn hl) hv h
theorem getSlot_S {expr : Bool} {Q : Value → Shared → Prop} (S : St g L news s.heap m) (B : Bs w mg mb g₀) (k : Sub g₀ g) (I : InstAt s.heap x ox C (some od)) (hg : plainGet (Kf w.params) C name = true) (hc : isClsIn (Kf w.params) C = true)
    (ha : findIn (Kf w.params) (.ref C) name = some (some (.ref p))) (hn : specialIn (Kf w.params) (.ref p) "__get__" = some (some (.builtin "member_descriptor.__get__"))) (ht : takesIn (Kf w.params) (.ref p) = some true) (hp : slotIn (Kf w.params) p C = some i)
    (hv : (ox.slots[i]?).join = some v) (hh : handedIn v = true) (h : Q v { s with toks := s.toks + 1 }) : wpAny (model prog w) A (getAttr (.ref x) name expr) Q E s :=
  get_bind (inK S B k) I (plainGet_of hg).1 (findObj_data hc ha hn ht) (plainGet_of hg).2 (wpAny_call (slot_get (s := { s with toks := s.toks + 1 }) (inK S B k) I hp hv (handed_on hh h)))
theorem setOwn_S {Q : Unit → Shared → Prop} (S : St g L news s.heap m) (B : Bs w mg mb g₀) (k : Sub g₀ g) (hx : (x, (⟨.ref C, some dx, .plain, sl⟩ : Obj)) ∈ news)
    (hs : findIn (Kf w.params) (.ref C) "__setattr__" = some (some (.builtin "object.__setattr__"))) (hp : plainOver (Kf w.params) C = true) (ht : takerIn (Kf w.params) C name = some none) (hh : hasDictIn (Kf w.params) C = true) (hl : (getL name es).isSome = true)
    (e : (putL name (PyData.keyHash w.params name) (.str name (s.toks + 1)) v es, putN name es n) = (es', n')) (U : UpdS dx (dictOf es n) (dictOf es' n') news news') (hz : es'.length ≤ 1000)
    (h : ∀ h', St g L news' h' m → Q () { s with heap := h', toks := s.toks + 2 }) : wpAny (model prog w) A (setAttr (.ref x) name v) Q E s := by
  obtain ⟨N, hne, back⟩ := S.rule U
  obtain ⟨e1, e2⟩ := Prod.mk.inj e
  exact set_plain (inK S B k) (inst_S S hx U.mem) hs (osa_dict (s := { s with toks := s.toks + 1 }) (pre := []) (post := others s.heap L dx) S.fr N (inK S B k) (inst_S S hx U.mem) rfl hp ht hh hl (fun _ h => (nomatch h)) hne (by rw [putName_dict, e1, e2]) rfl hz
    fun h' F' N' => h h' (back h' m F' N'))
theorem setSlot_S {Q : Unit → Shared → Prop} (S : St g L news s.heap m) (B : Bs w mg mb g₀) (k : Sub g₀ g) (I : InstAt s.heap x ox C (some od))
    (hs : findIn (Kf w.params) (.ref C) "__setattr__" = some (some (.builtin "object.__setattr__"))) (hp : plainOver (Kf w.params) C = true) (ht : takerIn (Kf w.params) C name = some (some (.ref p))) (hT : typeIn (Kf w.params) (.ref p) = some (.type "member_descriptor"))
    (hi : slotIn (Kf w.params) p C = some i) (hz : i < 1000) (e : { ox with slots := (ox.slots ++ Array.replicate (i + 1 - ox.slots.size) none).setIfInBounds i (some v) } = ox') (hf : ox'.isFreed = false) (U : UpdS x ox ox' news news')
    (h : ∀ h', St g L news' h' m → Q () { s with heap := h', toks := s.toks + 1 }) : wpAny (model prog w) A (setAttr (.ref x) name v) Q E s := by
  obtain ⟨N, hne, back⟩ := S.rule U
  exact set_plain (inK S B k) I hs (osa_descr (s := { s with toks := s.toks + 1 }) KF.slot_mset (inK S B k) I hp ht hT (slot_set (s := { s with toks := s.toks + 1 }) (pre := []) (post := others s.heap L x) S.fr N (inK S B k) I hi hz (fun _ h => (nomatch h)) hne e hf
    fun h' F' N' => h h' (back h' m F' N')))
theorem meth_S {pl : Sem Bool} {Q : Value × List Value → Shared → Prop} {f : Addr} (S : St g L news s.heap m) (B : Bs w mg mb g₀) (k : Sub g₀ g) (hx : (x, (⟨.ref C, some dx, .plain, sl⟩ : Obj)) ∈ news) (hd : (dx, dictOf es n) ∈ news) (hg : plainGet (Kf w.params) C name = true)
    (hf : findIn (Kf w.params) (.ref C) name = some (some (.ref f))) (ht : isFn (Kf w.params) (.ref f) = true) (hl : getL name es = some none) (h : Q (.ref f, [.ref x]) s) : wpAny (model prog w) A (getMethod (.ref x) name pl) Q E s :=
  method_fn (inK S B k) (inst_S S hx hd) (plainGet_of hg).1 (plainGet_of hg).2 hf (beq_iff_eq.mp ht) (by show (lookIn name (dictOf es n)).map _ = _; rw [lookIn_dict, hl]; rfl) h
theorem make_S {rest : List Value} {fI : Addr} {Q : Value → Shared → Prop} (S : St g L news s.heap m) (B : Bs w mg mb g₀) (k : Sub g₀ g) (hm : makesIn (Kf w.params) C = true)
    (hi : findIn (Kf w.params) (.ref C) "__init__" = some (some (.ref fI))) (hf : isFn (Kf w.params) (.ref fI) = true)
    (h : ∀ x dx h', St g L ((x, instObj C dx) :: (dx, dictOf [] 0) :: news) h' m →
      codeAny (model prog w) (A.under (.builtin "type.__call__" ⟨.ref C :: rest, []⟩)) (.call (.ref fI) ⟨.ref x :: rest, []⟩) (InitBack x fun r s' => match r with | .ok (.ret v) => Q v s' | .ok _ => False | .error e => E e s') { s with heap := h' }) :
    wpAny (model prog w) A (call (.ref C) rest) Q E s := by
  have N : News {} L s.heap (others s.heap L L) := fun p hp => ⟨(others_of hp).1, (others_of hp).2.1, no_get _⟩
  obtain ⟨hh, gg, d, t, os⟩ := s
  refine wpAny_call (make_core (makes_of (inK S B k) hm) (looks_findIn (inK S B k) hi) (fun self => bind_fn (inK S B k) self (beq_iff_eq.mp hf)) (.inl rfl) ?_)
  refine h (hh.objs.size + 1) hh.objs.size _ ?_
  have S1 := (S.push emptyDict rfl).push (instObj C hh.objs.size) rfl
  rw [Heap.size_push] at S1
  exact S1
end
end Mine

end
local macro_rules | `(tactic| walk_at "upds") => return (show Tc from (List.range 8).foldr (fun n t => fs (ex (n.repeat (fun x => ap ``UpdS.tail [x]) (Lean.mkIdent ``UpdS.head))) t) (ex ((8 : Nat).repeat (fun x => ap ``UpdS.tail [x]) (Lean.mkIdent ``UpdS.head))))
local macro_rules | `(tactic| walk_at "instS") => do let k ← Lean.MonadQuotation.getCurrMacroScope; return qs k ``inst_S "xyw" "xAyMwM" ""
local macro_rules | `(tactic| walk_at "getAttr ref") => do let k ← Lean.MonadQuotation.getCurrMacroScope; return kd (fs (qs k ``getOwn_S "SBkxdghanlv_" "SABAkSxMdMgIhIaInIlGvH" "W") (qj k (qs k ``inst_S "xyw" "xAyMwM" "") ``getSlot_S "SBkIgcantpvh_" "SABAkSIJgIcIaInItIpIvghH" "W"))
local macro_rules | `(tactic| walk_at "setAttr ref") => do let k ← Lean.MonadQuotation.getCurrMacroScope; return kd (fs (qs k ``setOwn_S "SBkxspthleUz_" "SABAkSxMsIpItIhIUulGepzz" "Wii") (qj k (qs k ``inst_S "xyw" "xAyMwM" "") ``setSlot_S "SBkIsptTizefU_" "SABAkSIJsIpItITIiIzDetfrUu" "Wii"))
local macro_rules | `(tactic| walk_at "enterC") => do let k ← Lean.MonadQuotation.getCurrMacroScope; return kd (qs k ``enterP "abcdefgh_ijkl" "aAcAbSdAeIfIgRlDhliRjRkR" "WEf")
local macro_rules | `(tactic| walk_at "exec Assign") => return sq (Lean.Unhygienic.run `(tactic| with_reducible $(rf ``plainObj_wpAny_Assign_Attribute "??"):tactic)) "oU"
section
set_option maxHeartbeats 1000000
open PySem PySem.W PySem.W.X PyProof.Rows PySem.Calls PySem.Spec PySem.Builtin PySem.Builtin.Str
namespace Mine
theorem dict0_S {prog : Program} {w : World} {A : Around} {E : Value → Shared → Prop} {s : Shared} {g g₀ : Heap} {L : Addr} {m mg mb : PySem.Str → Option Value} {news : List (Addr × Obj)} {env : Env} {pos : Pos} {Q : Value → Shared → Prop} (S : Mine.St g L news s.heap m) (B : Bs w mg mb g₀) (k : Sub g₀ g)
    (h : ∀ D o h', o.IsDictOf (PySem.strKind prog w) [] → o.IsDictOf (PySem.intKind prog w) [] → (D == sysModules) = false → Mine.St g L ((D, o) :: news) h' m → Q (.ref D) { s with heap := h' }) : wpAny (model prog w) A (PySem.eval (.Dict [] [] pos) env) Q E s := by
  have hs : sysModules < s.heap.objs.size := modules_low (B.nolimit.keeps (k.trans S.keep))
  refine wpAny_Dict_empty (h _ _ _ ?_ ?_ (beq_eq_false_iff_ne.mpr (Nat.ne_of_gt hs)) (S.push _ rfl))
  · obtain ⟨o, ho, hd⟩ := Heap.dictOf_iff.mp (Heap.DictOf.new (knd := PySem.strKind prog w) s.heap)
    rw [Heap.get?_push_size _ rfl] at ho
    exact (Option.some.inj ho) ▸ hd
  · obtain ⟨o, ho, hd⟩ := Heap.dictOf_iff.mp (Heap.DictOf.new (knd := PySem.intKind prog w) s.heap)
    rw [Heap.get?_push_size _ rfl] at ho
    exact (Option.some.inj ho) ▸ hd
end Mine
end
local macro_rules | `(tactic| walk_at "eval Dict") => return rk ``dict0_S "AAS?" "Wiiiiiii"
section
set_option maxHeartbeats 1000000
open PySem PySem.W PySem.W.X PyProof.Rows PySem.Calls PySem.Spec PySem.Builtin PySem.Builtin.Str
namespace Mine
theorem Ar.made {A : Around} {L C : Addr} {frs : List (Addr × Obj)} {k : Nat} {rest : List Value} (Z : Ar A L frs (k + 1)) : Ar (A.under (.builtin "type.__call__" ⟨.ref C :: rest, []⟩)) L frs k := by
  obtain ⟨l, h1, h2⟩ := Z.frames
  refine ⟨Z.hand, ?_, ?_, Z.bear, l, ?_, h2⟩
  · have := Z.room
    rw [depth_under_kw]; lia
  · have := Z.units
    show A.units + 1 + 40 * k < _; lia
  · unfold Around.under
    simp only [h1]
    rfl
section
variable {w : World} {mg mb : PySem.Str → Option Value} {A : Around} {g : Heap} {L : Addr} {m : PySem.Str → Option Value} {news frs : List (Addr × Obj)} {s : Shared} {tk t2 t3 : Tok}
    {Q E : Value → Shared → Prop}
noncomputable abbrev ndO (d l : Addr) (c : Nat) (t : Tok) (n : Int) (u : Tok) : Obj := ⟨.ref 95, some d, .plain, #[some (.str ⟨#[c]⟩ t), some (.int n u), some (.ref l)]⟩
/-- _NodeInfo(node) -/
theorem c_node {c : Nat} (B : Bs w mg mb g) (S : Mine.St g L (news ++ frs) s.heap m) (Z : Ar A L frs 2)
   (hret : ∀ x d l t u frs' h' tk', Up frs frs' → Mine.St g L (((x, ndO d l c t 0 u) :: (l, lstO [] 0) :: (d, dictOf [] 0) :: news) ++ frs') h' m → Q (.ref x) { s with heap := h', toks := tk' }) :
   wpAny (model prg w) A (call (.ref 95) [.str ⟨#[c]⟩ t2]) Q E s := by
  refine make_S S B (Sub.refl _) (by k_dflt k_is) (by k_dflt k_is) (by k_dflt k_is) ?_
  intro x d h1 S1
  have Z1 : Ar (A.under (.builtin "type.__call__" ⟨.ref 95 :: [.str ⟨#[c]⟩ t2], []⟩)) L frs 1 := Z.made
  refine enterP (news := (x, instObj 95 d) :: (d, dictOf [] 0) :: news) B (Sub.refl _) S1 Z1 (by k_dflt k_is) (by k_dflt k_is) rfl (locs rfl) ?_ rfl rfl rfl (by decide)
  intro oL L1 h2 Lb S2 Z2
  dsimp only [List.map, List.zip, List.zipWith, List.reverse, List.reverseAux, List.length] at S2 ⊢
  (try k_fold)
  walk_at "go"
  rename_i h3 S3 h4 S4 l h5 S5 h6 S6
  refine ⟨rfl, ?_⟩
  obtain ⟨frs4, hu, hS⟩ := leave (news' := (l, lstO [] 0) :: (x, _) :: (d, dictOf [] 0) :: news) Lb S6 (Up.refl _)
  exact hret x d l _ _ frs4 _ _ hu (hS.perm (List.Perm.swap _ _ _))
noncomputable abbrev kE (w : World) (n : PySem.Str) (t : Tok) (v : Value) : DictEntry := ⟨PyData.keyHash w.params n, .str n t, v⟩
/-- the sorter's own dict -/
noncomputable abbrev soD (w : World) (t1 t2 t3 t4 : Tok) (N : Addr) (rd po fi : Value) (n : Nat) : Obj := dictOf [kE w (PySem.Str.ofString "_node2info") t1 (.ref N), kE w (PySem.Str.ofString "_ready_nodes") t2 rd, kE w (PySem.Str.ofString "_npassedout") t3 po, kE w (PySem.Str.ofString "_nfinished") t4 fi] n
/-- TopologicalSorter() -/
theorem c_sorter (B : Bs w mg mb g) (S : Mine.St g L (news ++ frs) s.heap m) (Z : Ar A L frs 2)
   (hret : ∀ x d N o t1 t2 t3 t4 u1 u2 n frs' h' tk', o.IsDictOf (PySem.strKind prg w) [] → (N == sysModules) = false → Up frs frs' → Mine.St g L (((x, instObj 192 d) :: (d, soD w t1 t2 t3 t4 N .none (.int 0 u1) (.int 0 u2) n) :: (N, o) :: news) ++ frs') h' m → Q (.ref x) { s with heap := h', toks := tk' }) :
   wpAny (model prg w) A (call (.ref 192) []) Q E s := by
  refine make_S S B (Sub.refl _) (by k_dflt k_is) (by k_dflt k_is) (by k_dflt k_is) ?_
  intro x d h1 S1
  have Z1 : Ar (A.under (.builtin "type.__call__" ⟨.ref 192 :: [], []⟩)) L frs 1 := Z.made
  refine enterK (news := (x, instObj 192 d) :: (d, dictOf [] 0) :: news) B (Sub.refl _) S1 Z1 (by k_dflt k_is) (by k_dflt k_is) (binds := [(PySem.Str.ofString "self", .ref x), (PySem.Str.ofString "graph", .none)]) ?_ (locs rfl) ?_ rfl rfl rfl (by decide)
  · exact BindsTo.of_defaults (T := 121) (o := o121 w.params) (items := #[.none]) (n := 0) rfl (S1.keep _ _ (B.X _ _ (by kernel_rfl))) rfl rfl rfl
  intro oL L1 h2 Lb S2 Z2
  dsimp only [List.map, List.zip, List.zipWith, List.reverse, List.reverseAux, List.length] at S2 ⊢
  (try k_fold)
  walk_at "go"
  rename_i N o h3 d1 d2 lo S3 h4 S4 h5 S5 h6 S6 h7 S7
  refine ⟨rfl, ?_⟩
  obtain ⟨frs4, hu, hS⟩ := leave (news' := (N, o) :: (x, instObj 192 d) :: (d, _) :: news) Lb S7 (Up.refl _)
  exact hret x d N o _ _ _ _ _ _ _ frs4 _ _ d1 lo hu (hS.perm ((List.Perm.swap _ _ _).trans ((List.Perm.swap _ _ _).cons _)))
end
end Mine

end
section
set_option maxHeartbeats 1000000
open PySem PySem.W PySem.W.X PyProof.Rows PySem.Calls PySem.Spec PySem.Builtin PySem.Builtin.Str
namespace Mine
/-- a node of the sorter: its sign, how many it waits for, who waits for it; where it lies, and its list -/
structure Nd where
  c : Nat
  np : Int
  su : List Nat
  a : Addr
  l : Addr
inductive NdE : List Nd → List (Addr × Obj) → Prop
  | nil : NdE [] []
  | cons {nd : Nd} {r : List Nd} {es : List (Addr × Obj)} {d : Addr} {t u : Tok} {vs : List Value} {ep : Nat} : SignsAt vs nd.su → NdE r es → NdE (nd :: r) ((nd.a, ndO d nd.l nd.c t nd.np u) :: (nd.l, lstO vs ep) :: (d, dictOf [] 0) :: es)
noncomputable def kvsOf (nds : List Nd) : List (PySem.Str × Value) := nds.map fun nd => (⟨#[nd.c]⟩, .ref nd.a)
theorem NdE.app {a b : List Nd} {ea eb : List (Addr × Obj)} (x : NdE a ea) (y : NdE b eb) : NdE (a ++ b) (ea ++ eb) := by
  induction x with
  | nil => exact y
  | cons h _ ih => exact .cons h ih
theorem kvs_at {nds : List Nd} {c : Nat} : valueAt (kvsOf nds) ⟨#[c]⟩ = (nds.find? fun nd => nd.c == c).map fun nd => .ref nd.a := by
  unfold valueAt kvsOf
  induction nds with
  | nil => rfl
  | cons nd r ih =>
    rw [List.map_cons, List.find?_cons, List.find?_cons]
    by_cases h : nd.c = c
    · subst h; simp
    · have h1 : decide ((⟨#[nd.c]⟩ : PySem.Str) = ⟨#[c]⟩) = false := decide_eq_false fun q => h (by injection q with q; injection q with q; injection q)
      have h2 : (nd.c == c) = false := beq_eq_false_iff_ne.mpr h
      simp only [h1, h2]; exact ih
theorem kvs_stored {nds : List Nd} {c : Nat} {v : Value} (h : nds.find? (fun nd => nd.c == c) = none) : stored (kvsOf nds) ⟨#[c]⟩ v = kvsOf nds ++ [(⟨#[c]⟩, v)] := by
  unfold stored
  rw [if_neg]
  intro q
  (try k_fold)
  obtain ⟨kv, hm, he⟩ := List.any_eq_true.mp q
  unfold kvsOf at hm
  obtain ⟨nd, hn, rfl⟩ := List.mem_map.mp hm
  have h1 := List.find?_eq_none.mp h nd hn
  have h2 : (⟨#[nd.c]⟩ : PySem.Str) = ⟨#[c]⟩ := by simpa using he
  have h3 : nd.c = c := by injection h2 with h2; injection h2 with h2; injection h2
  simp [h3] at h1
section
variable {prog : Program} {w : World} {A : Around} {E : Value → Shared → Prop} {s : Shared} {g g₀ : Heap} {L d : Addr} {m mg mb : PySem.Str → Option Value} {news news' : List (Addr × Obj)} {o : Obj} {kvs : List (PySem.Str × Value)} {k : PySem.Str} {t : Tok}
theorem dget_S {Q : Value → Shared → Prop} (S : Mine.St g L news s.heap m) (hp : (d, o) ∈ news) (hd : o.IsDictOf (PySem.strKind prog w) kvs) (lo : (d == sysModules) = false) (h : Q ((valueAt kvs k).getD .none) { s with toks := s.toks + 1 }) :
    wpAny (model prog w) A (call (.builtin "dict.get") [.ref d, .str k t]) Q E s := kdg_get1 S.nws hp hd lo (strKind_is prog w k t) _ rfl h
theorem dgm_S {pl : Sem Bool} {Q : Value × List Value → Shared → Prop} (S : Mine.St g L news s.heap m) (hp : (d, o) ∈ news) (hd : o.IsDictOf (PySem.strKind prog w) kvs) (h : Q (.builtin "dict.get", [.ref d]) s) : wpAny (model prog w) A (getMethod (.ref d) "get" pl) Q E s := kdg_method S.nws hp hd h
theorem ditem_S {value slice : PySem.Expr} {v : Value} {Q : Value → Shared → Prop} (S : Mine.St g L news s.heap m) (hp : (d, o) ∈ news) (hd : o.IsDictOf (PySem.strKind prog w) kvs) (hl : valueAt kvs k = some v) (h : Q v { s with toks := s.toks + 1 })
    (hs : subscripted slice false (.ref d) (.str k t) = operate [.ref d, .str k t] (getItem (.ref d) (.str k t)) := by with_unfolding_all rfl) (hg : ∀ r, letTemporaryGo value (.ref d) r = pure () := by intro _; with_unfolding_all rfl) :
    wpAny (model prog w) A (subscriptTail value slice (.ref d) (.str k t)) Q E s := kda_item S.nws hp hd (strKind_is prog w k t) hl h hs hg
theorem perm_in {α : Type} (a b c x d k : α) (e n f : List α) : ((a :: b :: c :: x :: d :: k :: (e ++ n)) ++ f).Perm (k :: (a :: b :: c :: x :: d :: ((e ++ n) ++ f))) := List.perm_middle (l₁ := [a, b, c, x, d])
theorem perm_out {α : Type} (a b c x d k : α) (e n f : List α) : (k :: (a :: b :: c :: x :: d :: ((e ++ n) ++ f))).Perm ((x :: d :: k :: ((e ++ [a, b, c]) ++ n)) ++ f) := by
  have h1 : ([k, a, b, c] ++ ([x, d] ++ ((e ++ n) ++ f))).Perm ([x, d] ++ ([k, a, b, c] ++ ((e ++ n) ++ f))) := List.perm_append_comm_assoc _ _ _
  refine h1.trans ?_
  have h2 : ([a, b, c] ++ (e ++ (n ++ f))).Perm (e ++ ([a, b, c] ++ (n ++ f))) := List.perm_append_comm_assoc _ _ _
  have h3 := ((h2.cons k).cons d).cons x
  simp only [List.cons_append, List.nil_append, List.append_assoc] at h3 ⊢
  exact h3
theorem dset_S {v : Value} {Q : Unit → Shared → Prop} (S : Mine.St g L ((d, o) :: news) s.heap m) (hd : o.IsDictOf (PySem.strKind prog w) kvs) (hsz : kvs.length ≤ sizeLine)
    (h : ∀ h' o', Mine.St g L ((d, o') :: news) h' m → o'.IsDictOf (PySem.strKind prog w) (stored kvs k v) → Q () { s with heap := h', toks := s.toks + 1 }) : wpAny (model prog w) A (setItem (.ref d) (.str k t) v) Q E s :=
  kda_set S.fr S.full (.head fun p hp => (others_of hp).2.2) hd (strKind_is prog w k t) hsz fun h' o' F' N' hd' => h h' o' (S.back F' N') hd'
end
end Mine
end
local macro_rules | `(tactic| walk_at "getMethod ref") => return sw (gms vref "get") (rk ``dgm_S "AMA?" "")
local macro_rules | `(tactic| walk_at "call builtin:dict.get") => return rk ``dget_S "AMAA?" ""
section
set_option maxHeartbeats 1000000
open PySem PySem.W PySem.W.X PyProof.Rows PySem.Calls PySem.Spec PySem.Builtin PySem.Builtin.Str
namespace Mine
section
variable {w : World} {mg mb : PySem.Str → Option Value} {A : Around} {g : Heap} {L : Addr} {m : PySem.Str → Option Value} {news frs : List (Addr × Obj)} {s : Shared} {tk t2 t3 : Tok}
    {Q E : Value → Shared → Prop}
/-- self._get_nodeinfo(node) -/
theorem c_info {X D N : Addr} {o : Obj} {t1 t2' t3' t4 : Tok} {rd po fi : Value} {n c : Nat} {nds : List Nd} {es : List (Addr × Obj)} (B : Bs w mg mb g) (hd : o.IsDictOf (PySem.strKind prg w) (kvsOf nds)) (hN : NdE nds es) (lo : (N == sysModules) = false) (hlen : nds.length ≤ 4096)
   (S : Mine.St g L (((X, instObj 192 D) :: (D, soD w t1 t2' t3' t4 N rd po fi n) :: (N, o) :: (es ++ news)) ++ frs) s.heap m) (Z : Ar A L frs 4)
   (hret : ∀ nds' nd o' es' frs' h' tk', nds'.find? (fun x => x.c == c) = some nd → ((nds' = nds ∧ nds.find? (fun x => x.c == c) = some nd) ∨ (nds.find? (fun x => x.c == c) = none ∧ nd.c = c ∧ nd.np = 0 ∧ nd.su = [] ∧ nds' = nds ++ [nd])) → o'.IsDictOf (PySem.strKind prg w) (kvsOf nds') → NdE nds' es' → Up frs frs' →
     Mine.St g L (((X, instObj 192 D) :: (D, soD w t1 t2' t3' t4 N rd po fi n) :: (N, o') :: (es' ++ news)) ++ frs') h' m → Q (.ref nd.a) { s with heap := h', toks := tk' }) :
   wpAny (model prg w) A (call (.ref 135) [.ref X, .str ⟨#[c]⟩ t2]) Q E s := by
  walk_at "enter"; walk_at "go"
  rename_i oL L1 h1 Lb S1 Z1 h2 S2
  have hv : (valueAt (kvsOf nds) ⟨#[c]⟩).getD .none = ((nds.find? fun nd => nd.c == c).map fun nd => Value.ref nd.a).getD .none := by rw [kvs_at]
  rw [hv] at S2 ⊢
  cases hf : nds.find? (fun nd => nd.c == c) with
  | some nd =>
    rw [hf] at S2
    simp only [Option.map_some, Option.getD_some] at S2 ⊢
    walk_at "go"
    obtain ⟨frs4, hu, hS⟩ := leave (news' := (X, instObj 192 D) :: (D, soD w t1 t2' t3' t4 N rd po fi n) :: (N, o) :: (es ++ news)) Lb S2 (Up.refl _)
    exact hret nds nd o es frs4 _ _ hf (.inl ⟨rfl, hf⟩) hd hN hu hS
  | none =>
    rw [hf] at S2
    simp only [Option.map_none, Option.getD_none] at S2 ⊢
    walk_at "go"
    refine c_node (news := (X, instObj 192 D) :: (D, soD w t1 t2' t3' t4 N rd po fi n) :: (N, o) :: (es ++ news)) (frs := (L, oL) :: frs) B S2 (Z1.le (by decide)) ?_
    intro x dx l t u frs3 h3 tk3 hu3 S3
    (try k_fold)
    walk_at "go"
    rw [assign_Subscript]
    refine wpAny_bind (wpAny_holding ?_)
    walk_at "go"
    refine wpAny_bind (wpAny_holding ?_)
    walk_at "go"
    refine wpAny_bind (wpAny_standAt (wpAny_bind (wpAny_holding ?_)))
    have S4 := S3.perm (perm_in _ _ _ _ _ _ _ _ _)
    refine dset_S S4 hd (by unfold kvsOf; rw [List.length_map, sizeLine_eq]; lia) ?_
    intro h5 o5 S5 hd5
    (try k_fold)
    rw [kvs_stored hf] at hd5
    have S6 := S5.perm (perm_out _ _ _ _ _ _ _ _ _)
    clear S5 S4
    refine wpAny_release ?_
    walk_at "go"
    rename_i h7 S7
    obtain ⟨frs4, hu, hS⟩ := leave (news' := (X, instObj 192 D) :: (D, soD w t1 t2' t3' t4 N rd po fi n) :: (N, o5) :: ((es ++ [(x, ndO dx l c t 0 u), (l, lstO [] 0), (dx, dictOf [] 0)]) ++ news)) Lb S7 hu3
    refine hret (nds ++ [⟨c, 0, [], x, l⟩]) ⟨c, 0, [], x, l⟩ o5 _ frs4 _ _ ?_ (.inr ⟨hf, rfl, rfl, rfl, rfl⟩) ?_ (hN.app (NdE.cons (nd := ⟨c, 0, [], x, l⟩) (show SignsAt [] [] from .nil) .nil)) hu hS
    · rw [List.find?_append, hf]; simp
    · unfold kvsOf at hd5 ⊢; rw [List.map_append]; exact hd5
end
end Mine

end
section
open PySem PySem.W PySem.W.X PyProof.Rows PySem.Calls PySem.Spec
namespace Mine
section
variable {prog : Program} {w : World} {A : Around} {s : Shared} {g g₀ : Heap} {L : Addr} {m mg mb : Str → Option Value} {news frs : List (Addr × Obj)}
/-- into a def with a star parameter: the rest goes into a new tuple -/
theorem enterV {R : Result → Shared → Prop} {f : Addr} {name qual : Str} {params : Arguments} {body : List Stmt} {scope : Scope} {dV kV doc pm cdv ct oc : Value} {an od : Option Addr} {osl : Array (Option Value)} {args : Args} {vs : List Value} {binds : Value → List (Str × Value)} {k : Nat}
    (B : Bs w mg mb g₀) (hk₀ : Sub g₀ g) (S : St g L (news ++ frs) s.heap m) (Z : Ar A L frs (k + 1))
    (ho : (Kf w.params).lookup f = some ⟨oc, od, .func (fnOf name qual params body scope dV kV doc pm an cdv ct), osl⟩) (hcd : codeIn (Kf w.params) cdv qual = true)
    (hbind : bindArgs (fnOf name qual params body scope dV kV doc pm an cdv ct) args = (do let v ← newTuple vs; pure (binds v))) (hz : vs.length ≤ sizeLine)
    (hloc : ∀ D, ∀ y ∈ binds (.ref D), scope.names.lookup y.1 = some .local)
    (h : ∀ g' D oL L' h₁, Sub g g' → g'.get? D = some (tupObj vs) → Bears oL m → St g' L' (news ++ (L, oL) :: frs) h₁ (fun x => (binds (.ref D)).reverse.lookup x) → Ar (A.deeper (envX qual scope L' f cdv [])) L' ((L, oL) :: frs) k →
      wpAny (model prog w) (A.deeper (envX qual scope L' f cdv [])) (execs body (envX qual scope L' f cdv [])) (fun fl s' => R (.ok (.ret (match fl with | .ret v => v | _ => .none))) s')
        (fun e s' => wpAny (model prog w) (A.deeper (envX qual scope L' f cdv [])) (leaving (envX qual scope L' f cdv []) e) (fun _ s'' => R (.error e) s'') (fun e' s'' => R (.error e') s'') s')
        { s with heap := h₁, toks := s.toks + (binds (.ref D)).length })
    (hco : scope.isCoroutine = false := by rfl) (hgen : scope.isGenerator = false := by rfl) (hk : scope.kind = .function := by rfl)
    (hcell : ∀ x ∈ scope.names, x.2 ≠ .cell := by decide) : codeAny (model prog w) A (.call (.ref f) args) R s := by
  have ho' := S.keep _ _ (hk₀ _ _ (B.X _ _ ho))
  have hlim := B.nolimit.keeps (hk₀.trans S.keep)
  have hcr := (codeRec_of B.X hcd).keeps (hk₀.trans S.keep)
  refine codeAny_call_function (fd := fnOf name qual params body scope dV kV doc pm an cdv ct) (body := body) (by have := Z.room; lia) ho' rfl hco hgen rfl hcr ?_
  rw [hbind]
  refine wpAny_bind (wpAny_newTuple (wpAny_pure ?_) hz)
  obtain ⟨g', kg, S', hD⟩ := S.push0 (tupObj vs) rfl
  generalize s.heap.objs.size = D at hD ⊢
  generalize hh : s.heap.push (tupObj vs) = hp at S' ⊢
  have hlim' := hlim.keeps (fun b o e => show hp.get? b = some o from hh ▸ Heap.get?_push_of_some _ e)
  refine wpAny_newFunctionEnv (s := { s with heap := hp }) hcell (hloc D) (fun h₁ hns hsb => ⟨hlim'.fresh _ hsb, codeAny_func ?_⟩) hk
  have hk₁ : ∀ b o, hp.get? b = some o → h₁.get? b = some o := fun b o e => hsb.extBut b o (Nat.ne_of_lt (Heap.lt_size e)) (Heap.get?_push_of_some _ e)
  obtain ⟨oL, es, ep, hL, hb⟩ := S'.ns
  have new : ∀ b o, hp.get? b = some o → b ≠ hp.objs.size := fun b o e => Nat.ne_of_lt (Heap.lt_size e)
  obtain ⟨outer, hfr, hin⟩ := Z.frames
  refine h g' D oL hp.objs.size h₁ kg hD ⟨es, ep, hb⟩ ⟨hns, fun b o e => hk₁ b o (S'.keep b o e), ?_, fun p hp' => ?_, fun p hp' => ?_, fun p hp' => ?_, ?_⟩
    ⟨Z.hand, ?_, ?_, fun p hp' => ?_, envX qual scope hp.objs.size f cdv [] :: outer, ?_, ?_⟩
  · cases q : g'.get? hp.objs.size with
    | none => rfl
    | some o' => exact absurd rfl (new _ _ (S'.keep _ _ q))
  · rcases List.mem_append.mp hp' with q | q
    · exact hk₁ _ _ (S'.nw p (List.mem_append_left _ q))
    · rcases List.mem_cons.mp q with rfl | q
      · exact hk₁ _ _ hL
      · exact hk₁ _ _ (S'.nw p (List.mem_append_right _ q))
  · rcases List.mem_append.mp hp' with q | q
    · exact new _ _ (S'.nw p (List.mem_append_left _ q))
    · rcases List.mem_cons.mp q with rfl | q
      · exact new _ _ hL
      · exact new _ _ (S'.nw p (List.mem_append_right _ q))
  · rcases List.mem_append.mp hp' with q | q
    · exact S'.ng p (List.mem_append_left _ q)
    · rcases List.mem_cons.mp q with rfl | q
      · exact S'.off
      · exact S'.ng p (List.mem_append_right _ q)
  · have hp2 : (news ++ (L, oL) :: frs).Perm ((L, oL) :: (news ++ frs)) := List.perm_middle
    refine (hp2.map (·.1)).nodup_iff.mpr (List.nodup_cons.mpr ⟨fun hm => ?_, S'.nd⟩)
    obtain ⟨p, hp3, q⟩ := List.mem_map.mp hm
    exact S'.nL p hp3 q
  · have := Z.room; show A.depth + 1 + 2 * k < _; lia
  · have := Z.units; show A.units + 3 + 40 * k < _; lia
  · rcases List.mem_cons.mp hp' with rfl | hp'
    · exact ⟨m, es, ep, hb⟩
    · exact Z.bear p hp'
  · show A.frames.map _ = _; rw [hfr]; rfl
  · intro e he
    rcases List.mem_cons.mp he with rfl | he
    · exact ⟨hk, _, rfl, .inl rfl⟩
    · exact hin.push ⟨es, ep, hb⟩ e he
end
end Mine

end
local macro_rules | `(tactic| walk_at "getMethod ref") => return rk ``meth_S "AASMMIIIG?" "W"
section
set_option maxHeartbeats 1000000
open PySem PySem.W PySem.W.X PyProof.Rows PySem.Calls PySem.Spec PySem.Builtin PySem.Builtin.Str
namespace Mine
/-- one node turned -/
noncomputable def modNd (c : Nat) (f : Nd → Nd) (nds : List Nd) : List Nd := nds.map fun x => if x.c == c then f x else x
theorem modNd_none {c : Nat} {f : Nd → Nd} : ∀ {nds : List Nd}, c ∉ nds.map (·.c) → modNd c f nds = nds
  | [], _ => rfl
  | nd :: r, h => by
    rw [List.map_cons, List.mem_cons, not_or] at h
    show (if nd.c == c then f nd else nd) :: modNd c f r = _
    rw [modNd_none h.2, if_neg (by simpa using Ne.symm h.1)]
/-- a node's entries, and how its object or its list may be turned -/
inductive PickE (nds : List Nd) (es : List (Addr × Obj)) (c : Nat) (nd : Nd) : Prop
  | mk (d : Addr) (t u : Tok) (vs : List Value) (ep : Nat) (_ : SignsAt vs nd.su) (_ : nd.c = c) (_ : (nd.a, ndO d nd.l nd.c t nd.np u) ∈ es) (_ : (nd.l, lstO vs ep) ∈ es) (_ : (d, dictOf [] 0) ∈ es)
      (_ : ∀ n' u', ∃ es', UpdS nd.a (ndO d nd.l nd.c t nd.np u) (ndO d nd.l nd.c t n' u') es es' ∧ NdE (modNd c (fun y => { y with np := n' }) nds) es')
      (_ : ∀ vs' ep' su', SignsAt vs' su' → ∃ es', UpdS nd.l (lstO vs ep) (lstO vs' ep') es es' ∧ NdE (modNd c (fun y => { y with su := su' }) nds) es') : PickE nds es c nd
/-- a node's entries, and how its object or its list may be turned -/
theorem NdE.pick {nds : List Nd} {es : List (Addr × Obj)} {c : Nat} {nd : Nd} (x : NdE nds es) (hn : (nds.map (·.c)).Nodup) (hf : nds.find? (fun y => y.c == c) = some nd) :
    PickE nds es c nd := by
  induction x with
  | nil => cases hf
  | cons hs hr ih =>
    rename_i nd0 r es d t u vs ep
    rw [List.map_cons, List.nodup_cons] at hn
    rw [List.find?_cons] at hf
    cases hc : (nd0.c == c) with
    | true =>
      rw [hc] at hf
      have e := Option.some.inj hf
      subst e
      have hc' : nd0.c = c := by simpa using hc
      have hno : c ∉ r.map (·.c) := hc' ▸ hn.1
      refine ⟨d, t, u, vs, ep, hs, hc', .head _, .tail _ (.head _), .tail _ (.tail _ (.head _)), fun n' u' => ⟨_, .head, ?_⟩, fun vs' ep' su' hs' => ⟨_, .tail .head, ?_⟩⟩
      · show NdE ((if nd0.c == c then _ else nd0) :: modNd c _ r) _
        rw [if_pos hc, modNd_none hno]
        exact NdE.cons (nd := { nd0 with np := n' }) hs hr
      · show NdE ((if nd0.c == c then _ else nd0) :: modNd c _ r) _
        rw [if_pos hc, modNd_none hno]
        exact NdE.cons (nd := { nd0 with su := su' }) hs' hr
    | false =>
      rw [hc] at hf
      obtain ⟨d1, t1, u1, vs1, ep1, h1, h2, h3, h4, h5, h6, h7⟩ := ih hn.2 hf
      refine ⟨d1, t1, u1, vs1, ep1, h1, h2, .tail _ (.tail _ (.tail _ h3)), .tail _ (.tail _ (.tail _ h4)), .tail _ (.tail _ (.tail _ h5)), fun n' u' => ?_, fun vs' ep' su' hs' => ?_⟩
      · obtain ⟨es', q1, q2⟩ := h6 n' u'
        refine ⟨_, .tail (.tail (.tail q1)), ?_⟩
        show NdE ((if nd0.c == c then _ else nd0) :: modNd c _ r) _
        rw [if_neg (by rw [hc]; decide)]
        exact .cons hs q2
      · obtain ⟨es', q1, q2⟩ := h7 vs' ep' su' hs'
        refine ⟨_, .tail (.tail (.tail q1)), ?_⟩
        show NdE ((if nd0.c == c then _ else nd0) :: modNd c _ r) _
        rw [if_neg (by rw [hc]; decide)]
        exact .cons hs q2
theorem kvs_mod {c : Nat} {f : Nd → Nd} (h : ∀ x, (f x).c = x.c ∧ (f x).a = x.a) (nds : List Nd) : kvsOf (modNd c f nds) = kvsOf nds := by
  unfold kvsOf modNd
  rw [List.map_map]
  refine List.map_congr_left fun x _ => ?_
  show (fun nd : Nd => ((⟨#[nd.c]⟩ : PySem.Str), Value.ref nd.a)) (if x.c == c then f x else x) = _
  split
  · simp only [(h x).1, (h x).2]
  · rfl
theorem nd_nodup {w : World} {o : Obj} {nds : List Nd} (hd : o.IsDictOf (PySem.strKind prg w) (kvsOf nds)) : (nds.map (·.c)).Nodup := by
  obtain ⟨_, _, _, _, _, _, hn⟩ := hd
  unfold kvsOf at hn
  rw [List.map_map] at hn
  have : (nds.map (·.c)).map (fun c => (⟨#[c]⟩ : PySem.Str)) = nds.map ((·.1) ∘ fun nd : Nd => ((⟨#[nd.c]⟩ : PySem.Str), Value.ref nd.a)) := by rw [List.map_map]; rfl
  rw [← this] at hn
  exact (List.pairwise_map.mp hn).imp fun h e => h (by rw [e])
/-- the graph alone -/
noncomputable abbrev Gr := List (Nat × Int × List Nat)
noncomputable def absN (nds : List Nd) : Gr := nds.map fun x => (x.c, x.np, x.su)
noncomputable def ensureG (G : Gr) (c : Nat) : Gr := if G.any (fun x => x.1 == c) then G else G ++ [(c, 0, [])]
noncomputable def addNp (G : Gr) (c : Nat) (k : Int) : Gr := G.map fun x => if x.1 == c then (x.1, x.2.1 + k, x.2.2) else x
noncomputable def addSu (G : Gr) (p c : Nat) : Gr := G.map fun x => if x.1 == p then (x.1, x.2.1, x.2.2 ++ [c]) else x
noncomputable def addG (G : Gr) (c : Nat) (ps : List Nat) : Gr := ps.foldl (fun G p => addSu (ensureG G p) p c) (addNp (ensureG G c) c ps.length)
end Mine

end
section
set_option maxHeartbeats 1000000
open PySem PySem.W PySem.W.X PyProof.Rows PySem.Calls PySem.Spec PySem.Builtin PySem.Builtin.Str
namespace Mine
theorem len_TS {prog : Program} {w : World} {A : Around} {E : Value → Shared → Prop} {s : Shared} {g g₀ : Heap} {L l : Addr} {m : PySem.Str → Option Value} {news : List (Addr × Obj)} {items : Array Value} {Q : Value → Shared → Prop} (S : Mine.St g L news s.heap m) (hl : IsTup g₀ l items) (k : Sub g₀ g) (hfit : (items.size : Int) < 2 ^ 63)
    (h : Q (.int items.size (s.toks + 1)) { s with toks := s.toks + 1 + 1 }) : wpAny (model prog w) A (call (.builtin "len") [.ref l]) Q E s := len_tuple (tupk hl (k.trans S.keep)) hfit h
theorem find_uniq {nds : List Nd} {c : Nat} {nd : Nd} (hn : (nds.map (·.c)).Nodup) (hf : nds.find? (fun y => y.c == c) = some nd) : ∀ x ∈ nds, x.c = c → x = nd := by
  induction nds with
  | nil => cases hf
  | cons y r ih =>
    rw [List.map_cons, List.nodup_cons] at hn
    rw [List.find?_cons] at hf
    intro x hx hc
    (try k_fold)
    cases hy : (y.c == c) with
    | true =>
      rw [hy] at hf
      have e := Option.some.inj hf
      rcases List.mem_cons.mp hx with rfl | hx
      · exact e
      · have hy' : y.c = c := by simpa using hy
        exact absurd (List.mem_map_of_mem (f := (·.c)) hx) (by rw [hc, ← hy']; exact hn.1)
    | false =>
      rw [hy] at hf
      rcases List.mem_cons.mp hx with rfl | hx
      · simp [hc] at hy
      · exact ih hn.2 hf x hx hc
theorem abs_np {nds : List Nd} {c : Nat} {nd : Nd} {k : Int} (hn : (nds.map (·.c)).Nodup) (hf : nds.find? (fun y => y.c == c) = some nd) : absN (modNd c (fun y => { y with np := nd.np + k }) nds) = addNp (absN nds) c k := by
  unfold absN modNd addNp
  rw [List.map_map, List.map_map]
  refine List.map_congr_left fun x hx => ?_
  simp only [Function.comp]
  by_cases h : x.c = c
  · rw [find_uniq hn hf x hx h]
    have : nd.c = c := by rw [← find_uniq hn hf x hx h]; exact h
    simp [this]
  · simp [h]
theorem abs_su {nds : List Nd} {c d : Nat} {nd : Nd} (hn : (nds.map (·.c)).Nodup) (hf : nds.find? (fun y => y.c == c) = some nd) : absN (modNd c (fun y => { y with su := nd.su ++ [d] }) nds) = addSu (absN nds) c d := by
  unfold absN modNd addSu
  rw [List.map_map, List.map_map]
  refine List.map_congr_left fun x hx => ?_
  simp only [Function.comp]
  by_cases h : x.c = c
  · rw [find_uniq hn hf x hx h]
    have : nd.c = c := by rw [← find_uniq hn hf x hx h]; exact h
    simp [this]
  · simp [h]
theorem abs_any (nds : List Nd) (c : Nat) : (absN nds).any (fun x => x.1 == c) = (nds.find? fun y => y.c == c).isSome := by
  unfold absN
  rw [List.any_map]
  induction nds with
  | nil => rfl
  | cons y r ih =>
    rw [List.any_cons, List.find?_cons, ih]
    simp only [Function.comp]
    cases (y.c == c) <;> simp
theorem abs_ensure {nds nds' : List Nd} {c : Nat} {nd : Nd} (h : (nds' = nds ∧ nds.find? (fun x => x.c == c) = some nd) ∨ (nds.find? (fun x => x.c == c) = none ∧ nd.c = c ∧ nd.np = 0 ∧ nd.su = [] ∧ nds' = nds ++ [nd])) : absN nds' = ensureG (absN nds) c := by
  unfold ensureG
  rw [abs_any]
  rcases h with ⟨rfl, h⟩ | ⟨h, h1, h2, h3, rfl⟩
  · rw [h]; rfl
  · rw [h]; simp [absN, h1, h2, h3]
theorem mod_length (c : Nat) (f : Nd → Nd) (nds : List Nd) : (modNd c f nds).length = nds.length := by unfold modNd; rw [List.length_map]
noncomputable def suB (b : Nat) (G : Gr) : Prop := ∀ x ∈ G, x.2.2.length ≤ b
theorem suB.mono {b b' : Nat} {G : Gr} (h : suB b G) (hb : b ≤ b') : suB b' G := fun x hx => Nat.le_trans (h x hx) hb
theorem suB.ensure {b : Nat} {G : Gr} (h : suB b G) (c : Nat) : suB b (ensureG G c) := by
  unfold ensureG
  split
  · exact h
  · intro x hx
    (try k_fold)
    rcases List.mem_append.mp hx with hx | hx
    · exact h x hx
    · rw [List.mem_singleton.mp hx]; exact Nat.zero_le _
theorem suB.np {b : Nat} {G : Gr} (h : suB b G) (c : Nat) (k : Int) : suB b (addNp G c k) := by
  intro x hx
  (try k_fold)
  obtain ⟨y, hy, rfl⟩ := List.mem_map.mp hx
  have := h y hy
  split <;> exact this
theorem suB.su {b : Nat} {G : Gr} (h : suB b G) (p c : Nat) : suB (b + 1) (addSu G p c) := by
  intro x hx
  (try k_fold)
  obtain ⟨y, hy, rfl⟩ := List.mem_map.mp hx
  have := h y hy
  split
  · show (y.2.2 ++ [c]).length ≤ b + 1
    rw [List.length_append, List.length_singleton]; exact Nat.succ_le_succ this
  · exact Nat.le_succ_of_le this
theorem suB.fold {c : Nat} : ∀ (l : List Nat) {b : Nat} {G : Gr}, suB b G → suB (b + l.length) (l.foldl (fun G p => addSu (ensureG G p) p c) G)
  | [], _, _, h => h
  | p :: l, b, G, h => by
    have := suB.fold (c := c) l ((h.ensure p).su p c)
    rw [List.foldl_cons, List.length_cons, show b + (l.length + 1) = b + 1 + l.length from (Nat.succ_add _ _).symm]
    exact this
theorem suB.add {b : Nat} {G : Gr} (h : suB b G) (c : Nat) (ps : List Nat) : suB (b + ps.length) (addG G c ps) := suB.fold ps ((h.ensure c).np c _)
theorem suB.of {b : Nat} {nds : List Nd} {nd : Nd} {c : Nat} (h : suB b (absN nds)) (hf : nds.find? (fun x => x.c == c) = some nd) : nd.su.length ≤ b :=
  h (nd.c, nd.np, nd.su) (List.mem_map.mpr ⟨nd, List.mem_of_find?_eq_some hf, rfl⟩)
theorem appendU_S {prog : Program} {w : World} {A : Around} {E : Value → Shared → Prop} {s : Shared} {g : Heap} {L a : Addr} {m : PySem.Str → Option Value} {news news' : List (Addr × Obj)} {ys : List Value} {ep : Nat} {x : Value} {Q : Value → Shared → Prop} (S : Mine.St g L news s.heap m) (U : UpdS a (lstO ys ep) (lstO (ys ++ [x]) (ep + 1)) news news') (hsz : ys.length ≤ sizeLine)
    (h : ∀ h', Mine.St g L news' h' m → Q .none { s with heap := h' }) : wpAny (model prog w) A (call (.builtin "list.append") [.ref a, x]) Q E s := by
  obtain ⟨r, h1, h2⟩ := U.split
  exact append_S (S.perm h1) hsz fun h' S' => h h' (S'.perm h2)
section
variable {w : World} {mg mb : PySem.Str → Option Value} {A : Around} {g : Heap} {L : Addr} {m : PySem.Str → Option Value} {news frs : List (Addr × Obj)} {s : Shared} {tk t2 t3 : Tok}
    {Q E : Value → Shared → Prop}
inductive AdI (w : World) (X D N : Addr) (t1 t2' t3' t4 t2 : Tok) (po fi : Value) (n : Nat) (news : List (Addr × Obj)) (g1 : Heap) (nds : List Nd) (c : Nat) (cs : List Nat) (i : Nat) (g' : Heap) (m' : PySem.Str → Option Value) (news' : List (Addr × Obj)) : Prop
  | mk (_ : g1 = g') (nds' : List Nd) (o' : Obj) (es' : List (Addr × Obj)) (_ : news' = (X, instObj 192 D) :: (D, soD w t1 t2' t3' t4 N .none po fi n) :: (N, o') :: (es' ++ news)) (_ : o'.IsDictOf (PySem.strKind prg w) (kvsOf nds')) (_ : NdE nds' es')
      (_ : absN nds' = (cs.take i).foldl (fun G p => addSu (ensureG G p) p c) (addNp (ensureG (absN nds) c) c cs.length)) (_ : nds'.length ≤ nds.length + 1 + i) (_ : m' "self" = some (.ref X)) (_ : m' "node" = some (.str ⟨#[c]⟩ t2)) : AdI w X D N t1 t2' t3' t4 t2 po fi n news g1 nds c cs i g' m' news'
/-- sorter.add(c, *preds) -/
theorem c_add {R : Result → Shared → Prop} {X D N : Addr} {o : Obj} {t1 t2' t3' t4 : Tok} {po fi : Value} {n c : Nat} {cs : List Nat} {vs : List Value} {nds : List Nd} {es : List (Addr × Obj)} (B : Bs w mg mb g) (hd : o.IsDictOf (PySem.strKind prg w) (kvsOf nds)) (hN : NdE nds es) (lo : (N == sysModules) = false) (hlen : nds.length + cs.length ≤ 4000) {b : Nat} (hsu : suB b (absN nds)) (hb : b + cs.length ≤ 100000)
   (hcs : SignsAt vs cs) (S : Mine.St g L (((X, instObj 192 D) :: (D, soD w t1 t2' t3' t4 N .none po fi n) :: (N, o) :: (es ++ news)) ++ frs) s.heap m) (Z : Ar A L frs 6)
   (hret : ∀ nds' o' es' g' frs' h' tk', absN nds' = addG (absN nds) c cs → nds'.length ≤ nds.length + 1 + cs.length → o'.IsDictOf (PySem.strKind prg w) (kvsOf nds') → NdE nds' es' → Sub g g' → Up frs frs' →
     Mine.St g' L (((X, instObj 192 D) :: (D, soD w t1 t2' t3' t4 N .none po fi n) :: (N, o') :: (es' ++ news)) ++ frs') h' m → R (.ok (.ret .none)) { s with heap := h', toks := tk' }) :
   codeAny (model prg w) A (.call (.ref 142) ⟨.ref X :: .str ⟨#[c]⟩ t2 :: vs, []⟩) R s := by
  have hvl : vs.length = cs.length := by
    unfold SignsAt at hcs
    have := StrsAre.length hcs
    simpa using this
  refine enterV (news := (X, instObj 192 D) :: (D, soD w t1 t2' t3' t4 N .none po fi n) :: (N, o) :: (es ++ news)) (vs := vs) (binds := fun D' => [(PySem.Str.ofString "self", .ref X), (PySem.Str.ofString "node", .str ⟨#[c]⟩ t2), (PySem.Str.ofString "predecessors", D')]) B (Sub.refl _) S Z (by k_dflt k_is) (by k_dflt k_is) ?_ ?_ (fun D' => locs rfl) ?_ rfl rfl rfl (by decide)
  · generalize vs = l; cases l <;> kernel_rfl
  · rw [sizeLine_eq]; lia
  intro g1 T oL L1 h1 k1 hT Lb S1 Z1
  (try k_fold)
  dsimp only [List.map, List.zip, List.zipWith, List.reverse, List.reverseAux, List.length] at S1 ⊢
  (try k_fold)
  walk_at "go"
  refine c_info (B.keeps k1) hd hN lo (by lia) S1 (Z1.le (by decide)) ?_
  intro nds1 nd o1 es1 frs1 h2 tk2 hf1 hcase1 hd1 hN1 hu1 S2
  (try k_fold)
  walk_at "go"
  rename_i h3 S3
  obtain ⟨d, t, u, ws, ep, hs, hc, m1, m2, m3, up1, up2⟩ := (hN1.pick (nd_nodup hd1) hf1)
  have mA : (nd.a, ndO d nd.l nd.c t nd.np u) ∈ ((X, instObj 192 D) :: (D, soD w t1 t2' t3' t4 N .none po fi n) :: (N, o1) :: (es1 ++ news)) ++ frs1 := .tail _ (.tail _ (.tail _ (List.mem_append_left _ (List.mem_append_left _ m1))))
  have mD : (d, dictOf [] 0) ∈ ((X, instObj 192 D) :: (D, soD w t1 t2' t3' t4 N .none po fi n) :: (N, o1) :: (es1 ++ news)) ++ frs1 := .tail _ (.tail _ (.tail _ (List.mem_append_left _ (List.mem_append_left _ m3))))
  walk_at "go"
  have hTt : IsTup g1 T vs.toArray := ⟨_, hT, rfl, _, rfl⟩
  refine len_TS S3 hTt (Sub.refl _) (by rw [List.size_toArray]; lia) ?_
  walk_at "go"
  obtain ⟨es2, U, hN2⟩ := up1 (nd.np + vs.toArray.size) (tk2 + 1 + 1 + 1 + 1)
  k_dflt (refine' setSlot_S (ox' := ndO d nd.l nd.c t (nd.np + vs.toArray.size) (tk2 + 1 + 1 + 1 + 1)) S3 (B.keeps k1) (Sub.refl _) (inst_S S3 mA mD) ?hs ?hp ?ht ?hT ?hi ?hz ?e ?hf (.tail (.tail (.tail (UpdS.app (UpdS.app U))))) ?_; (case hs => k_is); (case hp => k_is); (case ht => k_is); (case hT => k_is); (case hi => k_is); (case hz => decide); (case e => exact rfl); (case hf => exact rfl))
  intro h4 S4
  (try k_fold)
  have hd2 : o1.IsDictOf (PySem.strKind prg w) (kvsOf (modNd c (fun y => { y with np := nd.np + vs.toArray.size }) nds1)) := by rw [kvs_mod (f := fun y => { y with np := nd.np + vs.toArray.size }) (fun x => ⟨rfl, rfl⟩)]; exact hd1
  have ha2 := abs_np (k := (vs.toArray.size : Int)) (nd_nodup hd1) hf1
  rw [abs_ensure hcase1] at ha2
  have hl2 := mod_length c (fun y => { y with np := nd.np + vs.toArray.size }) nds1
  have hl1 : nds1.length ≤ nds.length + 1 := by
    rcases hcase1 with ⟨rfl, _⟩ | ⟨_, _, _, _, rfl⟩
    · lia
    · rw [List.length_append]; exact Nat.le_refl _
  generalize modNd c (fun y => { y with np := nd.np + vs.toArray.size }) nds1 = nds2 at hd2 hN2 ha2 hl2
  clear U up1 up2 m1 m2 m3 mA mD
  walk_at "go"
  refine iter_tuple S4 (show g1.IsTuple T vs.toArray from ⟨_, hT, rfl, _, rfl⟩) (Sub.refl _) ?_
  intro I oI ob h5 W h0 S5
  (try k_fold)
  refine forLoop_S (L := L1) (frs := frs1) (news := (X, instObj 192 D) :: (D, soD w t1 t2' t3' t4 N .none po fi n) :: (N, o1) :: (es2 ++ news))
    (fun i g' m' news' => AdI w X D N t1 t2' t3' t4 t2 po fi n news g1 nds c cs i g' m' news') Z1.hand W (fun _ => rfl) ?_ ?_ h0 S5 ?_
  · intro i v o3 g3 m3 news3 frs3 h6 tk6 hi hP hInv k3 hu3 S6
    (try k_fold)
    obtain ⟨rfl, nds3, o4, es3, hq165_0, hd3, hN3, ha3, hl3, e1, e2⟩ := hInv
    subst hq165_0
    clear k3
    obtain ⟨p, tp, hp, rfl⟩ := signs_get hcs (by simpa using hP)
    have S7 : Mine.St g1 L1 (((X, instObj 192 D) :: (D, soD w t1 t2' t3' t4 N .none po fi n) :: (N, o4) :: (es3 ++ (news ++ [(I, o3)]))) ++ frs3) h6 m3 := by simpa only [List.append_assoc, List.cons_append] using S6
    clear S6
    have hi' : i < vs.length := by simpa using hi
    walk_at "go"
    rename_i h7 S8
    refine c_info (news := news ++ [(I, o3)]) (frs := frs3) (B.keeps k1) hd3 hN3 lo (by lia) S8 ((Z1.up (hu1.trans hu3)).le (by decide)) ?_
    intro nds4 nd4 o5 es4 frs4 h8 tk8 hf4 hcase4 hd4 hN4 hu4 S9
    (try k_fold)
    obtain ⟨d4, t5, u5, ws, ep, hs, hc4, m1, m2, m3, up1, up2⟩ := (hN4.pick (nd_nodup hd4) hf4)
    have mA : (nd4.a, ndO d4 nd4.l nd4.c t5 nd4.np u5) ∈ ((X, instObj 192 D) :: (D, soD w t1 t2' t3' t4 N .none po fi n) :: (N, o5) :: (es4 ++ (news ++ [(I, o3)]))) ++ frs4 := .tail _ (.tail _ (.tail _ (List.mem_append_left _ (List.mem_append_left _ m1))))
    have mL : (nd4.l, lstO ws ep) ∈ ((X, instObj 192 D) :: (D, soD w t1 t2' t3' t4 N .none po fi n) :: (N, o5) :: (es4 ++ (news ++ [(I, o3)]))) ++ frs4 := .tail _ (.tail _ (.tail _ (List.mem_append_left _ (List.mem_append_left _ m2))))
    have mD : (d4, dictOf [] 0) ∈ ((X, instObj 192 D) :: (D, soD w t1 t2' t3' t4 N .none po fi n) :: (N, o5) :: (es4 ++ (news ++ [(I, o3)]))) ++ frs4 := .tail _ (.tail _ (.tail _ (List.mem_append_left _ (List.mem_append_left _ m3))))
    walk_at "go"
    rename_i h9 S10
    have hb4 : suB (b + i) (absN nds4) := by
      rw [abs_ensure hcase4, ha3]
      have := (suB.fold (c := c) (cs.take i) ((hsu.ensure c).np c cs.length)).ensure p
      rw [List.length_take] at this
      exact this.mono (Nat.add_le_add_left (Nat.min_le_left _ _) _)
    have hwl : ws.length = nd4.su.length := by
      have := StrsAre.length hs
      simpa using this
    have hsl := hb4.of hf4
    obtain ⟨es5, U, hN5⟩ := up2 (ws ++ [.str ⟨#[c]⟩ t2]) (ep + 1) (nd4.su ++ [c]) (signs_append hs (show SignsAt [Value.str ⟨#[c]⟩ t2] [c] from .cons _ _ .nil))
    refine appendU_S S10 (.tail (.tail (.tail (UpdS.app (UpdS.app U))))) (by rw [hwl, sizeLine_eq]; lia) ?_
    intro h11 S11
    (try k_fold)
    have eL : (((X, instObj 192 D) :: (D, soD w t1 t2' t3' t4 N .none po fi n) :: (N, o5) :: (es5 ++ (news ++ [(I, o3)]))) ++ frs4) = (((X, instObj 192 D) :: (D, soD w t1 t2' t3' t4 N .none po fi n) :: (N, o5) :: (es5 ++ news)) ++ [(I, o3)]) ++ frs4 := by simp only [List.append_assoc, List.cons_append]
    have S12 := St.perm S11 (List.Perm.of_eq eL)
    walk_at "go"
    refine ⟨g1, _, ((X, instObj 192 D) :: (D, soD w t1 t2' t3' t4 N .none po fi n) :: (N, o5) :: (es5 ++ news)), frs4, _, _, rfl, Sub.refl _, hu4, S12, rfl, modNd p (fun y => { y with su := nd4.su ++ [c] }) nds4, o5, es5, rfl, ?_, hN5, ?_, ?_, e1, e2⟩
    · rw [kvs_mod (f := fun y => { y with su := nd4.su ++ [c] }) (fun x => ⟨rfl, rfl⟩)]; exact hd4
    · rw [abs_su (nd_nodup hd4) hf4, abs_ensure hcase4, ha3, List.take_add_one, hp]
      show _ = List.foldl _ _ (cs.take i ++ [p])
      rw [List.foldl_append]; rfl
    · rw [mod_length]
      rcases hcase4 with ⟨rfl, _⟩ | ⟨_, _, _, _, rfl⟩
      · lia
      · rw [List.length_append, List.length_singleton]; lia
  · intro g3 m3 news3 frs3 h6 tk6 hInv k3 hu3 S6
    (try k_fold)
    obtain ⟨rfl, nds3, o4, es3, hq209_0, hd3, hN3, ha3, hl3, e1, e2⟩ := hInv
    subst hq209_0
    rw [List.size_toArray, hvl, List.take_length] at ha3
    rw [List.size_toArray, hvl] at hl3
    walk_at "go"
    obtain ⟨frs5, hu5, hS⟩ := leave (news' := (X, instObj 192 D) :: (D, soD w t1 t2' t3' t4 N .none po fi n) :: (N, o4) :: (es3 ++ news)) Lb S6 (hu1.trans hu3)
    exact hret nds3 o4 es3 g1 frs5 _ _ ha3 hl3 hd3 hN3 k1 hu5 hS
  · refine ⟨rfl, nds2, o1, es2, rfl, hd2, hN2, ?_, by lia, rfl, rfl⟩
    rw [ha2, List.size_toArray, hvl]; rfl
end
end Mine

end
section
set_option maxHeartbeats 1000000
open PySem PySem.W PySem.W.X PyProof.Rows PySem.Calls PySem.Spec PySem.Builtin PySem.Builtin.Str
namespace Mine
theorem meets_bool_list {l : Addr} {items : Array Value} (hfit : (items.size : Int) < 2 ^ 63) : Meets (Builtin.«bool.__new__» ⟨[.type "bool", .ref l], []⟩) (fun _ R s => s.heap.IsList l items ∧ R (.ok (.ret (.bool (!items.isEmpty)))) { s with toks := s.toks + 1 + 1 }) :=
  Meets.of_wp fun prog w A R s hs => by
    obtain ⟨hl, hs⟩ := hs
    obtain ⟨hp, g, d, tk, os⟩ := s
    have f1 := PySem.F.conv_sub_bool
    repeat (any_goals (first | assumption | (with_reducible refine wpAny_truthy_list hl hfit ?_) | wp_step))
    all_goals first | exact ⟨_, rfl, hs⟩ | exact hs | skip
theorem bool_LS {prog : Program} {w : World} {A : Around} {E : Value → Shared → Prop} {s : Shared} {l : Addr} {items : Array Value} {Q : Value → Shared → Prop} (hl : s.heap.IsList l items) (hfit : (items.size : Int) < 2 ^ 63) (h : Q (.bool (!items.isEmpty)) { s with toks := s.toks + 1 + 1 }) :
    wpAny (model prog w) A (call (.type "bool") [.ref l]) Q E s := call_bool_1 (meets_bool_list hfit) ⟨hl, rfl, h⟩
theorem tuple_LS {prog : Program} {w : World} {A : Around} {E : Value → Shared → Prop} {s : Shared} {g : Heap} {L l : Addr} {m : PySem.Str → Option Value} {news : List (Addr × Obj)} {ys : List Value} {ep : Nat} {Q : Value → Shared → Prop} (S : Mine.St g L news s.heap m) (hm : (l, lstO ys ep) ∈ news) (hz : ys.length ≤ sizeLine)
    (h : ∀ g' D h', Sub g g' → g'.get? D = some (tupObj ys) → Mine.St g' L news h' m → Q (.ref D) { s with heap := h' }) : wpAny (model prog w) A (call (.type "tuple") [.ref l]) Q E s := by
  refine call_tuple_list (items := ys.toArray) ⟨_, S.nw _ hm, rfl, _, rfl⟩ (fun h' hk => ?_) (by rw [List.size_toArray]; exact hz)
  obtain ⟨g', k, S', e⟩ := (S.keepsTo hk).push0 (tupObj ys) rfl
  exact h g' _ _ k e S'
theorem setNp_S {w : World} {mg mb : PySem.Str → Option Value} {A : Around} {E : Value → Shared → Prop} {s : Shared} {g g₀ : Heap} {L a d l : Addr} {m : PySem.Str → Option Value} {news news' : List (Addr × Obj)} {c : Nat} {t u u' : Tok} {n n' : Int} {Q : Unit → Shared → Prop} (S : Mine.St g L news s.heap m) (B : Bs w mg mb g₀) (k : Sub g₀ g)
    (mA : (a, ndO d l c t n u) ∈ news) (mD : (d, dictOf [] 0) ∈ news) (U : UpdS a (ndO d l c t n u) (ndO d l c t n' u') news news') (h : ∀ h', Mine.St g L news' h' m → Q () { s with heap := h', toks := s.toks + 1 }) :
    wpAny (model prg w) A (setAttr (.ref a) (PySem.Str.ofString "npredecessors") (.int n' u')) Q E s := by
  k_dflt (refine' setSlot_S (ox' := ndO d l c t n' u') S B k (inst_S S mA mD) ?hs ?hp ?ht ?hT ?hi ?hz ?e ?hf U ?_; (case hs => k_is); (case hp => k_is); (case ht => k_is); (case hT => k_is); (case hi => k_is); (case hz => decide); (case e => exact rfl); (case hf => exact rfl))
  exact h
section
variable {prog : Program} {w : World} {A : Around} {E : Value → Shared → Prop} {s : Shared} {g : Heap} {L R : Addr} {m : PySem.Str → Option Value} {news : List (Addr × Obj)} {ys : List Value} {ep : Nat}
theorem lm_S {name : PySem.Str} {id : String} {pl : Sem Bool} {Q : Value × List Value → Shared → Prop} (S : Mine.St g L news s.heap m) (hm : (R, lstO ys ep) ∈ news) (slot : Slot "list" name id) (hty : typeOf (.builtin id) = pure (.type "method_descriptor")) (h : Q (.builtin id, [.ref R]) s) :
    wpAny (model prog w) A (getMethod (.ref R) name pl) Q E s := kl_method S.nws hm slot hty h
/-- a list of the ledger turned by a builtin -/
theorem turnL {h : Heap} {news' : Nat → List (Addr × Obj)} {ys' : List Value} (f : Array Value → Array Value) (e : f ys.toArray = ys'.toArray) (S : Mine.St g L news h m) (U : ∀ ep', UpdS R (lstO ys ep) (lstO ys' ep') news (news' ep')) : ∃ ep', Mine.St g L (news' ep') (h.update R (Obj.mapSeq f)) m := by
  obtain ⟨r, h1, h2⟩ := (U (if (f ys.toArray).size == ys.toArray.size then ep else ep + 1)).split
  have S1 := S.perm h1
  have q := PySem.IsL.update (S1.nw _ (.head _)) f
  rw [e] at q h2
  exact ⟨_, (S1.turn (Heap.SameBut.update ..) q).perm h2⟩
theorem clear_S {news' : Nat → List (Addr × Obj)} {Q : Value → Shared → Prop} (S : Mine.St g L news s.heap m) (U : ∀ ep', UpdS R (lstO ys ep) (lstO [] ep') news (news' ep')) (hz : ys.length ≤ sizeLine)
    (h : ∀ ep' h', Mine.St g L (news' ep') h' m → Q .none { s with heap := h' }) : wpAny (model prog w) A (call (.builtin "list.clear") [.ref R]) Q E s := by
  have hm := S.nw _ (U ep).mem
  obtain ⟨ep', S'⟩ := turnL (fun _ => #[]) rfl S U
  exact call_meets PySem.F.slot_list_clear ⟨_, hm, rfl⟩ PySem.F.entry_list_clear (PySem.F.args_list_clear_1 _) (PySem.AutoSeq1.list_clear_list_0 R ys.toArray ep (by simpa using hz)) ⟨hm, h ep' _ S'⟩
theorem pop_S {y : Value} {news' : Nat → List (Addr × Obj)} {Q : Value → Shared → Prop} (S : Mine.St g L news s.heap m) (U : ∀ ep', UpdS R (lstO (ys ++ [y]) ep) (lstO ys ep') news (news' ep')) (hz : (ys ++ [y]).length ≤ sizeLine)
    (h : ∀ ep' h', Mine.St g L (news' ep') h' m → Q y { s with heap := h' }) : wpAny (model prog w) A (call (.builtin "list.pop") [.ref R]) Q E s := by
  have hm := S.nw _ (U ep).mem
  obtain ⟨ep', S'⟩ := turnL (fun x => x.eraseIdxIfInBounds ((ys ++ [y]).toArray.size - 1)) (by rw [List.size_toArray, List.length_append, List.length_singleton, Nat.add_sub_cancel]; simp [List.eraseIdx_append_of_length_le]) S U
  refine call_meets PySem.F.slot_list_pop ⟨_, hm, rfl⟩ PySem.F.entry_list_pop (PySem.F.args_list_pop_1 _) (PySem.MeetsSeq.list_pop_last R (ys ++ [y]).toArray ep y (by simp) (by rw [List.size_toArray]; exact hz)) ⟨hm, h ep' _ ?_⟩
  exact S'
end
theorem setRd_S {w : World} {mg mb : PySem.Str → Option Value} {A : Around} {E : Value → Shared → Prop} {s : Shared} {g g₀ : Heap} {L X D N : Addr} {m : PySem.Str → Option Value} {news news' : List (Addr × Obj)} {t1 t2 t3 t4 : Tok} {rd po fi v : Value} {n : Nat} {Q : Unit → Shared → Prop} (S : Mine.St g L news s.heap m) (B : Bs w mg mb g₀) (k : Sub g₀ g)
    (hx : (X, instObj 192 D) ∈ news) (U : UpdS D (soD w t1 t2 t3 t4 N rd po fi n) (soD w t1 t2 t3 t4 N v po fi n) news news') (h : ∀ h', Mine.St g L news' h' m → Q () { s with heap := h', toks := s.toks + 2 }) :
    wpAny (model prg w) A (setAttr (.ref X) (PySem.Str.ofString "_ready_nodes") v) Q E s := by
  k_dflt (refine' setOwn_S S B k hx ?hs ?hp ?ht ?hh ?hl ?e U ?hz h; (case hs => k_is); (case hp => k_is); (case ht => k_is); (case hh => k_is); (case hl => rfl); (case e => rfl); (case hz => exact Nat.le_of_ble_eq_true rfl))
theorem setPo_S {w : World} {mg mb : PySem.Str → Option Value} {A : Around} {E : Value → Shared → Prop} {s : Shared} {g g₀ : Heap} {L X D N : Addr} {m : PySem.Str → Option Value} {news news' : List (Addr × Obj)} {t1 t2 t3 t4 : Tok} {rd po fi v : Value} {n : Nat} {Q : Unit → Shared → Prop} (S : Mine.St g L news s.heap m) (B : Bs w mg mb g₀) (k : Sub g₀ g)
    (hx : (X, instObj 192 D) ∈ news) (U : UpdS D (soD w t1 t2 t3 t4 N rd po fi n) (soD w t1 t2 t3 t4 N rd v fi n) news news') (h : ∀ h', Mine.St g L news' h' m → Q () { s with heap := h', toks := s.toks + 2 }) :
    wpAny (model prg w) A (setAttr (.ref X) (PySem.Str.ofString "_npassedout") v) Q E s := by
  k_dflt (refine' setOwn_S S B k hx ?hs ?hp ?ht ?hh ?hl ?e U ?hz h; (case hs => k_is); (case hp => k_is); (case ht => k_is); (case hh => k_is); (case hl => rfl); (case e => rfl); (case hz => exact Nat.le_of_ble_eq_true rfl))
theorem setFi_S {w : World} {mg mb : PySem.Str → Option Value} {A : Around} {E : Value → Shared → Prop} {s : Shared} {g g₀ : Heap} {L X D N : Addr} {m : PySem.Str → Option Value} {news news' : List (Addr × Obj)} {t1 t2 t3 t4 : Tok} {rd po fi v : Value} {n : Nat} {Q : Unit → Shared → Prop} (S : Mine.St g L news s.heap m) (B : Bs w mg mb g₀) (k : Sub g₀ g)
    (hx : (X, instObj 192 D) ∈ news) (U : UpdS D (soD w t1 t2 t3 t4 N rd po fi n) (soD w t1 t2 t3 t4 N rd po v n) news news') (h : ∀ h', Mine.St g L news' h' m → Q () { s with heap := h', toks := s.toks + 2 }) :
    wpAny (model prg w) A (setAttr (.ref X) (PySem.Str.ofString "_nfinished") v) Q E s := by
  k_dflt (refine' setOwn_S S B k hx ?hs ?hp ?ht ?hh ?hl ?e U ?hz h; (case hs => k_is); (case hp => k_is); (case ht => k_is); (case hh => k_is); (case hl => rfl); (case e => rfl); (case hz => exact Nat.le_of_ble_eq_true rfl))
/-- the nodes once the lists of successors turn no more: they lie in the base -/
inductive NdB (g : Heap) : List Nd → List (Addr × Obj) → Prop
  | nil : NdB g [] []
  | cons {nd : Nd} {r : List Nd} {es : List (Addr × Obj)} {d : Addr} {t u : Tok} {vs : List Value} {ep : Nat} : SignsAt vs nd.su → g.get? nd.l = some (lstO vs ep) → NdB g r es → NdB g (nd :: r) ((nd.a, ndO d nd.l nd.c t nd.np u) :: (d, dictOf [] 0) :: es)
theorem NdB.mono {g g' : Heap} (k : Sub g g') {nds : List Nd} {es : List (Addr × Obj)} (x : NdB g nds es) : NdB g' nds es := by
  induction x with
  | nil => exact .nil
  | cons h e _ ih => exact .cons h (k _ _ e) ih
inductive PickB (g : Heap) (nds : List Nd) (es : List (Addr × Obj)) (c : Nat) (nd : Nd) : Prop
  | mk (d : Addr) (t u : Tok) (vs : List Value) (ep : Nat) (_ : SignsAt vs nd.su) (_ : nd.c = c) (_ : (nd.a, ndO d nd.l nd.c t nd.np u) ∈ es) (_ : g.get? nd.l = some (lstO vs ep)) (_ : (d, dictOf [] 0) ∈ es)
      (_ : ∀ n' u', ∃ es', UpdS nd.a (ndO d nd.l nd.c t nd.np u) (ndO d nd.l nd.c t n' u') es es' ∧ NdB g (modNd c (fun y => { y with np := n' }) nds) es') : PickB g nds es c nd
theorem NdB.pick {g : Heap} {nds : List Nd} {es : List (Addr × Obj)} {c : Nat} {nd : Nd} (x : NdB g nds es) (hn : (nds.map (·.c)).Nodup) (hf : nds.find? (fun y => y.c == c) = some nd) :
    PickB g nds es c nd := by
  induction x with
  | nil => cases hf
  | cons hs he hr ih =>
    rename_i nd0 r es d t u vs ep
    rw [List.map_cons, List.nodup_cons] at hn
    rw [List.find?_cons] at hf
    cases hc : (nd0.c == c) with
    | true =>
      rw [hc] at hf
      have e := Option.some.inj hf
      subst e
      have hc' : nd0.c = c := by simpa using hc
      have hno : c ∉ r.map (·.c) := hc' ▸ hn.1
      refine ⟨d, t, u, vs, ep, hs, hc', .head _, he, .tail _ (.head _), fun n' u' => ⟨_, .head, ?_⟩⟩
      show NdB g ((if nd0.c == c then _ else nd0) :: modNd c _ r) _
      rw [if_pos hc, modNd_none hno]
      exact NdB.cons (nd := { nd0 with np := n' }) hs he hr
    | false =>
      rw [hc] at hf
      obtain ⟨d1, t1, u1, vs1, ep1, h1, h2, h3, h4, h5, h6⟩ := ih hn.2 hf
      refine ⟨d1, t1, u1, vs1, ep1, h1, h2, .tail _ (.tail _ h3), h4, .tail _ (.tail _ h5), fun n' u' => ?_⟩
      obtain ⟨es', q1, q2⟩ := h6 n' u'
      refine ⟨_, .tail (.tail q1), ?_⟩
      show NdB g ((if nd0.c == c then _ else nd0) :: modNd c _ r) _
      rw [if_neg (by rw [hc]; decide)]
      exact .cons hs he q2
/-- a thing of the base goes back onto the ledger -/
theorem St.take {g g' h : Heap} {L a : Addr} {o : Obj} {m : PySem.Str → Option Value} {news : List (Addr × Obj)} (S : Mine.St g' L news h m) (k : Sub g g') (h1 : g.get? a = none) (h2 : g'.get? a = some o) : Mine.St g L ((a, o) :: news) h m := by
  refine ⟨S.ns, fun b x e => S.keep b x (k b x e), ?_, fun p hp => ?_, fun p hp => ?_, fun p hp => ?_, ?_⟩
  · cases q : g.get? L with
    | none => rfl
    | some x => have := k _ _ q; rw [S.off] at this; cases this
  · rcases List.mem_cons.mp hp with rfl | hp
    · exact S.keep _ _ h2
    · exact S.nw p hp
  · rcases List.mem_cons.mp hp with rfl | hp
    · intro q; have q' : a = L := q; rw [q', S.off] at h2; cases h2
    · exact S.nL p hp
  · rcases List.mem_cons.mp hp with rfl | hp
    · exact h1
    · cases q : g.get? p.1 with
      | none => rfl
      | some x => have := k _ _ q; rw [S.ng p hp] at this; cases this
  · refine List.nodup_cons.mpr ⟨fun hm => ?_, S.nd⟩
    obtain ⟨p, hp, q⟩ := List.mem_map.mp hm
    have := S.ng p hp
    rw [q, h2] at this; cases this
/-- the lists of successors go over to the base -/
theorem NdE.lay {g h : Heap} {L : Addr} {m : PySem.Str → Option Value} {nds : List Nd} {es : List (Addr × Obj)} (x : NdE nds es) : ∀ {pre post : List (Addr × Obj)}, Mine.St g L (pre ++ (es ++ post)) h m → ∃ g' es', Sub g g' ∧ NdB g' nds es' ∧ Mine.St g' L (pre ++ (es' ++ post)) h m := by
  induction x generalizing g with
  | nil => intro pre post S; exact ⟨g, [], Sub.refl _, .nil, S⟩
  | cons hs hr ih =>
    rename_i nd r es d t u vs ep
    intro pre post S
    (try k_fold)
    have hp : (pre ++ (((nd.a, ndO d nd.l nd.c t nd.np u) :: (nd.l, lstO vs ep) :: (d, dictOf [] 0) :: es) ++ post)).Perm ((nd.l, lstO vs ep) :: ((pre ++ [(nd.a, ndO d nd.l nd.c t nd.np u), (d, dictOf [] 0)]) ++ (es ++ post))) := by
      have := List.perm_middle (a := (nd.l, lstO vs ep)) (l₁ := pre ++ [(nd.a, ndO d nd.l nd.c t nd.np u)]) (l₂ := (d, dictOf [] 0) :: (es ++ post))
      simpa only [List.append_assoc, List.cons_append, List.nil_append] using this
    obtain ⟨g1, k1, S1, e1⟩ := (S.perm hp).settle
    obtain ⟨g2, es2, k2, N2, S2⟩ := ih S1
    refine ⟨g2, (nd.a, ndO d nd.l nd.c t nd.np u) :: (d, dictOf [] 0) :: es2, k1.trans k2, .cons hs (k2 _ _ e1) N2, ?_⟩
    simpa only [List.append_assoc, List.cons_append, List.nil_append] using S2
noncomputable def setNp (G : Gr) (c : Nat) (k : Int) : Gr := G.map fun x => if x.1 == c then (x.1, k, x.2.2) else x
theorem abs_set {nds : List Nd} {c : Nat} {k : Int} : absN (modNd c (fun y => { y with np := k }) nds) = setNp (absN nds) c k := by
  unfold absN modNd setNp
  rw [List.map_map, List.map_map]
  refine List.map_congr_left fun x _ => ?_
  simp only [Function.comp]
  by_cases h : x.c = c <;> simp [h]
theorem find_mod {c d : Nat} {f : Nd → Nd} (h : ∀ x, (f x).c = x.c) (nds : List Nd) : ((modNd c f nds).find? fun y => y.c == d).isSome = (nds.find? fun y => y.c == d).isSome := by
  unfold modNd
  induction nds with
  | nil => rfl
  | cons y r ih =>
    rw [List.map_cons, List.find?_cons, List.find?_cons]
    have e : (if y.c == c then f y else y).c = y.c := by split; exact h y; rfl
    rw [e]
    cases (y.c == d)
    · exact ih
    · rfl
section
variable {w : World} {mg mb : PySem.Str → Option Value} {A : Around} {g : Heap} {L : Addr} {m : PySem.Str → Option Value} {news frs : List (Addr × Obj)} {s : Shared} {tk t2 t3 : Tok}
    {Q E : Value → Shared → Prop}
/-- sorter.is_active() -/
theorem c_active {X D N R : Addr} {t1 t2' t3' t4 u1 u2 : Tok} {po fi : Int} {n ep : Nat} {ys : List Value} (hy : ys.length ≤ 100000) (B : Bs w mg mb g)
   (S : Mine.St g L (((X, instObj 192 D) :: (D, soD w t1 t2' t3' t4 N (.ref R) (.int po u1) (.int fi u2) n) :: (R, lstO ys ep) :: news) ++ frs) s.heap m) (Z : Ar A L frs 3)
   (hret : ∀ frs' h' tk', Up frs frs' → Mine.St g L (((X, instObj 192 D) :: (D, soD w t1 t2' t3' t4 N (.ref R) (.int po u1) (.int fi u2) n) :: (R, lstO ys ep) :: news) ++ frs') h' m → Q (.bool (decide (fi < po) || !ys.isEmpty)) { s with heap := h', toks := tk' }) :
   wpAny (model prg w) A (call (.ref 161) [.ref X]) Q E s := by
  walk_at "enter"; walk_at "go"
  · rename_i oL L1 h1 Lb S1 Z1 hlt
    obtain ⟨frs4, hu, hS⟩ := leave (news' := (X, instObj 192 D) :: (D, soD w t1 t2' t3' t4 N (.ref R) (.int po u1) (.int fi u2) n) :: (R, lstO ys ep) :: news) Lb S1 (Up.refl _)
    have hlt' : decide (fi < po) = true := by simpa using hlt
    rw [hlt', Bool.true_or] at hret
    rw [hlt']
    exact hret frs4 _ _ hu hS
  · rename_i oL L1 h1 Lb S1 Z1 hlt
    refine bool_LS (items := ys.toArray) ⟨_, S1.nw _ (.tail _ (.tail _ (.head _))), rfl, _, rfl⟩ (by rw [List.size_toArray]; lia) ?_
    walk_at "go"
    obtain ⟨frs4, hu, hS⟩ := leave (news' := (X, instObj 192 D) :: (D, soD w t1 t2' t3' t4 N (.ref R) (.int po u1) (.int fi u2) n) :: (R, lstO ys ep) :: news) Lb S1 (Up.refl _)
    have hlt' : decide (fi < po) = false := by simpa using hlt
    rw [hlt', Bool.false_or] at hret
    have e : ys.toArray.isEmpty = ys.isEmpty := by simp
    rw [e]
    exact hret frs4 _ _ hu hS
end
end Mine
end
local macro_rules | `(tactic| walk_at "subscriptTail") => return sw (stl vstr) (rk ``ditem_S "AMAs?UV" "")
local macro_rules | `(tactic| walk_at "getMethod ref") => return sw (gms vref "clear") (kd (rt (ap ``lm_S [pt 'A', pt 'M', Lean.mkIdent ``PySem.F.slot_list_clear, Lean.mkIdent ``PySem.F.type_list_clear, pt '?'])))
local macro_rules | `(tactic| walk_at "getMethod ref") => return sw (gms vref "pop") (kd (rt (ap ``lm_S [pt 'A', pt 'M', Lean.mkIdent ``PySem.F.slot_list_pop, Lean.mkIdent ``PySem.F.type_list_pop, pt '?'])))
section
set_option maxHeartbeats 1000000
open PySem PySem.W PySem.W.X PyProof.Rows PySem.Calls PySem.Spec PySem.Builtin PySem.Builtin.Str
namespace Mine
section
variable {w : World} {mg mb : PySem.Str → Option Value} {A : Around} {g : Heap} {L : Addr} {m : PySem.Str → Option Value} {news frs : List (Addr × Obj)} {s : Shared} {tk t2 t3 : Tok}
    {Q E : Value → Shared → Prop}
inductive ReI (w : World) (X D N R T : Addr) (t1 t2' t3' t4 u1 u2 : Tok) (po fi : Int) (n : Nat) (ys : List Value) (ep : Nat) (o : Obj) (news : List (Addr × Obj)) (g1 : Heap) (nds : List Nd) (cs : List Nat) (i : Nat) (g' : Heap) (m' : PySem.Str → Option Value) (news' : List (Addr × Obj)) : Prop
  | mk (_ : g1 = g') (nds' : List Nd) (es' : List (Addr × Obj)) (_ : news' = (X, instObj 192 D) :: (D, soD w t1 t2' t3' t4 N (.ref R) (.int po u1) (.int fi u2) n) :: (R, lstO ys ep) :: (N, o) :: (es' ++ news)) (_ : o.IsDictOf (PySem.strKind prg w) (kvsOf nds')) (_ : NdB g1 nds' es')
      (_ : absN nds' = (cs.take i).foldl (fun G c => setNp G c (-1)) (absN nds)) (_ : ∀ c, (nds'.find? fun y => y.c == c).isSome = (nds.find? fun y => y.c == c).isSome) (_ : m' "self" = some (.ref X)) (_ : m' "n2i" = some (.ref N)) (_ : m' "result" = some (.ref T)) : ReI w X D N R T t1 t2' t3' t4 u1 u2 po fi n ys ep o news g1 nds cs i g' m' news'
/-- sorter.get_ready() -/
theorem c_ready {X D N R : Addr} {o : Obj} {nds : List Nd} {es : List (Addr × Obj)} {t1 t2' t3' t4 u1 u2 : Tok} {po fi : Int} {n ep : Nat} {ys : List Value} {cs : List Nat} (hsy : SignsAt ys cs) (hin : ∀ c ∈ cs, (nds.find? fun y => y.c == c).isSome = true) (hy : ys.length ≤ 100000) (B : Bs w mg mb g)
   (hd : o.IsDictOf (PySem.strKind prg w) (kvsOf nds)) (hN : NdB g nds es) (lo : (N == sysModules) = false)
   (S : Mine.St g L (((X, instObj 192 D) :: (D, soD w t1 t2' t3' t4 N (.ref R) (.int po u1) (.int fi u2) n) :: (R, lstO ys ep) :: (N, o) :: (es ++ news)) ++ frs) s.heap m) (Z : Ar A L frs 3)
   (hret : ∀ nds' es' g' T frs' h' tk' ep' t3' u1' n', absN nds' = cs.foldl (fun G c => setNp G c (-1)) (absN nds) → o.IsDictOf (PySem.strKind prg w) (kvsOf nds') → NdB g' nds' es' → Sub g g' → g'.get? T = some (tupObj ys) → Up frs frs' →
     Mine.St g' L (((X, instObj 192 D) :: (D, soD w t1 t2' t3' t4 N (.ref R) (.int (po + (ys.length : Int)) u1') (.int fi u2) n') :: (R, lstO [] ep') :: (N, o) :: (es' ++ news)) ++ frs') h' m → Q (.ref T) { s with heap := h', toks := tk' }) :
   wpAny (model prg w) A (call (.ref 154) [.ref X]) Q E s := by
  walk_at "enter"; walk_at "go"
  rename_i oL L1 h1 Lb S1 Z1
  refine tuple_LS S1 (.tail _ (.tail _ (.head _))) (by rw [sizeLine_eq]; lia) ?_
  intro g1 T h2 k1 hT S2
  (try k_fold)
  walk_at "go"
  rename_i h3 S3 h4 S4
  refine iter_tuple S4 (show g1.IsTuple T ys.toArray from ⟨_, hT, rfl, _, rfl⟩) (Sub.refl _) ?_
  intro I oI ob h5 W h0 S5
  (try k_fold)
  refine forLoop_S (L := L1) (frs := (L, oL) :: frs) (news := (X, instObj 192 D) :: (D, soD w t1 t2' t3' t4 N (.ref R) (.int po u1) (.int fi u2) n) :: (R, lstO ys ep) :: (N, o) :: (es ++ news))
    (fun i g' m' news' => ReI w X D N R T t1 t2' t3' t4 u1 u2 po fi n ys ep o news g1 nds cs i g' m' news') Z1.hand W (fun _ => rfl) ?_ ?_ h0 S5 ?_
  · intro i v o3 g3 m3 news3 frs3 h6 tk6 hi hP hInv k3 hu3 S6
    (try k_fold)
    obtain ⟨rfl, nds3, es3, hq33_0, hd3, hN3, ha3, hf3, e1, e2, e3⟩ := hInv
    subst hq33_0
    clear k3
    obtain ⟨p, tp, hp, rfl⟩ := signs_get hsy (by simpa using hP)
    obtain ⟨nd, hnd⟩ := Option.isSome_iff_exists.mp ((hf3 p).trans (hin p (List.mem_of_getElem? hp)))
    obtain ⟨d4, t5, u5, ws, ep', hs, hc4, m1, m2, m3', up1⟩ := (hN3.pick (nd_nodup hd3) hnd)
    have S7 : Mine.St g1 L1 (((X, instObj 192 D) :: (D, soD w t1 t2' t3' t4 N (.ref R) (.int po u1) (.int fi u2) n) :: (R, lstO ys ep) :: (N, o) :: (es3 ++ (news ++ [(I, o3)]))) ++ frs3) h6 m3 := by simpa only [List.append_assoc, List.cons_append] using S6
    clear S6
    have mA : (nd.a, ndO d4 nd.l nd.c t5 nd.np u5) ∈ ((X, instObj 192 D) :: (D, soD w t1 t2' t3' t4 N (.ref R) (.int po u1) (.int fi u2) n) :: (R, lstO ys ep) :: (N, o) :: (es3 ++ (news ++ [(I, o3)]))) ++ frs3 := .tail _ (.tail _ (.tail _ (.tail _ (List.mem_append_left _ (List.mem_append_left _ m1)))))
    have mD : (d4, dictOf [] 0) ∈ ((X, instObj 192 D) :: (D, soD w t1 t2' t3' t4 N (.ref R) (.int po u1) (.int fi u2) n) :: (R, lstO ys ep) :: (N, o) :: (es3 ++ (news ++ [(I, o3)]))) ++ frs3 := .tail _ (.tail _ (.tail _ (.tail _ (List.mem_append_left _ (List.mem_append_left _ m3')))))
    have hv : valueAt (kvsOf nds3) ⟨#[p]⟩ = some (.ref nd.a) := by rw [kvs_at, hnd]; rfl
    walk_at "go"
    rename_i h7 S6'
    obtain ⟨es4, U, hN4⟩ := up1 (-1) 392
    refine setNp_S S6' (B.keeps k1) (Sub.refl _) mA mD (.tail (.tail (.tail (.tail (UpdS.app (UpdS.app U)))))) ?_
    intro h8 S8
    (try k_fold)
    walk_at "go"
    have eL : (((X, instObj 192 D) :: (D, soD w t1 t2' t3' t4 N (.ref R) (.int po u1) (.int fi u2) n) :: (R, lstO ys ep) :: (N, o) :: (es4 ++ (news ++ [(I, o3)]))) ++ frs3) = (((X, instObj 192 D) :: (D, soD w t1 t2' t3' t4 N (.ref R) (.int po u1) (.int fi u2) n) :: (R, lstO ys ep) :: (N, o) :: (es4 ++ news)) ++ [(I, o3)]) ++ frs3 := by simp only [List.append_assoc, List.cons_append]
    have S12 := St.perm S8 (List.Perm.of_eq eL)
    refine ⟨g1, _, _, frs3, _, _, rfl, Sub.refl _, Up.refl _, S12, rfl, modNd p (fun y => { y with np := -1 }) nds3, es4, rfl, ?_, hN4, ?_, ?_, e1, e2, e3⟩
    · rw [kvs_mod (f := fun y => { y with np := -1 }) (fun x => ⟨rfl, rfl⟩)]; exact hd3
    · rw [abs_set, ha3, List.take_add_one, hp]
      show _ = List.foldl _ _ (cs.take i ++ [p])
      rw [List.foldl_append]; rfl
    · intro c
      (try k_fold)
      rw [find_mod (f := fun y => { y with np := -1 }) (fun _ => rfl)]; exact hf3 c
  · intro g3 m3 news3 frs3 h6 tk6 hInv k3 hu3 S6
    (try k_fold)
    obtain ⟨rfl, nds3, es3, hq62_0, hd3, hN3, ha3, hf3, e1, e2, e3⟩ := hInv
    subst hq62_0
    clear k3
    walk_at "go"
    refine clear_S S6 (fun _ => .tail (.tail .head)) (by rw [sizeLine_eq]; lia) ?_
    intro ep4 h7 S7
    (try k_fold)
    walk_at "go"
    refine len_TS S7 (show IsTup g1 T ys.toArray from ⟨_, hT, rfl, _, rfl⟩) (Sub.refl _) (by rw [List.size_toArray]; lia) ?_
    walk_at "go"
    (try dsimp only)
    refine setPo_S S7 (B.keeps k1) (Sub.refl _) (.head _) (.tail .head) ?_
    intro h8 S8
    (try k_fold)
    walk_at "go"
    rw [show ((ys.toArray.size : Nat) : Int) = (ys.length : Int) by simp] at S8
    obtain ⟨frs5, hu5, hS⟩ := leave (news' := (X, instObj 192 D) :: (D, soD w t1 t2' t3' t4 N (.ref R) (.int (po + (ys.length : Int)) _) (.int fi u2) n) :: (R, lstO [] ep4) :: (N, o) :: (es3 ++ news)) Lb S8 hu3
    have hcl : ys.toArray.size = cs.length := by
      have := StrsAre.length hsy
      simpa using this
    rw [hcl, List.take_length] at ha3
    exact hret nds3 es3 g1 T frs5 _ _ ep4 _ _ _ ha3 hd3 hN3 k1 hT hu5 hS
  · exact ⟨rfl, nds, es, rfl, hd, hN.mono k1, rfl, fun _ => rfl, rfl, rfl, rfl⟩
end
end Mine

end
section
set_option maxHeartbeats 1000000
open PySem PySem.W PySem.W.X PyProof.Rows PySem.Calls PySem.Spec PySem.Builtin PySem.Builtin.Str
namespace Mine
theorem dgetV_S {prog : Program} {w : World} {A : Around} {E : Value → Shared → Prop} {s : Shared} {g : Heap} {L d : Addr} {m : PySem.Str → Option Value} {news : List (Addr × Obj)} {o : Obj} {kvs : List (PySem.Str × Value)} {k : PySem.Str} {t : Tok} {v : Value} {Q : Value → Shared → Prop} (S : Mine.St g L news s.heap m) (hp : (d, o) ∈ news) (hd : o.IsDictOf (PySem.strKind prog w) kvs) (lo : (d == sysModules) = false) (hl : valueAt kvs k = some v) (h : Q v { s with toks := s.toks + 1 }) :
    wpAny (model prog w) A (call (.builtin "dict.get") [.ref d, .str k t]) Q E s := dget_S S hp hd lo (by rw [hl]; exact h)
noncomputable def npOf (G : Gr) (c : Nat) : Int := ((G.find? fun x => x.1 == c).map (·.2.1)).getD 0
noncomputable def suOf (G : Gr) (c : Nat) : List Nat := ((G.find? fun x => x.1 == c).map (·.2.2)).getD []
/-- one successor less to wait for -/
noncomputable def decG (st : Gr × List Nat) (c : Nat) : Gr × List Nat := (addNp st.1 c (-1), if npOf st.1 c - 1 = 0 then st.2 ++ [c] else st.2)
noncomputable def doneOne (st : Gr × List Nat) (c : Nat) : Gr × List Nat := (suOf st.1 c).foldl decG (setNp st.1 c (-2), st.2)
theorem abs_find (nds : List Nd) (c : Nat) : (absN nds).find? (fun x => x.1 == c) = (nds.find? fun y => y.c == c).map fun x => (x.c, x.np, x.su) := by
  unfold absN
  rw [List.find?_map]; rfl
theorem np_of {nds : List Nd} {c : Nat} {nd : Nd} (h : nds.find? (fun y => y.c == c) = some nd) : npOf (absN nds) c = nd.np := by unfold npOf; rw [abs_find, h]; rfl
theorem su_of {nds : List Nd} {c : Nat} {nd : Nd} (h : nds.find? (fun y => y.c == c) = some nd) : suOf (absN nds) c = nd.su := by unfold suOf; rw [abs_find, h]; rfl
theorem find_modS {nds : List Nd} {c : Nat} {nd : Nd} {f : Nd → Nd} (hf : ∀ x, (f x).c = x.c) (h : nds.find? (fun y => y.c == c) = some nd) : (modNd c f nds).find? (fun y => y.c == c) = some (f nd) := by
  unfold modNd
  induction nds with
  | nil => cases h
  | cons y r ih =>
    rw [List.map_cons, List.find?_cons]
    rw [List.find?_cons] at h
    cases hy : (y.c == c) with
    | true =>
      rw [hy] at h
      have e := Option.some.inj h
      subst e
      simp only [if_true, hf, hy]
    | false =>
      rw [hy] at h
      simp only [Bool.false_eq_true, if_false, hy]
      exact ih h
theorem su_mod {c : Nat} {f : Nd → Nd} (h : ∀ x, (f x).su = x.su) (nds : List Nd) : (modNd c f nds).map (·.su) = nds.map (·.su) := by
  unfold modNd
  rw [List.map_map]
  refine List.map_congr_left fun x _ => ?_
  show (if x.c == c then f x else x).su = _
  split
  · exact h x
  · rfl
end Mine
end
local macro_rules | `(tactic| walk_at "call builtin:dict.get") => return rk ``dgetV_S "AMAAs?" ""
section
set_option maxHeartbeats 1000000
open PySem PySem.W PySem.W.X PyProof.Rows PySem.Calls PySem.Spec PySem.Builtin PySem.Builtin.Str
namespace Mine
section
variable {w : World} {mg mb : PySem.Str → Option Value} {A : Around} {g : Heap} {L : Addr} {m : PySem.Str → Option Value} {news frs : List (Addr × Obj)} {s : Shared} {tk t2 t3 : Tok}
    {Q E : Value → Shared → Prop}
inductive DnO (w : World) (X D N R : Addr) (t1 t2' t3' t4 u1 : Tok) (po fi : Int) (o : Obj) (news : List (Addr × Obj)) (g1 : Heap) (nds : List Nd) (cs rd : List Nat) (i : Nat) (g' : Heap) (m' : PySem.Str → Option Value) (news' : List (Addr × Obj)) : Prop
  | mk (_ : g1 = g') (nds' : List Nd) (es' : List (Addr × Obj)) (ys' : List Value) (rd' : List Nat) (ep' : Nat) (u2' : Tok) (n' : Nat) (_ : news' = (X, instObj 192 D) :: (D, soD w t1 t2' t3' t4 N (.ref R) (.int po u1) (.int (fi + (i : Int)) u2') n') :: (R, lstO ys' ep') :: (N, o) :: (es' ++ news))
      (_ : o.IsDictOf (PySem.strKind prg w) (kvsOf nds')) (_ : NdB g1 nds' es') (_ : (absN nds', rd') = (cs.take i).foldl doneOne (absN nds, rd)) (_ : SignsAt ys' rd') (_ : ∀ c, (nds'.find? fun y => y.c == c).isSome = (nds.find? fun y => y.c == c).isSome) (_ : nds'.map (·.su) = nds.map (·.su))
      (_ : rd'.length ≤ 1000 + 1000 * i) (_ : m' "self" = some (.ref X)) (_ : m' "n2i" = some (.ref N)) : DnO w X D N R t1 t2' t3' t4 u1 po fi o news g1 nds cs rd i g' m' news'
inductive DnI (w : World) (X D N R : Addr) (t1 t2' t3' t4 u1 u3 : Tok) (po fi : Int) (n3 : Nat) (o : Obj) (news : List (Addr × Obj)) (g1 : Heap) (nds nds3 : List Nd) (p : Nat) (su rd3 : List Nat) (i j : Nat) (g' : Heap) (m' : PySem.Str → Option Value) (news' : List (Addr × Obj)) : Prop
  | mk (_ : g1 = g') (nds' : List Nd) (es' : List (Addr × Obj)) (ys' : List Value) (rd' : List Nat) (ep' : Nat) (_ : news' = (X, instObj 192 D) :: (D, soD w t1 t2' t3' t4 N (.ref R) (.int po u1) (.int (fi + (i : Int)) u3) n3) :: (R, lstO ys' ep') :: (N, o) :: (es' ++ news))
      (_ : o.IsDictOf (PySem.strKind prg w) (kvsOf nds')) (_ : NdB g1 nds' es') (_ : (absN nds', rd') = (su.take j).foldl decG (setNp (absN nds3) p (-2), rd3)) (_ : SignsAt ys' rd') (_ : ∀ c, (nds'.find? fun y => y.c == c).isSome = (nds.find? fun y => y.c == c).isSome) (_ : nds'.map (·.su) = nds.map (·.su))
      (_ : rd'.length ≤ 1000 + 1000 * i + j) (_ : m' "self" = some (.ref X)) (_ : m' "n2i" = some (.ref N)) : DnI w X D N R t1 t2' t3' t4 u1 u3 po fi n3 o news g1 nds nds3 p su rd3 i j g' m' news'
/-- sorter.done(*nodes) -/
theorem c_done {RR : Result → Shared → Prop} {X D N R : Addr} {o : Obj} {nds : List Nd} {es : List (Addr × Obj)} {t1 t2' t3' t4 u1 u2 : Tok} {po fi : Int} {n ep : Nat} {vs ys : List Value} {cs rd : List Nat} (hcs : SignsAt vs cs) (hcl : cs.length ≤ 1000) (hsy : SignsAt ys rd) (hrd : rd.length ≤ 1000)
   (hin : ∀ c ∈ cs, (nds.find? fun y => y.c == c).isSome = true) (hsin : ∀ x ∈ absN nds, x.2.2.length ≤ 1000 ∧ ∀ c ∈ x.2.2, (nds.find? fun y => y.c == c).isSome = true)
   (hnp : ∀ i c, cs[i]? = some c → npOf ((cs.take i).foldl doneOne (absN nds, rd)).1 c = -1) (B : Bs w mg mb g)
   (hd : o.IsDictOf (PySem.strKind prg w) (kvsOf nds)) (hN : NdB g nds es) (lo : (N == sysModules) = false)
   (S : Mine.St g L (((X, instObj 192 D) :: (D, soD w t1 t2' t3' t4 N (.ref R) (.int po u1) (.int fi u2) n) :: (R, lstO ys ep) :: (N, o) :: (es ++ news)) ++ frs) s.heap m) (Z : Ar A L frs 3)
   (hret : ∀ nds' es' g' frs' h' tk' ep' (ys' : List Value × List Nat) u2' n', (absN nds', ys'.2) = cs.foldl doneOne (absN nds, rd) → SignsAt ys'.1 ys'.2 → o.IsDictOf (PySem.strKind prg w) (kvsOf nds') → NdB g' nds' es' → Sub g g' → Up frs frs' →
     Mine.St g' L (((X, instObj 192 D) :: (D, soD w t1 t2' t3' t4 N (.ref R) (.int po u1) (.int (fi + (cs.length : Int)) u2') n') :: (R, lstO ys'.1 ep') :: (N, o) :: (es' ++ news)) ++ frs') h' m → RR (.ok (.ret .none)) { s with heap := h', toks := tk' }) :
   codeAny (model prg w) A (.call (.ref 175) ⟨.ref X :: vs, []⟩) RR s := by
  have hvl : vs.length = cs.length := by
    have := StrsAre.length hcs
    simpa using this
  refine enterV (news := (X, instObj 192 D) :: (D, soD w t1 t2' t3' t4 N (.ref R) (.int po u1) (.int fi u2) n) :: (R, lstO ys ep) :: (N, o) :: (es ++ news)) (vs := vs) (binds := fun D' => [(PySem.Str.ofString "self", .ref X), (PySem.Str.ofString "nodes", D')]) B (Sub.refl _) S Z (by k_dflt k_is) (by k_dflt k_is) ?_ ?_ (fun D' => locs rfl) ?_ rfl rfl rfl (by decide)
  · generalize vs = l; cases l <;> kernel_rfl
  · rw [sizeLine_eq]; lia
  intro g1 T oL L1 h1 k1 hT Lb S1 Z1
  (try k_fold)
  dsimp only [List.map, List.zip, List.zipWith, List.reverse, List.reverseAux, List.length] at S1 ⊢
  (try k_fold)
  walk_at "go"
  rename_i h2 S2
  refine iter_tuple S2 (show g1.IsTuple T vs.toArray from ⟨_, hT, rfl, _, rfl⟩) (Sub.refl _) ?_
  intro I oI ob h5 W h0 S5
  (try k_fold)
  refine forLoop_S (L := L1) (frs := (L, oL) :: frs) (news := (X, instObj 192 D) :: (D, soD w t1 t2' t3' t4 N (.ref R) (.int po u1) (.int fi u2) n) :: (R, lstO ys ep) :: (N, o) :: (es ++ news))
    (fun i g' m' news' => DnO w X D N R t1 t2' t3' t4 u1 po fi o news g1 nds cs rd i g' m' news') Z1.hand W (fun _ => rfl) ?_ ?_ h0 S5 ?_
  · intro i v o3 g3 m3 news3 frs3 h6 tk6 hi hP hInv k3 hu3 S6
    (try k_fold)
    obtain ⟨rfl, nds3, es3, ys3, rd3, ep3, u3, n3, hq84_0, hd3, hN3, ha3, hsy3, hf3, hsu3, hrl3, e1, e2⟩ := hInv
    subst hq84_0
    clear k3
    obtain ⟨p, tp, hp, rfl⟩ := signs_get hcs (by simpa using hP)
    obtain ⟨nd, hnd⟩ := Option.isSome_iff_exists.mp ((hf3 p).trans (hin p (List.mem_of_getElem? hp)))
    obtain ⟨d4, t5, u5, ws, ep', hs, hc4, m1, m2, m3', up1⟩ := (hN3.pick (nd_nodup hd3) hnd)
    have hnp3 : nd.np = -1 := by
      rw [← np_of hnd]
      have := hnp i p hp
      rw [← ha3] at this
      exact this
    have S7 : Mine.St g1 L1 (((X, instObj 192 D) :: (D, soD w t1 t2' t3' t4 N (.ref R) (.int po u1) (.int (fi + (i : Int)) u3) n3) :: (R, lstO ys3 ep3) :: (N, o) :: (es3 ++ (news ++ [(I, o3)]))) ++ frs3) h6 m3 := by simpa only [List.append_assoc, List.cons_append] using S6
    clear S6
    rw [hnp3] at m1 up1
    have mA : (nd.a, ndO d4 nd.l nd.c t5 (-1) u5) ∈ ((X, instObj 192 D) :: (D, soD w t1 t2' t3' t4 N (.ref R) (.int po u1) (.int (fi + (i : Int)) u3) n3) :: (R, lstO ys3 ep3) :: (N, o) :: (es3 ++ (news ++ [(I, o3)]))) ++ frs3 := .tail _ (.tail _ (.tail _ (.tail _ (List.mem_append_left _ (List.mem_append_left _ m1)))))
    have mD : (d4, dictOf [] 0) ∈ ((X, instObj 192 D) :: (D, soD w t1 t2' t3' t4 N (.ref R) (.int po u1) (.int (fi + (i : Int)) u3) n3) :: (R, lstO ys3 ep3) :: (N, o) :: (es3 ++ (news ++ [(I, o3)]))) ++ frs3 := .tail _ (.tail _ (.tail _ (.tail _ (List.mem_append_left _ (List.mem_append_left _ m3')))))
    have hv : valueAt (kvsOf nds3) ⟨#[p]⟩ = some (.ref nd.a) := by rw [kvs_at, hnd]; rfl
    walk_at "go"
    rename_i h8 S8 h9 S9 h10 S10
    obtain ⟨es4, U, hN4⟩ := up1 (-2) 395
    refine setNp_S S10 (B.keeps k1) (Sub.refl _) mA mD (.tail (.tail (.tail (.tail (UpdS.app (UpdS.app U)))))) ?_
    intro h11 S11
    (try k_fold)
    have hd4 : o.IsDictOf (PySem.strKind prg w) (kvsOf (modNd p (fun y => { y with np := -2 }) nds3)) := by rw [kvs_mod (f := fun y => { y with np := -2 }) (fun x => ⟨rfl, rfl⟩)]; exact hd3
    have hnd4 := find_modS (f := fun y => { y with np := -2 }) (fun _ => rfl) hnd
    have ha4 := abs_set (nds := nds3) (c := p) (k := -2)
    have hf4 : ∀ c, ((modNd p (fun y => { y with np := -2 }) nds3).find? fun y => y.c == c).isSome = (nds.find? fun y => y.c == c).isSome := fun c => (find_mod (f := fun y => { y with np := -2 }) (fun _ => rfl) nds3).trans (hf3 c)
    have hsu4 := (su_mod (c := p) (f := fun y => { y with np := -2 }) (fun _ => rfl) nds3).trans hsu3
    generalize modNd p (fun y => { y with np := -2 }) nds3 = nds4 at hN4 hd4 hnd4 ha4 hf4 hsu4
    clear mA mD m1 m3' U up1
    obtain ⟨d5, t6, u6, ws5, ep5, hs5, hc5, m1, m2', m3', up1⟩ := (hN4.pick (nd_nodup hd4) hnd4)
    dsimp only at hs5 m1 m2' m3' up1
    have mA : (nd.a, ndO d5 nd.l nd.c t6 (-2) u6) ∈ ((X, instObj 192 D) :: (D, soD w t1 t2' t3' t4 N (.ref R) (.int po u1) (.int (fi + (i : Int)) u3) n3) :: (R, lstO ys3 ep3) :: (N, o) :: (es4 ++ (news ++ [(I, o3)]))) ++ frs3 := .tail _ (.tail _ (.tail _ (.tail _ (List.mem_append_left _ (List.mem_append_left _ m1)))))
    have mD : (d5, dictOf [] 0) ∈ ((X, instObj 192 D) :: (D, soD w t1 t2' t3' t4 N (.ref R) (.int po u1) (.int (fi + (i : Int)) u3) n3) :: (R, lstO ys3 ep3) :: (N, o) :: (es4 ++ (news ++ [(I, o3)]))) ++ frs3 := .tail _ (.tail _ (.tail _ (.tail _ (List.mem_append_left _ (List.mem_append_left _ m3')))))
    clear S10 S9 S8
    walk_at "go"
    refine iter_list S11 (show g1.IsList nd.l ws5.toArray from ⟨_, m2', rfl, _, rfl⟩) (Sub.refl _) ?_
    intro I5 oI5 ob5 h12 W5 h05 S12
    (try k_fold)
    clear mA mD m1 m3' up1
    have hwl : ws5.length = nd.su.length := by
      have := StrsAre.length hs5
      simpa using this
    have hsx : nd.su.length ≤ 1000 ∧ ∀ c ∈ nd.su, (nds.find? fun y => y.c == c).isSome = true := by
      have h1 : nd.su ∈ nds.map (·.su) := hsu3 ▸ List.mem_map_of_mem (List.mem_of_find?_eq_some hnd)
      obtain ⟨y, hy, he⟩ := List.mem_map.mp h1
      rw [← he]
      exact hsin (y.c, y.np, y.su) (List.mem_map.mpr ⟨y, hy, rfl⟩)
    refine forLoop_S (L := L1) (frs := frs3) (news := (X, instObj 192 D) :: (D, soD w t1 t2' t3' t4 N (.ref R) (.int po u1) (.int (fi + (i : Int)) u3) n3) :: (R, lstO ys3 ep3) :: (N, o) :: (es4 ++ (news ++ [(I, o3)])))
      (fun j g' m' news' => DnI w X D N R t1 t2' t3' t4 u1 u3 po fi n3 o (news ++ [(I, o3)]) g1 nds nds3 p nd.su rd3 i j g' m' news') Z1.hand W5 (fun _ => rfl) ?_ ?_ h05 S12 ?_
    · intro j v o6 g6 m6 news6 frs6 h13 tk13 hj hP6 hInv6 k6 hu6 S13
      (try k_fold)
      obtain ⟨rfl, nds6, es6, ys6, rd6, ep6, hq136_0, hd6, hN6, ha6, hsy6, hf6, hsu6, hrl6, e16, e26⟩ := hInv6
      subst hq136_0
      clear k6
      obtain ⟨q, tq, hq, rfl⟩ := signs_get hs5 (by simpa using hP6)
      obtain ⟨nd6, hnd6⟩ := Option.isSome_iff_exists.mp ((hf6 q).trans (hsx.2 q (List.mem_of_getElem? hq)))
      obtain ⟨d7, t8, u8, ws7, ep7, hs7, hc7, m17, m27, m37, up7⟩ := (hN6.pick (nd_nodup hd6) hnd6)
      have S14 : Mine.St g1 L1 (((X, instObj 192 D) :: (D, soD w t1 t2' t3' t4 N (.ref R) (.int po u1) (.int (fi + (i : Int)) u3) n3) :: (R, lstO ys6 ep6) :: (N, o) :: (es6 ++ (news ++ [(I, o3), (I5, o6)]))) ++ frs6) h13 m6 := by simpa only [List.append_assoc, List.cons_append, List.nil_append] using S13
      clear S13
      have mA : (nd6.a, ndO d7 nd6.l nd6.c t8 nd6.np u8) ∈ ((X, instObj 192 D) :: (D, soD w t1 t2' t3' t4 N (.ref R) (.int po u1) (.int (fi + (i : Int)) u3) n3) :: (R, lstO ys6 ep6) :: (N, o) :: (es6 ++ (news ++ [(I, o3), (I5, o6)]))) ++ frs6 := .tail _ (.tail _ (.tail _ (.tail _ (List.mem_append_left _ (List.mem_append_left _ m17)))))
      have mD : (d7, dictOf [] 0) ∈ ((X, instObj 192 D) :: (D, soD w t1 t2' t3' t4 N (.ref R) (.int po u1) (.int (fi + (i : Int)) u3) n3) :: (R, lstO ys6 ep6) :: (N, o) :: (es6 ++ (news ++ [(I, o3), (I5, o6)]))) ++ frs6 := .tail _ (.tail _ (.tail _ (.tail _ (List.mem_append_left _ (List.mem_append_left _ m37)))))
      have hv6 : valueAt (kvsOf nds6) ⟨#[q]⟩ = some (.ref nd6.a) := by rw [kvs_at, hnd6]; rfl
      walk_at "go"
      rename_i h15 S15 h16 S16
      (try dsimp only)
      obtain ⟨es8, U, hN8⟩ := up7 (nd6.np - 1) (tk13 + 1 + 1 + 1 + 1 + 1)
      refine setNp_S S16 (B.keeps k1) (Sub.refl _) mA mD (.tail (.tail (.tail (.tail (UpdS.app (UpdS.app U)))))) ?_
      intro h17 S17
      (try k_fold)
      have hd8 : o.IsDictOf (PySem.strKind prg w) (kvsOf (modNd q (fun y => { y with np := nd6.np - 1 }) nds6)) := by rw [kvs_mod (f := fun y => { y with np := nd6.np - 1 }) (fun x => ⟨rfl, rfl⟩)]; exact hd6
      have hnd8 := find_modS (f := fun y => { y with np := nd6.np - 1 }) (fun _ => rfl) hnd6
      have ha8 : absN (modNd q (fun y => { y with np := nd6.np - 1 }) nds6) = addNp (absN nds6) q (-1) := abs_np (k := -1) (nd_nodup hd6) hnd6
      have hf8 : ∀ c, ((modNd q (fun y => { y with np := nd6.np - 1 }) nds6).find? fun y => y.c == c).isSome = (nds.find? fun y => y.c == c).isSome := fun c => (find_mod (f := fun y => { y with np := nd6.np - 1 }) (fun _ => rfl) nds6).trans (hf6 c)
      have hsu8 := (su_mod (c := q) (f := fun y => { y with np := nd6.np - 1 }) (fun _ => rfl) nds6).trans hsu6
      generalize modNd q (fun y => { y with np := nd6.np - 1 }) nds6 = nds8 at hN8 hd8 hnd8 ha8 hf8 hsu8
      clear mA mD m17 m37 U up7
      obtain ⟨d9, t10, u10, ws9, ep9, hs9, hc9, m1, m2', m3', up1⟩ := (hN8.pick (nd_nodup hd8) hnd8)
      dsimp only at hs9 m1 m2' m3' up1
      have mA : (nd6.a, ndO d9 nd6.l nd6.c t10 (nd6.np - 1) u10) ∈ ((X, instObj 192 D) :: (D, soD w t1 t2' t3' t4 N (.ref R) (.int po u1) (.int (fi + (i : Int)) u3) n3) :: (R, lstO ys6 ep6) :: (N, o) :: (es8 ++ (news ++ [(I, o3), (I5, o6)]))) ++ frs6 := .tail _ (.tail _ (.tail _ (.tail _ (List.mem_append_left _ (List.mem_append_left _ m1)))))
      have mD : (d9, dictOf [] 0) ∈ ((X, instObj 192 D) :: (D, soD w t1 t2' t3' t4 N (.ref R) (.int po u1) (.int (fi + (i : Int)) u3) n3) :: (R, lstO ys6 ep6) :: (N, o) :: (es8 ++ (news ++ [(I, o3), (I5, o6)]))) ++ frs6 := .tail _ (.tail _ (.tail _ (.tail _ (List.mem_append_left _ (List.mem_append_left _ m3')))))
      clear S16 S15 S14
      have hnpq : npOf (absN nds6) q = nd6.np := np_of hnd6
      have hst : ∀ rd8, (rd8 = if nd6.np - 1 = 0 then rd6 ++ [q] else rd6) → (absN nds8, rd8) = (nd.su.take (j + 1)).foldl decG (setNp (absN nds3) p (-2), rd3) := by
        intro rd8 e8
        (try k_fold)
        rw [List.take_add_one, hq]
        show _ = List.foldl _ _ (nd.su.take j ++ [q])
        rw [List.foldl_append, ← ha6]
        show _ = decG (absN nds6, rd6) q
        unfold decG
        rw [hnpq, ha8, e8]
      have eL : ∀ ys8 ep8, (((X, instObj 192 D) :: (D, soD w t1 t2' t3' t4 N (.ref R) (.int po u1) (.int (fi + (i : Int)) u3) n3) :: (R, lstO ys8 ep8) :: (N, o) :: (es8 ++ (news ++ [(I, o3), (I5, o6)]))) ++ frs6) = (((X, instObj 192 D) :: (D, soD w t1 t2' t3' t4 N (.ref R) (.int po u1) (.int (fi + (i : Int)) u3) n3) :: (R, lstO ys8 ep8) :: (N, o) :: (es8 ++ (news ++ [(I, o3)]))) ++ [(I5, o6)]) ++ frs6 := by intro ys8 ep8; simp only [List.append_assoc, List.cons_append, List.nil_append]
      have hyl : ys6.length = rd6.length := by
        have := StrsAre.length hsy6
        simpa using this
      have hjl : j < nd.su.length := by rw [← hwl]; simpa using hj
      have hil : i < cs.length := by rw [← hvl]; simpa using hi
      walk_at "go"
      · rename_i hz
        refine appendU_S S17 (.tail (.tail .head)) (by rw [hyl, sizeLine_eq]; have := hsx.1; lia) ?_
        intro h18 S18
        (try k_fold)
        walk_at "go"
        refine ⟨g1, _, _, frs6, _, _, rfl, Sub.refl _, Up.refl _, St.perm S18 (List.Perm.of_eq (eL _ _)), rfl, nds8, es8, ys6 ++ [Value.str ⟨#[q]⟩ tq], rd6 ++ [q], _, rfl, hd8, hN8, hst _ ?_, signs_append hsy6 (show SignsAt [Value.str ⟨#[q]⟩ tq] [q] from .cons _ _ .nil), hf8, hsu8, ?_, e16, e26⟩
        · rw [if_pos (by simpa using hz)]
        · rw [List.length_append, List.length_singleton]; lia
      · rename_i hz
        refine ⟨g1, _, _, frs6, _, _, rfl, Sub.refl _, Up.refl _, St.perm S17 (List.Perm.of_eq (eL _ _)), rfl, nds8, es8, ys6, rd6, _, rfl, hd8, hN8, hst _ ?_, hsy6, hf8, hsu8, ?_, e16, e26⟩
        · rw [if_neg (by simpa using hz)]
        · lia
    · intro g6 m6 news6 frs6 h13 tk13 hInv6 k6 hu6 S13
      (try k_fold)
      obtain ⟨rfl, nds6, es6, ys6, rd6, ep6, hq196_0, hd6, hN6, ha6, hsy6, hf6, hsu6, hrl6, e16, e26⟩ := hInv6
      subst hq196_0
      clear k6
      walk_at "go"
      refine setFi_S S13 (B.keeps k1) (Sub.refl _) (.head _) (.tail .head) ?_
      intro h14 S14
      (try k_fold)
      have eL : ∀ u9, (((X, instObj 192 D) :: (D, soD w t1 t2' t3' t4 N (.ref R) (.int po u1) (.int (fi + (i : Int) + 1) u9) n3) :: (R, lstO ys6 ep6) :: (N, o) :: (es6 ++ (news ++ [(I, o3)]))) ++ frs6) = (((X, instObj 192 D) :: (D, soD w t1 t2' t3' t4 N (.ref R) (.int po u1) (.int (fi + ((i + 1 : Nat) : Int)) u9) n3) :: (R, lstO ys6 ep6) :: (N, o) :: (es6 ++ news)) ++ [(I, o3)]) ++ frs6 := by
        intro u9
        (try k_fold)
        have e : fi + (i : Int) + 1 = fi + ((i + 1 : Nat) : Int) := by lia
        rw [e]
        simp only [List.append_assoc, List.cons_append]
      walk_at "go"
      rw [List.size_toArray, hwl, List.take_length] at ha6
      rw [List.size_toArray, hwl] at hrl6
      have := hsx.1
      refine ⟨g1, _, _, frs6, _, _, rfl, Sub.refl _, hu6, St.perm S14 (List.Perm.of_eq (eL _)), rfl, nds6, es6, ys6, rd6, _, _, _, rfl, hd6, hN6, ?_, hsy6, hf6, hsu6, by lia, e16, e26⟩
      rw [List.take_add_one, hp]
      show _ = List.foldl _ _ (cs.take i ++ [p])
      rw [List.foldl_append, ← ha3]
      show _ = doneOne (absN nds3, rd3) p
      unfold doneOne
      rw [su_of hnd, ha6]
    · refine ⟨rfl, nds4, es4, ys3, rd3, ep3, rfl, hd4, hN4, ?_, hsy3, hf4, hsu4, hrl3, ?_, ?_⟩
      · rw [ha4]; rfl
      · exact e1
      · exact e2
  · intro g3 m3 news3 frs3 h6 tk6 hInv k3 hu3 S6
    (try k_fold)
    obtain ⟨rfl, nds3, es3, ys3, rd3, ep3, u3, n3, hq225_0, hd3, hN3, ha3, hsy3, hf3, hsu3, hrl3, e1, e2⟩ := hInv
    subst hq225_0
    rw [List.size_toArray, hvl] at S6
    rw [List.size_toArray, hvl, List.take_length] at ha3
    walk_at "go"
    obtain ⟨frs5, hu5, hS⟩ := leave (news' := (X, instObj 192 D) :: (D, soD w t1 t2' t3' t4 N (.ref R) (.int po u1) (.int (fi + (cs.length : Int)) u3) n3) :: (R, lstO ys3 ep3) :: (N, o) :: (es3 ++ news)) Lb S6 hu3
    exact hret nds3 es3 g1 frs5 _ _ ep3 (ys3, rd3) u3 n3 ha3 hsy3 hd3 hN3 k1 hu5 hS
  · exact ⟨rfl, nds, es, ys, rd, ep, u2, n, by simp, hd, hN.mono k1, rfl, hsy, fun _ => rfl, rfl, by lia, rfl, rfl⟩
end
end Mine

end
section
namespace Mine
noncomputable def keysG (G : Gr) : List Nat := G.map (·.1)
theorem find_keep {G : Gr} {f : Nat × Int × List Nat → Nat × Int × List Nat} (h : ∀ x, (f x).1 = x.1) (c : Nat) : (G.map f).find? (fun x => x.1 == c) = (G.find? fun x => x.1 == c).map f := by
  rw [List.find?_map]
  congr 1
  refine congrArg (fun p => List.find? p G) ?_
  funext x; simp only [Function.comp, h]
theorem find_key {G : Gr} {c : Nat} : (G.find? fun x => x.1 == c) = none ↔ c ∉ keysG G := by
  rw [List.find?_eq_none]
  unfold keysG
  constructor
  · intro h q
    obtain ⟨x, hx, e⟩ := List.mem_map.mp q
    exact h x hx (by simpa using e)
  · intro h x hx q
    exact h (List.mem_map.mpr ⟨x, hx, by simpa using q⟩)
theorem find_fst {G : Gr} {c : Nat} {x : Nat × Int × List Nat} (h : (G.find? fun x => x.1 == c) = some x) : x.1 = c := by simpa using List.find?_some h
theorem keys_map {G : Gr} {f : Nat × Int × List Nat → Nat × Int × List Nat} (h : ∀ x, (f x).1 = x.1) : keysG (G.map f) = keysG G := by
  unfold keysG; rw [List.map_map]; exact List.map_congr_left fun x _ => h x
theorem keys_addNp (G : Gr) (c : Nat) (k : Int) : keysG (addNp G c k) = keysG G := keys_map fun x => by split <;> rfl
theorem keys_setNp (G : Gr) (c : Nat) (k : Int) : keysG (setNp G c k) = keysG G := keys_map fun x => by split <;> rfl
theorem keys_addSu (G : Gr) (p c : Nat) : keysG (addSu G p c) = keysG G := keys_map fun x => by split <;> rfl
theorem np_addNp (G : Gr) (c d : Nat) (k : Int) : npOf (addNp G c k) d = npOf G d + (if d = c ∧ c ∈ keysG G then k else 0) := by
  unfold npOf addNp
  rw [find_keep (fun x => by split <;> rfl)]
  cases hf : G.find? (fun x => x.1 == d) with
  | none =>
    rw [if_neg (fun q => find_key.mp hf (by rw [q.1]; exact q.2))]; rfl
  | some x =>
    have hx := find_fst hf
    have hk : d ∈ keysG G := List.mem_map.mpr ⟨x, List.mem_of_find?_eq_some hf, hx⟩
    by_cases h : d = c
    · subst h; simp [hx, hk]
    · simp [hx, h]
theorem np_setNp (G : Gr) (c d : Nat) (k : Int) : npOf (setNp G c k) d = if d = c ∧ c ∈ keysG G then k else npOf G d := by
  unfold npOf setNp
  rw [find_keep (fun x => by split <;> rfl)]
  cases hf : G.find? (fun x => x.1 == d) with
  | none =>
    rw [if_neg (fun q => find_key.mp hf (by rw [q.1]; exact q.2))]; rfl
  | some x =>
    have hx := find_fst hf
    have hk : d ∈ keysG G := List.mem_map.mpr ⟨x, List.mem_of_find?_eq_some hf, hx⟩
    by_cases h : d = c
    · subst h; simp [hx, hk]
    · simp [hx, h]
theorem np_addSu (G : Gr) (p c d : Nat) : npOf (addSu G p c) d = npOf G d := by
  unfold npOf addSu
  rw [find_keep (fun x => by split <;> rfl)]
  cases hf : G.find? (fun x => x.1 == d) with
  | none => rfl
  | some x => simp only [Option.map_some, Option.getD_some]; split <;> rfl
theorem su_addNp (G : Gr) (c d : Nat) (k : Int) : suOf (addNp G c k) d = suOf G d := by
  unfold suOf addNp
  rw [find_keep (fun x => by split <;> rfl)]
  cases hf : G.find? (fun x => x.1 == d) with
  | none => rfl
  | some x => simp only [Option.map_some, Option.getD_some]; split <;> rfl
theorem su_setNp (G : Gr) (c d : Nat) (k : Int) : suOf (setNp G c k) d = suOf G d := by
  unfold suOf setNp
  rw [find_keep (fun x => by split <;> rfl)]
  cases hf : G.find? (fun x => x.1 == d) with
  | none => rfl
  | some x => simp only [Option.map_some, Option.getD_some]; split <;> rfl
theorem su_addSu (G : Gr) (p c d : Nat) : suOf (addSu G p c) d = suOf G d ++ (if d = p ∧ p ∈ keysG G then [c] else []) := by
  unfold suOf addSu
  rw [find_keep (fun x => by split <;> rfl)]
  cases hf : G.find? (fun x => x.1 == d) with
  | none =>
    rw [if_neg (fun q => find_key.mp hf (by rw [q.1]; exact q.2))]; rfl
  | some x =>
    have hx := find_fst hf
    have hk : d ∈ keysG G := List.mem_map.mpr ⟨x, List.mem_of_find?_eq_some hf, hx⟩
    by_cases h : d = p
    · subst h; simp [hx, hk]
    · simp [hx, h]
noncomputable def insK (ks : List Nat) (x : Nat) : List Nat := if x ∈ ks then ks else ks ++ [x]
theorem any_key (G : Gr) (c : Nat) : G.any (fun x => x.1 == c) = decide (c ∈ keysG G) := by
  rw [Bool.eq_iff_iff, List.any_eq_true, decide_eq_true_iff]
  unfold keysG
  constructor
  · rintro ⟨x, hx, e⟩; exact List.mem_map.mpr ⟨x, hx, by simpa using e⟩
  · intro h; obtain ⟨x, hx, e⟩ := List.mem_map.mp h; exact ⟨x, hx, by simpa using e⟩
theorem keys_ensure (G : Gr) (c : Nat) : keysG (ensureG G c) = insK (keysG G) c := by
  unfold ensureG insK
  rw [any_key]
  by_cases h : c ∈ keysG G
  · simp [h]
  · rw [if_neg (by simpa using h), if_neg h]; simp [keysG]
theorem find_ensure (G : Gr) (c d : Nat) : npOf (ensureG G c) d = npOf G d ∧ suOf (ensureG G c) d = suOf G d := by
  unfold ensureG
  rw [any_key]
  by_cases h : c ∈ keysG G
  · simp [h]
  · simp only [h, decide_false, Bool.false_eq_true, if_false]
    unfold npOf suOf
    rw [List.find?_append]
    cases hf : G.find? (fun x => x.1 == d) with
    | some x => simp
    | none =>
      by_cases hd : c = d
      · simp [hd]
      · simp [hd]
theorem mem_insK {ks : List Nat} {x y : Nat} : y ∈ insK ks x ↔ y ∈ ks ∨ y = x := by
  unfold insK
  split
  · constructor
    · exact .inl
    · rintro (h | rfl)
      · exact h
      · assumption
  · simp
theorem nodup_insK {ks : List Nat} {x : Nat} (h : ks.Nodup) : (insK ks x).Nodup := by
  unfold insK
  split
  · exact h
  · rename_i hx
    exact List.nodup_append.mpr ⟨h, by simp, fun a ha b hb => by rw [List.mem_singleton.mp hb]; exact fun q => hx (q ▸ ha)⟩
/-- one arrow after the other -/
theorem arrows (c : Nat) : ∀ (ps : List Nat) (G : Gr), let G' := ps.foldl (fun G p => addSu (ensureG G p) p c) G
    keysG G' = ps.foldl insK (keysG G) ∧ (∀ d, npOf G' d = npOf G d) ∧ ∀ d, suOf G' d = suOf G d ++ (ps.filter (· == d)).map fun _ => c
  | [], G => by simp
  | p :: ps, G => by
    obtain ⟨h1, h2, h3⟩ := arrows c ps (addSu (ensureG G p) p c)
    simp only [List.foldl_cons]
    refine ⟨?_, fun d => ?_, fun d => ?_⟩
    · rw [h1, keys_addSu, keys_ensure]
    · rw [h2, np_addSu, (find_ensure G p d).1]
    · rw [h3, su_addSu, (find_ensure G p d).2, keys_ensure]
      have hm : p ∈ insK (keysG G) p := mem_insK.mpr (.inr rfl)
      by_cases hd : d = p
      · subst hd; simp [hm]
      · have : (p == d) = false := beq_eq_false_iff_ne.mpr (Ne.symm hd)
        simp [hd, this]
theorem addG_facts (G : Gr) (c : Nat) (ps : List Nat) : keysG (addG G c ps) = (c :: ps).foldl insK (keysG G) ∧ (∀ d, npOf (addG G c ps) d = npOf G d + (if d = c then (ps.length : Int) else 0)) ∧
    ∀ d, suOf (addG G c ps) d = suOf G d ++ (ps.filter (· == d)).map fun _ => c := by
  obtain ⟨h1, h2, h3⟩ := arrows c ps (addNp (ensureG G c) c ps.length)
  unfold addG
  refine ⟨?_, fun d => ?_, fun d => ?_⟩
  · rw [h1, keys_addNp, keys_ensure]; rfl
  · rw [h2, np_addNp, (find_ensure G c d).1, keys_ensure]
    have hm : c ∈ insK (keysG G) c := mem_insK.mpr (.inr rfl)
    simp [hm]
  · rw [h3, su_addNp, (find_ensure G c d).2]
noncomputable def addRow (G : Gr) (r : List Nat) : Gr := addG G (r.headD 0) r.tail
noncomputable def graphOf (rows : List (List Nat)) : Gr := rows.foldl addRow []
noncomputable def edges (rows : List (List Nat)) : List (Nat × Nat) := rows.flatMap fun r => r.tail.map fun p => (p, r.headD 0)
noncomputable def namesOf (rows : List (List Nat)) : List Nat := rows.foldl (fun ks r => (r.headD 0 :: r.tail).foldl insK ks) []
theorem graph_fold (rows : List (List Nat)) : ∀ G : Gr, let G' := rows.foldl addRow G
    keysG G' = rows.foldl (fun ks r => (r.headD 0 :: r.tail).foldl insK ks) (keysG G) ∧ (∀ d, npOf G' d = npOf G d + (((edges rows).filter fun e => e.2 == d).length : Int)) ∧
    ∀ d, suOf G' d = suOf G d ++ ((edges rows).filter fun e => e.1 == d).map (·.2) := by
  induction rows with
  | nil => intro G; simp [edges]
  | cons r rows ih =>
    intro G
    obtain ⟨h1, h2, h3⟩ := ih (addRow G r)
    obtain ⟨a1, a2, a3⟩ := addG_facts G (r.headD 0) r.tail
    simp only [List.foldl_cons]
    have he : edges (r :: rows) = (r.tail.map fun p => (p, r.headD 0)) ++ edges rows := by unfold edges; rw [List.flatMap_cons]
    refine ⟨by rw [h1]; unfold addRow; rw [a1]; rfl, fun d => ?_, fun d => ?_⟩
    · rw [h2, he, List.filter_append, List.length_append]
      unfold addRow
      rw [a2]
      have : (((r.tail.map fun p => (p, r.headD 0)).filter fun e => e.2 == d).length : Int) = if d = r.headD 0 then (r.tail.length : Int) else 0 := by
        by_cases hd : d = r.headD 0
        · rw [if_pos hd, List.filter_eq_self.mpr (fun x hx => by obtain ⟨p, _, rfl⟩ := List.mem_map.mp hx; simp [hd]), List.length_map]
        · rw [if_neg hd, List.filter_eq_nil_iff.mpr (fun x hx => by obtain ⟨p, _, rfl⟩ := List.mem_map.mp hx; simpa using Ne.symm hd)]; rfl
      rw [Int.natCast_add, this]; lia
    · rw [h3, he, List.filter_append, List.map_append]
      unfold addRow
      rw [a3, List.append_assoc]
      congr 2
      rw [List.filter_map, List.map_map]
      rfl
theorem graph_facts (rows : List (List Nat)) : keysG (graphOf rows) = namesOf rows ∧ (∀ d, npOf (graphOf rows) d = (((edges rows).filter fun e => e.2 == d).length : Int)) ∧ ∀ d, suOf (graphOf rows) d = ((edges rows).filter fun e => e.1 == d).map (·.2) := by
  obtain ⟨h1, h2, h3⟩ := graph_fold rows []
  refine ⟨h1, fun d => ?_, fun d => ?_⟩
  · rw [show npOf (graphOf rows) d = _ from h2 d, show npOf [] d = 0 from rfl, Int.zero_add]
  · rw [show suOf (graphOf rows) d = _ from h3 d]; rfl
theorem ins_fold_mem (l : List Nat) : ∀ (ks : List Nat) (y : Nat), y ∈ l.foldl insK ks ↔ y ∈ ks ∨ y ∈ l := by
  induction l with
  | nil => intro ks y; simp
  | cons x l ih => intro ks y; rw [List.foldl_cons, ih, mem_insK, List.mem_cons, or_assoc]
theorem ins_fold_nodup (l : List Nat) : ∀ (ks : List Nat), ks.Nodup → (l.foldl insK ks).Nodup := by
  induction l with
  | nil => intro ks h; exact h
  | cons x l ih => intro ks h; exact ih _ (nodup_insK h)
theorem names_fold_mem (rows : List (List Nat)) : ∀ (ks : List Nat) (y : Nat), y ∈ rows.foldl (fun ks r => (r.headD 0 :: r.tail).foldl insK ks) ks ↔ y ∈ ks ∨ ∃ r ∈ rows, y ∈ r.headD 0 :: r.tail := by
  induction rows with
  | nil => intro ks y; simp
  | cons r rows ih => intro ks y; rw [List.foldl_cons, ih, ins_fold_mem]; simp only [List.mem_cons, exists_eq_or_imp, or_assoc]
theorem names_mem (rows : List (List Nat)) (y : Nat) : y ∈ namesOf rows ↔ ∃ r ∈ rows, y ∈ r.headD 0 :: r.tail := by unfold namesOf; rw [names_fold_mem]; simp
theorem names_fold_nodup (rows : List (List Nat)) : ∀ (ks : List Nat), ks.Nodup → (rows.foldl (fun ks r => (r.headD 0 :: r.tail).foldl insK ks) ks).Nodup := by
  induction rows with
  | nil => intro ks h; exact h
  | cons r rows ih => intro ks h; exact ih _ (ins_fold_nodup _ _ h)
theorem names_nodup (rows : List (List Nat)) : (namesOf rows).Nodup := names_fold_nodup rows [] List.nodup_nil
theorem edge_names {rows : List (List Nat)} {e : Nat × Nat} (h : e ∈ edges rows) : e.1 ∈ namesOf rows ∧ e.2 ∈ namesOf rows := by
  unfold edges at h
  obtain ⟨r, hr, h⟩ := List.mem_flatMap.mp h
  obtain ⟨p, hp, rfl⟩ := List.mem_map.mp h
  exact ⟨(names_mem rows _).mpr ⟨r, hr, .tail _ hp⟩, (names_mem rows _).mpr ⟨r, hr, .head _⟩⟩
end Mine

end
section
namespace Mine
noncomputable abbrev Ev := (Nat × Nat) × Nat
noncomputable def cnt (x : Nat) (T : List Ev) : Int := ((T.filter fun e => e.2 == x).length : Int)
noncomputable def hits : (Nat → Int) → List Ev → List Ev
  | _, [] => []
  | f, e :: T => (if f e.2 - 1 = 0 then [e] else []) ++ hits (fun y => if y = e.2 then f y - 1 else f y) T
theorem cnt_nil (x : Nat) : cnt x [] = 0 := rfl
theorem cnt_cons (x : Nat) (e : Ev) (T : List Ev) : cnt x (e :: T) = (if x = e.2 then 1 else 0) + cnt x T := by
  unfold cnt
  rw [List.filter_cons]
  by_cases h : x = e.2
  · subst h; simp; lia
  · have : (e.2 == x) = false := beq_eq_false_iff_ne.mpr (Ne.symm h)
    simp [this, h]
theorem cnt_append (x : Nat) (A B : List Ev) : cnt x (A ++ B) = cnt x A + cnt x B := by
  unfold cnt; rw [List.filter_append, List.length_append]; lia
theorem cnt_nonneg (x : Nat) (T : List Ev) : 0 ≤ cnt x T := Int.natCast_nonneg _
theorem cnt_pos {x : Nat} {T : List Ev} {e : Ev} (h : e ∈ T) (hx : e.2 = x) : 0 < cnt x T := by
  unfold cnt
  have : 0 < (T.filter fun e => e.2 == x).length := List.length_pos_of_mem (List.mem_filter.mpr ⟨h, by simpa using hx⟩)
  lia
theorem cnt_zero {x : Nat} {T : List Ev} (h : cnt x T ≤ 0) : ∀ e ∈ T, e.2 ≠ x := fun e he q => by have := cnt_pos he q; lia
theorem hits_append (A B : List Ev) : ∀ f : Nat → Int, hits f (A ++ B) = hits f A ++ hits (fun y => f y - cnt y A) B := by
  induction A with
  | nil => intro f; simp [hits, cnt_nil]
  | cons e A ih =>
    intro f
    rw [List.cons_append, hits, ih, hits, List.append_assoc]
    congr 2
    refine congrArg (fun g => hits g B) ?_
    funext y
    rw [cnt_cons]
    by_cases h : y = e.2
    · simp [h]; lia
    · simp [h]
theorem hits_sub (T : List Ev) : ∀ f : Nat → Int, (hits f T).Sublist T := by
  induction T with
  | nil => intro f; exact List.Sublist.refl _
  | cons e T ih =>
    intro f
    rw [hits]
    split
    · exact (ih _).cons_cons e
    · exact (ih _).cons e
theorem down_ok {f : Nat → Int} {e : Ev} {T : List Ev} (h : ∀ x, cnt x (e :: T) ≤ f x) : ∀ x, cnt x T ≤ (fun y => if y = e.2 then f y - 1 else f y) x := fun x => by
  have := h x
  rw [cnt_cons] at this
  dsimp only
  split
  · rename_i hx; rw [if_pos hx] at this; lia
  · rename_i hx; rw [if_neg hx] at this; lia
theorem hits_at (T : List Ev) : ∀ f : Nat → Int, (∀ x, cnt x T ≤ f x) → ∀ e ∈ hits f T, f e.2 = cnt e.2 T ∧ ∃ pre post, T = pre ++ e :: post ∧ ∀ e' ∈ post, e'.2 ≠ e.2 := by
  induction T with
  | nil => intro f _ e he; cases he
  | cons a T ih =>
    intro f h e he
    rw [hits] at he
    rcases List.mem_append.mp he with he | he
    · split at he
      · rename_i h0
        rw [List.mem_singleton.mp he]
        have h1 := h a.2
        rw [cnt_cons, if_pos rfl] at h1
        have h2 := cnt_nonneg a.2 T
        exact ⟨by rw [cnt_cons, if_pos rfl]; lia, [], T, rfl, cnt_zero (by lia)⟩
      · cases he
    · obtain ⟨h1, pre, post, rfl, h2⟩ := ih _ (down_ok h) e he
      refine ⟨?_, a :: pre, post, rfl, h2⟩
      rw [cnt_cons]
      split at h1
      · rename_i hx; rw [if_pos hx]; lia
      · rename_i hx; rw [if_neg hx]; lia
theorem hits_all (T : List Ev) : ∀ f : Nat → Int, (∀ x, cnt x T ≤ f x) → ∀ x, 0 < cnt x T → f x = cnt x T → ∃ e ∈ hits f T, e.2 = x := by
  induction T with
  | nil => intro f _ x h; rw [cnt_nil] at h; lia
  | cons a T ih =>
    intro f h x h1 h2
    rw [hits]
    by_cases hx : x = a.2
    · rw [cnt_cons, if_pos hx] at h1 h2
      by_cases h0 : cnt x T = 0
      · refine ⟨a, List.mem_append_left _ ?_, hx.symm⟩
        rw [if_pos (by rw [← hx]; lia)]; exact .head _
      · have := cnt_nonneg x T
        obtain ⟨e, he, h3⟩ := ih _ (down_ok h) x (by lia) (by rw [if_pos hx]; lia)
        exact ⟨e, List.mem_append_right _ he, h3⟩
    · rw [cnt_cons, if_neg hx] at h1 h2
      obtain ⟨e, he, h3⟩ := ih _ (down_ok h) x (by lia) (by rw [if_neg hx]; lia)
      exact ⟨e, List.mem_append_right _ he, h3⟩
theorem hits_nodup (T : List Ev) : ∀ f : Nat → Int, (∀ x, cnt x T ≤ f x) → ((hits f T).map (·.2)).Nodup := by
  induction T with
  | nil => intro f _; exact List.nodup_nil
  | cons a T ih =>
    intro f h
    rw [hits, List.map_append]
    split
    · rename_i h0
      refine List.nodup_cons.mpr ⟨fun q => ?_, ih _ (down_ok h)⟩
      obtain ⟨e, he, h3⟩ := List.mem_map.mp q
      have h1 := h a.2
      rw [cnt_cons, if_pos rfl] at h1
      have h3' : e.2 = a.2 := h3
      exact cnt_zero (x := a.2) (by lia) e ((hits_sub T _).subset he) h3'
    · exact ih _ (down_ok h)
/-- the state behind a list of arrows -/
theorem dec_fold (P : Nat → Prop) (T : List Ev) : ∀ (G : Gr) (rd : List Nat) (f : Nat → Int), (∀ e ∈ T, P e.2 ∧ e.2 ∈ keysG G) → (∀ x, P x → npOf G x = f x) →
    ∃ G', (T.map (·.2)).foldl decG (G, rd) = (G', rd ++ (hits f T).map (·.2)) ∧ keysG G' = keysG G ∧ (∀ d, suOf G' d = suOf G d) ∧ (∀ x, P x → npOf G' x = f x - cnt x T) ∧ ∀ x, ¬ P x → npOf G' x = npOf G x := by
  induction T with
  | nil => intro G rd f _ h; exact ⟨G, by simp [hits], rfl, fun _ => rfl, fun x hx => by rw [h x hx, cnt_nil]; lia, fun _ _ => rfl⟩
  | cons e T ih =>
    intro G rd f h1 h2
    obtain ⟨he, hk⟩ := h1 e (.head _)
    obtain ⟨G', i1, i2, i3, i4, i5⟩ := ih (addNp G e.2 (-1)) (if npOf G e.2 - 1 = 0 then rd ++ [e.2] else rd) (fun y => if y = e.2 then f y - 1 else f y)
      (fun e' he' => ⟨(h1 e' (.tail _ he')).1, by rw [keys_addNp]; exact (h1 e' (.tail _ he')).2⟩) (fun x hx => by
        rw [np_addNp, h2 x hx]
        by_cases q : x = e.2
        · subst q; simp [hk]; lia
        · simp [q])
    refine ⟨G', ?_, i2.trans (keys_addNp _ _ _), fun d => (i3 d).trans (su_addNp _ _ _ _), fun x hx => ?_, fun x hx => ?_⟩
    · rw [List.map_cons, List.foldl_cons]
      show List.foldl decG (addNp G e.2 (-1), if npOf G e.2 - 1 = 0 then rd ++ [e.2] else rd) _ = _
      rw [i1, hits, h2 _ he]
      split <;> simp
    · rw [i4 x hx, cnt_cons]
      split <;> lia
    · rw [i5 x hx, np_addNp, if_neg (fun (q : x = e.2 ∧ e.2 ∈ keysG G) => hx (q.1 ▸ he))]; lia
end Mine

end
section
namespace Mine
/-- the arrows with their rows' numbers: need, row, target -/
noncomputable def iE : Nat → List (List Nat) → List (Nat × Nat × Nat)
  | _, [] => []
  | k, r :: rows => (r.tail.map fun p => (p, k, r.headD 0)) ++ iE (k + 1) rows
theorem iE_edges (rows : List (List Nat)) : ∀ k, (iE k rows).map (fun e => (e.1, e.2.2)) = edges rows := by
  induction rows with
  | nil => intro k; rfl
  | cons r rows ih =>
    intro k
    rw [iE, List.map_append, ih, List.map_map]
    unfold edges
    rw [List.flatMap_cons]; rfl
theorem iE_ge (rows : List (List Nat)) : ∀ k, ∀ e ∈ iE k rows, k ≤ e.2.1 := by
  induction rows with
  | nil => intro k e h; cases h
  | cons r rows ih =>
    intro k e h
    rcases List.mem_append.mp h with h | h
    · obtain ⟨p, _, rfl⟩ := List.mem_map.mp h; exact Nat.le_refl _
    · exact Nat.le_of_succ_le (ih (k + 1) e h)
theorem iE_pw (rows : List (List Nat)) : ∀ k, (∀ r ∈ rows, r.length ≤ 2) → (iE k rows).Pairwise fun a b => a.2.1 < b.2.1 := by
  induction rows with
  | nil => intro k _; exact .nil
  | cons r rows ih =>
    intro k h
    rw [iE]
    refine List.pairwise_append.mpr ⟨?_, ih (k + 1) fun r hr => h r (.tail _ hr), fun a ha b hb => ?_⟩
    · have hl := h r (.head _)
      rw [List.pairwise_map]
      match r, hl with
      | [], _ => exact .nil
      | [_], _ => exact .nil
      | [_, _], _ => exact List.pairwise_singleton _ _
      | _ :: _ :: _ :: _, hl => simp at hl
    · obtain ⟨p, _, rfl⟩ := List.mem_map.mp ha
      exact iE_ge rows (k + 1) b hb
noncomputable def suR (rows : List (List Nat)) (c : Nat) : List Nat := ((edges rows).filter fun e => e.1 == c).map (·.2)
noncomputable def evs (rows : List (List Nat)) : Nat → List Nat → List Ev
  | _, [] => []
  | i, c :: cs => (((iE 0 rows).filter fun e => e.1 == c).map fun e => ((i, e.2.1), e.2.2)) ++ evs rows (i + 1) cs
theorem evs_one (rows : List (List Nat)) (i c : Nat) : ((((iE 0 rows).filter fun e => e.1 == c).map fun e => ((i, e.2.1), e.2.2)) : List Ev).map (·.2) = suR rows c := by
  unfold suR
  rw [← iE_edges rows 0, List.filter_map, List.map_map, List.map_map]
  rfl
theorem evs_ge (rows : List (List Nat)) : ∀ (cs : List Nat) (i : Nat), ∀ e ∈ evs rows i cs, i ≤ e.1.1
  | [], i, e, h => by cases h
  | c :: cs, i, e, h => by
    rcases List.mem_append.mp h with h | h
    · obtain ⟨p, _, rfl⟩ := List.mem_map.mp h; exact Nat.le_refl _
    · exact Nat.le_of_succ_le (evs_ge rows cs (i + 1) e h)
noncomputable def ltE (a b : Ev) : Prop := a.1.1 < b.1.1 ∨ (a.1.1 = b.1.1 ∧ a.1.2 < b.1.2)
theorem evs_pw {rows : List (List Nat)} (h2 : ∀ r ∈ rows, r.length ≤ 2) : ∀ (cs : List Nat) (i : Nat), (evs rows i cs).Pairwise ltE
  | [], i => .nil
  | c :: cs, i => by
    rw [evs]
    refine List.pairwise_append.mpr ⟨?_, evs_pw h2 cs (i + 1), fun a ha b hb => ?_⟩
    · rw [List.pairwise_map]
      exact ((iE_pw rows 0 h2).filter _).imp fun h => .inr ⟨rfl, h⟩
    · obtain ⟨p, _, rfl⟩ := List.mem_map.mp ha
      exact .inl (evs_ge rows cs (i + 1) b hb)
theorem evs_mem {rows : List (List Nat)} {e : Ev} : ∀ {cs : List Nat} {i : Nat}, e ∈ evs rows i cs ↔ ∃ j c, cs[j]? = some c ∧ e.1.1 = i + j ∧ (c, e.1.2, e.2) ∈ iE 0 rows
  | [], i => by simp [evs]
  | c :: cs, i => by
    rw [evs, List.mem_append, evs_mem]
    constructor
    · rintro (h | ⟨j, d, h1, h2, h3⟩)
      · obtain ⟨p, hp, rfl⟩ := List.mem_map.mp h
        obtain ⟨hp1, hp2⟩ := List.mem_filter.mp hp
        have : p.1 = c := by simpa using hp2
        exact ⟨0, c, rfl, rfl, by rw [← this]; exact hp1⟩
      · exact ⟨j + 1, d, by simpa using h1, h2.trans (by rw [Nat.add_assoc, Nat.add_comm 1 j]), h3⟩
    · rintro ⟨j, d, h1, h2, h3⟩
      cases j with
      | zero =>
        have : c = d := by simpa using h1
        subst this
        refine .inl (List.mem_map.mpr ⟨(c, e.1.2, e.2), List.mem_filter.mpr ⟨h3, by simp⟩, ?_⟩)
        rw [show i = e.1.1 from h2.symm]
      | succ j => exact .inr ⟨j, d, by simpa using h1, h2.trans (by rw [Nat.add_assoc, Nat.add_comm 1 j]), h3⟩
/-- arrows that reach x from a set -/
noncomputable def into (rows : List (List Nat)) (x : Nat) (p : Nat → Bool) : Int := (((edges rows).filter fun e => e.2 == x && p e.1).length : Int)
theorem filter_split {α : Type} (p q r : α → Bool) : ∀ l : List α, (∀ a ∈ l, r a = (p a || q a) ∧ (p a && q a) = false) → (l.filter r).length = (l.filter p).length + (l.filter q).length
  | [], _ => rfl
  | a :: l, h => by
    have ih := filter_split p q r l fun b hb => h b (.tail _ hb)
    obtain ⟨h1, h2⟩ := h a (.head _)
    rw [List.filter_cons, List.filter_cons, List.filter_cons, h1]
    cases hp : p a <;> cases hq : q a <;> simp [hp, hq] at h2 ⊢ <;> lia
theorem evs_cnt (rows : List (List Nat)) (x : Nat) : ∀ (cs : List Nat) (i : Nat), cs.Nodup → cnt x (evs rows i cs) = into rows x fun p => decide (p ∈ cs)
  | [], i, _ => by unfold into; rw [List.filter_eq_nil_iff.mpr (fun a _ => by simp)]; rfl
  | c :: cs, i, hn => by
    rw [List.nodup_cons] at hn
    rw [evs, cnt_append, evs_cnt rows x cs (i + 1) hn.2]
    unfold into cnt
    have h1 := filter_split (fun e : Nat × Nat => e.2 == x && decide (e.1 = c)) (fun e => e.2 == x && decide (e.1 ∈ cs)) (fun e => e.2 == x && decide (e.1 ∈ c :: cs)) (edges rows) fun a _ => by
      constructor
      · simp only [List.mem_cons, Bool.decide_or, Bool.and_or_distrib_left]
      · cases hx : (a.2 == x) with
        | false => simp
        | true =>
          by_cases hc : a.1 = c
          · simp [hc, hn.1]
          · simp [hc]
    rw [h1]
    have h2 : ((((iE 0 rows).filter fun e => e.1 == c).map fun e => (((i, e.2.1), e.2.2) : Ev)).filter fun e => e.2 == x).length = ((edges rows).filter fun e => e.2 == x && decide (e.1 = c)).length := by
      rw [← iE_edges rows 0, List.filter_map, List.filter_map, List.length_map, List.length_map, List.filter_filter]
      congr 2
    rw [h2]; dsimp only; exact (Int.natCast_add _ _).symm
/-- done() with a whole group -/
theorem group_fold (rows : List (List Nat)) (P : Nat → Prop) : ∀ (cs : List Nat) (i : Nat) (G : Gr) (rd : List Nat) (f : Nat → Int), (∀ c ∈ cs, ¬ P c ∧ c ∈ keysG G) → (∀ e ∈ evs rows i cs, P e.2 ∧ e.2 ∈ keysG G) → (∀ c, suOf G c = suR rows c) → (∀ x, P x → npOf G x = f x) →
    ∃ G', cs.foldl doneOne (G, rd) = (G', rd ++ (hits f (evs rows i cs)).map (·.2)) ∧ keysG G' = keysG G ∧ (∀ d, suOf G' d = suOf G d) ∧ (∀ x, P x → npOf G' x = f x - cnt x (evs rows i cs)) ∧ ∀ x, ¬ P x → npOf G' x = if x ∈ cs then -2 else npOf G x
  | [], i, G, rd, f, _, _, _, h => ⟨G, by simp [evs, hits], rfl, fun _ => rfl, fun x hx => by rw [h x hx]; simp [evs, cnt_nil], fun x _ => by simp⟩
  | c :: cs, i, G, rd, f, h1, h2, h3, h4 => by
    obtain ⟨hc, hk⟩ := h1 c (.head _)
    obtain ⟨G1, a1, a2, a3, a4, a5⟩ := dec_fold P (((iE 0 rows).filter fun e => e.1 == c).map fun e => ((i, e.2.1), e.2.2)) (setNp G c (-2)) rd f
      (fun e he => by rw [keys_setNp]; exact h2 e (List.mem_append_left _ he)) (fun x hx => by rw [np_setNp, if_neg (fun (q : x = c ∧ c ∈ keysG G) => hc (q.1 ▸ hx))]; exact h4 x hx)
    rw [evs_one] at a1
    have k1 : keysG G1 = keysG G := a2.trans (keys_setNp _ _ _)
    have s1 : ∀ d, suOf G1 d = suOf G d := fun d => (a3 d).trans (su_setNp _ _ _ _)
    obtain ⟨G', b1, b2, b3, b4, b5⟩ := group_fold rows P cs (i + 1) G1 (rd ++ (hits f (((iE 0 rows).filter fun e => e.1 == c).map fun e => ((i, e.2.1), e.2.2))).map (·.2)) (fun y => f y - cnt y (((iE 0 rows).filter fun e => e.1 == c).map fun e => ((i, e.2.1), e.2.2)))
      (fun d hd => ⟨(h1 d (.tail _ hd)).1, by rw [k1]; exact (h1 d (.tail _ hd)).2⟩) (fun e he => by rw [k1]; exact h2 e (List.mem_append_right _ he)) (fun d => (s1 d).trans (h3 d)) a4
    refine ⟨G', ?_, b2.trans k1, fun d => (b3 d).trans (s1 d), fun x hx => ?_, fun x hx => ?_⟩
    · rw [List.foldl_cons]
      show List.foldl doneOne ((suOf G c).foldl decG (setNp G c (-2), rd)) cs = _
      rw [h3, a1, b1, evs, hits_append, List.map_append, List.append_assoc]
    · rw [b4 x hx, evs, cnt_append]; lia
    · rw [b5 x hx]
      by_cases hm : x ∈ cs
      · rw [if_pos hm, if_pos (.tail _ hm)]
      · rw [if_neg hm, a5 x hx, np_setNp]
        by_cases hxc : x = c
        · rw [if_pos ⟨hxc, hk⟩, if_pos (by rw [hxc]; exact .head _)]
        · rw [if_neg (fun q => hxc q.1), if_neg (fun q => (List.mem_cons.mp q).elim hxc hm)]
end Mine

end
section
namespace Mine
theorem ltP_iff (x y : Int × Int) : ltP x y = true ↔ x.1 < y.1 ∨ (x.1 = y.1 ∧ x.2 < y.2) := by unfold ltP; simp
theorem ltP_irrefl (x : Int × Int) : ltP x x = false := by unfold ltP; simp
theorem ltP_trans {x y z : Int × Int} (h1 : ltP x y = true) (h2 : ltP y z = true) : ltP x z = true := by
  rw [ltP_iff] at *
  rcases h1 with a | ⟨a, b⟩
  · rcases h2 with c | ⟨c, _⟩
    · exact .inl (Int.lt_trans a c)
    · exact .inl (c ▸ a)
  · rcases h2 with c | ⟨c, d⟩
    · exact .inl (a ▸ c)
    · exact .inr ⟨a.trans c, Int.lt_trans b d⟩
theorem ltP_total {x y : Int × Int} (h1 : ltP x y = false) (h2 : ltP y x = false) : x = y := by
  have a : ¬ (ltP x y = true) := by rw [h1]; decide
  have b : ¬ (ltP y x = true) := by rw [h2]; decide
  rw [ltP_iff] at a b
  have e := Int.le_antisymm (Int.not_lt.mp fun q => b (.inl q)) (Int.not_lt.mp fun q => a (.inl q))
  exact Prod.ext e (Int.le_antisymm (Int.not_lt.mp fun q => b (.inr ⟨e.symm, q⟩)) (Int.not_lt.mp fun q => a (.inr ⟨e, q⟩)))
theorem ltP_asymm {x y : Int × Int} (h1 : ltP x y = true) : ltP y x = false := by
  cases h : ltP y x with
  | false => rfl
  | true => have := ltP_trans h1 h; rw [ltP_irrefl] at this; cases this
/-- the best of a list, the first one of the best -/
noncomputable def maxP (b : Int × Int) (l : List (Int × Int)) : Int × Int := l.foldl (fun b y => if ltP b y then y else b) b
theorem maxP_spec (l : List (Int × Int)) : ∀ b, maxP b l ∈ b :: l ∧ ∀ y ∈ b :: l, ltP (maxP b l) y = false := by
  induction l with
  | nil => intro b; exact ⟨.head _, fun y hy => by rw [List.mem_singleton.mp hy]; exact ltP_irrefl _⟩
  | cons a l ih =>
    intro b
    obtain ⟨h1, h2⟩ := ih (if ltP b a then a else b)
    show maxP (if ltP b a then a else b) l ∈ _ ∧ _
    constructor
    · rcases List.mem_cons.mp h1 with h | h
      · rw [h]; split
        · exact .tail _ (.head _)
        · exact .head _
      · exact .tail _ (.tail _ h)
    · have h3 := h2 _ (.head _)
      show ∀ y ∈ b :: a :: l, ltP (maxP (if ltP b a then a else b) l) y = false
      have hba : ltP (maxP (if ltP b a then a else b) l) b = false ∧ ltP (maxP (if ltP b a then a else b) l) a = false := by
        cases hq : ltP b a with
        | true =>
          rw [hq] at h3
          simp only [if_true] at h3 ⊢
          refine ⟨?_, h3⟩
          cases hz : ltP (maxP a l) b with
          | false => rfl
          | true => rw [ltP_trans hz hq] at h3; cases h3
        | false =>
          rw [hq] at h3
          simp only [Bool.false_eq_true, if_false] at h3 ⊢
          refine ⟨h3, ?_⟩
          cases hz : ltP (maxP b l) a with
          | false => rfl
          | true =>
            by_cases hzb : ltP a b = true
            · rw [ltP_trans hz hzb] at h3; cases h3
            · have : a = b := ltP_total (by simpa using hzb) hq
              rw [this] at hz; rw [hz] at h3; cases h3
      intro y hy
      rcases List.mem_cons.mp hy with rfl | hy
      · exact hba.1
      · rcases List.mem_cons.mp hy with rfl | hy
        · exact hba.2
        · exact h2 y (.tail _ hy)
theorem maxP_eq {b m : Int × Int} {l : List (Int × Int)} (h1 : m ∈ b :: l) (h2 : ∀ y ∈ b :: l, ltP m y = false) : maxP b l = m := by
  obtain ⟨a1, a2⟩ := maxP_spec l b
  exact ltP_total (a2 m h1) (h2 _ a1)
noncomputable def needsOf (rows : List (List Nat)) (x : Nat) : List (Nat × Nat) := ((iE 0 rows).filter fun e => e.2.2 == x).map fun e => (e.1, e.2.1)
noncomputable def rank (rows : List (List Nat)) (D : List Nat) (x : Nat) : Int × Int := maxP ((-1 : Int), ((namesOf rows).idxOf x : Int)) ((needsOf rows x).map fun e => ((D.idxOf e.1 : Int), (e.2 : Int)))
noncomputable def freeL (rows : List (List Nat)) (D : List Nat) : List Nat := (namesOf rows).filter fun x => decide (x ∉ D) && (needsOf rows x).all fun e => decide (e.1 ∈ D)
noncomputable def IsF (rows : List (List Nat)) (D g : List Nat) : Prop := g.Perm (freeL rows D) ∧ g.Pairwise fun x y => ltP (rank rows D x) (rank rows D y) = true
theorem uniq_pw {α : Type} {R : α → α → Prop} (ha : ∀ x y, R x y → R y x → False) : ∀ {l l' : List α}, l.Perm l' → l.Pairwise R → l'.Pairwise R → l = l'
  | [], l', hp, _, _ => (List.nil_perm.mp hp).symm
  | a :: l, [], hp, _, _ => absurd hp.length_eq (by simp)
  | a :: l, b :: l', hp, h1, h2 => by
    have e : a = b := by
      by_cases q : a = b
      · exact q
      · have h3 : a ∈ l' := (List.mem_cons.mp (hp.mem_iff.mp (.head _))).resolve_left q
        have h4 : b ∈ l := (List.mem_cons.mp (hp.mem_iff.mpr (.head _))).resolve_left (Ne.symm q)
        exact (ha _ _ ((List.pairwise_cons.mp h1).1 b h4) ((List.pairwise_cons.mp h2).1 a h3)).elim
    subst e
    rw [uniq_pw ha ((List.perm_cons a).mp hp) (List.pairwise_cons.mp h1).2 (List.pairwise_cons.mp h2).2]
theorem IsF.uniq {rows : List (List Nat)} {D g g' : List Nat} (h : IsF rows D g) (h' : IsF rows D g') : g = g' :=
  uniq_pw (fun x y a b => by rw [ltP_asymm a] at b; cases b) (h.1.trans h'.1.symm) h.2 h'.2
theorem needs_mem {rows : List (List Nat)} {x p k : Nat} : (p, k) ∈ needsOf rows x ↔ (p, k, x) ∈ iE 0 rows := by
  unfold needsOf
  constructor
  · intro h
    obtain ⟨e, he, q⟩ := List.mem_map.mp h
    obtain ⟨h1, h2⟩ := List.mem_filter.mp he
    have h3 : e.2.2 = x := by simpa using h2
    have h4 := Prod.mk.inj q
    obtain ⟨e1, e2, e3⟩ := e
    simp only at h3 h4
    rw [← h3, ← h4.1, ← h4.2]; exact h1
  · intro h
    exact List.mem_map.mpr ⟨(p, k, x), List.mem_filter.mpr ⟨h, by simp⟩, rfl⟩
theorem iE_edge {rows : List (List Nat)} {p k x : Nat} (h : (p, k, x) ∈ iE 0 rows) : (p, x) ∈ edges rows := by
  rw [← iE_edges rows 0]; exact List.mem_map.mpr ⟨_, h, rfl⟩
theorem edge_iE {rows : List (List Nat)} {p x : Nat} (h : (p, x) ∈ edges rows) : ∃ k, (p, k, x) ∈ iE 0 rows := by
  rw [← iE_edges rows 0] at h
  obtain ⟨e, he, q⟩ := List.mem_map.mp h
  obtain ⟨h1, h2⟩ := Prod.mk.inj q
  exact ⟨e.2.1, by rw [← h1, ← h2]; exact he⟩
theorem free_mem {rows : List (List Nat)} {D : List Nat} {x : Nat} : x ∈ freeL rows D ↔ x ∈ namesOf rows ∧ x ∉ D ∧ ∀ p, (p, x) ∈ edges rows → p ∈ D := by
  unfold freeL
  rw [List.mem_filter, Bool.and_eq_true, decide_eq_true_iff, List.all_eq_true]
  constructor
  · rintro ⟨h1, h2, h3⟩
    refine ⟨h1, h2, fun p hp => ?_⟩
    obtain ⟨k, hk⟩ := edge_iE hp
    simpa using h3 (p, k) (needs_mem.mpr hk)
  · rintro ⟨h1, h2, h3⟩
    exact ⟨h1, h2, fun e he => by simpa using h3 e.1 (iE_edge (needs_mem.mp he))⟩
theorem into_pos {rows : List (List Nat)} {x p : Nat} {q : Nat → Bool} (h : (p, x) ∈ edges rows) (hq : q p = true) : 0 < into rows x q := by
  unfold into
  have : 0 < ((edges rows).filter fun e => e.2 == x && q e.1).length := List.length_pos_of_mem (List.mem_filter.mpr ⟨h, by simp [hq]⟩)
  exact Int.natCast_pos.mpr this
theorem into_zero {rows : List (List Nat)} {x : Nat} {q : Nat → Bool} (h : ∀ p, (p, x) ∈ edges rows → q p = false) : into rows x q = 0 := by
  unfold into
  rw [List.filter_eq_nil_iff.mpr fun a ha => ?_]
  · rfl
  · cases hx : (a.2 == x) with
    | false => simp
    | true =>
      have : a.2 = x := by simpa using hx
      rw [h a.1 (by rw [← this]; exact ha)]; simp
theorem into_nonneg (rows : List (List Nat)) (x : Nat) (q : Nat → Bool) : 0 ≤ into rows x q := Int.natCast_nonneg _
theorem into_split (rows : List (List Nat)) (x : Nat) {D g : List Nat} (h : ∀ p ∈ g, p ∉ D) : into rows x (fun p => decide (p ∉ D)) = into rows x (fun p => decide (p ∈ g)) + into rows x fun p => decide (p ∉ D ++ g) := by
  unfold into
  have := filter_split (fun e : Nat × Nat => e.2 == x && decide (e.1 ∈ g)) (fun e => e.2 == x && decide (e.1 ∉ D ++ g)) (fun e => e.2 == x && decide (e.1 ∉ D)) (edges rows) fun a _ => by
    cases hx : (a.2 == x) with
    | false => simp
    | true =>
      by_cases h1 : a.1 ∈ g
      · simp [h1, h a.1 h1]
      · by_cases h2 : a.1 ∈ D <;> simp [h1, h2]
  dsimp only
  rw [this, Int.natCast_add]
end Mine

end
section
namespace Mine
section
variable (su : Nat → List Nat)
/-- the stack leads to c, each entry's earlier successors are finished -/
noncomputable def Chain (fin : List Nat) : Nat → List (Nat × Nat) → Prop
  | _, [] => True
  | c, (u, j) :: r => (∃ k, j = k + 1 ∧ (su u)[k]? = some c ∧ ∀ i, i < k → ∀ v, (su u)[i]? = some v → v ∈ fin) ∧ Chain fin u r
noncomputable def OpenS (fin : List Nat) : List (Nat × Nat) → Prop
  | [] => True
  | (u, j) :: r => (j ≤ (su u).length ∧ ∀ i, i < j → ∀ v, (su u)[i]? = some v → v ∈ fin) ∧ Chain su fin u r
inductive Topo : List Nat → Prop
  | nil : Topo []
  | cons {u : Nat} {fin : List Nat} : (∀ v ∈ su u, v ∈ fin) → Topo fin → Topo (u :: fin)
structure DInv (ns seen : List Nat) (st : List (Nat × Nat)) (fin : List Nat) : Prop where
  topo : Topo su fin
  nd : (st.map (·.1)).Nodup
  snd : seen.Nodup
  mem : ∀ c, c ∈ seen ↔ c ∈ st.map (·.1) ∨ c ∈ fin
  sub : ∀ c ∈ seen, c ∈ ns
noncomputable def wtN (ns seen : List Nat) : Nat := ((ns.filter fun c => !seen.contains c).map fun u => (su u).length + 2).sum
noncomputable def wtS (st : List (Nat × Nat)) : Nat := (st.map fun p => (su p.1).length + 1 - p.2).sum
noncomputable def wt (ns seen : List Nat) (st : List (Nat × Nat)) : Nat := wtN su ns seen + wtS su st
noncomputable def Ring (ns C : List Nat) : Prop := C ≠ [] ∧ (∀ x ∈ C, x ∈ ns) ∧ ∀ x ∈ C, ∃ y ∈ C, x ∈ su y
variable {su}
theorem Chain.mono {fin fin' : List Nat} (h : ∀ v ∈ fin, v ∈ fin') : ∀ {st : List (Nat × Nat)} {c : Nat}, Chain su fin c st → Chain su fin' c st := by
  intro st
  induction st with
  | nil => intro _ _; trivial
  | cons p st ih =>
    intro c hc
    obtain ⟨⟨k, h1, h2, h3⟩, h4⟩ := hc
    exact ⟨⟨k, h1, h2, fun i hi v hv => h v (h3 i hi v hv)⟩, ih h4⟩
theorem wtN_push {ns seen : List Nat} {c : Nat} (hn : ns.Nodup) (hc : c ∈ ns) (hs : c ∉ seen) : wtN su ns (c :: seen) + ((su c).length + 2) = wtN su ns seen := by
  unfold wtN
  induction ns with
  | nil => cases hc
  | cons x r ih =>
    rw [List.nodup_cons] at hn
    by_cases hx : x = c
    · subst hx
      have h1 : (x :: r).filter (fun c => !(x :: seen).contains c) = r.filter (fun c => !seen.contains c) := by
        rw [List.filter_cons, if_neg (by simp)]
        refine List.filter_congr fun y hy => ?_
        have : y ≠ x := fun q => hn.1 (q ▸ hy)
        simp [this]
      have h2 : (x :: r).filter (fun c => !seen.contains c) = x :: r.filter (fun c => !seen.contains c) := by
        rw [List.filter_cons, if_pos (by simpa using hs)]
      rw [h1, h2, List.map_cons, List.sum_cons]; exact Nat.add_comm _ _
    · have hr : c ∈ r := (List.mem_cons.mp hc).resolve_left (Ne.symm hx)
      have := ih hn.2 hr
      by_cases hy : x ∈ seen
      · rw [List.filter_cons, if_neg (by simp [hy]), List.filter_cons, if_neg (by simp [hy])]; exact this
      · rw [List.filter_cons, if_pos (by simp [hy, hx]), List.filter_cons, if_pos (by simp [hy]), List.map_cons, List.map_cons, List.sum_cons, List.sum_cons]; rw [Nat.add_assoc, this]
theorem dfs_push {ns seen fin : List Nat} {st : List (Nat × Nat)} {c : Nat} (D : DInv su ns seen st fin) (hC : Chain su fin c st) (hn : ns.Nodup) (hc : c ∈ ns) (hs : c ∉ seen) :
    DInv su ns (c :: seen) ((c, 0) :: st) fin ∧ OpenS su fin ((c, 0) :: st) ∧ wt su ns (c :: seen) ((c, 0) :: st) < wt su ns seen st := by
  refine ⟨⟨D.topo, ?_, List.nodup_cons.mpr ⟨hs, D.snd⟩, fun x => ?_, fun x hx => ?_⟩, ⟨⟨Nat.zero_le _, fun i hi => absurd hi (Nat.not_lt_zero _)⟩, hC⟩, ?_⟩
  · rw [List.map_cons, List.nodup_cons]
    exact ⟨fun q => hs ((D.mem c).mpr (.inl q)), D.nd⟩
  · rw [List.mem_cons, List.map_cons, List.mem_cons, D.mem x, or_assoc]
  · rcases List.mem_cons.mp hx with rfl | hx
    · exact hc
    · exact D.sub x hx
  · have := wtN_push (su := su) hn hc hs
    unfold wt wtS
    rw [List.map_cons, List.sum_cons]
    dsimp only
    exact push_lt this
theorem dfs_black {ns seen fin : List Nat} {st : List (Nat × Nat)} {c : Nat} (D : DInv su ns seen st fin) (hC : Chain su fin c st) (hs : c ∈ seen) (hg : c ∉ st.map (·.1)) : OpenS su fin st := by
  have hf : c ∈ fin := ((D.mem c).mp hs).resolve_left hg
  cases st with
  | nil => trivial
  | cons p r =>
    obtain ⟨u, j⟩ := p
    obtain ⟨⟨k, rfl, h2, h3⟩, h4⟩ := hC
    refine ⟨⟨(List.getElem?_eq_some_iff.mp h2).1, fun i hi v hv => ?_⟩, h4⟩
    rcases Nat.lt_or_ge i k with h | h
    · exact h3 i h v hv
    · have : i = k := Nat.le_antisymm (Nat.le_of_lt_succ hi) h
      subst this
      rw [h2] at hv; cases hv; exact hf
theorem dfs_next {ns seen fin : List Nat} {r : List (Nat × Nat)} {u j v : Nat} (hO : OpenS su fin ((u, j) :: r)) (hv : (su u)[j]? = some v) :
    Chain su fin v ((u, j + 1) :: r) ∧ wt su ns seen ((u, j + 1) :: r) < wt su ns seen ((u, j) :: r) := by
  refine ⟨⟨⟨j, rfl, hv, hO.1.2⟩, hO.2⟩, ?_⟩
  have := (List.getElem?_eq_some_iff.mp hv).1
  unfold wt wtS
  rw [List.map_cons, List.map_cons, List.sum_cons, List.sum_cons]
  dsimp only
  exact next_lt this
theorem dfs_inv_next {ns seen fin : List Nat} {r : List (Nat × Nat)} {u j : Nat} (D : DInv su ns seen ((u, j) :: r) fin) : DInv su ns seen ((u, j + 1) :: r) fin := ⟨D.topo, D.nd, D.snd, D.mem, D.sub⟩
theorem dfs_pop {ns seen fin : List Nat} {r : List (Nat × Nat)} {u j : Nat} (D : DInv su ns seen ((u, j) :: r) fin) (hO : OpenS su fin ((u, j) :: r)) (hv : (su u)[j]? = none) :
    DInv su ns seen r (u :: fin) ∧ OpenS su (u :: fin) r ∧ wt su ns seen r < wt su ns seen ((u, j) :: r) := by
  have hj := List.getElem?_eq_none_iff.mp hv
  obtain ⟨⟨hjl, hO1⟩, hO2⟩ := hO
  have hnd := D.nd
  rw [List.map_cons, List.nodup_cons] at hnd
  refine ⟨⟨.cons (fun v hv => ?_) D.topo, hnd.2, D.snd, fun x => ?_, D.sub⟩, ?_, ?_⟩
  · obtain ⟨i, hi, e⟩ := List.mem_iff_getElem.mp hv
    exact hO1 i (Nat.lt_of_lt_of_le hi hj) v (by rw [List.getElem?_eq_getElem hi, e])
  · rw [D.mem x, List.map_cons, List.mem_cons, List.mem_cons]
    constructor
    · rintro ((h | h) | h)
      · exact .inr (.inl h)
      · exact .inl h
      · exact .inr (.inr h)
    · rintro (h | h | h)
      · exact .inl (.inr h)
      · exact .inl (.inl h)
      · exact .inr h
  · cases r with
    | nil => trivial
    | cons p r' =>
      obtain ⟨u', j'⟩ := p
      obtain ⟨⟨k, rfl, h2, h3⟩, h4⟩ := hO2
      refine ⟨⟨(List.getElem?_eq_some_iff.mp h2).1, fun i hi v hv => ?_⟩, h4.mono fun v hv => .tail _ hv⟩
      rcases Nat.lt_or_ge i k with h | h
      · exact .tail _ (h3 i h v hv)
      · have : i = k := Nat.le_antisymm (Nat.le_of_lt_succ hi) h
        subst this
        rw [h2] at hv; cases hv; exact .head _
  · unfold wt wtS
    rw [List.map_cons, List.sum_cons]
    dsimp only
    exact pop_lt hjl
theorem ring_aux {fin : List Nat} {c : Nat} : ∀ {st : List (Nat × Nat)} {x : Nat}, Chain su fin x st → c ∈ st.map (·.1) → ∃ C : List Nat, (∀ z ∈ C, z ∈ st.map (·.1)) ∧ c ∈ C ∧ (∃ y ∈ C, x ∈ su y) ∧ ∀ z ∈ C, z = c ∨ ∃ y ∈ C, z ∈ su y
  | [], _, _, h => by simp at h
  | (u, j) :: r, x, ⟨⟨k, _, h2, _⟩, h4⟩, hc => by
    have hx : x ∈ su u := List.mem_of_getElem? h2
    by_cases hu : u = c
    · subst hu
      exact ⟨[u], fun z hz => by rw [List.mem_singleton.mp hz]; exact .head _, .head _, ⟨u, .head _, hx⟩, fun z hz => .inl (List.mem_singleton.mp hz)⟩
    · have hc' : c ∈ r.map (·.1) := by
        rw [List.map_cons, List.mem_cons] at hc
        exact hc.resolve_left (Ne.symm hu)
      obtain ⟨C, h5, h6, ⟨y, h7, h8⟩, h9⟩ := ring_aux h4 hc'
      refine ⟨u :: C, fun z hz => ?_, .tail _ h6, ⟨u, .head _, hx⟩, fun z hz => ?_⟩
      · rcases List.mem_cons.mp hz with rfl | hz
        · exact .head _
        · exact .tail _ (h5 z hz)
      · rcases List.mem_cons.mp hz with rfl | hz
        · exact .inr ⟨y, .tail _ h7, h8⟩
        · rcases h9 z hz with h | ⟨y', h10, h11⟩
          · exact .inl h
          · exact .inr ⟨y', .tail _ h10, h11⟩
theorem dfs_ring {ns seen fin : List Nat} {st : List (Nat × Nat)} {c : Nat} (D : DInv su ns seen st fin) (hC : Chain su fin c st) (hg : c ∈ st.map (·.1)) : ∃ C, Ring su ns C := by
  obtain ⟨C, h1, h2, h3, h4⟩ := ring_aux hC hg
  refine ⟨C, And.intro (fun q => by rw [q] at h2; cases h2) (And.intro (fun x hx => D.sub x ((D.mem x).mpr (.inl (h1 x hx)))) fun x hx => ?_)⟩
  rcases h4 x hx with rfl | h
  · exact h3
  · exact h
theorem dfs_end {ns seen fin : List Nat} (D : DInv su ns seen [] fin) (h : ∀ c ∈ ns, c ∈ seen) : Topo su fin ∧ ∀ c ∈ ns, c ∈ fin :=
  ⟨D.topo, fun c hc => ((D.mem c).mp (h c hc)).resolve_left (by simp)⟩
theorem dfs_start (ns : List Nat) : DInv su ns [] [] [] := ⟨.nil, List.nodup_nil, List.nodup_nil, fun _ => by simp, fun _ h => by cases h⟩
theorem dinv_len {ns seen fin : List Nat} {st : List (Nat × Nat)} (D : DInv su ns seen st fin) : st.length ≤ ns.length ∧ seen.length ≤ ns.length := by
  have h1 : seen.length ≤ ns.length := D.snd.length_le_of_subset fun x hx => D.sub x hx
  refine ⟨?_, h1⟩
  rw [← List.length_map (f := (·.1)) (as := st)]
  exact D.nd.length_le_of_subset fun x hx => D.sub x ((D.mem x).mpr (.inl hx))
end
end Mine

end
section
namespace Mine
noncomputable def stepG (st : Gr × List Nat) : Gr × List Nat := st.2.foldl doneOne (st.2.foldl (fun G c => setNp G c (-1)) st.1, [])
noncomputable def iterG : Nat → Gr × List Nat → Gr × List Nat
  | 0, st => st
  | k + 1, st => stepG (iterG k st)
noncomputable def roundsN : Nat → Gr × List Nat → List (List Nat)
  | 0, _ => []
  | k + 1, st => st.2 :: (if st.2 = [] then [] else roundsN k (stepG st))
theorem iterG_shift (k : Nat) (st : Gr × List Nat) : iterG k (stepG st) = stepG (iterG k st) := by
  induction k with
  | zero => rfl
  | succ k ih => show stepG (iterG k (stepG st)) = stepG (stepG (iterG k st)); rw [ih]
theorem roundsN_split (n : Nat) : ∀ (i : Nat) (st : Gr × List Nat), (∀ j, j < i → (iterG j st).2 ≠ []) → roundsN (i + n) st = (List.range i).map (fun j => (iterG j st).2) ++ roundsN n (iterG i st)
  | 0, st, _ => by simp [iterG]
  | i + 1, st, h => by
    have h0 : st.2 ≠ [] := h 0 (Nat.succ_pos _)
    rw [show i + 1 + n = (i + n) + 1 by lia]
    show st.2 :: (if st.2 = [] then [] else roundsN (i + n) (stepG st)) = _
    rw [if_neg h0, roundsN_split n i (stepG st) fun j hj => by rw [iterG_shift]; exact h (j + 1) (by lia)]
    rw [List.range_succ_eq_map, List.map_cons, List.map_map]
    simp only [iterG_shift, List.cons_append]
    rfl
/-- what a round must bring so that done() refuses nothing -/
noncomputable def RoundOk (st : Gr × List Nat) : Prop := st.2.length ≤ 1000 ∧ (∀ c ∈ st.2, c ∈ st.1.map (·.1)) ∧ ∀ j c, st.2[j]? = some c → npOf ((st.2.take j).foldl doneOne (st.2.foldl (fun G c => setNp G c (-1)) st.1, [])).1 c = -1
noncomputable def rootsG (G : Gr) : List Nat := (G.filter fun x => x.2.1 == 0).map (·.1)
theorem set_fold : ∀ (cs : List Nat) (G : Gr), (∀ c ∈ cs, c ∈ keysG G) → keysG (cs.foldl (fun G c => setNp G c (-1)) G) = keysG G ∧ (∀ d, suOf (cs.foldl (fun G c => setNp G c (-1)) G) d = suOf G d) ∧ ∀ x, npOf (cs.foldl (fun G c => setNp G c (-1)) G) x = if x ∈ cs then -1 else npOf G x
  | [], G, _ => ⟨rfl, fun _ => rfl, fun x => by simp⟩
  | c :: cs, G, h => by
    obtain ⟨h1, h2, h3⟩ := set_fold cs (setNp G c (-1)) fun d hd => by rw [keys_setNp]; exact h d (.tail _ hd)
    rw [List.foldl_cons]
    refine ⟨h1.trans (keys_setNp _ _ _), fun d => (h2 d).trans (su_setNp _ _ _ _), fun x => ?_⟩
    rw [h3, np_setNp]
    by_cases hm : x ∈ cs
    · rw [if_pos hm, if_pos (.tail _ hm)]
    · rw [if_neg hm]
      by_cases hx : x = c
      · rw [if_pos ⟨hx, h c (.head _)⟩, if_pos (by rw [hx]; exact .head _)]
      · rw [if_neg fun q => hx q.1, if_neg fun q => (List.mem_cons.mp q).elim hx hm]
theorem suR_mem {rows : List (List Nat)} {y x : Nat} : x ∈ suR rows y ↔ (y, x) ∈ edges rows := by
  unfold suR
  constructor
  · intro h
    obtain ⟨e, he, q⟩ := List.mem_map.mp h
    obtain ⟨h1, h2⟩ := List.mem_filter.mp he
    have h3 : e.1 = y := by simpa using h2
    obtain ⟨e1, e2⟩ := e
    simp only at q h3
    rw [← q, ← h3]; exact h1
  · intro h; exact List.mem_map.mpr ⟨(y, x), List.mem_filter.mpr ⟨h, by simp⟩, rfl⟩
structure RInv (rows : List (List Nat)) (D : List Nat) (st : Gr × List Nat) : Prop where
  keys : keysG st.1 = namesOf rows
  su : ∀ c, suOf st.1 c = suR rows c
  nd : D.Nodup
  sub : ∀ x ∈ D, x ∈ namesOf rows
  closed : ∀ p x, (p, x) ∈ edges rows → x ∈ D → p ∈ D
  free : IsF rows D st.2
  ring : ∀ C, Ring (suR rows) (namesOf rows) C → ∀ x ∈ C, x ∉ D
  np : ∀ x, x ∉ D → npOf st.1 x = into rows x fun p => decide (p ∉ D)
section
variable {rows : List (List Nat)} {D : List Nat} {st : Gr × List Nat}
theorem RInv.mem (I : RInv rows D st) {x : Nat} : x ∈ st.2 ↔ x ∈ namesOf rows ∧ x ∉ D ∧ ∀ p, (p, x) ∈ edges rows → p ∈ D := I.free.1.mem_iff.trans free_mem
theorem free_nodup (rows : List (List Nat)) (D : List Nat) : (freeL rows D).Nodup := (names_nodup rows).sublist List.filter_sublist
theorem RInv.rdnd (I : RInv rows D st) : st.2.Nodup := I.free.1.nodup_iff.mpr (free_nodup rows D)
theorem RInv.len (I : RInv rows D st) : D.length + st.2.length ≤ (namesOf rows).length := by
  have h : (D ++ st.2).Nodup := List.nodup_append.mpr ⟨I.nd, I.rdnd, fun a ha b hb q => (I.mem.mp hb).2.1 (q ▸ ha)⟩
  have := h.length_le_of_subset (l₂ := namesOf rows) fun x hx => by
    rcases List.mem_append.mp hx with hx | hx
    · exact I.sub x hx
    · exact (I.mem.mp hx).1
  rwa [List.length_append] at this
/-- one group done, from any part of it -/
theorem RInv.group (I : RInv rows D st) (cs : List Nat) (hcs : cs.Sublist st.2) (off : Nat) :
    ∃ G', cs.foldl doneOne (st.2.foldl (fun G c => setNp G c (-1)) st.1, []) = (G', (hits (fun x => into rows x fun p => decide (p ∉ D)) (evs rows off cs)).map (·.2)) ∧ keysG G' = namesOf rows ∧ (∀ d, suOf G' d = suR rows d) ∧
      (∀ x, x ∉ D → x ∉ st.2 → npOf G' x = into rows x (fun p => decide (p ∉ D)) - cnt x (evs rows off cs)) ∧ ∀ x ∈ st.2, npOf G' x = if x ∈ cs then -2 else -1 := by
  have hk : ∀ c ∈ st.2, c ∈ keysG st.1 := fun c hc => by rw [I.keys]; exact (I.mem.mp hc).1
  obtain ⟨h1, h2, h3⟩ := set_fold st.2 st.1 hk
  obtain ⟨G', b1, b2, b3, b4, b5⟩ := group_fold rows (fun x => x ∉ D ∧ x ∉ st.2) cs off (st.2.foldl (fun G c => setNp G c (-1)) st.1) [] (fun x => into rows x fun p => decide (p ∉ D))
    (fun c hc => ⟨fun q => q.2 (hcs.subset hc), by rw [h1]; exact hk c (hcs.subset hc)⟩)
    (fun e he => by
      obtain ⟨j, c, hj, _, hi⟩ := evs_mem.mp he
      have hc : c ∈ st.2 := hcs.subset (List.mem_of_getElem? hj)
      have hcD := (I.mem.mp hc).2.1
      have he := iE_edge hi
      refine ⟨⟨fun q => hcD (I.closed _ _ he q), fun q => hcD ((I.mem.mp q).2.2 _ he)⟩, by rw [h1, I.keys]; exact (edge_names he).2⟩)
    (fun c => (h2 c).trans (I.su c)) (fun x hx => by rw [h3, if_neg hx.2]; exact I.np x hx.1)
  refine ⟨G', by rw [b1, List.nil_append], b2.trans (h1.trans I.keys), fun d => (b3 d).trans ((h2 d).trans (I.su d)), fun x x1 x2 => b4 x ⟨x1, x2⟩, fun x hx => ?_⟩
  rw [b5 x fun q => q.2 hx, h3, if_pos hx]
theorem RInv.ok (I : RInv rows D st) (hn : (namesOf rows).length ≤ 1000) : RoundOk st := by
  refine ⟨by have := I.len; lia, fun c hc => ?_, fun j c hj => ?_⟩
  · have := (I.mem.mp hc).1
    rw [← I.keys] at this; exact this
  · obtain ⟨G', h1, _, _, _, h5⟩ := I.group (st.2.take j) (List.take_sublist _ _) 0
    rw [h1]
    show npOf G' c = -1
    rw [h5 c (List.mem_of_getElem? hj), if_neg]
    intro q
    obtain ⟨i, hi, e⟩ := List.mem_take_iff_getElem.mp q
    have hi' : i < st.2.length := Nat.lt_of_lt_of_le hi (Nat.min_le_right _ _)
    have hj' := (List.getElem?_eq_some_iff.mp hj)
    obtain ⟨hj1, hj2⟩ := hj'
    have := (List.getElem_inj (h₀ := hi') (h₁ := hj1) I.rdnd).mp (by rw [hj2]; exact e)
    exact absurd (Nat.lt_of_lt_of_le hi (Nat.min_le_left _ _)) (by rw [this]; exact Nat.lt_irrefl _)
theorem idx_left {D g : List Nat} {p : Nat} (h : p ∈ D) : (D ++ g).idxOf p = D.idxOf p := by rw [List.idxOf_append, if_pos h]
theorem idx_right {D g : List Nat} {j c : Nat} (hn : g.Nodup) (h : c ∉ D) (hj : g[j]? = some c) : (D ++ g).idxOf c = D.length + j := by
  rw [List.idxOf_append, if_neg h]
  obtain ⟨h1, h2⟩ := List.getElem?_eq_some_iff.mp hj
  rw [← h2, hn.idxOf_getElem _ h1]; exact Nat.add_comm _ _
theorem RInv.next (I : RInv rows D st) (h2 : ∀ r ∈ rows, r.length ≤ 2) : RInv rows (D ++ st.2) (stepG st) := by
  obtain ⟨G', g1, g2, g3, g4, g5⟩ := I.group st.2 (List.Sublist.refl _) D.length
  have hst : stepG st = (G', (hits (fun x => into rows x fun p => decide (p ∉ D)) (evs rows D.length st.2)).map (·.2)) := g1
  have hdis : ∀ p ∈ st.2, p ∉ D := fun p hp => (I.mem.mp hp).2.1
  have hcnt : ∀ x, cnt x (evs rows D.length st.2) = into rows x fun p => decide (p ∈ st.2) := fun x => evs_cnt rows x st.2 _ I.rdnd
  have hle : ∀ x, cnt x (evs rows D.length st.2) ≤ into rows x fun p => decide (p ∉ D) := fun x => by
    rw [hcnt, into_split rows x hdis]
    exact Int.le_add_of_nonneg_right (into_nonneg rows x fun p => decide (p ∉ D ++ st.2))
  have hnp : ∀ x, x ∉ D → x ∉ st.2 → npOf G' x = into rows x fun p => decide (p ∉ D ++ st.2) := fun x x1 x2 => by
    rw [g4 x x1 x2, hcnt, into_split rows x hdis, Int.add_comm, Int.add_sub_cancel]
  have hcl : ∀ p x, (p, x) ∈ edges rows → x ∈ D ++ st.2 → p ∈ D ++ st.2 := fun p x he hx => by
    rcases List.mem_append.mp hx with hx | hx
    · exact List.mem_append_left _ (I.closed p x he hx)
    · exact List.mem_append_left _ ((I.mem.mp hx).2.2 p he)
  rw [hst]
  refine ⟨g2, g3, List.nodup_append.mpr ⟨I.nd, I.rdnd, fun a ha b hb q => hdis b hb (q ▸ ha)⟩, fun x hx => ?_, hcl, ?_, ?_, fun x hx => ?_⟩
  · rcases List.mem_append.mp hx with hx | hx
    · exact I.sub x hx
    · exact (I.mem.mp hx).1
  · -- the new group
    have hrank : ∀ e ∈ hits (fun x => into rows x fun p => decide (p ∉ D)) (evs rows D.length st.2), rank rows (D ++ st.2) e.2 = ((e.1.1 : Int), (e.1.2 : Int)) := fun e he => by
      obtain ⟨_, pre, post, hT, hpost⟩ := hits_at _ _ hle e he
      have hem := (hits_sub _ _).subset he
      obtain ⟨j, c, hj, hj1, hi⟩ := evs_mem.mp hem
      have hc := List.mem_of_getElem? hj
      have hpw := evs_pw h2 st.2 D.length
      refine maxP_eq (.tail _ (List.mem_map.mpr ⟨(c, e.1.2), needs_mem.mpr hi, ?_⟩)) fun y hy => ?_
      · dsimp only
        rw [idx_right I.rdnd (hdis c hc) hj, hj1]
      · rcases List.mem_cons.mp hy with rfl | hy
        · rw [Bool.eq_false_iff]; intro q; rw [ltP_iff] at q; simp only at q; exact not_neg1 q
        · obtain ⟨⟨p, k⟩, hpk, rfl⟩ := List.mem_map.mp hy
          have hpe := needs_mem.mp hpk
          rw [Bool.eq_false_iff]; intro q
          rw [ltP_iff] at q
          simp only at q
          by_cases hpD : p ∈ D
          · rw [idx_left hpD] at q
            exact not_lt_nat (by rw [hj1]; exact Nat.lt_of_lt_of_le (List.idxOf_lt_length_of_mem hpD) (Nat.le_add_right _ _)) q
          · -- p is in this group, since e's target waits for nothing else
            have hall : p ∈ st.2 := by
              by_cases hp2 : p ∈ st.2
              · exact hp2
              · have h3 := (hits_at _ _ hle e he).1
                rw [hcnt, into_split rows e.2 hdis] at h3
                have := into_pos (q := fun p => decide (p ∉ D ++ st.2)) (iE_edge hpe) (by simp [hpD, hp2])
                exact (no_more h3 this).elim
            obtain ⟨i, hi2, hpi⟩ := List.mem_iff_getElem.mp hall
            have hpi' : st.2[i]? = some p := by rw [List.getElem?_eq_getElem hi2, hpi]
            rw [idx_right I.rdnd hpD hpi'] at q
            have he' : (((D.length + i, k), e.2) : Ev) ∈ evs rows D.length st.2 := evs_mem.mpr ⟨i, p, hpi', rfl, hpe⟩
            rw [hT] at he' hpw
            rcases List.mem_append.mp he' with he' | he'
            · have := (List.pairwise_append.mp hpw).2.2 _ he' e (.head _)
              unfold ltE at this
              simp only at this
              exact lt_both q this
            · rcases List.mem_cons.mp he' with he' | he'
              · have : e.1 = (D.length + i, k) := by rw [← he']
                rw [this] at q; simp only at q; exact q.elim (Int.lt_irrefl _) fun z => Int.lt_irrefl _ z.2
              · exact hpost _ he' rfl
    refine ⟨(List.perm_ext_iff_of_nodup (hits_nodup _ _ hle) (free_nodup _ _)).mpr fun x => ?_, ?_⟩
    · rw [free_mem]
      constructor
      · intro hx
        obtain ⟨e, he, rfl⟩ := List.mem_map.mp hx
        obtain ⟨h3, _⟩ := hits_at _ _ hle e he
        have hem := (hits_sub _ _).subset he
        obtain ⟨j, c, hj, hj1, hi⟩ := evs_mem.mp hem
        have hc := List.mem_of_getElem? hj
        have hed := iE_edge hi
        rw [hcnt, into_split rows e.2 hdis] at h3
        refine ⟨(edge_names hed).2, fun q => ?_, fun p hp => ?_⟩
        · rcases List.mem_append.mp q with q | q
          · exact hdis c hc (I.closed _ _ hed q)
          · exact hdis c hc ((I.mem.mp q).2.2 _ hed)
        · by_cases hq : p ∈ D ++ st.2
          · exact hq
          · have := into_pos (q := fun p => decide (p ∉ D ++ st.2)) hp (by simpa using hq)
            exact (no_more h3 this).elim
      · rintro ⟨x1, x2, x3⟩
        have xD : x ∉ D := fun q => x2 (List.mem_append_left _ q)
        have xr : x ∉ st.2 := fun q => x2 (List.mem_append_right _ q)
        have h0 : into rows x (fun p => decide (p ∉ D ++ st.2)) = 0 := into_zero fun p hp => decide_eq_false fun q => q (x3 p hp)
        have hpos : 0 < cnt x (evs rows D.length st.2) := by
          by_cases hz : ∃ p, (p, x) ∈ edges rows ∧ p ∉ D
          · obtain ⟨p, hp, hpD⟩ := hz
            rw [hcnt]
            exact into_pos hp (by simpa using (List.mem_append.mp (x3 p hp)).resolve_left hpD)
          · exact absurd (I.mem.mpr ⟨x1, xD, fun p hp => Decidable.byContradiction fun q => hz ⟨p, hp, q⟩⟩) xr
        obtain ⟨e, he, h4⟩ := hits_all _ (fun x => into rows x fun p => decide (p ∉ D)) hle x hpos (by rw [hcnt, into_split rows x hdis, h0]; exact Int.add_zero _)
        exact List.mem_map.mpr ⟨e, he, h4⟩
    · rw [List.pairwise_map]
      have hpw := (evs_pw h2 st.2 D.length).sublist (hits_sub (evs rows D.length st.2) fun x => into rows x fun p => decide (p ∉ D))
      refine hpw.imp_of_mem fun {a b} ha hb hab => ?_
      rw [hrank a ha, hrank b hb, ltP_iff]
      unfold ltE at hab
      simp only
      exact lt_cast hab
  · intro C hC x hx q
    rcases List.mem_append.mp q with q | q
    · exact I.ring C hC x hx q
    · obtain ⟨y, hy, hxy⟩ := hC.2.2 x hx
      exact I.ring C hC y hy ((I.mem.mp q).2.2 y (suR_mem.mp hxy))
  · exact hnp x (fun q => hx (List.mem_append_left _ q)) fun q => hx (List.mem_append_right _ q)
end
end Mine

end
section
namespace Mine
theorem find_self {G : Gr} (hn : (keysG G).Nodup) {x : Nat × Int × List Nat} (hx : x ∈ G) : npOf G x.1 = x.2.1 := by
  unfold npOf
  induction G with
  | nil => cases hx
  | cons y G ih =>
    rw [keysG, List.map_cons, List.nodup_cons] at hn
    rw [List.find?_cons]
    rcases List.mem_cons.mp hx with rfl | hx
    · simp
    · have : (y.1 == x.1) = false := beq_eq_false_iff_ne.mpr fun q => hn.1 (by rw [q]; exact List.mem_map_of_mem hx)
      rw [this]
      exact ih hn.2 hx
theorem roots_eq {G : Gr} (hn : (keysG G).Nodup) : rootsG G = (keysG G).filter fun x => npOf G x == 0 := by
  unfold rootsG keysG
  rw [List.filter_map]
  refine congrArg (List.map _) (List.filter_congr fun x hx => ?_)
  simp only [Function.comp]
  rw [find_self hn hx]
theorem idx_pw : ∀ {l : List Nat}, l.Nodup → l.Pairwise fun x y => l.idxOf x < l.idxOf y := by
  intro l hn
  rw [List.pairwise_iff_getElem]
  intro i j hi hj hij
  rw [hn.idxOf_getElem _ hi, hn.idxOf_getElem _ hj]; exact hij
theorem RInv.init (rows : List (List Nat)) : RInv rows [] (graphOf rows, rootsG (graphOf rows)) := by
  obtain ⟨h1, h2, h3⟩ := graph_facts rows
  have hn : (keysG (graphOf rows)).Nodup := by rw [h1]; exact names_nodup rows
  have hnp : ∀ x, npOf (graphOf rows) x = into rows x fun p => decide (p ∉ ([] : List Nat)) := fun x => by
    rw [h2]; unfold into; simp
  have hz : ∀ x, npOf (graphOf rows) x = 0 ↔ ∀ p, (p, x) ∉ edges rows := fun x => by
    rw [hnp]
    constructor
    · intro h p hp
      have := into_pos (q := fun p => decide (p ∉ ([] : List Nat))) hp (by simp)
      lia
    · intro h; exact into_zero fun p hp => absurd hp (h p)
  refine ⟨h1, h3, .nil, fun x h => (nomatch h), fun p x _ h => (nomatch h), ⟨?_, ?_⟩, fun _ _ _ _ h => (nomatch h), fun x _ => hnp x⟩
  · show (rootsG (graphOf rows)).Perm _
    rw [roots_eq hn, h1]
    refine (List.perm_ext_iff_of_nodup ((names_nodup rows).sublist List.filter_sublist) (free_nodup _ _)).mpr fun x => ?_
    rw [free_mem, List.mem_filter, beq_iff_eq, hz]
    simp
  · show (rootsG (graphOf rows)).Pairwise _
    rw [roots_eq hn, h1]
    have hr : ∀ x, npOf (graphOf rows) x = 0 → rank rows [] x = ((-1 : Int), ((namesOf rows).idxOf x : Int)) := fun x hx => by
      have : needsOf rows x = [] := List.eq_nil_iff_forall_not_mem.mpr fun e he => (hz x).mp hx e.1 (iE_edge (needs_mem.mp he))
      unfold rank
      rw [this]; rfl
    refine ((idx_pw (names_nodup rows)).sublist List.filter_sublist).imp_of_mem fun {a b} ha hb hab => ?_
    rw [hr a (by simpa using (List.mem_filter.mp ha).2), hr b (by simpa using (List.mem_filter.mp hb).2), ltP_iff]
    exact .inr ⟨rfl, Int.ofNat_lt.mpr hab⟩
theorem RInv.all (rows : List (List Nat)) (h2 : ∀ r ∈ rows, r.length ≤ 2) : ∀ i, ∃ D, RInv rows D (iterG i (graphOf rows, rootsG (graphOf rows)))
  | 0 => ⟨[], RInv.init rows⟩
  | i + 1 => let ⟨_, h⟩ := RInv.all rows h2 i; ⟨_, h.next h2⟩
/-- what the plan tells -/
noncomputable def PlanN (rows : List (List Nat)) : Nat → List Nat → List (List Nat) → List Nat → Prop
  | 0, D, gs, Df => gs = [] ∧ Df = D
  | n + 1, D, gs, Df => ∃ g gs', gs = g :: gs' ∧ IsF rows D g ∧ (if g = [] then gs' = [] ∧ Df = D else PlanN rows n (D ++ g) gs' Df)
theorem plan_rounds {rows : List (List Nat)} (h2 : ∀ r ∈ rows, r.length ≤ 2) : ∀ (n k : Nat) (D : List Nat) (st : Gr × List Nat) (gs : List (List Nat)) (Df : List Nat), RInv rows D st → (namesOf rows).length < D.length + n → (namesOf rows).length < D.length + k →
    PlanN rows n D gs Df → gs = roundsN k st ∧ ∃ st', RInv rows Df st' ∧ st'.2 = []
  | 0, k, D, st, gs, Df, I, hn, _, _ => by have := I.len; lia
  | n + 1, 0, D, st, gs, Df, I, _, hk, _ => by have := I.len; lia
  | n + 1, k + 1, D, st, gs, Df, I, hn, hk, ⟨g, gs', e1, hg, h⟩ => by
    obtain rfl := hg.uniq I.free
    subst e1
    show st.2 :: gs' = st.2 :: _ ∧ _
    by_cases h0 : st.2 = []
    · rw [if_pos h0] at h ⊢
      obtain ⟨rfl, rfl⟩ := h
      exact ⟨rfl, st, I, h0⟩
    · rw [if_neg h0] at h ⊢
      have hl : 0 < st.2.length := List.length_pos_iff.mpr h0
      obtain ⟨a, b⟩ := plan_rounds h2 n k (D ++ st.2) (stepG st) gs' Df (I.next h2) (by rw [List.length_append]; lia) (by rw [List.length_append]; lia) h
      exact ⟨by rw [a], b⟩
theorem topo_closed {su : Nat → List Nat} {fin : List Nat} (T : Topo su fin) : ∀ y ∈ fin, ∀ v ∈ su y, v ∈ fin := by
  induction T with
  | nil => intro y h; cases h
  | cons h _ ih =>
    intro y hy v hv
    rcases List.mem_cons.mp hy with rfl | hy
    · exact .tail _ (h v hv)
    · exact .tail _ (ih y hy v hv)
theorem topo_noring {su : Nat → List Nat} {fin : List Nat} (T : Topo su fin) : ∀ C : List Nat, (∀ x ∈ C, x ∈ fin) → (∀ x ∈ C, ∃ y ∈ C, x ∈ su y) → C = [] := by
  induction T with
  | nil => intro C h _; exact List.eq_nil_iff_forall_not_mem.mpr fun x hx => (nomatch h x hx)
  | cons h T ih =>
    rename_i u fin'
    intro C h1 h2
    refine ih C (fun x hx => ?_) h2
    rcases List.mem_cons.mp (h1 x hx) with rfl | hx'
    · obtain ⟨y, hy, hxy⟩ := h2 x hx
      rcases List.mem_cons.mp (h1 y hy) with rfl | hy'
      · exact h _ hxy
      · exact topo_closed T y hy' _ hxy
    · exact hx'
theorem ring_free {rows : List (List Nat)} {Df : List Nat} {st : Gr × List Nat} (I : RInv rows Df st) (h0 : st.2 = []) :
    ((∃ fin, Topo (suR rows) fin ∧ ∀ c ∈ namesOf rows, c ∈ fin) → ¬ Df.length < (namesOf rows).length) ∧ ((∃ C, Ring (suR rows) (namesOf rows) C) → Df.length < (namesOf rows).length) := by
  constructor
  · rintro ⟨fin, T, hf⟩
    have hW : ((namesOf rows).filter fun x => decide (x ∉ Df)) = [] := by
      refine topo_noring T _ (fun x hx => hf x (List.mem_filter.mp hx).1) fun x hx => ?_
      obtain ⟨x1, x2⟩ := List.mem_filter.mp hx
      have x2' : x ∉ Df := by simpa using x2
      have : ¬ ∀ p, (p, x) ∈ edges rows → p ∈ Df := fun q => by
        have := I.mem.mpr ⟨x1, x2', q⟩
        rw [h0] at this; cases this
      obtain ⟨p, hp⟩ := Classical.not_forall.mp this
      obtain ⟨hp, hpD⟩ := Classical.not_imp.mp hp
      exact ⟨p, List.mem_filter.mpr ⟨(edge_names hp).1, by simpa using hpD⟩, suR_mem.mpr hp⟩
    have hs : ∀ x ∈ namesOf rows, x ∈ Df := fun x hx => Decidable.byContradiction fun q => by
      have : x ∈ ((namesOf rows).filter fun x => decide (x ∉ Df)) := List.mem_filter.mpr ⟨hx, by simpa using q⟩
      rw [hW] at this; cases this
    have := (names_nodup rows).length_le_of_subset hs
    lia
  · rintro ⟨C, hC⟩
    obtain ⟨x, hx⟩ := List.exists_mem_of_ne_nil C hC.1
    have hx1 := I.ring C hC x hx
    have h : (x :: Df).Nodup := List.nodup_cons.mpr ⟨hx1, I.nd⟩
    have := h.length_le_of_subset (l₂ := namesOf rows) fun y hy => by
      rcases List.mem_cons.mp hy with rfl | hy
      · exact hC.2.1 _ hx
      · exact I.sub y hy
    rw [List.length_cons] at this
    lia
end Mine

end
section
namespace Mine
/-- the groups that the plan has told so far, none of them empty -/
inductive PlanP (rows : List (List Nat)) : List (List Nat) → List Nat → Prop
  | nil : PlanP rows [] []
  | snoc {gs : List (List Nat)} {D g : List Nat} : PlanP rows gs D → IsF rows D g → g ≠ [] → PlanP rows (gs ++ [g]) (D ++ g)
theorem PlanP.on {rows : List (List Nat)} {gs : List (List Nat)} {D : List Nat} (h : PlanP rows gs D) : ∀ {n : Nat} {gs' : List (List Nat)} {Df : List Nat}, PlanN rows n D gs' Df → PlanN rows (gs.length + n) [] (gs ++ gs') Df := by
  induction h with
  | nil => intro n gs' Df h; simpa using h
  | snoc hp hg hne ih =>
    rename_i gs D g
    intro n gs' Df h
    have := ih (n := n + 1) (gs' := g :: gs') (Df := Df) ⟨g, gs', rfl, hg, by rw [if_neg hne]; exact h⟩
    rw [List.length_append, List.length_singleton, List.append_assoc, show gs.length + 1 + n = gs.length + (n + 1) by lia]
    exact this
theorem PlanP.stop {rows : List (List Nat)} {gs : List (List Nat)} {D : List Nat} (h : PlanP rows gs D) (hg : IsF rows D []) (n : Nat) : PlanN rows (gs.length + (n + 1)) [] (gs ++ [[]]) D :=
  h.on ⟨[], [], rfl, hg, by rw [if_pos rfl]; exact ⟨rfl, rfl⟩⟩
theorem PlanP.all {rows : List (List Nat)} {gs : List (List Nat)} {D : List Nat} (h : PlanP rows gs D) : PlanN rows gs.length [] gs D := by
  have := h.on (n := 0) (gs' := []) (Df := D) ⟨rfl, rfl⟩
  simpa using this
theorem PlanP.info {rows : List (List Nat)} {gs : List (List Nat)} {D : List Nat} (h : PlanP rows gs D) : D.Nodup ∧ ∀ x ∈ D, x ∈ namesOf rows := by
  induction h with
  | nil => exact ⟨.nil, fun x h => (nomatch h)⟩
  | snoc _ hg hne ih =>
    refine ⟨List.nodup_append.mpr ⟨ih.1, hg.1.nodup_iff.mpr (free_nodup rows _), fun a ha b hb q => ?_⟩, fun x hx => ?_⟩
    · have := (free_mem.mp (hg.1.mem_iff.mp hb)).2.1
      exact this (q ▸ ha)
    · rcases List.mem_append.mp hx with hx | hx
      · exact ih.2 x hx
      · exact (free_mem.mp (hg.1.mem_iff.mp hx)).1
/-- two free names do not have the same rank -/
theorem rank_inj {rows : List (List Nat)} {D : List Nat} {x y : Nat} (hx : x ∈ namesOf rows) (h : rank rows D x = rank rows D y) : x = y := by
  obtain ⟨a1, _⟩ := maxP_spec ((needsOf rows x).map fun e => ((D.idxOf e.1 : Int), (e.2 : Int))) ((-1 : Int), ((namesOf rows).idxOf x : Int))
  obtain ⟨b1, _⟩ := maxP_spec ((needsOf rows y).map fun e => ((D.idxOf e.1 : Int), (e.2 : Int))) ((-1 : Int), ((namesOf rows).idxOf y : Int))
  have h' : maxP ((-1 : Int), ((namesOf rows).idxOf x : Int)) ((needsOf rows x).map fun e => ((D.idxOf e.1 : Int), (e.2 : Int))) = maxP ((-1 : Int), ((namesOf rows).idxOf y : Int)) ((needsOf rows y).map fun e => ((D.idxOf e.1 : Int), (e.2 : Int))) := h
  rw [h'] at a1
  generalize maxP ((-1 : Int), ((namesOf rows).idxOf y : Int)) ((needsOf rows y).map fun e => ((D.idxOf e.1 : Int), (e.2 : Int))) = m at a1 b1
  have key : ∀ {k : Nat} {p q c d : Nat}, (p, k, c) ∈ iE 0 rows → (q, k, d) ∈ iE 0 rows → c = d := by
    have gen : ∀ (rows : List (List Nat)) (o k p q c d : Nat), (p, k, c) ∈ iE o rows → (q, k, d) ∈ iE o rows → c = d := by
      intro rows
      induction rows with
      | nil => intro o k p q c d h; cases h
      | cons r rows ih =>
        intro o k p q c d h1 h2
        rcases List.mem_append.mp h1 with h1 | h1 <;> rcases List.mem_append.mp h2 with h2 | h2
        · obtain ⟨_, _, e1⟩ := List.mem_map.mp h1
          obtain ⟨_, _, e2⟩ := List.mem_map.mp h2
          rw [← (Prod.mk.inj (Prod.mk.inj e1).2).2, ← (Prod.mk.inj (Prod.mk.inj e2).2).2]
        · obtain ⟨_, _, e1⟩ := List.mem_map.mp h1
          have := iE_ge rows (o + 1) _ h2
          have e := (Prod.mk.inj (Prod.mk.inj e1).2).1
          simp only at this
          lia
        · obtain ⟨_, _, e1⟩ := List.mem_map.mp h2
          have := iE_ge rows (o + 1) _ h1
          have e := (Prod.mk.inj (Prod.mk.inj e1).2).1
          simp only at this
          lia
        · exact ih (o + 1) k p q c d h1 h2
    intro k p q c d
    exact gen rows 0 k p q c d
  rcases List.mem_cons.mp a1 with a | a <;> rcases List.mem_cons.mp b1 with b | b
  · have e := (Prod.mk.inj (a.symm.trans b)).2
    have e' : (namesOf rows).idxOf x = (namesOf rows).idxOf y := by lia
    have h1 := List.idxOf_lt_length_of_mem hx
    have h2 : (namesOf rows).idxOf y < (namesOf rows).length := by lia
    rw [← List.getElem_idxOf h1, ← List.getElem_idxOf h2]
    simp only [e']
  · obtain ⟨_, _, e⟩ := List.mem_map.mp b
    have := (Prod.mk.inj (a.symm.trans e.symm)).1
    lia
  · obtain ⟨_, _, e⟩ := List.mem_map.mp a
    have := (Prod.mk.inj (b.symm.trans e.symm)).1
    lia
  · obtain ⟨⟨p, k⟩, h1, e1⟩ := List.mem_map.mp a
    obtain ⟨⟨q, l⟩, h2, e2⟩ := List.mem_map.mp b
    have e := (Prod.mk.inj (e1.trans e2.symm)).2
    have ekl : k = l := by simp only at e; lia
    subst ekl
    exact key (needs_mem.mp h1) (needs_mem.mp h2)
end Mine

end
section
open PySem PySem.W PySem.W.X PyProof.Rows
namespace Mine
theorem isF_of {rows : List (List Nat)} {D : List Nat} {ys : List ((Int × Int) × Nat)} (h : ys.Perm ((freeL rows D).map fun x => (rank rows D x, x))) (hp : ys.Pairwise fun x y => ltP x.1 y.1 = true) : IsF rows D (ys.map (·.2)) := by
  have hm : ∀ y ∈ ys, y.1 = rank rows D y.2 := fun y hy => by
    obtain ⟨x, _, rfl⟩ := List.mem_map.mp (h.mem_iff.mp hy)
    rfl
  refine ⟨?_, ?_⟩
  · refine (h.map (·.2)).trans (List.Perm.of_eq ?_)
    rw [List.map_map]
    exact List.map_id _
  · rw [List.pairwise_map]
    refine hp.imp_of_mem fun hx hy q => ?_
    rw [← hm _ hx, ← hm _ hy]
    exact q
theorem rank_snd {rows : List (List Nat)} {D : List Nat} {x : Nat} {N : Int} (h1 : ((namesOf rows).idxOf x : Int) < N) (h2 : ∀ e ∈ needsOf rows x, (e.2 : Int) < N) : 0 ≤ (rank rows D x).2 ∧ (rank rows D x).2 < N := by
  unfold rank
  rcases List.mem_cons.mp (maxP_spec ((needsOf rows x).map fun e => ((D.idxOf e.1 : Int), (e.2 : Int))) ((-1 : Int), ((namesOf rows).idxOf x : Int))).1 with e | e
  · rw [e]; exact ⟨Int.natCast_nonneg _, h1⟩
  · obtain ⟨y, hy, e⟩ := List.mem_map.mp e
    rw [← e]; exact ⟨Int.natCast_nonneg _, h2 y hy⟩
theorem iE_lt : ∀ (rows : List (List Nat)) (k : Nat) (e : Nat × Nat × Nat), e ∈ iE k rows → k ≤ e.2.1 ∧ e.2.1 < k + rows.length
  | [], _, _, h => by simp [iE] at h
  | r :: rows, k, e, h => by
    rw [iE] at h
    rcases List.mem_append.mp h with h | h
    · obtain ⟨p, _, rfl⟩ := List.mem_map.mp h
      exact ⟨Nat.le_refl _, by rw [List.length_cons]; exact Nat.lt_add_of_pos_right (Nat.succ_pos _)⟩
    · have := iE_lt rows (k + 1) e h
      rw [List.length_cons]
      exact ⟨Nat.le_of_succ_le this.1, Nat.lt_of_lt_of_eq this.2 (Nat.succ_add _ _)⟩
theorem needs_lt {rows : List (List Nat)} {x : Nat} {e : Nat × Nat} (h : e ∈ needsOf rows x) : e.2 < rows.length := by
  unfold needsOf at h
  obtain ⟨y, hy, rfl⟩ := List.mem_map.mp h
  have := iE_lt rows 0 y ((List.mem_filter.mp hy).1)
  show y.2.1 < _
  lia
theorem all_done {rows : List (List Nat)} {D : List Nat} {x : Nat} : ((needsOf rows x).all fun e => decide (e.1 ∈ D)) = decide (((needsOf rows x).filter fun e => decide (e.1 ∉ D)) = []) := by
  rw [Bool.eq_iff_iff, List.all_eq_true, decide_eq_true_iff, List.filter_eq_nil_iff]
  simp
end Mine

end
section
open PySem PySem.W PySem.W.X PyProof.Rows PySem.Calls PySem.Spec
namespace Mine
section
variable {prog : Program} {w : World} {A : Around} {E : Value → Shared → Prop} {s : Shared} {g g₀ : Heap} {L d x dx C : Addr} {m mg mb : Str → Option Value} {news : List (Addr × Obj)} {o : Obj} {kvs : List (Str × Value)} {k : Str} {t : Tok}
theorem keepNews (S : St g L news s.heap m) (e : g.get? d = some o) : News {} L s.heap [(d, o)] := fun p hp => by
  rw [List.mem_singleton.mp hp]
  exact ⟨S.keep _ _ e, (fun q => by rw [show d = L from q, S.off] at e; cases e), no_get _⟩
theorem setNew_S {Q : Value → Shared → Prop} (S : St g L news s.heap m) (h : ∀ D o h', o.SetObjOf (PySem.strKind prog w) (fun _ => false) 0 → St g L ((D, o) :: news) h' m → Q (.ref D) { s with heap := h' }) : wpAny (model prog w) A (call (.type "set") []) Q E s :=
  call_set_0 fun led => h _ _ _ (setObjOf_fresh (knd := PySem.strKind prog w) led) (S.push { cls := .type "set", dict := none, data := .set #[] 0 (.fresh 0 0 led) } rfl)
theorem setIn_S {Sf : Str → Bool} {n : Nat} {Q : Value → Shared → Prop} (S : St g L news s.heap m) (hp : (d, o) ∈ news) (hso : o.SetObjOf (PySem.strKind prog w) Sf n) (hb : n < 4096) (h : Q (.bool (Sf k)) { s with toks := s.toks + 1 }) : wpAny (model prog w) A (compareOp .In (.str k t) (.ref d)) Q E s :=
  wpAny_inSet_of (strKind_is prog w k t) rfl (hso.setOf (S.nw _ hp) hb) h
theorem setAddm_S {Sf : Str → Bool} {n : Nat} {pl : Sem Bool} {Q : Value × List Value → Shared → Prop} (S : St g L news s.heap m) (hp : (d, o) ∈ news) (hso : o.SetObjOf (PySem.strKind prog w) Sf n) (hb : n < 4096) (h : Q (.builtin "set.add", [.ref d]) s) : wpAny (model prog w) A (getMethod (.ref d) "add" pl) Q E s :=
  getMethod_set_add (hso.setOf (S.nw _ hp) hb) h
theorem setAdd_S {Sf : Str → Bool} {n : Nat} {news' : Obj → List (Addr × Obj)} {Q : Value → Shared → Prop} (S : St g L news s.heap m) (U : ∀ o', UpdS d o o' news (news' o')) (hso : o.SetObjOf (PySem.strKind prog w) Sf n) (hb : n + 1 < 4096)
    (h : ∀ o' h', o'.SetObjOf (PySem.strKind prog w) (fun k' => Sf k' || decide (k' = k)) (if Sf k then n else n + 1) → St g L (news' o') h' m → Q .none { s with heap := h', toks := s.toks + 1 }) : wpAny (model prog w) A (call (.builtin "set.add") [.ref d, .str k t]) Q E s := by
  obtain ⟨r, h1, _⟩ := (U o).split
  refine call_set_add (strKind_is prog w k t) rfl (hso.setOf (S.nw _ (U o).mem) (by show n < 4096; lia)) hb fun h' hsb hS' => ?_
  obtain ⟨so', ho', hso'⟩ := hS'.objOf
  obtain ⟨r', h1', h2'⟩ := (U so').split
  exact h so' h' hso' (((S.perm h1').turn hsb ho').perm h2')
theorem dictIn_S {Q : Value → Shared → Prop} (S : St g L news s.heap m) (hp : (d, o) ∈ news) (hd : o.IsDictOf (PySem.strKind prog w) kvs) (lo : (d == sysModules) = false) (h : Q (.bool (valueAt kvs k).isSome) { s with toks := s.toks + 1 }) : wpAny (model prog w) A (compareOp .In (.str k t) (.ref d)) Q E s :=
  kda_in S.nws hp hd lo (strKind_is prog w k t) _ rfl h
theorem dsetU_S {v : Value} {news' : Obj → List (Addr × Obj)} {Q : Unit → Shared → Prop} (S : St g L news s.heap m) (U : ∀ o', UpdS d o o' news (news' o')) (hd : o.IsDictOf (PySem.strKind prog w) kvs) (hsz : kvs.length ≤ sizeLine)
    (h : ∀ h' o', St g L (news' o') h' m → o'.IsDictOf (PySem.strKind prog w) (stored kvs k v) → Q () { s with heap := h', toks := s.toks + 1 }) : wpAny (model prog w) A (setItem (.ref d) (.str k t) v) Q E s := by
  obtain ⟨r, h1, _⟩ := (U o).split
  have S1 := S.perm h1
  refine kda_set S1.fr S1.full (.head fun p hp => (others_of hp).2.2) hd (strKind_is prog w k t) hsz fun h' o' F' N' hd' => ?_
  obtain ⟨r', h1', h2'⟩ := (U o').split
  have S1' := S.perm h1'
  exact h h' o' ((S1'.back F' N').perm h2') hd'
theorem ddelU_S {news' : Obj → List (Addr × Obj)} {Q : Unit → Shared → Prop} (S : St g L news s.heap m) (U : ∀ o', UpdS d o o' news (news' o')) (hd : o.IsDictOf (PySem.strKind prog w) kvs) (hsz : kvs.length ≤ sizeLine) (hl : (valueAt kvs k).isSome = true)
    (h : ∀ h' o', St g L (news' o') h' m → o'.IsDictOf (PySem.strKind prog w) (without kvs k) → Q () { s with heap := h', toks := s.toks + 1 }) : wpAny (model prog w) A (delItem (.ref d) (.str k t)) Q E s := by
  have hm := S.nw _ (U o).mem
  have hD : s.heap.DictOf (PySem.strKind prog w) d kvs := Heap.dictOf_iff.mpr ⟨o, hm, hd⟩
  unfold delItem
  try with_reducible refine wpAny_holding ?_
  refine wpAny_bind (wpAny_sequenceKey hD.typeIs (by decide) ?_)
  refine wpAny_bind (wpAny_callSpecial?_slot (name := Str.ofString "__delitem__") hD.typeIs PySem.F.slot_dict_delitem
    (call_meetsIn PySem.F.slot_dict_delitem hD.typeIs PySem.F.entry_dict_delitem (PySem.F.args_dict_delitem_2 _ _) (meets_dict_delitem_pairs (PySem.strKind prog w) d (strKind_is prog w k t)) ⟨kvs, hD, hsz, hl, fun h' hmm hs => ?_⟩))
  obtain ⟨o', ho', hd'⟩ := Heap.dictOf_iff.mp hmm
  obtain ⟨r', h1', h2'⟩ := (U o').split
  exact wpAny_pure (h h' o' (((S.perm h1').turn hs ho').perm h2') hd')
theorem itemB_S {value slice : PySem.Expr} {v : Value} {Q : Value → Shared → Prop} (S : St g L news s.heap m) (e : g.get? d = some o) (hd : o.IsDictOf (PySem.strKind prog w) kvs) (hl : valueAt kvs k = some v) (h : Q v { s with toks := s.toks + 1 })
    (hs : subscripted slice false (.ref d) (.str k t) = operate [.ref d, .str k t] (getItem (.ref d) (.str k t)) := by with_unfolding_all rfl) (hg : ∀ r, letTemporaryGo value (.ref d) r = pure () := by intro _; with_unfolding_all rfl) :
    wpAny (model prog w) A (subscriptTail value slice (.ref d) (.str k t)) Q E s := kda_item (keepNews S e) (.head _) hd (strKind_is prog w k t) hl h hs hg
/-- a dict of the base is walked by its keys -/
theorem iterK_S {Q : Value → Shared → Prop} (S : St g L news s.heap m) (e : g₀.get? d = some o) (kk : Sub g₀ g) (hd : o.IsDictOf (PySem.strKind prog w) kvs) (lo : (d == sysModules) = false)
    (h : ∀ I oI ob h', It prog w I g kvs.length (fun i v => ∃ k x t, kvs[i]? = some (k, x) ∧ v = .str k t) ob → ob 0 oI → St g L ((I, oI) :: news) h' m → Q (.ref I) { s with heap := h' }) : wpAny (model prog w) A (pyIter (.ref d)) Q E s := by
  obtain ⟨ep, ha⟩ := KdkAt.of hd
  have eg := kk _ _ e
  have hs := S.keep _ _ eg
  have hne : d ≠ s.heap.objs.size := Nat.ne_of_lt (Heap.lt_size hs)
  refine wpAny_pyIter_dict lo (ha.dictAt hs) ?_
  have W := It.of_walks (I := s.heap.objs.size) (g := g) (fun A hA => Walks.dictKeys (knd := PySem.strKind prog w) hA s.heap.objs.size d hne kvs ep) (fun i h st => by obtain ⟨o, e, _⟩ := st.1; exact ⟨o, e⟩) (fun b hb => by
    rcases List.mem_cons.mp hb with rfl | hb
    · exact .inl rfl
    · rw [List.mem_singleton.mp hb]; exact .inr ⟨o, eg⟩)
  refine h _ _ _ _ ⟨fun A i o s Q E g' L news m hA hi k ho S hQ => W.item A i o s Q E g' L news m hA hi k ho S fun v o' h' tk hv => hQ v o' h' tk ?_, W.done, W.self⟩ (fun h k' e' => ⟨⟨_, e', rfl, rfl⟩, ha.dictAt (k' _ _ eg)⟩) (S.push _ rfl)
  obtain ⟨k1, x1, h1, h2⟩ := hv
  obtain ⟨t', et⟩ := PySem.Value.isStrOf_shape h2
  exact ⟨k1, x1, t', h1, et⟩
variable {p i : Nat} {name : Str} {v : Value} {ox od : Obj} {es : List DictEntry} {n : Nat} {sl : Array (Option Value)}
theorem instB_S (S : St g L news s.heap m) (hx : g.get? x = some ⟨.ref C, some dx, .plain, sl⟩) (hd : g.get? dx = some od) : InstAt s.heap x ⟨.ref C, some dx, .plain, sl⟩ C (some od) := ⟨S.keep _ _ hx, rfl, rfl, S.keep _ _ hd⟩
theorem getOwnB_S {expr : Bool} {Q : Value → Shared → Prop} {attr : Option Value} (S : St g L news s.heap m) (B : Bs w mg mb g₀) (k : Sub g₀ g) (hx : g.get? x = some ⟨.ref C, some dx, .plain, sl⟩) (hd : g.get? dx = some (dictOf es n))
    (hg : plainGet (Kf w.params) C name = true) (hh : hasDictIn (Kf w.params) C = true) (ha : findIn (Kf w.params) (.ref C) name = some attr) (hn : noGet (Kf w.params) attr = true) (hl : getL name es = some (some v)) (hv : handedIn v = true) (h : Q v { s with toks := s.toks + 1 }) :
    wpAny (model prog w) A (getAttr (.ref x) name expr) Q E s :=
  get_value (inK S B k) (instB_S S hx hd) (plainGet_of hg).1 (findObj_own hh ha hn hl) hv h
end
/-- a batch of entries goes over to the base -/
theorem St.lay {h : Heap} {L : Addr} {m : Str → Option Value} : ∀ {es news : List (Addr × Obj)} {g : Heap}, St g L (es ++ news) h m → ∃ g', Sub g g' ∧ St g' L news h m ∧ (∀ p ∈ es, g'.get? p.1 = some p.2)
  | [], _, g, S => ⟨g, Sub.refl _, S, fun _ hp => (nomatch hp)⟩
  | (a, o) :: es, news, g, S => by
    obtain ⟨g1, k1, S1, e1⟩ := St.settle (news := es ++ news) S
    obtain ⟨g2, k2, S2, e2⟩ := St.lay S1
    refine ⟨g2, k1.trans k2, S2, fun p hp => ?_⟩
    rcases List.mem_cons.mp hp with rfl | hp
    · exact k2 _ _ e1
    · exact e2 p hp
/-- and back onto the ledger -/
theorem St.unlay {g g' h : Heap} {L : Addr} {m : Str → Option Value} {news : List (Addr × Obj)} (S : St g' L news h m) (k : Sub g g') : ∀ (es : List (Addr × Obj)), (es.map (·.1)).Nodup → (∀ p ∈ es, g.get? p.1 = none) → (∀ p ∈ es, g'.get? p.1 = some p.2) → St g L (es ++ news) h m
  | [], _, _, _ => ⟨S.ns, fun b x e => S.keep b x (k b x e), (by cases q : g.get? L with | none => rfl | some x => have := k _ _ q; rw [S.off] at this; cases this), S.nw, S.nL, fun p hp => (by cases q : g.get? p.1 with | none => rfl | some x => have := k _ _ q; rw [S.ng p hp] at this; cases this), S.nd⟩
  | (a, o) :: es, nd, hn, hg => by
    rw [List.map_cons, List.nodup_cons] at nd
    have S1 := St.unlay S k es nd.2 (fun p hp => hn p (.tail _ hp)) (fun p hp => hg p (.tail _ hp))
    have ha := hg (a, o) (.head _)
    refine S1.held (S.keep _ _ ha) (hn (a, o) (.head _)) (fun q => ?_) fun p hp q => ?_
    · rw [q, S.off] at ha; cases ha
    · rcases List.mem_append.mp hp with hp | hp
      · exact nd.1 (by rw [← q]; exact List.mem_map_of_mem (f := (·.1)) hp)
      · have := S.ng p hp; rw [q, ha] at this; cases this
/-- behind one turn of a while loop -/
inductive TurnW (s : Shared) (L : Addr) (g : Heap) (frs : List (Addr × Obj)) (J : Nat → Heap → (Str → Option Value) → List (Addr × Obj) → Prop) (n : Nat) (s' : Shared) : Prop
  | mk (n' : Nat) (g' : Heap) (m' : Str → Option Value) (news' frs' : List (Addr × Obj)) (h' : Heap) (tk' : Nat) (_ : n' < n) (_ : s' = { s with heap := h', toks := tk' }) (_ : Sub g g') (_ : Up frs frs') (_ : St g' L (news' ++ frs') h' m') (_ : J n' g' m' news') : TurnW s L g frs J n s'
noncomputable def WTurned (s : Shared) (L : Addr) (g : Heap) (frs : List (Addr × Obj)) (J : Nat → Heap → (Str → Option Value) → List (Addr × Obj) → Prop) (n : Nat) (Qb : Shared → Prop) (Qr : Value → Shared → Prop) (f : Flow) (s' : Shared) : Prop :=
  match f with
  | .next | .cont => TurnW s L g frs J n s'
  | .brk => Qb s'
  | .ret v => Qr v s'
inductive WhileAt (s : Shared) (J : Nat → Heap → (Str → Option Value) → List (Addr × Obj) → Prop) (g : Heap) (frs : List (Addr × Obj)) (L : Addr) (n : Nat) (s' : Shared) : Prop
  | mk (g' : Heap) (m' : Str → Option Value) (news' frs' : List (Addr × Obj)) (h : Heap) (tk : Nat) (_ : s' = { s with heap := h, toks := tk }) (_ : J n g' m' news') (_ : Sub g g') (_ : Up frs frs') (_ : St g' L (news' ++ frs') h m') : WhileAt s J g frs L n s'
theorem while_S {prog : Program} {w : World} {A : Around} {E : Value → Shared → Prop} {s : Shared} {g : Heap} {L : Addr} {env : Env} {frs : List (Addr × Obj)} {test : Expr} {body orelse : List Stmt} {pos : Pos} {Q : Flow → Shared → Prop} (J : Nat → Heap → (Str → Option Value) → List (Addr × Obj) → Prop)
    (turn : ∀ n g' m' news' frs' h tk, J n g' m' news' → Sub g g' → Up frs frs' → St g' L (news' ++ frs') h m' →
      wpAny (model prog w) A (isTrue test env (eval test env)) (fun b s₂ => if b = true then wpAny (model prog w) A (execs body env) (WTurned s L g' frs' J n (Q .next) (fun v => Q (.ret v))) (fun _ _ => False) s₂ else wpAny (model prog w) A (execs orelse env) Q (fun _ _ => False) s₂) (fun _ _ => False) { s with heap := h, toks := tk })
    {news : List (Addr × Obj)} {m : Str → Option Value} {h₁ : Heap} {tk₁ n : Nat} (hS : St g L (news ++ frs) h₁ m) (hJ : J n g m news) : wpAny (model prog w) A (exec (.While test body orelse pos) env) Q E { s with heap := h₁, toks := tk₁ } := by
  refine wpAny_While (codeAny_whileLoop (WhileAt s J g frs L) ?_ n ⟨g, m, news, frs, h₁, tk₁, rfl, hJ, Sub.refl _, Up.refl _, hS⟩)
  rintro n s' ⟨g', m', news', frs', h, tk, rfl, hJ, hk, hu, S⟩
  refine wpAny_mono (turn n g' m' news' frs' h tk hJ hk hu S) (fun b s₂ h₂ => ?_) (fun _ _ x => x.elim)
  cases b with
  | false =>
    simp only [Bool.false_eq_true, if_false] at h₂ ⊢
    exact wpAny_mono h₂ (fun _ _ x => x) (fun _ _ x => x.elim)
  | true =>
    simp only [if_true] at h₂ ⊢
    refine wpAny_mono h₂ (fun f s₃ h₃ => ?_) (fun _ _ x => x.elim)
    cases f with
    | ret v => exact h₃
    | brk => exact h₃
    | next => obtain ⟨n', g'', m'', news'', frs'', h'', tk'', hn, rfl, k'', u'', S'', J''⟩ := h₃; exact ⟨n', hn, g'', m'', news'', frs'', h'', tk'', rfl, J'', hk.trans k'', hu.trans u'', S''⟩
    | cont => obtain ⟨n', g'', m'', news'', frs'', h'', tk'', hn, rfl, k'', u'', S'', J''⟩ := h₃; exact ⟨n', hn, g'', m'', news'', frs'', h'', tk'', rfl, J'', hk.trans k'', hu.trans u'', S''⟩
end Mine

end
section
open PySem PySem.W PySem.W.X PyProof.Rows PySem.Calls PySem.Spec PySem.Builtin PySem.Builtin.Str
namespace Mine
theorem callWithMw0 {prog : Program} {w : World} {A : Around} {E : Value → Shared → Prop} {s : Shared} {Wm I : Addr} {pos : Pos} {env : Env} {Q : Value → Shared → Prop} (hW : s.heap.get? Wm = some (mwO I)) (h : wpAny (model prog w) A (call (.ref Wm) []) Q E s) :
    wpAny (model prog w) A (callWith pos (.ref Wm) [] (backTo pos (starEach [] env)) []) Q E s := by
  show wpAny _ _ (callWith pos (.ref Wm) [] [] []) _ _ _
  unfold callWith
  refine wpAny_bind (wpAny_holding (evalArgs_nil3 (wpAny_bind (wpAny_standAt ?_))))
  refine wpAny_bind (m := keeperOf (.ref Wm)) ?_
  unfold keeperOf
  refine wpAny_bind (wpAny_load hW ?_)
  dsimp only
  rw [if_pos (by decide)]
  rw [if_pos (by decide)]
  refine wpAny_pure ?_
  simp only [List.any_nil, Bool.or_false]
  exact wpAny_bind (wpAny_mono h (fun r s' hr => wpAny_bind (wpAny_holding (wpAny_point (wpAny_pure hr)))) fun _ _ x => x)
end Mine

end
local macro_rules | `(tactic| walk_at "getAttr ref") => return rk ``getOwnB_S "AASssIIIIGH?" "W"
local macro_rules | `(tactic| walk_at "eval Attribute Call") => return rf ``Attribute_any_ "?"
local macro_rules | `(tactic| walk_at "eval Attribute Subscript") => return rf ``Attribute_any_ "?"
local macro_rules | `(tactic| walk_at "subscriptTail") => return sw (stl vstr) (rk ``itemB_S "Asss?UV" "")
local macro_rules | `(tactic| walk_at "exec Expr") => return rf ``wpAny_Expr_any "?"
local macro_rules | `(tactic| walk_at "call type:set") => return rk ``setNew_S "A?" "Wiiiii"
section
set_option maxHeartbeats 4000000
open PySem PySem.W PySem.W.X PyProof.Rows PySem.Calls PySem.Spec PySem.Builtin PySem.Builtin.Str
namespace Mine
theorem itemLast_S {prog : Program} {w : World} {A : Around} {E : Value → Shared → Prop} {s : Shared} {g : Heap} {L l : Addr} {m : PySem.Str → Option Value} {news : List (Addr × Obj)} {vi : List Value} {v : Value} {ep : Nat} {u : Tok} {value slice : PySem.Expr} {Q : Value → Shared → Prop} (S : Mine.St g L news s.heap m) (hm : (l, lstO (vi ++ [v]) ep) ∈ news) (h : Q v s)
    (hs : subscripted slice false (.ref l) (.int (-1) u) = operate [.ref l, .int (-1) u] (getItem (.ref l) (.int (-1) u)) := by with_unfolding_all rfl) (hg : ∀ r, letTemporaryGo value (.ref l) r = pure () := by intro _; with_unfolding_all rfl) :
    wpAny (model prog w) A (subscriptTail value slice (.ref l) (.int (-1) u)) Q E s := item_last ⟨_, S.nw _ hm, rfl, _, rfl⟩ h hs hg
end Mine
end
local macro_rules | `(tactic| walk_at "subscriptTail") => return sw (stl (Lean.Unhygienic.run `(PySem.Value.int (-1) _))) (rk ``itemLast_S "AM?U" "")
section
set_option maxHeartbeats 4000000
open PySem PySem.W PySem.W.X PyProof.Rows PySem.Calls PySem.Spec PySem.Builtin PySem.Builtin.Str
namespace Mine
/-- the stack of the search, as it lies in the heap -/
inductive Stk (g : Heap) (su : Nat → List Nat) : List (Nat × Nat) → List (Addr × Obj) → List Value → List Value → List (PySem.Str × Value) → Prop
  | nil : Stk g su [] [] [] [] []
  | cons {c j : Nat} {I l W : Addr} {vs : List Value} {ep i : Nat} {t u : Tok} {st : List (Nat × Nat)} {es : List (Addr × Obj)} {its stk : List Value} {kvs : List (PySem.Str × Value)} :
      g.get? W = some (mwO I) → g.get? l = some (lstO vs ep) → SignsAt vs (su c) → i ≤ 100000 → Stk g su st es its stk kvs →
      Stk g su ((c, j) :: st) ((I, itO l j) :: es) (its ++ [.ref W]) (stk ++ [.str ⟨#[c]⟩ t]) (kvs ++ [(⟨#[c]⟩, .int (i : Nat) u)])
/-- keeps the walk's hands off a statement -/
structure Keep (P : Prop) : Prop where
  out : P
noncomputable def seenF (seen : List Nat) : PySem.Str → Bool := fun k => seen.any fun c => decide (k = ⟨#[c]⟩)
theorem one_inj {a b : Nat} (h : (⟨#[a]⟩ : PySem.Str) = ⟨#[b]⟩) : a = b := by injection h with h; injection h with h; injection h
theorem seenF_at (seen : List Nat) (c : Nat) : seenF seen ⟨#[c]⟩ = decide (c ∈ seen) := by
  unfold seenF
  rw [Bool.eq_iff_iff, List.any_eq_true, decide_eq_true_iff]
  constructor
  · rintro ⟨x, hx, e⟩
    rw [one_inj (of_decide_eq_true e)]; exact hx
  · intro h; exact ⟨c, h, by simp⟩
theorem seenF_cons (seen : List Nat) (c : Nat) : (fun k' => seenF seen k' || decide (k' = (⟨#[c]⟩ : PySem.Str))) = seenF (c :: seen) := by
  funext k
  unfold seenF
  rw [List.any_cons, Bool.or_comm]
section
variable {w : World} {g g' : Heap} {su : Nat → List Nat} {st : List (Nat × Nat)} {es : List (Addr × Obj)} {its stk : List Value} {kvs : List (PySem.Str × Value)}
theorem Stk.mono (k : Sub g g') (x : Stk g su st es its stk kvs) : Stk g' su st es its stk kvs := by
  induction x with
  | nil => exact .nil
  | cons h1 h2 h3 h4 _ ih => exact .cons (k _ _ h1) (k _ _ h2) h3 h4 ih
theorem Stk.len (x : Stk g su st es its stk kvs) : its.length = st.length ∧ stk.length = st.length ∧ kvs.length = st.length := by
  induction x with
  | nil => exact ⟨rfl, rfl, rfl⟩
  | cons h1 h2 h3 h4 _ ih => simp [ih.1, ih.2.1, ih.2.2]
theorem valueAt_snoc {kvs : List (PySem.Str × Value)} {k x : PySem.Str} {v : Value} (h : ∀ kv ∈ kvs, kv.1 ≠ x) : valueAt (kvs ++ [(x, v)]) k = if k = x then some v else valueAt kvs k := by
  unfold valueAt
  rw [List.find?_append]
  by_cases hk : k = x
  · subst hk
    have : kvs.find? (fun kv => decide (kv.1 = k)) = none := List.find?_eq_none.mpr fun kv hm => by simpa using h kv hm
    rw [this]; simp
  · have hx : decide (x = k) = false := decide_eq_false (Ne.symm hk)
    rw [if_neg hk]
    cases kvs.find? (fun kv => decide (kv.1 = k)) with
    | none => simp [hx]
    | some y => simp
theorem Stk.keys (x : Stk g su st es its stk kvs) : ∀ kv ∈ kvs, ∃ c ∈ st.map (·.1), kv.1 = ⟨#[c]⟩ := by
  induction x with
  | nil => intro kv h; cases h
  | cons h1 h2 h3 h4 _ ih =>
    intro kv hm
    (try k_fold)
    rcases List.mem_append.mp hm with hm | hm
    · obtain ⟨c, hc, e⟩ := ih kv hm; exact ⟨c, .tail _ hc, e⟩
    · rw [List.mem_singleton.mp hm]; exact ⟨_, .head _, rfl⟩
theorem Stk.at (x : Stk g su st es its stk kvs) (hn : (st.map (·.1)).Nodup) (c : Nat) : (valueAt kvs ⟨#[c]⟩).isSome = decide (c ∈ st.map (·.1)) ∧ ∀ v, valueAt kvs ⟨#[c]⟩ = some v → ∃ (i : Nat) (t : Tok), v = .int i t ∧ i ≤ 100000 := by
  induction x with
  | nil => exact ⟨by simp [valueAt], fun v h => by simp [valueAt] at h⟩
  | cons h1 h2 h3 h4 hx ih =>
    rename_i d j I l W vs ep i t u st es its stk kvs
    rw [List.map_cons, List.nodup_cons] at hn
    have ih := ih hn.2
    have hk : ∀ kv ∈ kvs, kv.1 ≠ (⟨#[d]⟩ : PySem.Str) := fun kv hm q => by
      obtain ⟨x, hx', e⟩ := hx.keys kv hm
      rw [e] at q
      exact hn.1 (by have := one_inj q; exact this ▸ hx')
    rw [valueAt_snoc hk]
    by_cases hc : c = d
    · subst hc
      rw [if_pos rfl]
      exact ⟨by simp, fun v h => ⟨i, u, (Option.some.inj h).symm, h4⟩⟩
    · rw [if_neg (fun q => hc (one_inj q))]
      exact ⟨by rw [ih.1]; simp [hc], ih.2⟩
theorem Stk.stored (x : Stk g su st es its stk kvs) {c : Nat} (hc : c ∉ st.map (·.1)) (v : Value) : stored kvs ⟨#[c]⟩ v = kvs ++ [(⟨#[c]⟩, v)] := by
  unfold PySem.stored
  rw [if_neg]
  intro q
  (try k_fold)
  obtain ⟨kv, hm, he⟩ := List.any_eq_true.mp q
  obtain ⟨d, hd, e⟩ := x.keys kv hm
  rw [e] at he
  have := one_inj (of_decide_eq_true he)
  exact hc (this ▸ hd)
theorem without_snoc {kvs : List (PySem.Str × Value)} {x : PySem.Str} {v : Value} (h : ∀ kv ∈ kvs, kv.1 ≠ x) : without (kvs ++ [(x, v)]) x = kvs := by
  have h1 := without_of_not_mem kvs x (fun q => by obtain ⟨kv, hm, e⟩ := List.mem_map.mp q; exact h kv hm e)
  unfold without at h1 ⊢
  rw [List.filter_append, h1]
  simp
end
theorem pick_len (stk : List Value) (i : Nat) : (slicePick stk.toArray (some (i : Int)) none none).toList.length ≤ stk.length := by
  rw [slicePick_plain]
  simp only [List.length_take, List.length_drop, Array.length_toList, List.size_toArray]
  exact Nat.le_trans (Nat.min_le_right _ _) (Nat.sub_le _ _)
theorem St.subl {g h : Heap} {L : Addr} {m : PySem.Str → Option Value} {news news' : List (Addr × Obj)} (S : Mine.St g L news h m) (hs : news'.Sublist news) : Mine.St g L news' h m :=
  S.sub (fun p hp => hs.subset hp) (S.nd.sublist (hs.map _))
theorem signs_some {vs : List Value} {cs : List Nat} (h : SignsAt vs cs) {i c : Nat} (e : cs[i]? = some c) : ∃ t, vs[i]? = some (.str ⟨#[c]⟩ t) := by
  have hl : vs.length = cs.length := by
    have := StrsAre.length h
    simpa using this
  have hi := (List.getElem?_eq_some_iff.mp e).1
  obtain ⟨c', t, h1, h2⟩ := signs_get h (i := i) (v := vs[i]'(by lia)) (List.getElem?_eq_getElem (by lia))
  rw [e] at h1; cases h1
  exact ⟨t, by rw [List.getElem?_eq_getElem (by lia), h2]⟩
theorem signs_none {vs : List Value} {cs : List Nat} (h : SignsAt vs cs) {i : Nat} (e : cs[i]? = none) : vs.toArray[i]? = none := by
  have hl : vs.length = cs.length := by
    have := StrsAre.length h
    simpa using this
  have := List.getElem?_eq_none_iff.mp e
  simp; lia
theorem suOf_in {nds : List Nd} (hin : ∀ x ∈ absN nds, x.2.2.length ≤ 1000 ∧ ∀ c ∈ x.2.2, (nds.find? fun y => y.c == c).isSome = true) {u v : Nat} (h : v ∈ suOf (absN nds) u) : v ∈ nds.map (·.c) := by
  unfold suOf at h
  cases hf : (absN nds).find? (fun x => x.1 == u) with
  | none => rw [hf] at h; cases h
  | some x =>
    rw [hf] at h
    obtain ⟨y, hy⟩ := Option.isSome_iff_exists.mp ((hin x (List.mem_of_find?_eq_some hf)).2 v h)
    exact List.mem_map.mpr ⟨y, List.mem_of_find?_eq_some hy, by simpa using List.find?_some hy⟩
theorem getSu_B {w : World} {mg mb : PySem.Str → Option Value} {A : Around} {E : Value → Shared → Prop} {s : Shared} {g g₀ : Heap} {L a d l : Addr} {m : PySem.Str → Option Value} {news : List (Addr × Obj)} {c : Nat} {t u : Tok} {n : Int} {Q : Value → Shared → Prop} {expr : Bool} (S : Mine.St g L news s.heap m) (B : Bs w mg mb g₀) (k : Sub g₀ g)
    (hA : g₀.get? a = some (ndO d l c t n u)) (hD : g₀.get? d = some (dictOf [] 0)) (h : Q (.ref l) { s with toks := s.toks + 1 }) :
    wpAny (model prg w) A (getAttr (.ref a) (PySem.Str.ofString "successors") expr) Q E s := by
  k_dflt (refine' getSlot_S S B k (instB_S S (k _ _ hA) (k _ _ hD)) ?hg ?hc ?ha ?hn ?ht ?hp ?hv ?hh h; (case hg => k_is); (case hc => k_is); (case ha => k_is); (case hn => k_is); (case ht => k_is); (case hp => k_is); (case hv => rfl); (case hh => rfl))
section
variable {w : World} {mg mb : PySem.Str → Option Value} {A : Around} {g : Heap} {L : Addr} {m : PySem.Str → Option Value} {news frs : List (Addr × Obj)} {s : Shared} {tk t2 t3 : Tok}
    {Q E : Value → Shared → Prop}
/- what the search holds at its loops' heads -/
inductive CyO (w : World) (su : Nat → List Nat) (all : List Nat) (M Zs J K N : Addr) (news : List (Addr × Obj)) (i : Nat) (m' : PySem.Str → Option Value) (news' : List (Addr × Obj)) : Prop
  | mk (mo so : Obj) (ep1 ep2 : Nat) (seen fin : List Nat) (_ : news' = (M, mo) :: (Zs, so) :: (J, lstO [] ep1) :: (K, lstO [] ep2) :: news) (_ : mo.IsDictOf (PySem.strKind prg w) []) (_ : so.SetObjOf (PySem.strKind prg w) (seenF seen) seen.length)
      (_ : DInv su all seen [] fin) (_ : ∀ c ∈ all.take i, c ∈ seen) (_ : m' "n2i" = some (.ref N)) (_ : m' "stack" = some (.ref K)) (_ : m' "itstack" = some (.ref J)) (_ : m' "seen" = some (.ref Zs)) (_ : m' "node2stacki" = some (.ref M)) : CyO w su all M Zs J K N news i m' news'
inductive CyI (w : World) (su : Nat → List Nat) (all : List Nat) (M Zs J K N : Addr) (news : List (Addr × Obj)) (seen : List Nat) (c0 n : Nat) (g' : Heap) (m' : PySem.Str → Option Value) (news' : List (Addr × Obj)) : Prop
  | mk (st : List (Nat × Nat)) (ents : List (Addr × Obj)) (its stk : List Value) (kvs : List (PySem.Str × Value)) (mo so : Obj) (ep1 ep2 : Nat) (seen' fin : List Nat) (c : Nat) (tc : Tok)
      (_ : n = wt su all seen' st) (_ : news' = (M, mo) :: (Zs, so) :: (J, lstO its ep1) :: (K, lstO stk ep2) :: (ents ++ news))
      (_ : Stk g' su st ents its stk kvs) (_ : mo.IsDictOf (PySem.strKind prg w) kvs) (_ : so.SetObjOf (PySem.strKind prg w) (seenF seen') seen'.length)
      (_ : DInv su all seen' st fin) (_ : Chain su fin c st) (_ : c ∈ all) (_ : c0 ∈ seen' ∨ c = c0) (_ : ∀ x ∈ seen, x ∈ seen')
      (_ : m' "n2i" = some (.ref N)) (_ : m' "stack" = some (.ref K)) (_ : m' "itstack" = some (.ref J)) (_ : m' "seen" = some (.ref Zs)) (_ : m' "node2stacki" = some (.ref M)) (_ : m' "node" = some (.str ⟨#[c]⟩ tc)) : CyI w su all M Zs J K N news seen c0 n g' m' news'
inductive CyT (w : World) (su : Nat → List Nat) (all : List Nat) (M Zs J K N : Addr) (news : List (Addr × Obj)) (seen : List Nat) (c0 n : Nat) (s : Shared) (L : Addr) (g : Heap) (frs : List (Addr × Obj)) (s' : Shared) : Prop
  | mk (g' : Heap) (st : List (Nat × Nat)) (ents : List (Addr × Obj)) (its stk : List Value) (kvs : List (PySem.Str × Value)) (mo so : Obj) (ep1 ep2 : Nat) (seen' fin : List Nat) (m' : PySem.Str → Option Value) (frs' : List (Addr × Obj)) (h' : Heap) (tk' : Nat)
      (_ : s' = { s with heap := h', toks := tk' }) (_ : Sub g g') (_ : Up frs frs') (_ : Mine.St g' L (((M, mo) :: (Zs, so) :: (J, lstO its ep1) :: (K, lstO stk ep2) :: (ents ++ news)) ++ frs') h' m')
      (_ : Stk g' su st ents its stk kvs) (_ : mo.IsDictOf (PySem.strKind prg w) kvs) (_ : so.SetObjOf (PySem.strKind prg w) (seenF seen') seen'.length)
      (_ : DInv su all seen' st fin) (_ : OpenS su fin st) (_ : wt su all seen' st ≤ n) (_ : c0 ∈ seen') (_ : ∀ x ∈ seen, x ∈ seen')
      (_ : m' "n2i" = some (.ref N)) (_ : m' "stack" = some (.ref K)) (_ : m' "itstack" = some (.ref J)) (_ : m' "seen" = some (.ref Zs)) (_ : m' "node2stacki" = some (.ref M)) : CyT w su all M Zs J K N news seen c0 n s L g frs s'
inductive CyR (w : World) (su : Nat → List Nat) (all : List Nat) (M Zs J K N : Addr) (news : List (Addr × Obj)) (seen : List Nat) (so : Obj) (n0 n : Nat) (g' : Heap) (m' : PySem.Str → Option Value) (news' : List (Addr × Obj)) : Prop
  | mk (st : List (Nat × Nat)) (ents : List (Addr × Obj)) (its stk : List Value) (kvs : List (PySem.Str × Value)) (mo : Obj) (ep1 ep2 : Nat) (fin : List Nat)
      (_ : n = wt su all seen st) (_ : news' = (M, mo) :: (Zs, so) :: (J, lstO its ep1) :: (K, lstO stk ep2) :: (ents ++ news))
      (_ : Stk g' su st ents its stk kvs) (_ : mo.IsDictOf (PySem.strKind prg w) kvs)
      (_ : DInv su all seen st fin) (_ : OpenS su fin st) (_ : wt su all seen st ≤ n0)
      (_ : m' "n2i" = some (.ref N)) (_ : m' "stack" = some (.ref K)) (_ : m' "itstack" = some (.ref J)) (_ : m' "seen" = some (.ref Zs)) (_ : m' "node2stacki" = some (.ref M)) : CyR w su all M Zs J K N news seen so n0 n g' m' news'
/-- sorter._find_cycle() -/
theorem c_cycle {X D N R : Addr} {o : Obj} {nds : List Nd} {es : List (Addr × Obj)} {t1 t2' t3' t4 : Tok} {po fi : Value} {n : Nat} (B : Bs w mg mb g)
   (hX : g.get? X = some (instObj 192 D)) (hD : g.get? D = some (soD w t1 t2' t3' t4 N (.ref R) po fi n)) (hNo : g.get? N = some o)
   (hd : o.IsDictOf (PySem.strKind prg w) (kvsOf nds)) (hN : NdB g nds es) (hes : ∀ p ∈ es, g.get? p.1 = some p.2) (lo : (N == sysModules) = false) (hlen : nds.length ≤ 1000)
   (hin : ∀ x ∈ absN nds, x.2.2.length ≤ 1000 ∧ ∀ c ∈ x.2.2, (nds.find? fun y => y.c == c).isSome = true)
   (S : Mine.St g L (news ++ frs) s.heap m) (Z : Ar A L frs 3)
   (hret : ∀ v g' frs' h' tk', ((v = .none ∧ ∃ fin, Topo (suOf (absN nds)) fin ∧ ∀ c ∈ nds.map (·.c), c ∈ fin) ∨ (∃ a vs ep C, v = .ref a ∧ g'.get? a = some (lstO vs ep) ∧ vs ≠ [] ∧ vs.length ≤ 2000 ∧ Ring (suOf (absN nds)) (nds.map (·.c)) C)) → Sub g g' → Up frs frs' →
     Mine.St g' L (news ++ frs') h' m → Q v { s with heap := h', toks := tk' }) :
   wpAny (model prg w) A (call (.ref 182) [.ref X]) Q E s := by
  walk_at "enter"; rename PySem.Flow → PySem.Shared → Prop => qk0; walk_at "go"
  rename_i oL L1 h1 Lb S1 Z1 h2 S2 K h3 S3 h4 S4 J h5 S5 h6 S6 Zs so h7 so7 S7 h8 S8 M mo h9 md9 mi9 lo9 S9 h10 S10
  clear S1 S2 S3 S4 S5 S6 S7 S8 S9 mi9
  refine iterK_S S10 hNo (Sub.refl _) hd lo ?_
  intro I oI ob h11 W h0 S11
  (try k_fold)
  have hkl : (kvsOf nds).length = nds.length := by unfold kvsOf; rw [List.length_map]
  refine forLoop_S (L := L1) (frs := (L, oL) :: frs) (news := (M, mo) :: (Zs, so) :: (J, lstO [] 0) :: (K, lstO [] 0) :: news)
    (fun i _ m' news' => CyO w (suOf (absN nds)) (nds.map (·.c)) M Zs J K N news i m' news') Z1.hand W (fun _ => rfl) ?_ ?_ h0 S11 ?_
  · intro i v o3 g3 m3 news3 frs3 h12 tk12 hi hP hInv k3 hu3 S12
    (try k_fold)
    obtain ⟨mo, so, ep1, ep2, seen, fin, hq166_0, hmo, hso, hD0, hse, e1, e2, e3, e4, e5⟩ := hInv
    subst hq166_0
    obtain ⟨k, x, t, hk, rfl⟩ := hP
    have B3 := B.keeps k3
    walk_at "go"
    rename_i h13 S13
    obtain ⟨c0, hc0, rfl⟩ : ∃ c0, (nds.map (·.c))[i]? = some c0 ∧ k = ⟨#[c0]⟩ := by
      unfold kvsOf at hk
      rw [List.getElem?_map] at hk ⊢
      obtain ⟨nd, hnd, e⟩ := Option.map_eq_some_iff.mp hk
      exact ⟨nd.c, by rw [hnd]; rfl, (Prod.mk.inj e).1.symm⟩
    have hdl := dinv_len hD0
    rw [List.length_map] at hdl
    refine setIn_S S13 (by walk_at "mem") hso (by lia) ?_
    rw [seenF_at]
    have htk : ∀ seen' : List Nat, (∀ c ∈ seen, c ∈ seen') → c0 ∈ seen' → ∀ c ∈ (nds.map (·.c)).take (i + 1), c ∈ seen' := fun seen' h1 h2 c hc => by
      rw [List.take_add_one, hc0] at hc
      rcases List.mem_append.mp hc with hc | hc
      · exact h1 c (hse c hc)
      · rw [List.mem_singleton.mp hc]; exact h2
    by_cases hc0s : c0 ∈ seen
    · rw [decide_eq_true hc0s]
      walk_at "go"
      refine ⟨g3, _, ((M, mo) :: (Zs, so) :: (J, lstO [] ep1) :: (K, lstO [] ep2) :: news), frs3, _, _, rfl, Sub.refl _, Up.refl _, S13, mo, so, ep1, ep2, seen, fin, rfl, hmo, hso, hD0, htk seen (fun _ h => h) hc0s, ?_, ?_, ?_, ?_, ?_⟩
      · exact e1
      · exact e2
      · exact e3
      · exact e4
      · exact e5
    · rw [decide_eq_false hc0s]
      walk_at "go"
      have S14 : Mine.St g3 L1 (((M, mo) :: (Zs, so) :: (J, lstO [] ep1) :: (K, lstO [] ep2) :: ([] ++ (news ++ [(I, o3)]))) ++ frs3) h13 _ := S13
      refine while_S (L := L1) (frs := frs3) (news := (M, mo) :: (Zs, so) :: (J, lstO [] ep1) :: (K, lstO [] ep2) :: ([] ++ (news ++ [(I, o3)])))
        (fun n g' m' news' => CyI w (suOf (absN nds)) (nds.map (·.c)) M Zs J K N (news ++ [(I, o3)]) seen c0 n g' m' news')
        ?_ (n := wt (suOf (absN nds)) (nds.map (·.c)) seen []) S14 ?_
      · intro n4 g4 m4 news4 frs4 h14 tk14 hJ k4 hu4 S14
        (try k_fold)
        obtain ⟨st4, ents, its, stk, kvs, mo4, so4, ep3, ep4, seen4, fin4, c, tc, hq205_0, hq205_1, hst, hmd, hso4, hD4, hCh, hcn, hor, hsub, f1, f2, f3, f4, f5, f6⟩ := hJ
        subst hq205_0
        subst hq205_1
        have B4 := B3.keeps k4
        walk1
        walk1
        walk1
        refine wpAny_execs_cons ?_
        refine wpAny_mono (Q := fun fl s' => match fl with
          | .next => CyT w (suOf (absN nds)) (nds.map (·.c)) M Zs J K N (news ++ [(I, o3)]) seen c0 (wt (suOf (absN nds)) (nds.map (·.c)) seen4 st4) s L1 g4 frs4 s'
          | .ret v => qk0 (.ret v) s'
          | _ => False) (E := fun _ _ => False) ?_ (fun fl s' hfl => ?_) fun _ _ x => x.elim
        · walk_at "go"
          have hdl4 := dinv_len hD4
          rw [List.length_map] at hdl4
          refine setIn_S S14 (by walk_at "mem") hso4 (by lia) ?_
          rw [seenF_at]
          by_cases hcs : c ∈ seen4
          · rw [decide_eq_true hcs]
            walk_at "go"
            have hat := hst.at hD4.nd c
            refine dictIn_S S14 (by walk_at "mem") hmd lo9 ?_
            rw [hat.1]
            by_cases hg : c ∈ st4.map (·.1)
            · rw [decide_eq_true hg]
              rw [decide_eq_true hg] at hat
              obtain ⟨v5, hv5⟩ := Option.isSome_iff_exists.mp hat.1
              obtain ⟨i5, t5, rfl, hi5⟩ := hat.2 _ hv5
              obtain ⟨g6, k6, S15, hK6⟩ := (S14.perm (show (((M, mo4) :: (Zs, so4) :: (J, lstO its ep3) :: (K, lstO stk ep4) :: (ents ++ (news ++ [(I, o3)]))) ++ frs4).Perm ((K, lstO stk ep4) :: ((M, mo4) :: (Zs, so4) :: (J, lstO its ep3) :: (ents ++ (news ++ [(I, o3)])) ++ frs4)) from List.perm_middle (l₁ := [(M, mo4), (Zs, so4), (J, lstO its ep3)]))).settle
              have hKl : g6.IsList K stk.toArray := ⟨_, hK6, rfl, _, rfl⟩
              have B6 := B4.keeps k6
              have hsl := hst.len
              have hlz : stk.toArray.size ≤ sizeLine := by rw [List.size_toArray, sizeLine_eq]; lia
              clear S14
              walk_at "go"
              rename_i g7 D7 h15 k7 e7 S16 D8 h16 S17
              obtain ⟨o7, q1, q2, n7, q3⟩ := e7
              refine addL_S (vs := (slicePick stk.toArray (some (i5 : Int)) none none).toList) (ws := [Value.str ⟨#[c]⟩ tc]) S17 ⟨o7, S17.keep _ _ q1, q2, n7, by simpa using q3⟩ ⟨_, S17.nw _ (.head _), rfl, _, rfl⟩ ?_ ?_
              · rw [sizeLine_eq]
                have := pick_len stk i5
                simp only [List.length]; lia
              · intro D9 h17 S18
                (try k_fold)
                obtain ⟨g9, k9, S19, e9⟩ := S18.settle
                have S20 : Mine.St g9 L1 (news ++ frs4) h17 m4 := S19.subl (.cons _ (.cons _ (.cons _ (.cons _ (((List.sublist_append_left news [(I, o3)]).trans (List.sublist_append_right ents _)).append (List.Sublist.refl frs4))))))
                obtain ⟨frs5, hu5, hS⟩ := leave Lb S20 (hu3.trans hu4)
                obtain ⟨C, hC⟩ := dfs_ring hD4 hCh hg
                refine hret _ g9 _ _ _ (.inr ⟨D9, _, _, C, rfl, e9, ?_, ?_, hC⟩) ?_ hu5 hS
                · intro q
                  (try k_fold)
                  have := congrArg List.length q
                  rw [List.length_append] at this
                  simp at this
                · have := pick_len stk i5
                  rw [List.length_append]
                  simp only [List.length]; lia
                · exact ((((k3.trans k4).trans k6).trans k7).trans k9)
            · rw [decide_eq_false hg]
              walk_at "go"
              refine ⟨g4, st4, ents, its, stk, kvs, mo4, so4, ep3, ep4, seen4, fin4, m4, frs4, h14, _, rfl, Sub.refl _, Up.refl _, S14, hst, hmd, hso4, hD4, dfs_black hD4 hCh hcs hg, Nat.le_refl _, ?_, hsub, f1, f2, f3, f4, f5⟩
              rcases hor with h | h
              · exact h
              · rw [← h]; exact hcs
          · rw [decide_eq_false hcs]
            walk_at "go"
            refine setAddm_S S14 (by walk_at "mem") hso4 (by lia) ?_
            walk_at "go"
            refine setAdd_S (news' := fun so' => ((M, mo4) :: (Zs, so') :: (J, lstO its ep3) :: (K, lstO stk ep4) :: (ents ++ (news ++ [(I, o3)]))) ++ frs4) S14 (fun _ => .tail .head) hso4 (by lia) ?_
            intro so5 h15 hso5 S15
            (try k_fold)
            rw [seenF_at, decide_eq_false hcs, seenF_cons] at hso5
            simp only [Bool.false_eq_true, if_false] at hso5
            obtain ⟨nd, hnd⟩ : ∃ nd, nds.find? (fun y => y.c == c) = some nd := by
              obtain ⟨y, hy, e⟩ := List.mem_map.mp hcn
              exact Option.isSome_iff_exists.mp (List.find?_isSome.mpr ⟨y, hy, by simpa using e⟩)
            obtain ⟨d4, t5, u5, ws, ep5, hs, hc4, m1, m2, m3', _⟩ := (hN.pick (nd_nodup hd) hnd)
            have hv : valueAt (kvsOf nds) ⟨#[c]⟩ = some (.ref nd.a) := by rw [kvs_at, hnd]; rfl
            have kg4 : Sub g g4 := k3.trans k4
            have hN4 : g4.get? N = some o := kg4 _ _ hNo
            clear S14
            walk_at "go"
            refine getSu_B S15 B4 (Sub.refl _) (kg4 _ _ (hes _ m1)) (kg4 _ _ (hes _ m3')) ?_
            walk_at "go"
            have m24 := kg4 _ _ m2
            refine iterL_S S15 (show g4.IsList nd.l ws.toArray from ⟨_, m24, rfl, _, rfl⟩) (Sub.refl _) ?_
            intro I6 h16 S16
            (try k_fold)
            walk_at "go"
            refine nextAttr_S S16 (.head _) ?_
            intro g6 Wm h17 k6 hWm S17
            (try k_fold)
            have hsl := hst.len
            walk_at "go"
            refine appendU_S S17 (.tail (.tail (.tail .head))) (by rw [sizeLine_eq]; lia) ?_
            intro h18 S18
            (try k_fold)
            replace S18 : Mine.St g6 L1 ((I6, itO nd.l 0) :: (M, mo4) :: (Zs, so5) :: (J, lstO (its ++ [Value.ref Wm]) (ep3 + 1)) :: (K, lstO stk ep4) :: ((ents ++ (news ++ [(I, o3)])) ++ frs4)) h18 m4 := S18
            walk_at "go"
            refine PyProof.Rows.len_list (items := stk.toArray) ⟨_, S18.nw (K, lstO stk ep4) (by walk_at "mem"), rfl, _, rfl⟩ (by rw [List.size_toArray]; lia) ?_
            walk_at "go"
            refine dsetU_S (news' := fun mo' => (I6, itO nd.l 0) :: (M, mo') :: (Zs, so5) :: (J, lstO (its ++ [Value.ref Wm]) (ep3 + 1)) :: (K, lstO stk ep4) :: ((ents ++ (news ++ [(I, o3)])) ++ frs4)) S18 (fun _ => .tail .head) hmd (by rw [sizeLine_eq]; lia) ?_
            intro h19 mo6 S19 hmd6
            (try k_fold)
            have hcg : c ∉ st4.map (·.1) := fun q => hcs ((hD4.mem c).mpr (.inl q))
            rw [hst.stored hcg] at hmd6
            walk_at "go"
            refine appendU_S S19 (.tail (.tail (.tail (.tail .head)))) (by rw [sizeLine_eq]; lia) ?_
            intro h20 S20
            (try k_fold)
            replace S20 := S20.perm (List.perm_middle (l₁ := [(M, mo6), (Zs, so5), (J, lstO (its ++ [Value.ref Wm]) (ep3 + 1)), (K, lstO (stk ++ [Value.str ⟨#[c]⟩ tc]) (ep4 + 1))])).symm
            walk_at "go"
            obtain ⟨hD5, hO5, hw5⟩ := dfs_push hD4 hCh (nd_nodup hd) hcn hcs
            refine ⟨g6, (c, 0) :: st4, (I6, itO nd.l 0) :: ents, its ++ [Value.ref Wm], stk ++ [Value.str ⟨#[c]⟩ tc], _, mo6, so5, ep3 + 1, ep4 + 1, c :: seen4, fin4, m4, frs4, h20, _, rfl, k6, Up.refl _, S20, .cons hWm (k6 _ _ m24) (by rw [su_of hnd]; exact hs) (by rw [List.size_toArray]; lia) (hst.mono k6), hmd6, hso5, hD5, hO5, Nat.le_of_lt hw5, ?_, fun x hx => .tail _ (hsub x hx), f1, f2, f3, f4, f5⟩
            rcases hor with h | h
            · exact .tail _ h
            · rw [h]; exact .head _
        · cases fl with
          | next =>
            obtain ⟨g5, st5, ents5, its5, stk5, kvs5, mo5, so5, ep5, ep6, seen5, fin5, m5, frs5, h15, tk15, hq325_0, k5, hu5, S15, hst5, hmd5, hso5, hD5, hO5, hw5, hc05, hsub5, j1, j2, j3, j4, j5⟩ := hfl
            subst hq325_0
            walk1
            refine while_S (L := L1) (frs := frs5) (news := (M, mo5) :: (Zs, so5) :: (J, lstO its5 ep5) :: (K, lstO stk5 ep6) :: (ents5 ++ (news ++ [(I, o3)])))
              (fun n g' m' news' => CyR w (suOf (absN nds)) (nds.map (·.c)) M Zs J K N (news ++ [(I, o3)]) seen5 so5 (wt (suOf (absN nds)) (nds.map (·.c)) seen4 st4) n g' m' news')
              ?_ (n := wt (suOf (absN nds)) (nds.map (·.c)) seen5 st5) S15 ⟨st5, ents5, its5, stk5, kvs5, mo5, ep5, ep6, fin5, rfl, rfl, hst5, hmd5, hD5, hO5, hw5, j1, j2, j3, j4, j5⟩
            intro n7 g7 m7 news7 frs7 h16 tk16 hJ k7 hu7 S16
            (try k_fold)
            obtain ⟨st6, ents6, its6, stk6, kvs6, mo6, ep7, ep8, fin6, hq335_0, hq335_1, hst6, hmd6, hD6, hO6, hw6, p1, p2, p3, p4, p5⟩ := hJ
            subst hq335_0
            subst hq335_1
            have hdl6 := dinv_len hD6
            rw [List.length_map] at hdl6
            have hsl6 := hst6.len
            walk_at "go"
            refine wpAny_truthy_list (items := stk6.toArray) ⟨_, S16.nw (K, lstO stk6 ep8) (by walk_at "mem"), rfl, _, rfl⟩ (by rw [List.size_toArray]; lia) ?_
            cases hst6 with
            | nil =>
              simp only [List.isEmpty_toArray, List.isEmpty_nil, Bool.not_true, Bool.false_eq_true, if_false]
              walk_at "go"
              (try dsimp only)
              refine wpAny_execs_nil ?_
              refine ⟨g7, _, ((M, mo6) :: (Zs, so5) :: (J, lstO [] ep7) :: (K, lstO [] ep8) :: news), frs7, _, _, rfl, (k4.trans k5).trans k7, (hu4.trans hu5).trans hu7, S16, mo6, so5, ep7, ep8, seen5, fin6, rfl, hmd6, hso5, hD6, htk seen5 hsub5 hc05, p1, p2, p3, p4, p5⟩
            | cons q1 q2 q3 q4 hr =>
              rename_i u j I6 l6 W6 vs6 ep9 i6 t6 u6 r6 es6 its7 stk7 kvs7
              have he : (!(stk7 ++ [Value.str ⟨#[u]⟩ t6]).toArray.isEmpty) = true := by simp
              simp only [he, if_true]
              (first | k_unfold | dsimp only [qk] | skip)
              (try dsimp only)
              (try simp only [if_true])
              walk1
              refine wpAny_Try_except ?_
              walk_at "go"
              have hW7 := S16.keep _ _ q1
              refine callWithMw0 hW7 (callMw hW7 ?_)
              have S17 := S16.perm (List.perm_middle (l₁ := [(M, mo6), (Zs, so5), (J, lstO (its7 ++ [.ref W6]) ep7), (K, lstO (stk7 ++ [Value.str ⟨#[u]⟩ t6]) ep8)]))
              cases hv : (suOf (absN nds) u)[j]? with
              | some v =>
                obtain ⟨tv, hvv⟩ := signs_some q3 hv
                refine lin_item (i := j) (items := vs6.toArray) (S17.nw _ (.head _)) ⟨_, S17.keep _ _ q2, rfl, _, rfl⟩ (by simpa using hvv) ?_
                intro h17 hsb17 hI17
                (try k_fold)
                have S18 := S17.turn hsb17 hI17
                walk_at "go"
                rename_i h18 S19
                obtain ⟨hCh8, hw8⟩ := dfs_next (seen := seen5) (ns := nds.map (·.c)) hO6 hv
                have hcn8 : v ∈ nds.map (·.c) := suOf_in hin (List.mem_of_getElem? hv)
                (try dsimp only)
                refine wpAny_execs_nil ?_
                have S20 := S19.perm (List.perm_middle (l₁ := [(M, mo6), (Zs, so5), (J, lstO (its7 ++ [.ref W6]) ep7), (K, lstO (stk7 ++ [Value.str ⟨#[u]⟩ t6]) ep8)])).symm
                refine ⟨_, g7, (upd m7 (PySem.Str.ofString "node") (Value.str ⟨#[v]⟩ tv)), (M, mo6) :: (Zs, so5) :: (J, lstO (its7 ++ [.ref W6]) ep7) :: (K, lstO (stk7 ++ [Value.str ⟨#[u]⟩ t6]) ep8) :: (((I6, itO l6 (j + 1)) :: es6) ++ (news ++ [(I, o3)])), frs7, _, _, Nat.lt_of_lt_of_le hw8 hw6, rfl, k5.trans k7, hu5.trans hu7, S20,
                  (u, j + 1) :: r6, (I6, itO l6 (j + 1)) :: es6, its7 ++ [.ref W6], stk7 ++ [Value.str ⟨#[u]⟩ t6], _, mo6, so5, ep7, ep8, seen5, fin6, v, tv, rfl, rfl, .cons q1 q2 q3 q4 hr, hmd6, hso5, dfs_inv_next hD6, hCh8, hcn8, .inl hc05, hsub5, p1, p2, p3, p4, p5, rfl⟩
              | none =>
                refine lin_end (i := j) (items := vs6.toArray) Z1.hand (S17.nw _ (.head _)) ⟨_, S17.keep _ _ q2, rfl, _, rfl⟩ (signs_none q3 hv) ?_
                intro hA hB e9 t9 hs1 hs2 ne1 ne2 het he9 ht9
                (try k_fold)
                refine stop_S (news := (M, mo6) :: (Zs, so5) :: (J, lstO (its7 ++ [.ref W6]) ep7) :: (K, lstO (stk7 ++ [Value.str ⟨#[u]⟩ t6]) ep8) :: (es6 ++ (news ++ [(I, o3)]))) B4 (k5.trans k7) (let ⟨l, hl, _⟩ := Z.frames; ⟨l, Around.frames_deeper hl⟩) rfl (Z1.up (((hu3.trans hu4).trans hu5).trans hu7)) S17 hs1 hs2 ne1 ne2 het he9 ?_ (by k_dflt k_is)
                intro frs8 h18 hu8 S18
                (try k_fold)
                simp only [List.length_cons] at hdl6 hsl6
                walk_at "go"
                refine pop_S (ys := stk7) (y := Value.str ⟨#[u]⟩ t6) (news' := fun ep' => ((M, mo6) :: (Zs, so5) :: (J, lstO (its7 ++ [.ref W6]) ep7) :: (K, lstO stk7 ep') :: (es6 ++ (news ++ [(I, o3)]))) ++ frs8) S18 (fun _ => .tail (.tail (.tail .head))) (by rw [sizeLine_eq]; lia) ?_
                intro ep10 h19 S19
                (try k_fold)
                walk_at "go"
                have hat := (Stk.cons (j := j) (I := I6) (u := u6) (t := t6) q1 q2 q3 q4 hr).at hD6.nd u
                refine ddelU_S (news' := fun mo' => ((M, mo') :: (Zs, so5) :: (J, lstO (its7 ++ [.ref W6]) ep7) :: (K, lstO stk7 ep10) :: (es6 ++ (news ++ [(I, o3)]))) ++ frs8) S19 (fun _ => .head) hmd6 (by rw [sizeLine_eq]; lia) (by rw [hat.1]; simp) ?_
                intro h20 mo9 S20 hmd9
                (try k_fold)
                rw [without_snoc] at hmd9
                · walk_at "go"
                  refine pop_S (ys := its7) (y := Value.ref W6) (news' := fun ep' => ((M, mo9) :: (Zs, so5) :: (J, lstO its7 ep') :: (K, lstO stk7 ep10) :: (es6 ++ (news ++ [(I, o3)]))) ++ frs8) S20 (fun _ => .tail (.tail .head)) (by rw [sizeLine_eq]; lia) ?_
                  intro ep11 h21 S21
                  (try k_fold)
                  walk_at "go"
                  obtain ⟨hD9, hO9, hw9⟩ := dfs_pop (seen := seen5) (ns := nds.map (·.c)) hD6 hO6 hv
                  (try dsimp only)
                  refine ⟨_, g7, _, (M, mo9) :: (Zs, so5) :: (J, lstO its7 ep11) :: (K, lstO stk7 ep10) :: (es6 ++ (news ++ [(I, o3)])), frs8, _, _, hw9, rfl, Sub.refl _, hu8, S21,
                    r6, es6, its7, stk7, kvs7, mo9, ep11, ep10, u :: fin6, rfl, rfl, hr, hmd9, hD9, hO9, Nat.le_trans (Nat.le_of_lt hw9) hw6, p1, p2, p3, p4, p5⟩
                · intro kv hm q
                  (try k_fold)
                  obtain ⟨x, hx, e⟩ := hr.keys kv hm
                  rw [e] at q
                  have := one_inj q
                  subst this
                  have hn := hD6.nd
                  rw [List.map_cons, List.nodup_cons] at hn
                  exact hn.1 hx
          | ret v => exact hfl
          | brk => exact hfl.elim
          | cont => exact hfl.elim
      · exact ⟨[], [], [], [], [], mo, so, ep1, ep2, seen, fin, c0, t, rfl, rfl, .nil, hmo, hso, hD0, trivial, List.mem_of_getElem? hc0, .inr rfl, fun _ h => h, e1, e2, e3, e4, e5, rfl⟩
  · intro g3 m3 news3 frs3 h12 tk12 hInv k3 hu3 S12
    (try k_fold)
    obtain ⟨mo, so, ep1, ep2, seen, fin, hq419_0, hmo, hso, hD0, hse, e1, e2, e3, e4, e5⟩ := hInv
    subst hq419_0
    walk_at "go"
    obtain ⟨frs5, hu5, hS⟩ := leave (news' := (M, mo) :: (Zs, so) :: (J, lstO [] ep1) :: (K, lstO [] ep2) :: news) Lb S12 hu3
    refine hret .none g3 frs5 _ _ (.inl ⟨rfl, fin, dfs_end hD0 fun c hc => hse c ?_⟩) k3 hu5 hS.drop.drop.drop.drop
    rw [List.take_of_length_le (by rw [hkl, List.length_map]; exact Nat.le_refl _)]
    exact hc
  · exact ⟨mo, so, 0, 0, [], [], rfl, md9, so7, dfs_start _, by simp, rfl, rfl, rfl, rfl, rfl⟩
end
end Mine

end
section
set_option maxHeartbeats 2000000
open PySem PySem.W PySem.W.X PyProof.Rows PySem.Calls PySem.Spec PySem.Builtin PySem.Builtin.Str
namespace Mine
section
variable {prog : Program} {w : World} {mg mb : PySem.Str → Option Value} {A : Around} {E : Value → Shared → Prop} {s : Shared} {g g₀ : Heap} {L a d l : Addr} {m : PySem.Str → Option Value} {news : List (Addr × Obj)} {c : Nat} {t u : Tok} {n : Int} {Q : Value → Shared → Prop} {expr : Bool} {o : Obj} {kvs : List (PySem.Str × Value)}
theorem getNp_B (S : Mine.St g L news s.heap m) (B : Bs w mg mb g₀) (k : Sub g₀ g)
    (hA : g₀.get? a = some (ndO d l c t n u)) (hD : g₀.get? d = some (dictOf [] 0)) (h : Q (.int n u) { s with toks := s.toks + 1 }) :
    wpAny (model prg w) A (getAttr (.ref a) (PySem.Str.ofString "npredecessors") expr) Q E s := by
  k_dflt (refine' getSlot_S S B k (instB_S S (k _ _ hA) (k _ _ hD)) ?hg ?hc ?ha ?hn ?ht ?hp ?hv ?hh h; (case hg => k_is); (case hc => k_is); (case ha => k_is); (case hn => k_is); (case ht => k_is); (case hp => k_is); (case hv => rfl); (case hh => rfl))
theorem getNode_B (S : Mine.St g L news s.heap m) (B : Bs w mg mb g₀) (k : Sub g₀ g)
    (hA : g₀.get? a = some (ndO d l c t n u)) (hD : g₀.get? d = some (dictOf [] 0)) (h : Q (.str ⟨#[c]⟩ t) { s with toks := s.toks + 1 }) :
    wpAny (model prg w) A (getAttr (.ref a) (PySem.Str.ofString "node") expr) Q E s := by
  k_dflt (refine' getSlot_S S B k (instB_S S (k _ _ hA) (k _ _ hD)) ?hg ?hc ?ha ?hn ?ht ?hp ?hv ?hh h; (case hg => k_is); (case hc => k_is); (case ha => k_is); (case hn => k_is); (case ht => k_is); (case hp => k_is); (case hv => rfl); (case hh => rfl))
theorem valuesM_S {pl : Sem Bool} {Q : Value × List Value → Shared → Prop} (S : Mine.St g L news s.heap m) (e : g.get? d = some o) (hd : o.IsDictOf (PySem.strKind prog w) kvs) (h : Q (.builtin "dict.values", [.ref d]) s) : wpAny (model prog w) A (getMethod (.ref d) "values" pl) Q E s :=
  have hD : s.heap.DictOf (PySem.strKind prog w) d kvs := Heap.dictOf_iff.mpr ⟨o, S.keep _ _ e, hd⟩
  getMethod_builtin hD.typeIs PySem.F.plainAttrs_dict PySem.F.slot_dict_values PySem.F.type_dict_values hD.mapOf.noDict h
theorem values_S (S : Mine.St g L news s.heap m) (e : g.get? d = some o) (hd : o.IsDictOf (PySem.strKind prog w) kvs) (lo : (d == sysModules) = false)
    (h : ∀ g' v h', Sub g g' → g'.get? v = some { cls := .type "dict_values", data := .fields #[.ref d] } → Mine.St g' L news h' m → Q (.ref v) { s with heap := h' }) : wpAny (model prog w) A (call (.builtin "dict.values") [.ref d]) Q E s := by
  have hD : s.heap.DictOf (PySem.strKind prog w) d kvs := Heap.dictOf_iff.mpr ⟨o, S.keep _ _ e, hd⟩
  refine call_meetsIn PySem.F.slot_dict_values hD.typeIs PySem.F.entry_dict_values (PySem.F.args_dict_values_1 _) (meets_dict_values (PySem.strKind prog w) d lo) ⟨⟨kvs, hD⟩, ?_⟩
  obtain ⟨g', k', S', e'⟩ := S.push0 { cls := .type "dict_values", data := .fields #[.ref d] } rfl
  exact h g' _ _ k' e' S'
theorem iterV_S {v : Addr} (S : Mine.St g L news s.heap m) (e : g₀.get? d = some o) (ev : g₀.get? v = some { cls := .type "dict_values", data := .fields #[.ref d] }) (kk : Sub g₀ g) (hd : o.IsDictOf (PySem.strKind prog w) kvs)
    (h : ∀ I oI ob h', It prog w I g kvs.length (fun i v => ∃ k, kvs[i]? = some (k, v)) ob → ob 0 oI → Mine.St g L ((I, oI) :: news) h' m → Q (.ref I) { s with heap := h' }) : wpAny (model prog w) A (pyIter (.ref v)) Q E s := by
  obtain ⟨ep, ha⟩ := KdkAt.of hd
  have eg := kk _ _ e
  have hs := S.keep _ _ eg
  have hne : d ≠ s.heap.objs.size := Nat.ne_of_lt (Heap.lt_size hs)
  refine wpAny_pyIter_values (ep := ep) ⟨_, S.keep _ _ (kk _ _ ev), rfl, rfl⟩ (ha.dictAt hs) ?_
  have W := It.of_walks (I := s.heap.objs.size) (g := g) (fun A hA => Walks.dictValues (knd := PySem.strKind prog w) hA s.heap.objs.size d hne kvs ep) (fun i h st => by obtain ⟨o, e, _⟩ := st.1; exact ⟨o, e⟩) (fun b hb => by
    rcases List.mem_cons.mp hb with rfl | hb
    · exact .inl rfl
    · rw [List.mem_singleton.mp hb]; exact .inr ⟨o, eg⟩)
  exact h _ _ _ _ W (fun h k' e' => ⟨⟨_, e', rfl, rfl⟩, ha.dictAt (k' _ _ eg)⟩) (S.push _ rfl)
end
end Mine
end
local macro_rules | `(tactic| walk_at "getMethod ref") => return sw (gms vref "values") (rk ``valuesM_S "Ass?" "")
local macro_rules | `(tactic| walk_at "call builtin:dict.values") => return rk ``values_S "Asss?" "Wiiiiii"
section
set_option maxHeartbeats 2000000
open PySem PySem.W PySem.W.X PyProof.Rows PySem.Calls PySem.Spec PySem.Builtin PySem.Builtin.Str
namespace Mine
section
variable {w : World} {mg mb : PySem.Str → Option Value} {A : Around} {g : Heap} {L : Addr} {m : PySem.Str → Option Value} {news frs : List (Addr × Obj)} {s : Shared} {tk t2 t3 : Tok}
    {Q E : Value → Shared → Prop}
/-- sorter.prepare() -/
theorem c_prepare {X D N : Addr} {o : Obj} {nds : List Nd} {es : List (Addr × Obj)} {t1 t2' t3' t4 : Tok} {po fi : Value} {n : Nat} (B : Bs w mg mb g)
   (hd : o.IsDictOf (PySem.strKind prg w) (kvsOf nds)) (hN : NdE nds es) (lo : (N == sysModules) = false) (hlen : nds.length ≤ 1000)
   (hin : ∀ x ∈ absN nds, x.2.2.length ≤ 1000 ∧ ∀ c ∈ x.2.2, (nds.find? fun y => y.c == c).isSome = true)
   (S : Mine.St g L (((X, instObj 192 D) :: (D, soD w t1 t2' t3' t4 N .none po fi n) :: (N, o) :: (es ++ news)) ++ frs) s.heap m) (Z : Ar A L frs 5)
   (hret : ∀ g' es' R ys ep frs' h' tk', (∃ fin, Topo (suOf (absN nds)) fin ∧ ∀ c ∈ nds.map (·.c), c ∈ fin) → SignsAt ys (rootsG (absN nds)) → NdB g' nds es' → Sub g g' → Up frs frs' →
     Mine.St g' L (((X, instObj 192 D) :: (D, soD w t1 t2' t3' t4 N (.ref R) po fi n) :: (R, lstO ys ep) :: (N, o) :: (es' ++ news)) ++ frs') h' m → Q .none { s with heap := h', toks := tk' })
   (hexc : ∀ g' es' R ys ep frs' h' tk' e t vs B' C, Ring (suOf (absN nds)) (nds.map (·.c)) C → SignsAt ys (rootsG (absN nds)) → NdB g' nds es' → Sub g g' → Up frs frs' →
     Fly A B' e (.ref 110) t vs h' → Sub g' B' → (∀ p ∈ (X, instObj 192 D) :: (D, soD w t1 t2' t3' t4 N (.ref R) po fi n) :: (R, lstO ys ep) :: (N, o) :: (es' ++ news), B'.get? p.1 = some p.2) →
     Mine.St g' L (((X, instObj 192 D) :: (D, soD w t1 t2' t3' t4 N (.ref R) po fi n) :: (R, lstO ys ep) :: (N, o) :: (es' ++ news)) ++ frs') h' m → E (.ref e) { s with heap := h', toks := tk' }) :
   wpAny (model prg w) A (call (.ref 147) [.ref X]) Q E s := by
  obtain ⟨g1, es1, k1, hNB, S1⟩ := hN.lay (pre := [(X, instObj 192 D), (D, soD w t1 t2' t3' t4 N .none po fi n), (N, o)]) (post := news ++ frs) (by simpa only [List.append_assoc, List.cons_append, List.nil_append] using S)
  have S2 : Mine.St g1 L (((N, o) :: es1) ++ (((X, instObj 192 D) :: (D, soD w t1 t2' t3' t4 N .none po fi n) :: news) ++ frs)) s.heap m := S1.perm (by
    have h := (List.perm_append_comm (l₁ := [(X, instObj 192 D), (D, soD w t1 t2' t3' t4 N .none po fi n)]) (l₂ := (N, o) :: es1)).append_right (news ++ frs)
    simpa only [List.append_assoc, List.cons_append, List.nil_append] using h)
  obtain ⟨g2, k2, S3, hb2⟩ := S2.lay
  have hNo : g2.get? N = some o := hb2 _ (.head _)
  have hes : ∀ p ∈ es1, g2.get? p.1 = some p.2 := fun p hp => hb2 p (.tail _ hp)
  have B2 := (B.keeps k1).keeps k2
  walk_at "enter"; walk_at "go"
  rename_i oL L1 h1 Lb S4 Z1 g3 v h2 k3 ev S5
  have k23 := (k1.trans k2).trans k3
  have hkl : (kvsOf nds).length = nds.length := by unfold kvsOf; rw [List.length_map]
  have hal : (absN nds).length = nds.length := by unfold absN; rw [List.length_map]
  refine iterV_S S5 (k3 _ _ hNo) ev (Sub.refl _) hd ?_
  intro I oI ob h5 W h0 S6
  (try k_fold)
  refine ⟨I, g3, L1, _, ((X, instObj 192 D) :: (D, soD w t1 t2' t3' t4 N .none po fi n) :: news), ((L, oL) :: frs), _, _, _, ob, oI, (fun j ys g' news' => g3 = g' ∧ (X, instObj 192 D) :: (D, soD w t1 t2' t3' t4 N .none po fi n) :: news = news' ∧ ys.length ≤ j ∧ SignsAt ys (rootsG ((absN nds).take j))), rfl, Z1, W, by rw [hkl, sizeLine_eq]; lia, ?_, S6, h0, ⟨rfl, rfl, Nat.le_refl _, .nil⟩, fun _ => rfl, ?_, ?_⟩
  · rintro j ws g' news' ⟨_, _, hj, _⟩; exact hj
  · intro C2 D2 oL2 j v2 ws ep2 o4 g9 news9 fs9 h12 tk12 m9 hb9 hj hPv hInv k9 hu9 Z9 S12
    (try k_fold)
    obtain ⟨rfl, rfl, hjl, hsg⟩ := hInv
    clear k9
    obtain ⟨k, hkv⟩ := hPv
    obtain ⟨nd, hnd, rfl⟩ : ∃ nd, nds[j]? = some nd ∧ v2 = .ref nd.a := by
      unfold kvsOf at hkv
      rw [List.getElem?_map] at hkv
      obtain ⟨nd, hnd, e⟩ := Option.map_eq_some_iff.mp hkv
      exact ⟨nd, hnd, (Prod.mk.inj e).2.symm⟩
    have hf : nds.find? (fun y => y.c == nd.c) = some nd := by
      cases hq : nds.find? (fun y => y.c == nd.c) with
      | none => exact absurd (List.find?_eq_none.mp hq nd (List.mem_of_getElem? hnd)) (by simp)
      | some y => rw [find_uniq (nd_nodup hd) hq nd (List.mem_of_getElem? hnd) rfl]
    obtain ⟨d4, t5, u5, vs, ep5, hs, hc4, m1, m2, m3', _⟩ := (hNB.pick (nd_nodup hd) hf)
    have mA := k3 _ _ (hes _ m1)
    have mD := k3 _ _ (hes _ m3')
    have hrt : rootsG ((absN nds).take (j + 1)) = rootsG ((absN nds).take j) ++ (if nd.np == 0 then [nd.c] else []) := by
      unfold rootsG
      rw [List.take_add_one, List.filter_append, List.map_append]
      congr 1
      unfold absN
      rw [List.getElem?_map, hnd]
      show ((List.filter _ [(nd.c, nd.np, nd.su)]).map _) = _
      rw [List.filter_cons]
      split <;> rfl
    walk_at "go"
    rename_i h13 S13
    refine getNp_B S13 (B2.keeps k3) (Sub.refl _) mA mD ?_
    walk_at "go"
    · rename_i hz
      refine getNode_B S13 (B2.keeps k3) (Sub.refl _) mA mD ?_
      refine ⟨_, _, _, _, _, _, rfl, Sub.refl _, Up.refl _, S13, rfl, rfl, by rw [List.length_append, List.length_singleton]; lia, ?_⟩
      rw [hrt, if_pos (by simpa using hz)]
      exact signs_append hsg (.cons _ _ .nil)
    · rename_i hz
      refine ⟨_, _, _, _, _, _, rfl, Sub.refl _, Up.refl _, S13, rfl, rfl, by lia, ?_⟩
      rw [hrt, if_neg (by simpa using hz), List.append_nil]
      exact hsg
  · intro D2 ys ep2 g9 news9 frs9 h12 tk12 hInv k9 hu9 S12
    (try k_fold)
    obtain ⟨rfl, rfl, hjl, hsg⟩ := hInv
    clear k9
    rw [hkl, ← hal, List.take_length] at hsg
    walk_at "go"
    refine setRd_S S12 (B2.keeps k3) (Sub.refl _) (.tail _ (.head _)) (.tail (.tail .head)) ?_
    intro h13 S13
    (try k_fold)
    walk_at "go"
    obtain ⟨g4, k4, S14, hb4⟩ := S13.lay (es := [(D2, lstO ys ep2), (X, instObj 192 D), (D, soD w t1 t2' t3' t4 N (.ref D2) po fi n)]) (news := news ++ frs9)
    have kk := (k1.trans k2).trans (k3.trans k4)
    have hall : ∀ p ∈ (X, instObj 192 D) :: (D, soD w t1 t2' t3' t4 N (.ref D2) po fi n) :: (D2, lstO ys ep2) :: (N, o) :: es1, g4.get? p.1 = some p.2 := fun p hp => by
      rcases List.mem_cons.mp hp with rfl | hp
      · exact hb4 _ (.tail _ (.head _))
      rcases List.mem_cons.mp hp with rfl | hp
      · exact hb4 _ (.tail _ (.tail _ (.head _)))
      rcases List.mem_cons.mp hp with rfl | hp
      · exact hb4 _ (.head _)
      rcases List.mem_cons.mp hp with rfl | hp
      · exact (k3.trans k4) _ _ hNo
      · exact (k3.trans k4) _ _ (hes p hp)
    have hD2 : g3.get? D2 = none := S13.ng (D2, lstO ys ep2) (.head _)
    have hnone : ∀ p ∈ (X, instObj 192 D) :: (D, soD w t1 t2' t3' t4 N (.ref D2) po fi n) :: (D2, lstO ys ep2) :: (N, o) :: es1, g1.get? p.1 = none := fun p hp => by
      rcases List.mem_cons.mp hp with rfl | hp
      · exact S1.ng (X, instObj 192 D) (.head _)
      rcases List.mem_cons.mp hp with rfl | hp
      · exact S1.ng (D, soD w t1 t2' t3' t4 N .none po fi n) (.tail _ (.head _))
      rcases List.mem_cons.mp hp with rfl | hp
      · cases q : g1.get? D2 with
        | none => rfl
        | some x => rw [(k2.trans k3) _ _ q] at hD2; cases hD2
      rcases List.mem_cons.mp hp with rfl | hp
      · exact S1.ng _ (.tail _ (.tail _ (.head _)))
      · exact S1.ng p (List.mem_append_right _ (List.mem_append_left _ hp))
    have hnd : (((X, instObj 192 D) :: (D, soD w t1 t2' t3' t4 N (.ref D2) po fi n) :: (D2, lstO ys ep2) :: (N, o) :: es1).map (·.1)).Nodup := by
      have n1 := S1.nd
      have n2 := S13.nd
      simp only [List.cons_append, List.nil_append, List.map_cons, List.map_append, List.nodup_cons, List.mem_cons, List.mem_append, not_or, List.nodup_append] at n1 n2 ⊢
      have nN : D2 ≠ N := fun q => by rw [q, k3 _ _ hNo] at hD2; cases hD2
      have nE : D2 ∉ es1.map (·.1) := fun q => by
        obtain ⟨p, hp, e⟩ := List.mem_map.mp q
        rw [← e, k3 _ _ (hes p hp)] at hD2; cases hD2
      refine ⟨⟨n1.1.1, fun q => n2.1.1 q.symm, n1.1.2.1, n1.1.2.2.1⟩, ⟨fun q => n2.1.2.1 q.symm, n1.2.1.1, n1.2.1.2.1⟩, ⟨nN, nE⟩, n1.2.2.1.1, n1.2.2.2.1⟩
    have back : ∀ {g5 : Heap} {frs6 : List (Addr × Obj)} {h6 : Heap}, Mine.St g5 L (news ++ frs6) h6 m → Sub g4 g5 → Mine.St g1 L (((X, instObj 192 D) :: (D, soD w t1 t2' t3' t4 N (.ref D2) po fi n) :: (D2, lstO ys ep2) :: (N, o) :: (es1 ++ news)) ++ frs6) h6 m := fun S6 k6 => by
      have := S6.unlay ((k2.trans (k3.trans k4)).trans k6) _ hnd hnone (fun p hp => k6 _ _ (hall p hp))
      simpa only [List.append_assoc, List.cons_append] using this
    refine c_cycle (R := D2) (es := es1) (news := news) (frs := frs9) (B.keeps kk) (hb4 (X, instObj 192 D) (.tail _ (.head _))) (hb4 (D, _) (.tail _ (.tail _ (.head _)))) ((k3.trans k4) _ _ hNo) hd (hNB.mono (k2.trans (k3.trans k4))) (fun p hp => (k3.trans k4) _ _ (hes p hp)) lo hlen hin S14 ((Z1.up hu9).le (by decide)) ?_
    intro v g5 frs5 h14 tk14 hv k5 hu5 S15
    (try k_fold)
    rcases hv with ⟨rfl, fin, hT⟩ | ⟨a, vs, ep5, C, rfl, ha, hne, hvl, hR⟩
    · walk_at "go"
      rename_i h15 S16
      obtain ⟨frs6, hu6, hS⟩ := leave (news' := news) Lb S16 (hu9.trans hu5)
      exact hret g1 es1 D2 ys ep2 frs6 _ _ ⟨fin, hT⟩ hsg hNB k1 hu6 (back hS k5)
    · walk_at "go"
      rename_i h15 S16
      refine wpAny_truthy_list (items := vs.toArray) ⟨_, S16.keep _ _ ha, rfl, _, rfl⟩ (by rw [List.size_toArray]; lia) ?_
      have he : (!vs.toArray.isEmpty) = true := by
        cases vs with
        | nil => exact absurd rfl hne
        | cons _ _ => rfl
      rw [he]
      have B5 := B.keeps (kk.trans k5)
      have k45 := k4.trans k5
      walk_at "go"
      refine raise_S 110 (B.keeps (kk.trans k5)) (by kernel_rfl) Z1.hand ?_
      walk_at "go"
      refine exc_S (C := 110) (N := 109) (by assumption) (B.keeps (kk.trans k5)) (by walk_at "sub") PySem.F.excBase_ValueError (by k_dflt k_is) (by kernel_rfl) (by kernel_rfl) (by show 2 ≤ sizeLine; decide) ?_
      intro e t h17 S17
      (try k_fold)
      refine ⟨e, t, g5, L1, _, _, rfl, Sub.refl _, S17, ?_⟩
      refine leave_exc (news := news) Lb Z Z1 (hu9.trans hu5) rfl S17 ?_
      intro h2 t2 frs2 B2' hu2 S18 F2 kg kn
      (try k_fold)
      refine hexc g1 es1 D2 ys ep2 frs2 h2 _ e t2 _ B2' C hR hsg hNB k1 hu2 F2 (((k2.trans (k3.trans k4)).trans k5).trans kg) (fun p hp => ?_) (back S18 k5)
      have hp' : p ∈ ((X, instObj 192 D) :: (D, soD w t1 t2' t3' t4 N (.ref D2) po fi n) :: (D2, lstO ys ep2) :: (N, o) :: es1) ++ news := hp
      rcases List.mem_append.mp hp' with hp | hp
      · exact kg _ _ (k5 _ _ (hall p hp))
      · exact kn p hp
end
end Mine

end
section
set_option maxHeartbeats 2000000
open PySem PySem.W PySem.W.X PyProof.Rows PySem.Calls PySem.Spec PySem.Builtin PySem.Builtin.Str
namespace Mine
theorem star_S {prog : Program} {w : World} {A : Around} {E : Value → Shared → Prop} {s : Shared} {g : Heap} {L a : Addr} {m : PySem.Str → Option Value} {news : List (Addr × Obj)} {ws : List Value} {ep : Nat} {T : String} {o : Obj} {Q : List Value → Shared → Prop} (S : Mine.St g L news s.heap m) (ha : s.heap.get? a = some o) (hc : o.cls = .type T) (hd : o.data = .seq ws.toArray ep) (hT : T = "list" ∨ T = "tuple")
    (hz : ws.length ≤ sizeLine) (h : ∀ h', Mine.St g L news h' m → Q ws { s with heap := h' }) : StarOf (model prog w) A E (.ref a) Q s := by
  have hT' : s.TypeIs (.ref a) T := ⟨_, ha, hc⟩
  have z : wpAny (model prog w) A (collect (.ref a)) Q E s :=
    wpAny_collect_seq a hT ha hc hd (fun h' hk => h h' (S.keepsTo hk)) (by rw [List.size_toArray]; exact hz)
  unfold StarOf notIterableAtAll
  rcases hT with rfl | rfl
  · exact wpAny_bind (wpAny_specialOf hT' PySem.F.slot_list_iter.lookup (wpAny_pure ⟨rfl, z⟩))
  · exact wpAny_bind (wpAny_specialOf hT' PySem.F.slot_tuple_iter.lookup (wpAny_pure ⟨rfl, z⟩))
theorem pick_tail (v : Value) (us : List Value) : slicePick (v :: us).toArray (some 1) none none = us.toArray := by
  rw [slicePick_plain]
  have h1 : Option.elim (some (1 : Int)) 0 (clipAt (v :: us).toArray.size) = 1 := by
    show clipAt _ ((1 : Nat) : Int) = 1
    rw [clipAt_nat]; simp
  simp only [h1]
  apply Array.toList_inj.mp
  simp
section
variable {prog : Program} {w : World} {A : Around} {E : Value → Shared → Prop} {s : Shared} {g g₀ : Heap} {L x dx C f q X : Addr} {m mg mb : PySem.Str → Option Value} {news : List (Addr × Obj)} {name : PySem.Str} {es : List DictEntry} {n : Nat} {sl : Array (Option Value)} {Q : Value → Shared → Prop} {K : Frag}
theorem bound_S {expr : Bool} (S : Mine.St g L news s.heap m) (B : Bs w mg mb g₀) (k : Sub g₀ g) (hx : (x, (⟨.ref C, some dx, .plain, sl⟩ : Obj)) ∈ news) (hd : (dx, dictOf es n) ∈ news) (hg : plainGet (Kf w.params) C name = true) (hh : hasDictIn (Kf w.params) C = true) (ha : findIn (Kf w.params) (.ref C) name = some (some (.ref f))) (hf : isFn (Kf w.params) (.ref f) = true)
    (hgf : specialIn (Kf w.params) (.ref f) "__get__" = some (some (.builtin "function.__get__"))) (ht : takesIn (Kf w.params) (.ref f) = some false) (hc : copiedNames.contains name = false) (hl : getL name es = some none)
    (h : ∀ g' q h', Sub g g' → g'.get? q = some (methodObj (.ref f) (.ref x)) → Mine.St g' L news h' m → Q (.ref q) { s with heap := h', toks := s.toks + 1 }) : wpAny (model prog w) A (getAttr (.ref x) name expr) Q E s := by
  refine get_bind (inK S B k) (inst_S S hx hd) (plainGet_of hg).1 (findObj_fn hh ha hgf ht hc (by show lookIn name (dictOf es n) = _; rw [lookIn_dict, hl])) (plainGet_of hg).2
    (wpAny_call (fn_get (s := { s with toks := s.toks + 1 }) (inK S B k) (beq_iff_eq.mp hf) (handed_on rfl ?_)))
  obtain ⟨g', k', S', e⟩ := S.push0 (methodObj (.ref f) (.ref x)) rfl
  exact h g' _ _ k' e S'
theorem callBm {vs : List Value} (hb : s.heap.get? q = some (methodObj (.ref f) (.ref X)))
    (hq : codeAny (model prog w) A (.call (.ref f) ⟨.ref X :: vs, []⟩) (fun r s' => match r with | .ok (.ret v) => Q v s' | .ok _ => False | .error e => E e s') s) : wpAny (model prog w) A (call (.ref q) vs) Q E s := by
  refine wpAny_call (codeAny_of_tree ?_)
  show wpAny _ A.in1 (callAny (.ref q) ⟨vs, []⟩) _ _ _
  unfold callAny
  refine wpAny_bind (wpAny_load hb ?_)
  exact wpAny_pure ⟨rfl, hq⟩
theorem StarCall_ {M : Model} {env : Env} {o : PySem.Expr} {nm : PySem.Str} {apos pos : Pos} {args : List PySem.Expr} {Q : Value → Shared → Prop}
    (h : wpAny M A (PySem.eval o env) (fun ov s₁ => wpAny M A (getAttr ov nm true) (fun f s₂ => wpAny M A (callWith pos f [] (backTo pos (starEach args env)) []) Q E s₂) E s₁) E s)
    (he : PySem.eval (.Call (.Attribute o nm apos) args [] pos) env = (do
      let ov ← PySem.eval o env
      standAt apos.atName
      let x ← holding [ov] (do pure (← getAttr ov nm true, ([] : List Value)))
      callWith pos x.1 x.2 (backTo pos (starEach args env)) []) := by rfl) :
    wpAny M A (PySem.eval (.Call (.Attribute o nm apos) args [] pos) env) Q E s := by
  rw [he]
  refine wpAny_bind (wpAny_mono h (fun ov s₁ h₁ => wpAny_bind (wpAny_standAt (wpAny_bind (wpAny_holding (wpAny_bind (wpAny_mono h₁ (fun f s₂ h₂ => wpAny_pure ?_) fun _ _ x => x)))))) fun _ _ x => x)
  exact h₂
theorem callM_S2 {pos : Pos} {env : Env} {e : PySem.Expr} {rest : List PySem.Expr} (hf : fnIn K f = true)
    (h : wpAny (model prog w) A (spliced (backTo pos (starEach (e :: rest) env))) (fun vs s₁ => MethP K q f (.ref X) s₁.heap ∧ wpAny (model prog w) A (call (.ref q) vs) Q E s₁) E s)
    (he : starEach (e :: rest) env = (false, PySem.eval e env) :: starEach rest env := by rfl) (hst : (backTo pos (starEach rest env)).any (·.1) = true := by rfl) :
    wpAny (model prog w) A (callWith pos (.ref q) [] (backTo pos (starEach (e :: rest) env)) []) Q E s := by
  rw [he] at h ⊢
  exact ks_call (by show (false || (backTo pos (starEach rest env)).any (·.1)) = true; rw [hst]; rfl) (keeps_M hf) (evalArgs_plain h)
theorem callM_S1 {pos p : Pos} {env : Env} {e : PySem.Expr} (hf : fnIn K f = true)
    (h : wpAny (model prog w) A (PySem.eval e env) (fun v s₁ => StarOf (model prog w) A E v (fun vs s₂ => MethP K q f (.ref X) s₂.heap ∧ wpAny (model prog w) A (call (.ref q) vs) Q E s₂) s₁) E s)
    (he : starEach [.Starred e p] env = [(true, PySem.eval e env)] := by rfl) :
    wpAny (model prog w) A (callWith pos (.ref q) [] (backTo pos (starEach [.Starred e p] env)) []) Q E s := by
  rw [he]
  exact ks_call rfl (keeps_M hf) (ks_lone h)
end
theorem find_self_su {G : Gr} (hn : (keysG G).Nodup) {x : Nat × Int × List Nat} (hx : x ∈ G) : suOf G x.1 = x.2.2 := by
  unfold suOf
  induction G with
  | nil => cases hx
  | cons y G ih =>
    rw [keysG, List.map_cons, List.nodup_cons] at hn
    rw [List.find?_cons]
    rcases List.mem_cons.mp hx with rfl | hx
    · simp
    · have : (y.1 == x.1) = false := beq_eq_false_iff_ne.mpr fun q => hn.1 (by rw [q]; exact List.mem_map_of_mem hx)
      rw [this]
      exact ih hn.2 hx
theorem find_keys (nds : List Nd) (c : Nat) : (nds.find? fun y => y.c == c).isSome = true ↔ c ∈ keysG (absN nds) := by
  rw [← abs_any, any_key, decide_eq_true_iff]
theorem keys_abs (nds : List Nd) : keysG (absN nds) = nds.map (·.c) := by unfold keysG absN; rw [List.map_map]; rfl
theorem graph_in {rows : List (List Nat)} {nds : List Nd} (ha : absN nds = graphOf rows) {b : Nat} (hb : suB b (absN nds)) (hb2 : b ≤ 1000) : ∀ x ∈ absN nds, x.2.2.length ≤ 1000 ∧ ∀ c ∈ x.2.2, (nds.find? fun y => y.c == c).isSome = true := fun x hx => by
  refine ⟨Nat.le_trans (hb x hx) hb2, fun c hc => ?_⟩
  obtain ⟨h1, _, h3⟩ := graph_facts rows
  rw [find_keys, ha, h1]
  rw [ha] at hx
  rw [← find_self_su (by rw [h1]; exact names_nodup rows) hx, h3] at hc
  exact (edge_names (suR_mem.mp hc)).2
theorem edges_len : ∀ rows : List (List Nat), (∀ r ∈ rows, r.length ≤ 2) → (edges rows).length ≤ rows.length
  | [], _ => Nat.le_refl _
  | r :: rows, h => by
    have ih := edges_len rows fun r hr => h r (.tail _ hr)
    have := h r (.head _)
    unfold edges at ih ⊢
    rw [List.flatMap_cons, List.length_append, List.length_map, List.length_cons, List.length_tail]
    exact Nat.le_trans (Nat.add_le_add (Nat.sub_le_sub_right this 1) ih) (Nat.le_of_eq (Nat.add_comm _ _))
theorem inv_in {rows : List (List Nat)} (h2 : ∀ r ∈ rows, r.length ≤ 2) (hl : rows.length ≤ 1000) {nds : List Nd} (hk : keysG (absN nds) = namesOf rows) (hs : ∀ c, suOf (absN nds) c = suR rows c) : ∀ x ∈ absN nds, x.2.2.length ≤ 1000 ∧ ∀ c ∈ x.2.2, (nds.find? fun y => y.c == c).isSome = true := fun x hx => by
  have hn : (keysG (absN nds)).Nodup := by rw [hk]; exact names_nodup rows
  rw [← find_self_su hn hx, hs]
  refine ⟨?_, fun c hc => ?_⟩
  · unfold suR
    rw [List.length_map]
    exact Nat.le_trans (List.length_filter_le (fun e : Nat × Nat => e.1 == x.1) (edges rows)) (Nat.le_trans (edges_len rows h2) hl)
  · rw [find_keys, hk]; exact (edge_names (suR_mem.mp hc)).2
theorem perm_m {α : Type} (a b c d x : α) (e f : List α) : (a :: b :: c :: d :: (e ++ x :: f)).Perm (x :: a :: b :: c :: d :: (e ++ f)) := List.perm_middle (l₁ := a :: b :: c :: d :: e)
theorem paired_snoc {α β : Type} {F : α → β → Prop} {l₁ : List α} {l₂ : List β} (h : Paired F l₁ l₂) {a : α} {b : β} (hf : F a b) : Paired F (l₁ ++ [a]) (l₂ ++ [b]) := by
  induction h with
  | nil => exact .cons hf .nil
  | cons h _ ih => exact .cons h ih
theorem eqTup_S {prog : Program} {w : World} {A : Around} {E : Value → Shared → Prop} {s : Shared} {g : Heap} {L t e : Addr} {m : PySem.Str → Option Value} {news : List (Addr × Obj)} {ys zs : List Value} {cs ds : List Nat} {Q : Value → Shared → Prop} (S : Mine.St g L news s.heap m) (hu : A.units < cLine) (hT : g.get? t = some (tupObj ys)) (hE : g.get? e = some (tupObj zs)) (hs : SignsAt ys cs) (hz : SignsAt zs ds)
    (h : Q (.bool (decide (cs = ds))) s) : wpAny (model prog w) A (compareOp .Eq (.ref t) (.ref e)) Q E s := by
  have items : ∀ {vs : List Value} {l : List Nat}, SignsAt vs l → ItemsAre (PySem.strKind prog w) (l.map fun c => (⟨#[c]⟩ : PySem.Str)) vs := by
    intro vs l h
    (try k_fold)
    unfold SignsAt at h
    generalize l.map (fun c => (⟨#[c]⟩ : PySem.Str)) = xs at h
    induction h with
    | nil => exact .nil
    | cons y t _ ih => exact .cons (strKind_is prog w y t) ih
  have hx : IsTupleKey (PySem.strKind prog w) s.heap _ t := ⟨_, _, _, S.keep _ _ hT, rfl, rfl, items hs⟩
  have hy : IsTupleKey (PySem.strKind prog w) s.heap _ e := ⟨_, _, _, S.keep _ _ hE, rfl, rfl, items hz⟩
  have he : decide (cs.map (fun c => (⟨#[c]⟩ : PySem.Str)) = ds.map fun c => (⟨#[c]⟩ : PySem.Str)) = decide (cs = ds) := by
    rw [Bool.eq_iff_iff, decide_eq_true_iff, decide_eq_true_iff]
    constructor
    · exact fun q => List.map_inj_right (f := fun c => (⟨#[c]⟩ : PySem.Str)) (fun _ _ h => one_inj h) |>.mp q
    · intro q; rw [q]
  show wpAny (model prog w) A (richCompare .Eq (.ref t) (.ref e)) Q E s
  refine wpAny_richCompare_same_room (op := .Eq) hx.typeIs hy.typeIs PySem.F.slot_tuple_eq
      (wpAny_call_entry PySem.F.slot_tuple_eq hx.typeIs PySem.F.entry_tuple_eq (tuple_eq_tree hx hy ⟨_, rfl, (fun e => nomatch e), ?_⟩) (PySem.F.args_tuple_eq_2 _ _)) hu
  rw [he]; exact h
inductive GroupAt (g : Heap) (v : Value) (cs : List Nat) : Prop
  | mk (a : Addr) (t : Addr) (ys : List Value)
      (_ : v = .ref a) (_ : g.get? a = some (tupObj [.bool (!cs.isEmpty), .ref t, .bool (!cs.isEmpty)])) (_ : g.get? t = some (tupObj ys)) (_ : SignsAt ys cs) : GroupAt g v cs
theorem GroupAt.keeps {g g' : Heap} {v : Value} {cs : List Nat} (h : GroupAt g v cs) (k : Sub g g') : GroupAt g' v cs := let ⟨a, t, ys, h1, h2, h3, h4⟩ := h; ⟨a, t, ys, h1, k _ _ h2, k _ _ h3, h4⟩
/- what the rounds hold at their loops' heads -/
inductive RdO (w : World) (X D N T : Addr) (t1 t2 t3 t4 u1 u2 : Tok) (n : Nat) (news : List (Addr × Obj)) (rows : List (List Nat)) (k i : Nat) (m' : PySem.Str → Option Value) (news' : List (Addr × Obj)) : Prop
  | mk (nds : List Nd) (es : List (Addr × Obj)) (o : Obj) (b : Nat) (_ : news' = (X, instObj 192 D) :: (D, soD w t1 t2 t3 t4 N .none (.int 0 u1) (.int 0 u2) n) :: (N, o) :: (es ++ news)) (_ : o.IsDictOf (PySem.strKind prg w) (kvsOf nds)) (_ : NdE nds es) (_ : absN nds = (rows.take i).foldl addRow [])
      (_ : nds.length ≤ 2 * i) (_ : suB b (absN nds)) (_ : b ≤ i) (_ : m' "rows" = some (.ref T)) (t : Tok) (_ : m' "most" = some (.int k t)) (_ : m' "sorter" = some (.ref X)) : RdO w X D N T t1 t2 t3 t4 u1 u2 n news rows k i m' news'
inductive RdT (w : World) (X D N : Addr) (t1 t2 t3 t4 u1 u2 : Tok) (n : Nat) (news : List (Addr × Obj)) (rows : List (List Nat)) (k : Nat) (nds : List Nd) (o1 : Obj) (s : Shared) (L1 : Addr) (g3 : Heap) (frs3 : List (Addr × Obj)) (s' : Shared) : Prop
  | mk (ring : Bool) (g4 : Heap) (es4 : List (Addr × Obj)) (R : Addr) (ys : List Value) (ep5 : Nat) (frs4 : List (Addr × Obj)) (h4 : Heap) (tk4 : Nat) (m4 : PySem.Str → Option Value) (t5 : Tok) (_ : s' = { s with heap := h4, toks := tk4 }) (_ : Sub g3 g4) (_ : Up frs3 frs4)
      (_ : Mine.St g4 L1 (((X, instObj 192 D) :: (D, soD w t1 t2 t3 t4 N (.ref R) (.int 0 u1) (.int 0 u2) n) :: (R, lstO ys ep5) :: (N, o1) :: (es4 ++ news)) ++ frs4) h4 m4)
      (_ : (ring = false ∧ ∃ fin, Topo (suOf (graphOf rows)) fin ∧ ∀ c ∈ (graphOf rows).map (·.1), c ∈ fin) ∨ (ring = true ∧ ∃ C, Ring (suOf (graphOf rows)) ((graphOf rows).map (·.1)) C))
      (_ : SignsAt ys (rootsG (graphOf rows))) (_ : NdB g4 nds es4) (_ : m4 "most" = some (.int k t5)) (_ : m4 "sorter" = some (.ref X)) (_ : m4 "ring" = some (.bool ring)) : RdT w X D N t1 t2 t3 t4 u1 u2 n news rows k nds o1 s L1 g3 frs3 s'
inductive RdI (w : World) (X D N R Dt : Addr) (t1 t2 t4 : Tok) (o1 : Obj) (ring : Bool) (news : List (Addr × Obj)) (rows : List (List Nat)) (i : Nat) (g' : Heap) (m' : PySem.Str → Option Value) (news' : List (Addr × Obj)) : Prop
  | mk (nds : List Nd) (es : List (Addr × Obj)) (rd : List Nat) (ys : List Value) (F : Int) (t3 u1 u2 : Tok) (n ep5 epT : Nat) (ws : List Value) (_ : news' = (X, instObj 192 D) :: (D, soD w t1 t2 t3 t4 N (.ref R) (.int F u1) (.int F u2) n) :: (R, lstO ys ep5) :: (N, o1) :: (es ++ ((Dt, lstO (.bool ring :: ws) epT) :: news)))
      (_ : (absN nds, rd) = iterG i (graphOf rows, rootsG (graphOf rows))) (_ : SignsAt ys rd) (_ : o1.IsDictOf (PySem.strKind prg w) (kvsOf nds)) (_ : NdB g' nds es) (_ : ∀ j, j < i → (iterG j (graphOf rows, rootsG (graphOf rows))).2 ≠ [])
      (_ : Paired (fun cs v => GroupAt g' v cs) ((List.range i).map fun j => (iterG j (graphOf rows, rootsG (graphOf rows))).2) ws) (_ : m' "sorter" = some (.ref X)) (_ : m' "told" = some (.ref Dt)) : RdI w X D N R Dt t1 t2 t4 o1 ring news rows i g' m' news'
section
variable {w : World} {mg mb : PySem.Str → Option Value} {A : Around} {g : Heap} {L : Addr} {m : PySem.Str → Option Value} {news frs : List (Addr × Obj)} {s : Shared} {tk t2 t3 : Tok}
    {Q E : Value → Shared → Prop}
theorem c_rounds {T : Addr} {vs : List Value} {ep : Nat} {rows : List (List Nat)} {k : Nat} (hT : g.get? T = some (lstO vs ep)) (hR : RowsAt g vs rows) (hl : rows.length ≤ 100) (hr : ∀ r ∈ rows, r ≠ [] ∧ r.length ≤ 2) (hk : k ≤ 100) (B : Bs w mg mb g) (S : Mine.St g L (news ++ frs) s.heap m) (Z : Ar A L frs 8)
   (hret : ∀ D ws ep' ring g' frs' h' tk', (ring = false ∧ ∃ fin, Topo (suOf (graphOf rows)) fin ∧ ∀ c ∈ (graphOf rows).map (·.1), c ∈ fin) ∨ (ring = true ∧ ∃ C, Ring (suOf (graphOf rows)) ((graphOf rows).map (·.1)) C) →
     Paired (fun cs v => GroupAt g' v cs) (roundsN (k + 1) (graphOf rows, rootsG (graphOf rows))) ws → g'.get? D = some (lstO (.bool ring :: ws) ep') → Sub g g' → Up frs frs' → Mine.St g' L (news ++ frs') h' m → Q (.ref D) { s with heap := h', toks := tk' }) :
   wpAny (model prg w) A (call (.ref 268) [.ref T, .int k tk]) Q E s := by
  have hTl : g.IsList T vs.toArray := ⟨_, hT, rfl, _, rfl⟩
  walk_at "enter"; walk_at "go"
  rename_i oL L1 h1 Lb S1 Z1
  refine c_sorter B S1 (Z1.le (by decide)) ?_
  intro X D N o t1 t2 t3 t4 u1 u2 n frs1 h2 tk2 hd lo hu1 S2
  (try k_fold)
  walk_at "go"
  rename_i h3 S3
  refine iter_list S3 hTl (Sub.refl _) ?_
  intro I oI ob h4 W h0 S4
  (try k_fold)
  refine forLoop_S (L := L1) (frs := frs1) (news := (X, instObj 192 D) :: (D, soD w t1 t2 t3 t4 N .none (.int 0 u1) (.int 0 u2) n) :: (N, o) :: news)
    (fun i _ m' news' => RdO w X D N T t1 t2 t3 t4 u1 u2 n news rows k i m' news') Z1.hand W (fun _ => rfl) ?_ ?_ h0 S4 ?_
  · intro i v o3 g3 m3 news3 frs3 h5 tk5 hi hP hInv k3 hu3 S5
    (try k_fold)
    obtain ⟨nds, es, o1, b, hq158_0, hd1, hN1, ha1, hl1, hb1, hbi, e1, t5, e2, e3⟩ := hInv
    subst hq158_0
    have hv : vs[i]? = some v := by simpa using hP
    obtain ⟨r, hr1, a, us, ep5, rfl, ha, hsu⟩ := paired_get hR hv
    obtain ⟨hr2, hr3⟩ := hr r (List.mem_of_getElem? hr1)
    have hi' : i < rows.length := (List.getElem?_eq_some_iff.mp hr1).1
    walk_at "go"
    obtain ⟨c, cs, rfl⟩ : ∃ c cs, r = c :: cs := by
      cases r with
      | nil => exact absurd rfl hr2
      | cons c cs => exact ⟨c, cs, rfl⟩
    obtain ⟨tc, us', rfl, hsu'⟩ : ∃ tc us', us = .str ⟨#[c]⟩ tc :: us' ∧ SignsAt us' cs := by
      cases hsu with
      | cons y t h => exact ⟨t, _, rfl, h⟩
    have hal : g3.IsList a (Value.str ⟨#[c]⟩ tc :: us').toArray := ⟨_, k3 _ _ ha, rfl, _, rfl⟩
    have hul : us'.length = cs.length := by
      have := StrsAre.length hsu'
      simpa using this
    have hlz : (Value.str ⟨#[c]⟩ tc :: us').toArray.size ≤ sizeLine := by
      rw [List.size_toArray, sizeLine_eq, List.length_cons]; rw [List.length_cons] at hr3; lia
    refine StarCall_ ?_
    walk_at "go"
    rename_i h6 S6
    k_dflt (refine' bound_S (C := 192) (f := 142) S6 (B.keeps k3) (Sub.refl _) (.head _) (.tail _ (.head _)) ?hg ?hh ?ha ?hf ?hgf ?ht ?hc ?hl ?_; (case hg => k_is); (case hh => k_is); (case ha => k_is); (case hf => k_is); (case hgf => k_is); (case ht => k_is); (case hc => decide); (case hl => rfl))
    intro g4 q h7 k4 hq S7
    (try k_fold)
    clear S6
    refine callM_S2 (K := Kf w.params) (f := 142) (X := X) (by k_dflt k_is) ?_
    have hal4 := lk hal k4
    clear hal
    walk_at "go"
    refine items_star ?_
    walk_at "go"
    rename_i g5 D5 h8 k5 e5 S8
    rw [pick_tail] at e5
    obtain ⟨o5, e51, e52, n5, e53⟩ := e5
    refine star_S S8 (S8.keep _ _ e51) e52 e53 (.inl rfl) (by rw [sizeLine_eq]; rw [List.length_cons] at hr3; lia) ?_
    intro h9 S9
    (try k_fold)
    have eL : ∀ (o1 : Obj) (es f : List (Addr × Obj)), (((X, instObj 192 D) :: (D, soD w t1 t2 t3 t4 N .none (.int 0 u1) (.int 0 u2) n) :: (N, o1) :: (es ++ news)) ++ [(I, o3)]) ++ f = ((X, instObj 192 D) :: (D, soD w t1 t2 t3 t4 N .none (.int 0 u1) (.int 0 u2) n) :: (N, o1) :: (es ++ (news ++ [(I, o3)]))) ++ f := fun _ _ _ => by simp only [List.append_assoc, List.cons_append]
    have S10 := S9.perm (List.Perm.of_eq (eL o1 es frs3))
    have hq5 := S9.keep _ _ (k5 _ _ hq)
    have k05 := (k3.trans k4).trans k5
    rw [List.length_cons] at hr3
    refine args_nil ?_
    refine ⟨⟨hq5, inK S9 (B.keeps k05) (Sub.refl _)⟩, ?_⟩
    rw [List.append_nil]
    refine callBm hq5 ?_
    refine c_add (news := news ++ [(I, o3)]) (frs := frs3) (B.keeps k05) hd1 hN1 lo (by lia) hb1 (by lia) hsu' S10 ((Z1.up (hu1.trans hu3)).le (by decide)) ?_
    intro nds6 o6 es6 g6 frs6 h10 tk10 ha6 hl6 hd6 hN6 k6 hu6 S11
    (try k_fold)
    have S12 := S11.perm (List.Perm.of_eq (eL o6 es6 frs6).symm)
    walk_at "go"
    refine ⟨g6, _, ((X, instObj 192 D) :: (D, soD w t1 t2 t3 t4 N .none (.int 0 u1) (.int 0 u2) n) :: (N, o6) :: (es6 ++ news)), frs6, _, _, rfl, (k4.trans k5).trans k6, hu6, S12, nds6, es6, o6, b + cs.length, rfl, hd6, hN6, ?_, ?_, ?_, ?_, e1, t5, e2, e3⟩
    · rw [ha6, ha1, List.take_add_one, hr1]
      show _ = List.foldl _ _ (rows.take i ++ [c :: cs])
      rw [List.foldl_append]; rfl
    · lia
    · rw [ha6]; exact hb1.add c cs
    · lia
  · intro g3 m3 news3 frs3 h5 tk5 hInv k3 hu3 S5
    (try k_fold)
    obtain ⟨nds, es, o1, b, hq219_0, hd1, hN1, ha1, hl1, hb1, hbi, e1, t5, e2, e3⟩ := hInv
    subst hq219_0
    have haG : absN nds = graphOf rows := by
      have hvl : vs.toArray.size = rows.length := by rw [List.size_toArray]; exact hR.length.symm
      rw [ha1, hvl, List.take_length]; rfl
    have hvl : vs.toArray.size = rows.length := by rw [List.size_toArray]; exact hR.length.symm
    have hgin := graph_in haG hb1 (by lia)
    walk_at "go"
    rename_i h6 S6
    have Bk := B.keeps k3
    refine wpAny_mono (Q := fun fl s' => match fl with
      | .next => RdT w X D N t1 t2 t3 t4 u1 u2 n news rows k nds o1 s L1 g3 frs3 s'
      | _ => False) (E := fun _ _ => False) ?_ (fun fl s' hfl => ?_) fun _ _ x => x.elim
    · refine wpAny_Try_except ?_
      walk_at "go"
      have hmap : (graphOf rows).map (·.1) = nds.map (·.c) := by rw [← haG]; exact keys_abs nds
      refine c_prepare (news := news) (frs := frs3) Bk hd1 hN1 lo (by lia) hgin S6 ((Z1.up (hu1.trans hu3)).le (by decide)) ?_ ?_
      · intro g7 es7 R ys ep7 frs7 h7 tk7 hT7 hys hNB k7 hu7 S7
        (try k_fold)
        walk_at "go"
        rw [haG] at hT7 hys
        refine ⟨false, g7, es7, R, ys, ep7, frs7, h7, tk7, _, t5, rfl, k7, hu7, S7, .inl ⟨rfl, ?_⟩, hys, hNB, e2, e3, rfl⟩
        rw [hmap]; exact hT7
      · intro g7 es7 R ys ep7 frs7 h7 tk7 e t vs7 B' C hC hys hNB k7 hu7 F kg kn S7
        (try k_fold)
        rw [haG] at hC hys
        refine caught0_S (news := (X, instObj 192 D) :: (D, soD w t1 t2 t3 t4 N (.ref R) (.int 0 u1) (.int 0 u2) n) :: (R, lstO ys ep7) :: (N, o1) :: (es7 ++ news)) Bk k7 (let ⟨l, hl, _⟩ := Z.frames; ⟨l, Around.frames_deeper hl⟩) rfl (Z1.up ((hu1.trans hu3).trans hu7)) S7 F kg kn (by k_dflt k_is) (by kernel_rfl) ?_
        intro frs8 h8 oe ot ws nt hu8 S8 c1 c2 c3 c4 c5
        (try k_fold)
        walk_at "go"
        rename_i h9 S9
        refine ⟨true, g7, es7, R, ys, ep7, frs8, h9, _, _, t5, rfl, k7, hu7.trans hu8, S9.drop.drop, .inr ⟨rfl, ?_⟩, hys, hNB, e2, e3, rfl⟩
        rw [hmap]; exact ⟨C, hC⟩
    · cases fl with
      | next =>
        obtain ⟨ring, g4, es4, R, ys, ep5, frs4, h4, tk4, m4, t6, hq256_0, k4, hu4, S7, hring, hys, hNB, q1, q2, q3⟩ := hfl
        subst hq256_0
        clear S6 S5 e1 e2 e3
        walk_at "go"
        rename_i Dt h8 S8 h9 S9 g5 rg h10 tk10 ta tb tc k5 hrg S10
        have hI := RInv.all rows fun r hr' => (hr r hr').2
        have hnl : (namesOf rows).length ≤ 1000 := by
          have h1 := (graph_facts rows).1
          rw [← haG, keys_abs] at h1
          have := congrArg List.length h1
          rw [List.length_map] at this
          lia
        refine range_iter (n := k + 1) S10 hrg (Sub.refl _) (by lia) ?_
        intro I5 oI5 ob5 h11 W5 h05 S11
        (try k_fold)
        have S12 : Mine.St g5 L1 ((I5, oI5) :: (((X, instObj 192 D) :: (D, soD w t1 t2 t3 t4 N (.ref R) (.int 0 u1) (.int 0 u2) n) :: (R, lstO ys ep5) :: (N, o1) :: (es4 ++ ((Dt, lstO [.bool ring] 0) :: news))) ++ frs4)) h11 _ := S11.perm (((perm_m _ _ _ _ _ _ _).symm.append_right frs4).cons _)
        have finish : ∀ {g7 : Heap} {frs7 : List (Addr × Obj)} {h7 : Heap} {tk7 epT ep6 n6 : Nat} {m7 : PySem.Str → Option Value} {ws ys6 : List Value} {es6 : List (Addr × Obj)} {po fi : Value} {t36 : Tok}, Sub g5 g7 → Up frs4 frs7 →
            Mine.St g7 L1 (((X, instObj 192 D) :: (D, soD w t1 t2 t36 t4 N (.ref R) po fi n6) :: (R, lstO ys6 ep6) :: (N, o1) :: (es6 ++ ((Dt, lstO (.bool ring :: ws) epT) :: news))) ++ frs7) h7 m7 →
            Paired (fun cs v => GroupAt g7 v cs) (roundsN (k + 1) (graphOf rows, rootsG (graphOf rows))) ws → Q (.ref Dt) { s with heap := h7, toks := tk7 } := by
          intro g7 frs7 h7 tk7 epT ep6 n6 m7 ws ys6 es6 po fi t36 k7 hu7 S7 hws
          (try k_fold)
          have S8 := (S7.perm ((perm_m _ _ _ _ _ _ _).append_right frs7))
          obtain ⟨g8, k8, S9, hDt⟩ := S8.settle
          have S10 := S9.subl (news' := news ++ frs7) (.cons _ (.cons _ (.cons _ (.cons _ ((List.sublist_append_right es6 news).append (List.Sublist.refl frs7))))))
          obtain ⟨frs9, hu9, hS⟩ := leave Lb S10 (((hu1.trans hu3).trans hu4).trans hu7)
          exact hret Dt ws epT ring g8 frs9 _ _ hring (paired_mono (fun _ _ h => h.keeps k8) hws) hDt ((((k3.trans k4).trans k5).trans k7).trans k8) hu9 hS
        refine forLoop_S (L := L1) (frs := frs4) (news := (X, instObj 192 D) :: (D, soD w t1 t2 t3 t4 N (.ref R) (.int 0 u1) (.int 0 u2) n) :: (R, lstO ys ep5) :: (N, o1) :: (es4 ++ ((Dt, lstO [.bool ring] 0) :: news)))
          (fun i g' m' news' => RdI w X D N R Dt t1 t2 t4 o1 ring news rows i g' m' news') Z1.hand W5 (fun _ => rfl) ?_ ?_ h05 S12 ?_
        · intro i v o5 g6 m6 news6 frs6 h12 tk12 hi hP hInv k6 hu6 S13
          (try k_fold)
          obtain ⟨nds6, es6, rd, ys6, F, t36, u16, u26, n6, ep6, epT, ws, hq287_0, hab, hys6, hd6, hN6, hne6, hws, f1, f2⟩ := hInv
          subst hq287_0
          obtain ⟨ti, rfl⟩ := hP
          obtain ⟨Dn, hInv⟩ := hI i
          rw [← hab] at hInv
          have hok := hInv.ok hnl
          have hB6 := B.keeps (((k3.trans k4).trans k5).trans k6)
          walk_at "go"
          rename_i h13 S14
          have eL : ∀ (n6 ep6 epT : Nat) (t36 : Tok) (po fi : Value) (ys6 ws : List Value) (es6 f : List (Addr × Obj)), (((X, instObj 192 D) :: (D, soD w t1 t2 t36 t4 N (.ref R) po fi n6) :: (R, lstO ys6 ep6) :: (N, o1) :: (es6 ++ ((Dt, lstO (.bool ring :: ws) epT) :: news))) ++ [(I5, o5)]) ++ f =
              ((X, instObj 192 D) :: (D, soD w t1 t2 t36 t4 N (.ref R) po fi n6) :: (R, lstO ys6 ep6) :: (N, o1) :: (es6 ++ ((Dt, lstO (.bool ring :: ws) epT) :: (news ++ [(I5, o5)])))) ++ f := by intros; simp only [List.append_assoc, List.cons_append]
          have S15 := S14.perm (List.Perm.of_eq (eL _ _ _ _ _ _ _ _ _ _))
          have hyl : ys6.length = rd.length := by
            have := StrsAre.length hys6
            simpa using this
          have hrl : rd.length ≤ 1000 := hok.1
          refine c_active (by lia) hB6 S15 ((Z1.up (((hu1.trans hu3).trans hu4).trans hu6)).le (by decide)) ?_
          intro frs7 h14 tk14 hu7 S16
          (try k_fold)
          walk_at "go"
          rename_i h15 S17
          refine c_ready hys6 (fun c hc => (find_keys _ _).mpr (hok.2.1 c hc)) (by lia) hB6 hd6 hN6 lo S17 ((Z1.up ((((hu1.trans hu3).trans hu4).trans hu6).trans hu7)).le (by decide)) ?_
          intro nds7 es7 g7 Tg frs8 h16 tk16 ep7 t37 u17 n7 ha7 hd7 hN7 k7 hTg hu8 S18
          (try k_fold)
          replace S18 := S18.perm ((perm_m _ _ _ _ _ _ _).append_right frs8)
          have hB7 := hB6.keeps k7
          clear S13 S14 S15 S16 S17
          walk_at "go"
          rename_i h17 S19
          refine c_active (R := R) (by simp) hB7 (S19.perm ((perm_m _ _ _ _ _ _ _).symm.append_right frs8)) ((Z1.up (((((hu1.trans hu3).trans hu4).trans hu6).trans hu7).trans hu8)).le (by decide)) ?_
          intro frs9 h18 tk18 hu9 S20
          (try k_fold)
          replace S20 := S20.perm ((perm_m _ _ _ _ _ _ _).append_right frs9)
          walk_at "go"
          rename_i g8 ga h19 k8 hga S21
          have hwl : ws.length = i := by rw [hws.length.symm, List.length_map, List.length_range]
          refine append_S S21 (by rw [List.length_cons, sizeLine_eq]; lia) ?_
          intro h20 S22
          (try k_fold)
          replace S22 := S22.perm ((perm_m _ _ _ _ _ _ _).symm.append_right frs9)
          have hB8 := hB7.keeps k8
          clear S18 S19 S20 S21
          walk_at "go"
          refine StarCall_ ?_
          walk_at "go"
          k_dflt (refine' bound_S (C := 192) (f := 175) S22 hB8 (Sub.refl _) (.head _) (.tail _ (.head _)) ?hg ?hh ?ha ?hf ?hgf ?ht ?hc ?hl ?_; (case hg => k_is); (case hh => k_is); (case ha => k_is); (case hf => k_is); (case hgf => k_is); (case ht => k_is); (case hc => decide); (case hl => rfl))
          intro g9 q h21 k9 hq S23
          (try k_fold)
          refine callM_S1 (K := Kf w.params) (f := 175) (X := X) (by k_dflt k_is) ?_
          walk_at "go"
          have hTg9 := k9 _ _ (k8 _ _ hTg)
          refine star_S S23 (S23.keep _ _ hTg9) rfl rfl (.inr rfl) (by rw [sizeLine_eq]; lia) ?_
          intro h22 S24
          (try k_fold)
          have hB9 := hB8.keeps k9
          have hq9 := S24.keep _ _ hq
          refine ⟨⟨hq9, inK S24 hB9 (Sub.refl _)⟩, ?_⟩
          refine callBm hq9 ?_
          obtain ⟨hs1, hs2, _⟩ := set_fold rd (absN nds6) (fun c hc => hok.2.1 c hc)
          refine c_done hys6 hrl (show SignsAt [] [] from .nil) (Nat.zero_le _) (fun c hc => ?_) (inv_in (fun r hr' => (hr r hr').2) (by lia) (by rw [ha7, hs1]; exact hInv.keys) (fun c => by rw [ha7, hs2]; exact hInv.su c)) (by rw [ha7]; exact hok.2.2) hB9 hd7 (hN7.mono (k8.trans k9)) lo S24
            ((Z1.up ((((((hu1.trans hu3).trans hu4).trans hu6).trans hu7).trans hu8).trans hu9)).le (by decide)) ?_
          · rw [find_keys, ha7, hs1]; exact hok.2.1 c hc
          intro nds8 es8 g10 frs10 h23 tk23 ep8 ysr u28 n8 ha8 hys8 hd8 hN8 k10 hu10 S25
          (try k_fold)
          walk_at "go"
          rename_i g11 te h24 k11 hte S26
          rw [hyl] at S26
          have kk : Sub g6 g11 := (((k7.trans k8).trans k9).trans k10).trans k11
          have huu := (((hu7.trans hu8).trans hu9).trans hu10)
          have hgrp : GroupAt g11 (.ref ga) rd := by
            refine ⟨ga, Tg, ys6, rfl, ?_, ?_, hys6⟩
            · have h1 : (decide (F < F) || !ys6.isEmpty) = !rd.isEmpty := by
                rw [decide_eq_false (Int.lt_irrefl _), Bool.false_or]
                cases ys6 <;> cases rd <;> simp at hyl ⊢
              have h2 : (decide (F < F + (ys6.length : Int)) || !([] : List Value).isEmpty) = !rd.isEmpty := by
                cases rd with
                | nil => rw [hyl]; simp
                | cons a r =>
                  have : decide (F < F + (ys6.length : Int)) = true := decide_eq_true (by rw [hyl, List.length_cons]; lia)
                  rw [this]; rfl
              rw [h1, h2] at hga
              exact (((k9.trans k10).trans k11)) _ _ hga
            · exact ((((k8.trans k9).trans k10).trans k11)) _ _ hTg
          have hws' : Paired (fun cs v => GroupAt g11 v cs) ((List.range (i + 1)).map fun j => (iterG j (graphOf rows, rootsG (graphOf rows))).2) (ws ++ [.ref ga]) := by
            rw [List.range_succ, List.map_append]
            refine paired_snoc (paired_mono (fun _ _ h => h.keeps kk) hws) ?_
            show GroupAt g11 (.ref ga) (iterG i (graphOf rows, rootsG (graphOf rows))).2
            rw [← hab]; exact hgrp
          have hab' : (absN nds8, ysr.2) = iterG (i + 1) (graphOf rows, rootsG (graphOf rows)) := by
            show _ = stepG (iterG i _)
            rw [← hab, ha8, ha7]; rfl
          refine eqTup_S (cs := rd) (ds := []) S26 (Nat.lt_of_le_of_lt (Nat.le_add_right _ _) (Z1.up ((((hu1.trans hu3).trans hu4).trans hu6).trans huu)).units) (((((k8.trans k9).trans k10).trans k11)) _ _ hTg) hte hys6 .nil ?_
          have S27 := S26.perm (List.Perm.of_eq (eL _ _ _ _ _ _ _ _ _ _).symm)
          by_cases hrd : rd = []
          · rw [decide_eq_true hrd]
            walk_at "go"
            (try dsimp only)
            (try (walk_at "go"))
            (try unfold Turned)
            (try dsimp only)
            walk_at "go"
            (try dsimp only)
            refine finish (k6.trans kk) (hu6.trans huu) (S27.subl ((List.sublist_append_left _ _).append (List.Sublist.refl frs10))) ?_
            have h1 := roundsN_split (k - i + 1) i (graphOf rows, rootsG (graphOf rows)) hne6
            rw [show i + (k - i + 1) = k + 1 from left_sum (by assumption)] at h1
            rw [h1]
            have h2 : roundsN (k - i + 1) (iterG i (graphOf rows, rootsG (graphOf rows))) = [(iterG i (graphOf rows, rootsG (graphOf rows))).2] := by
              show (iterG i _).2 :: (if (iterG i _).2 = [] then [] else _) = _
              rw [if_pos (by rw [← hab]; exact hrd)]
            rw [h2]
            rw [List.range_succ, List.map_append] at hws'
            exact hws'
          · rw [decide_eq_false hrd]
            walk_at "go"
            refine ⟨g11, _, _, frs10, h24, _, rfl, kk, huu, S27, nds8, es8, ysr.2, ysr.1, F + (rd.length : Int), t37, u17, u28, n8, ep8, epT + 1, ws ++ [.ref ga], rfl, hab', hys8, hd8, hN8.mono k11, fun j hj => ?_, hws', f1, f2⟩
            by_cases hji : j = i
            · rw [hji, ← hab]; exact hrd
            · exact hne6 j (by lia)
        · intro g6 m6 news6 frs6 h12 tk12 hInv k6 hu6 S13
          (try k_fold)
          obtain ⟨nds6, es6, rd, ys6, F, t36, u16, u26, n6, ep6, epT, ws, hq406_0, hab, hys6, hd6, hN6, hne6, hws, f1, f2⟩ := hInv
          subst hq406_0
          walk_at "go"
          (try dsimp only)
          refine finish k6 hu6 S13 ?_
          have := roundsN_split 0 (k + 1) (graphOf rows, rootsG (graphOf rows)) hne6
          rw [Nat.add_zero] at this
          rw [this]
          simpa [roundsN] using hws
        · refine ⟨nds, es4, (rootsG (graphOf rows)), ys, 0, t3, u1, u2, n, ep5, 0, [], rfl, ?_, hys, hd1, hNB.mono k5, fun j hj => absurd hj (Nat.not_lt_zero _), .nil, ?_, ?_⟩
          · rw [haG]; rfl
          · exact q2
          · rfl
      | ret v => exact hfl.elim
      | brk => exact hfl.elim
      | cont => exact hfl.elim
  · exact ⟨[], [], o, 0, rfl, hd, .nil, rfl, Nat.le_refl _, fun x hx => (nomatch hx), Nat.le_refl _, rfl, _, rfl, rfl⟩
end
end Mine

end
section
open PySem PySem.W PySem.W.X PyProof.Rows
namespace Mine
theorem rowsFrom_ok : ∀ (rs : List (PySem.Str ⊕ Nat)) (p : Option Nat), ∀ r ∈ rowsFrom p rs, r ≠ [] ∧ r.length ≤ 2
  | [], _, r, h => by simp [rowsFrom] at h
  | .inl _ :: rs, p, r, h => rowsFrom_ok rs none r (by simpa [rowsFrom] using h)
  | .inr c :: rs, p, r, h => by
    rw [rowsFrom] at h
    rcases List.mem_cons.mp h with rfl | h
    · refine ⟨List.cons_ne_nil _ _, ?_⟩
      cases p <;> simp
    · exact rowsFrom_ok rs (some c) r h
/-- each sign of a row heads a row, or is the one that was carried in -/
theorem rowsFrom_heads : ∀ (rs : List (PySem.Str ⊕ Nat)) (p : Option Nat), ∀ r ∈ rowsFrom p rs, ∀ y ∈ r.headD 0 :: r.tail, (∃ r' ∈ rowsFrom p rs, r'.headD 0 = y) ∨ p = some y
  | [], _, r, h, _, _ => by simp [rowsFrom] at h
  | .inl _ :: rs, p, r, h, y, hy => by
    rw [rowsFrom] at h ⊢
    rcases rowsFrom_heads rs none r h y hy with h1 | h1
    · exact .inl h1
    · cases h1
  | .inr c :: rs, p, r, h, y, hy => by
    rw [rowsFrom] at h ⊢
    rcases List.mem_cons.mp h with rfl | h
    · rcases List.mem_cons.mp hy with rfl | hy
      · exact .inl ⟨_, .head _, rfl⟩
      · refine .inr ?_
        rw [List.tail_cons] at hy
        exact Option.mem_toList.mp hy
    · rcases rowsFrom_heads rs (some c) r h y hy with ⟨r', h1, h2⟩ | h1
      · exact .inl ⟨r', .tail _ h1, h2⟩
      · cases h1
        exact .inl ⟨_, .head _, rfl⟩
theorem names_le (rs : List (PySem.Str ⊕ Nat)) : (namesOf (rowsOf rs)).length ≤ (rowsOf rs).length := by
  have h := (names_nodup (rowsOf rs)).length_le_of_subset (l₂ := (rowsOf rs).map fun r => r.headD 0) fun y hy => by
    obtain ⟨r, hr, hy⟩ := (names_mem _ _).mp hy
    rcases rowsFrom_heads rs none r hr y hy with ⟨r', h1, h2⟩ | h1
    · exact List.mem_map.mpr ⟨r', h1, h2⟩
    · cases h1
  rwa [List.length_map] at h
/-- the plan and the sorter's rounds tell the same -/
theorem rounds_plan {rows : List (List Nat)} {gs : List (List Nat)} {Df : List Nat} {ring : Bool} {k : Nat} (h2 : ∀ r ∈ rows, r.length ≤ 2) (hk : (namesOf rows).length ≤ k) (hP : PlanN rows ((namesOf rows).length + 1) [] gs Df)
    (hr : (ring = false ∧ ∃ fin, Topo (suOf (graphOf rows)) fin ∧ ∀ c ∈ (graphOf rows).map (·.1), c ∈ fin) ∨ (ring = true ∧ ∃ C, Ring (suOf (graphOf rows)) ((graphOf rows).map (·.1)) C)) :
    gs = roundsN (k + 1) (graphOf rows, rootsG (graphOf rows)) ∧ ring = decide (Df.length < (namesOf rows).length) := by
  obtain ⟨h1, st, I, h0⟩ := plan_rounds h2 _ (k + 1) [] _ gs Df (RInv.init rows) (by simp) (by simp only [List.length_nil]; lia) hP
  refine ⟨h1, ?_⟩
  obtain ⟨a, b⟩ := ring_free I h0
  obtain ⟨g1, _, g3⟩ := graph_facts rows
  have hsu : suOf (graphOf rows) = suR rows := funext g3
  have hk : (graphOf rows).map (·.1) = namesOf rows := g1
  rw [hsu, hk] at hr
  rcases hr with ⟨rfl, q⟩ | ⟨rfl, q⟩
  · exact (decide_eq_false (a q)).symm
  · exact (decide_eq_true (b q)).symm
theorem planN_len {rows : List (List Nat)} : ∀ (n : Nat) (D : List Nat) (gs : List (List Nat)) (Df : List Nat), PlanN rows n D gs Df → gs.length ≤ n ∧ ∀ g ∈ gs, g.length ≤ (namesOf rows).length
  | 0, D, gs, Df, ⟨h, _⟩ => by subst h; exact ⟨Nat.le_refl _, fun g hg => (nomatch hg)⟩
  | n + 1, D, gs, Df, ⟨g, gs', e, hF, h⟩ => by
    subst e
    have hg : g.length ≤ (namesOf rows).length := by
      rw [hF.1.length_eq]
      exact (free_nodup rows D).length_le_of_subset (l₂ := namesOf rows) fun x hx => (free_mem.mp hx).1
    by_cases h0 : g = []
    · rw [if_pos h0] at h
      obtain ⟨rfl, _⟩ := h
      refine ⟨by simp, fun g' hg' => ?_⟩
      rw [List.mem_singleton.mp hg']; exact hg
    · rw [if_neg h0] at h
      obtain ⟨a, b⟩ := planN_len n _ gs' Df h
      refine ⟨by rw [List.length_cons]; lia, fun g' hg' => ?_⟩
      rcases List.mem_cons.mp hg' with rfl | hg'
      · exact hg
      · exact b g' hg'
end Mine

end
section
open PySem PySem.W PySem.W.X PyProof.Rows PySem.Calls PySem.Spec
namespace Mine
section
variable {prog : Program} {w : World} {A : Around} {s : Shared} {g g₀ : Heap} {L : Addr} {m mg mb : Str → Option Value} {news frs : List (Addr × Obj)}
/-- new entries of the ledger at new addresses -/
theorem St.cells {h h₁ : Heap} {L' : Addr} {m' : Str → Option Value} (S : St g L news h m) (hL' : h.objs.size ≤ L') (hns : h₁.Ns L' m') (hk : ∀ b o, h.get? b = some o → h₁.get? b = some o) : ∀ (cs : List (Addr × Obj)), (cs.map (·.1)).Nodup → (∀ p ∈ cs, h₁.get? p.1 = some p.2 ∧ L' < p.1) → ∃ oL, Bears oL m ∧ St g L' (cs ++ (L, oL) :: news) h₁ m' := by
  intro cs hn hc
  obtain ⟨oL, es, ep, hL, hb⟩ := S.ns
  have gn : ∀ a, h.objs.size ≤ a → g.get? a = none := fun a ha => by
    cases q : g.get? a with
    | none => rfl
    | some o => exact absurd (Heap.lt_size (S.keep _ _ q)) (Nat.not_lt.mpr ha)
  have lt : ∀ p ∈ (L, oL) :: news, p.1 < h.objs.size := fun p hp => by
    rcases List.mem_cons.mp hp with rfl | hp
    · exact Heap.lt_size hL
    · exact S.news_lt hp
  refine ⟨oL, ⟨es, ep, hb⟩, hns, fun b o e => hk b o (S.keep b o e), gn L' hL', fun p hp => ?_, fun p hp => ?_, fun p hp => ?_, ?_⟩
  · rcases List.mem_append.mp hp with hp | hp
    · exact (hc p hp).1
    · rcases List.mem_cons.mp hp with rfl | hp
      · exact hk _ _ hL
      · exact hk _ _ (S.nw p hp)
  · rcases List.mem_append.mp hp with hp | hp
    · exact Nat.ne_of_gt (hc p hp).2
    · exact Nat.ne_of_lt (Nat.lt_of_lt_of_le (lt p hp) hL')
  · rcases List.mem_append.mp hp with hp | hp
    · exact gn _ (Nat.le_trans hL' (Nat.le_of_lt (hc p hp).2))
    · rcases List.mem_cons.mp hp with rfl | hp
      · exact S.off
      · exact S.ng p hp
  · rw [List.map_append]
    refine List.nodup_append.mpr ⟨hn, ?_, fun a ha b hb q => ?_⟩
    · rw [List.map_cons, List.nodup_cons]
      refine ⟨fun q => ?_, S.nd⟩
      obtain ⟨p, hp, q⟩ := List.mem_map.mp q
      exact S.nL p hp q
    · obtain ⟨p, hp, rfl⟩ := List.mem_map.mp ha
      obtain ⟨p', hp', rfl⟩ := List.mem_map.mp hb
      have h1 := (hc p hp).2
      have h2 := lt p' hp'
      rw [q] at h1
      exact absurd (Nat.lt_of_lt_of_le h2 hL') (Nat.lt_asymm h1)
theorem enterCs {R : Result → Shared → Prop} {f : Addr} {name qual : Str} {params : Arguments} {body : List Stmt} {scope : Scope} {dV kV doc pm cdv ct oc : Value} {an od : Option Addr} {osl : Array (Option Value)} {args : List Value} {binds : List (Str × Value)} {k : Nat}
    (B : Bs w mg mb g₀) (hk₀ : Sub g₀ g) (S : St g L (news ++ frs) s.heap m) (Z : Ar A L frs (k + 1))
    (ho : (Kf w.params).lookup f = some ⟨oc, od, .func (fnOf name qual params body scope dV kV doc pm an cdv ct), osl⟩) (hcd : codeIn (Kf w.params) cdv qual = true)
    (hbind : bindArgs (fnOf name qual params body scope dV kV doc pm an cdv ct) ⟨args, []⟩ = pure binds)
    (hkind : ∀ a, ∀ y ∈ binds, scope.names.lookup y.1 = some .local ∨ (scope.names.lookup y.1 = some .cell ∧ ((cellsFrom (a + 1) scope.names []).lookup y.1).isSome = true))
    (h : ∀ oL L' h₁ tk os, Bears oL m → os.map (·.1) = (cellsFrom (L' + 1) scope.names []).map (·.2) → (∀ n c, (n, c) ∈ cellsFrom (L' + 1) scope.names [] → (cellsFrom (L' + 1) scope.names []).lookup n = some c → ∃ o, (c, o) ∈ os ∧ o.data = .cell (bindC (fun x => scope.names.lookup x) binds (fun _ => none) n)) →
      St g L' (os ++ (news ++ (L, oL) :: frs)) h₁ (bindL (fun x => scope.names.lookup x) binds fun _ => none) → Ar (A.deeper (envX qual scope L' f cdv (cellsFrom (L' + 1) scope.names []))) L' ((L, oL) :: frs) k →
      wpAny (model prog w) (A.deeper (envX qual scope L' f cdv (cellsFrom (L' + 1) scope.names []))) (execs body (envX qual scope L' f cdv (cellsFrom (L' + 1) scope.names []))) (fun fl s' => R (.ok (.ret (match fl with | .ret v => v | _ => .none))) s')
        (fun e s' => wpAny (model prog w) (A.deeper (envX qual scope L' f cdv (cellsFrom (L' + 1) scope.names []))) (leaving (envX qual scope L' f cdv (cellsFrom (L' + 1) scope.names [])) e) (fun _ s'' => R (.error e) s'') (fun e' s'' => R (.error e') s'') s')
        { s with heap := h₁, toks := tk })
    (hnd : ∀ a, ((cellsFrom (a + 1) scope.names []).map (·.1)).Nodup)
    (hco : scope.isCoroutine = false := by rfl) (hgen : scope.isGenerator = false := by rfl) (hk : scope.kind = .function := by rfl) : codeAny (model prog w) A (.call (.ref f) ⟨args, []⟩) R s := by
  have hkS := hk₀.trans S.keep
  refine codeAny_call_cells (fd := fnOf name qual params body scope dV kV doc pm an cdv ct) (by have := Z.room; lia) (hkS _ _ (B.X _ _ ho)) rfl (B.nolimit.keeps hkS) ((codeRec_of B.X hcd).keeps hkS) rfl hbind rfl (hkind _) (fun s₁ x => ?_) hco hgen hk
  obtain ⟨h₁, tk, rfl⟩ := x.toInCall.same
  generalize hL' : s.heap.objs.size = L' at x
  have hcell : ∀ p ∈ cellsFrom (L' + 1) scope.names [], ∃ o, h₁.get? p.2 = some o ∧ o.data = .cell (bindC (fun y => scope.names.lookup y) binds (fun _ => none) p.1) := fun p hp => by
    have hl : (cellsFrom (L' + 1) scope.names []).lookup p.1 = some p.2 := by
      have hn := hnd L'
      generalize cellsFrom (L' + 1) scope.names [] = l at hp hn
      induction l with
      | nil => cases hp
      | cons q l ih =>
        rw [List.map_cons, List.nodup_cons] at hn
        obtain ⟨q1, q2⟩ := q
        rw [List.lookup_cons]
        rcases List.mem_cons.mp hp with rfl | hp
        · simp
        · have : (p.1 == q1) = false := beq_eq_false_iff_ne.mpr fun e => hn.1 (by show q1 ∈ _; rw [← e]; exact List.mem_map_of_mem hp)
          rw [this]
          exact ih hp hn.2
    exact x.cell p.1 p.2 hl
  obtain ⟨os, hos1, hos2⟩ : ∃ os : List (Addr × Obj), os.map (·.1) = (cellsFrom (L' + 1) scope.names []).map (·.2) ∧ (∀ p ∈ os, h₁.get? p.1 = some p.2) ∧ ∀ q ∈ cellsFrom (L' + 1) scope.names [], ∃ o, (q.2, o) ∈ os ∧ o.data = .cell (bindC (fun y => scope.names.lookup y) binds (fun _ => none) q.1) := by
    generalize cellsFrom (L' + 1) scope.names [] = l at hcell
    clear x
    induction l with
    | nil => exact ⟨[], rfl, (fun p hp => (nomatch hp)), fun q hq => (nomatch hq)⟩
    | cons q l ih =>
      obtain ⟨os, h1, h2, h3⟩ := ih fun p hp => hcell p (.tail _ hp)
      obtain ⟨o, ho1, ho2⟩ := hcell q (.head _)
      refine ⟨(q.2, o) :: os, by rw [List.map_cons, List.map_cons, h1], fun p hp => ?_, fun p hp => ?_⟩
      · rcases List.mem_cons.mp hp with rfl | hp
        · exact ho1
        · exact h2 p hp
      · rcases List.mem_cons.mp hp with rfl | hp
        · exact ⟨o, .head _, ho2⟩
        · obtain ⟨o', a, b⟩ := h3 p hp; exact ⟨o', .tail _ a, b⟩
  have hndc : (os.map (·.1)).Nodup := by
    rw [hos1]
    exact List.pairwise_map.mpr x.apart
  obtain ⟨oL, hb, S'⟩ := St.cells S (L' := L') (by rw [hL']; exact Nat.le_refl _) x.toInCall.ns x.toInCall.keep os hndc (fun p hp => ⟨hos2.1 p hp, by
    have : p.1 ∈ os.map (·.1) := List.mem_map_of_mem hp
    rw [hos1] at this
    obtain ⟨q, hq, e⟩ := List.mem_map.mp this
    rw [← e]; exact x.above q.1 q.2 hq⟩)
  obtain ⟨outer, hfr, hin⟩ := Z.frames
  have hp2 : (os ++ (L, oL) :: (news ++ frs)).Perm (os ++ (news ++ (L, oL) :: frs)) := List.Perm.append_left _ List.perm_middle.symm
  have hlen : callEnvC (fnOf name qual params body scope dV kV doc pm an cdv ct) L' f = envX qual scope L' f cdv (cellsFrom (L' + 1) scope.names []) := rfl
  rw [hlen]
  refine h oL L' h₁ tk os hb hos1 (fun n c hm hl => hos2.2 (n, c) hm) (S'.perm hp2) ⟨Z.hand, ?_, ?_, fun p hp => ?_, envX qual scope L' f cdv (cellsFrom (L' + 1) scope.names []) :: outer, ?_, ?_⟩
  · have := Z.room; show A.depth + 1 + 2 * k < _; lia
  · have := Z.units; show A.units + 3 + 40 * k < _; lia
  · rcases List.mem_cons.mp hp with rfl | hp
    · exact ⟨m, hb⟩
    · exact Z.bear p hp
  · show A.frames.map _ = _; rw [hfr]; rfl
  · intro e he
    rcases List.mem_cons.mp he with rfl | he
    · exact ⟨hk, _, rfl, .inl rfl⟩
    · exact hin.push hb e he
end
section
variable {M : Model} {A : Around} {E : Value → Shared → Prop} {s : Shared} {g g₀ : Heap} {L c : Addr} {m : Str → Option Value} {news news' : List (Addr × Obj)} {env : Env} {x : Str} {pos : Pos} {v : Value} {o : Obj}
/-- a name in a cell -/
theorem nm_cell {Q : Value → Shared → Prop} (hl : env.cells.lookup x = some c) (hv : s.heap.IsCell c (some v)) (h : Q v s) (hk : env.scope.kind = .function) (hx : env.kindOf x = some .cell ∨ env.kindOf x = some .free) (hd : (x == ("__debug__" : Str)) = false := by decide) (hn : (x == ("__classdict__" : Str)) = false := by decide) :
    wpAny M A (eval (.Name x pos) env) Q E s := wpAny_Name (hx.elim (fun hx => wpAny_loadName_cell hk hx hl hv h) fun hx => wpAny_loadName_free hk hx hl hv h hn) hd
theorem nm_cellB {Q : Value → Shared → Prop} (S : St g L news s.heap m) (hl : env.cells.lookup x = some c) (k : Sub g₀ g) (e : g₀.get? c = some o) (hd' : o.data = .cell (some v)) (h : Q v s) (hk : env.scope.kind = .function) (hx : env.kindOf x = some .cell ∨ env.kindOf x = some .free) (hd : (x == ("__debug__" : Str)) = false := by decide) (hn : (x == ("__classdict__" : Str)) = false := by decide) :
    wpAny M A (eval (.Name x pos) env) Q E s := nm_cell hl ⟨o, (k.trans S.keep) _ _ e, hd'⟩ h hk hx hd hn
theorem nm_cellN {Q : Value → Shared → Prop} (S : St g L news s.heap m) (hl : env.cells.lookup x = some c) (e : (c, o) ∈ news) (hd' : o.data = .cell (some v)) (h : Q v s) (hk : env.scope.kind = .function) (hx : env.kindOf x = some .cell ∨ env.kindOf x = some .free) (hd : (x == ("__debug__" : Str)) = false := by decide) (hn : (x == ("__classdict__" : Str)) = false := by decide) :
    wpAny M A (eval (.Name x pos) env) Q E s := nm_cell hl ⟨o, S.nw _ e, hd'⟩ h hk hx hd hn
theorem st_cell {v₀ : Option Value} {news' : Obj → List (Addr × Obj)} {Q : Unit → Shared → Prop} (S : St g L news s.heap m) (hl : env.cells.lookup x = some c) (U : ∀ o', UpdS c o o' news (news' o')) (hd : o.data = .cell v₀) (h : ∀ o' h', o'.data = .cell (some v) → St g L (news' o') h' m → Q () { s with heap := h' })
    (hk : env.scope.kind = .function) (hx : env.kindOf x = some .cell) : wpAny M A (storeName env x v) Q E s := by
  obtain ⟨r, h1, _⟩ := (U o).split
  refine wpAny_storeName_cell hk hx hl ⟨o, S.nw _ (U o).mem, hd⟩ fun h' hv hs => ?_
  obtain ⟨o', ho', hd'⟩ := hv
  obtain ⟨r', h1', h2'⟩ := (U o').split
  exact h o' h' hd' (((S.perm h1').turn hs ho').perm h2')
end
end Mine

end
section
open PySem PySem.W PySem.W.X PyProof.Rows PySem.Calls PySem.Spec
namespace Mine
section
variable {prog : Program} {w : World} {A : Around} {s : Shared} {R : Result → Shared → Prop}
/-- a turn of a comprehension's loop, whatever it does with what passes -/
noncomputable abbrev turnOf (e : Expr) (d : Nat) (target : Expr) (ifs : List Expr) (p : Pos) (it acc : Value) (env : Env) (BODY : Sem Unit) : Sem Fin := do
  standAt p
  match ← pyNext it with
  | none => pure (.done .next)
  | some v =>
    letOwnedTupleGo target it v
    assign target env v
    let mut ok := true
    for c in ifs do
      if ok then ok ← isTrue c env (eval c env)
    if ok then BODY
    again (.compLoop e d it acc env)
theorem compLoop_B {elt target : Expr} {gens : List Comprehension} {scope : Scope} {pos : Pos} {ifs : List Expr} {d : Nat} {p : Pos} {it acc : Value} {env : Env} {BODY : Sem Unit} (hturn : compTurn (.ListComp elt gens scope pos) d it acc env = turnOf (.ListComp elt gens scope pos) d target ifs p it acc env BODY) (I : Nat → Shared → Prop)
    (turn : ∀ n s, I n s → wpAny (model prog w) A (pyNext it) (fun r s₁ => match r with
      | none => R (.ok .next) s₁
      | some v => wpAny (model prog w) A (letOwnedTupleGo target it v) (fun _ s₁' => wpAny (model prog w) A (assign target env v) (fun _ s₂ =>
          wpAny (model prog w) A (forIn ifs true fun c r => if r = true then do let ok ← isTrue c env (eval c env); pure (ForInStep.yield ok) else pure (ForInStep.yield r)) (fun ok s₃ =>
            if ok = true then wpAny (model prog w) A BODY (fun _ s₅ => ∃ m, m < n ∧ I m s₅) (fun _ _ => False) s₃
            else ∃ m, m < n ∧ I m s₃) (fun _ _ => False) s₂) (fun _ _ => False) s₁') (fun _ _ => False) s₁) (fun _ _ => False) s)
    (n : Nat) (h : I n s) : codeAny (model prog w) A (.compLoop (.ListComp elt gens scope pos) d it acc env) R s := by
  refine codeAny_loop rfl I (fun n s hI => ?_) n h
  show wpAny _ A ((compTurn (.ListComp elt gens scope pos) d it acc env).onRaise (fun x => do noteFrame x env; theTreesLotGoes x)) _ _ s
  refine wpAny_noted ?_
  rw [hturn]
  refine wpAny_bind (wpAny_standAt (wpAny_bind (wpAny_mono (turn n s hI) (fun r s₁ h₁ => ?_) fun _ _ x => x.elim)))
  cases r with
  | none => exact wpAny_pure h₁
  | some v =>
    refine wpAny_bind (wpAny_mono h₁ (fun _ s₁' h₁' => ?_) fun _ _ x => x.elim)
    refine wpAny_bind (wpAny_mono h₁' (fun _ s₂ h₂ => wpAny_bind (wpAny_mono h₂ (fun ok s₃ h₃ => ?_) fun _ _ x => x.elim)) fun _ _ x => x.elim)
    cases ok with
    | false => exact wpAny_pure ⟨rfl, h₃⟩
    | true => exact wpAny_bind (wpAny_mono h₃ (fun _ s₅ h₅ => wpAny_pure ⟨rfl, h₅⟩) fun _ _ x => x.elim)
theorem compStart_G {elt target iter : Expr} {gens : List Comprehension} {scope : Scope} {pos : Pos} {ifs : List Expr} {d : Nat} {it acc : Value} {env : Env} (hg : gens[d]? = some ⟨target, iter, ifs, 0⟩)
    (h0 : codeAny (model prog w) A (.compLoop (.ListComp elt gens scope pos) d it acc env) R s)
    (h : wpAny (model prog w) A (pyIter it) (fun it' s' => codeAny (model prog w) A (.compLoop (.ListComp elt gens scope pos) d it' acc env) R s') (fun _ _ => False) s) :
    codeAny (model prog w) A (.compStart (.ListComp elt gens scope pos) d it acc env) R s := by
  refine codeAny_of_tree ?_
  show wpAny _ _ ((compStart (.ListComp elt gens scope pos) d it acc env).onRaise (fun x => do noteFrame x env; standAt theWindowsPlace)) _ _ s
  refine wpAny_notedAt ?_
  have hcl : (clausesOf (.ListComp elt gens scope pos))[d]? = some ⟨target, iter, ifs, 0⟩ := hg
  unfold compStart
  simp only [hcl, Option.elim_some, bne_self_eq_false, Bool.false_eq_true, if_false]
  refine wpAny_bind (wpAny_askSetting (wpAny_ite ?_))
  split
  · first
      | exact wpAny_bind (wpAny_pure (wpAny_pure (And.intro rfl h0)))
      | exact wpAny_pure (And.intro rfl h0)
  · exact wpAny_bind (wpAny_rule (wpAny_bind (wpAny_standAt (wpAny_bind (wpAny_mono h (fun it' s' h' => wpAny_pure (And.intro rfl h')) fun _ _ x => x.elim)))))
end
/-- behind one turn -/
inductive AfterT (s : Shared) (C I : Addr) (o : Obj) (g : Heap) (fs : List (Addr × Obj)) (Inv : Heap → (Str → Option Value) → List (Addr × Obj) → Prop) (s' : Shared) : Prop
  | mk (g' : Heap) (m' : Str → Option Value) (news' : List (Addr × Obj)) (fs' : List (Addr × Obj)) (h' : Heap) (tk' : Nat)
      (_ : s' = { s with heap := h', toks := tk' }) (_ : Sub g g') (_ : Up fs fs') (_ : St g' C ((news' ++ [(I, o)]) ++ fs') h' m') (_ : Inv g' m' news') : AfterT s C I o g fs Inv s'
section
variable {prog : Program} {w : World} {A : Around} {s : Shared} {R : Result → Shared → Prop} {g : Heap} {C I : Addr} {cenv : Env} {fs : List (Addr × Obj)} {n : Nat} {P : Nat → Value → Prop} {ob : Nat → Obj → Prop}
theorem compLoop_T {elt target : Expr} {gens : List Comprehension} {scope : Scope} {pos : Pos} {ifs : List Expr} {d : Nat} {p : Pos} {acc : Value} {BODY : Sem Unit} (hturn : compTurn (.ListComp elt gens scope pos) d (.ref I) acc cenv = turnOf (.ListComp elt gens scope pos) d target ifs p (.ref I) acc cenv BODY)
    (Inv : Nat → Heap → (Str → Option Value) → List (Addr × Obj) → Prop) (hA : A.handled = none) (W : It prog w I g n P ob)
    (step : ∀ i v o g' m' news' fs' h tk, i < n → P i v → ob (i + 1) o → Inv i g' m' news' → Sub g g' → Up fs fs' → St g' C ((news' ++ [(I, o)]) ++ fs') h m' →
      wpAny (model prog w) A (letOwnedTupleGo target (.ref I) v) (fun _ s₁ => wpAny (model prog w) A (assign target cenv v) (fun _ s₂ => wpAny (model prog w) A (forIn ifs true fun c r => if r = true then do let ok ← isTrue c cenv (eval c cenv); pure (ForInStep.yield ok) else pure (ForInStep.yield r)) (fun ok s₃ =>
        if ok = true then wpAny (model prog w) A BODY (fun _ s₄ => AfterT s C I o g' fs' (Inv (i + 1)) s₄) (fun _ _ => False) s₃ else AfterT s C I o g' fs' (Inv (i + 1)) s₃) (fun _ _ => False) s₂) (fun _ _ => False) s₁) (fun _ _ => False) { s with heap := h, toks := tk })
    (fin : ∀ g' m' news' fs' h tk, Inv n g' m' news' → Sub g g' → Up fs fs' → St g' C (news' ++ fs') h m' → R (.ok .next) { s with heap := h, toks := tk })
    {news : List (Addr × Obj)} {o : Obj} {h₁ : Heap} {tk₁ : Nat} {m : Str → Option Value} (h0 : ob 0 o) (hS : St g C ((I, o) :: (news ++ fs)) h₁ m) (hI : Inv 0 g m news) :
    codeAny (model prog w) A (.compLoop (.ListComp elt gens scope pos) d (.ref I) acc cenv) R { s with heap := h₁, toks := tk₁ } := by
  refine compLoop_B hturn (LoopAt s n ob Inv g fs C I) ?_ (n + 1)
    ⟨0, o, g, m, news, fs, h₁, tk₁, rfl, Nat.zero_le _, rfl, h0, hI, Sub.refl _, Up.refl _, hS⟩
  rintro k s' ⟨i, o, g', m', news', fs', h', tk, rfl, hi, rfl, hob, hInv, hk, hu, S⟩
  have after : ∀ {g'' : Heap} {fs'' : List (Addr × Obj)} {o' : Obj} (s₄ : Shared), i < n → ob (i + 1) o' → AfterT s C I o' g' fs' (Inv (i + 1)) s₄ → ∃ m, m < n + 1 - i ∧ LoopAt s n ob Inv g fs C I m s₄ := by
    rintro _ _ o' s₄ hlt hob' ⟨g₄, m₄, news₄, fs₄, h₄, tk₄, rfl, k₄, u₄, S₄, I₄⟩
    exact ⟨n + 1 - (i + 1), turn_lt (by assumption), i + 1, o', g₄, m₄, news₄, fs₄, h₄, tk₄, rfl, hlt, rfl, hob', I₄, hk.trans k₄, hu.trans u₄, S₄.perm (perm1 _ _ _)⟩
  by_cases hlt : i < n
  · refine W.item A i o _ _ _ g' C _ m' hA hlt hk hob S fun v o' h₂ tk₂ hP hob' S2 => ?_
    refine wpAny_mono (step i v o' g' m' news' fs' h₂ tk₂ hlt hP hob' hInv hk hu (S2.perm (perm1 _ _ _).symm)) (fun _ s₁ h₁ => wpAny_mono h₁ (fun _ s₂ h₂ => wpAny_mono h₂ (fun ok s₃ h₃ => ?_) fun _ _ x => x.elim) fun _ _ x => x.elim) fun _ _ x => x.elim
    cases ok with
    | false => exact after (g'' := g) (fs'' := fs) s₃ hlt hob' h₃
    | true =>
      refine wpAny_mono h₃ (fun _ s₄ h₄ => after (g'' := g) (fs'' := fs) s₄ hlt hob' h₄) fun _ _ x => x.elim
  · obtain rfl : i = n := Nat.le_antisymm hi (Nat.not_lt.mp hlt)
    refine W.done A o _ _ _ g' C _ m' hA hk hob S fun h₂ tk₂ S2 => ?_
    exact fin g' m' news' fs' h₂ tk₂ hInv hk hu S2
inductive EmitK (D : Addr) (y : Value) (Q : Unit → Shared → Prop) (s₄ : Shared) : Prop
  | mk (g : Heap) (L : Addr) (m : Str → Option Value) (news : List (Addr × Obj)) (ys : List Value) (ep : Nat) (_ : St g L ((D, lstO ys ep) :: news) s₄.heap m) (_ : ys.length ≤ sizeLine) (_ : ∀ h', St g L ((D, lstO (ys ++ [y]) (ep + 1)) :: news) h' m → Q () { s₄ with heap := h' }) : EmitK D y Q s₄
/-- what passes goes onto the list -/
theorem emit_S {D : Addr} {elt : Expr} {Q : Unit → Shared → Prop} {E : Value → Shared → Prop}
    (h : wpAny (model prog w) A (eval elt cenv) (fun y s₄ => EmitK D y Q s₄) E s) :
    wpAny (model prog w) A (do let _ ← call (.builtin "list.append") [.ref D, ← eval elt cenv]) Q E s := by
  refine wpAny_bind (wpAny_mono h (fun y s₄ h₄ => ?_) fun _ _ x => x)
  obtain ⟨g, L, m, news, ys, ep, S, hz, hq⟩ := h₄
  exact wpAny_bind (append_S S hz fun h' S' => wpAny_pure (hq h' S'))
end
end Mine

end
section
open PySem PySem.W PySem.W.X PyProof.Rows PySem.Calls PySem.Spec
namespace Mine
theorem St.swap {g h : Heap} {L C : Addr} {oC : Obj} {m mC : Str → Option Value} {news : List (Addr × Obj)} (S : St g L ((C, oC) :: news) h m) (hb : Bears oC mC) : ∃ oL, Bears oL m ∧ St g C ((L, oL) :: news) h mC := by
  obtain ⟨oL, es, ep, hL, hb'⟩ := S.ns
  have nd := List.nodup_cons.mp S.nd
  have hC := S.nw _ (.head _)
  have CL : C ≠ L := S.nL _ (.head _)
  refine ⟨oL, ⟨es, ep, hb'⟩, hb.ns hC, S.keep, S.ng _ (.head _), fun p hp => ?_, fun p hp => ?_, fun p hp => ?_, ?_⟩
  · rcases List.mem_cons.mp hp with rfl | hp
    · exact hL
    · exact S.nw p (.tail _ hp)
  · rcases List.mem_cons.mp hp with rfl | hp
    · exact Ne.symm CL
    · exact fun q => nd.1 (by show C ∈ _; rw [← q]; exact List.mem_map_of_mem (f := (·.1)) hp)
  · rcases List.mem_cons.mp hp with rfl | hp
    · exact S.off
    · exact S.ng p (.tail _ hp)
  · rw [List.map_cons]
    refine List.nodup_cons.mpr ⟨fun hm => ?_, nd.2⟩
    obtain ⟨p, hp, q⟩ := List.mem_map.mp hm
    exact S.nL p (.tail _ hp) q
theorem bears0 : Bears { cls := .type "dict", data := .dict #[] } fun _ => none := ⟨#[], _, rfl, by intro e he; simp at he, fun _ => rfl⟩
noncomputable abbrev celO : Obj := { cls := .type "cell", data := .cell none }
/-- the scope of a comprehension lays no cell, or one -/
noncomputable def LaysCells (scope : Scope) (cl : List (Str × Addr)) (one : Option Str) : Prop := match one with
  | none => (∀ a, cellsFrom a scope.names cl = cl) ∧ ∀ h, pushCells h scope.names = h
  | some x => (∀ a, cellsFrom a scope.names cl = (x, a) :: cl) ∧ ∀ h, pushCells h scope.names = h.push celO
noncomputable def clOf (one : Option Str) (c : Addr) (cl : List (Str × Addr)) : List (Str × Addr) := match one with
  | none => cl
  | some x => (x, c) :: cl
noncomputable def osOf (one : Option Str) (c : Addr) : List (Addr × Obj) := match one with
  | none => []
  | some _ => [(c, celO)]
/-- a comprehension that has come to its end -/
inductive CompEnd2 (s : Shared) (g : Heap) (L C D : Addr) (oL : Obj) (m : Str → Option Value) (frs : List (Addr × Obj)) (K : Heap → List (Addr × Obj) → Shared → Prop) (s' : Shared) : Prop
  | mk (g' : Heap) (news' : List (Addr × Obj)) (fs' : List (Addr × Obj)) (h' : Heap) (tk' : Nat) (m' : Str → Option Value) (ys : List Value) (ep : Nat)
      (_ : s' = { s with heap := h', toks := tk' }) (_ : Sub g g') (_ : Up ((L, oL) :: frs) fs') (_ : St g' C (((D, lstO ys ep) :: news') ++ fs') h' m') (_ : ∀ frs₁ h'', Up frs frs₁ → St g' L (((D, lstO ys ep) :: news') ++ frs₁) h'' m → K g' (((D, lstO ys ep) :: news') ++ frs₁) { s with heap := h'', toks := tk' }) : CompEnd2 s g L C D oL m frs K s'
/-- what a comprehension needs once its iterator stands -/
inductive CompGo2 (prog : Program) (w : World) (A : Around) (env : Env) (elt : Expr) (gens : List Comprehension) (scope : Scope) (pos : Pos) (cl : List (Str × Addr)) (one : Option Str) (K : Heap → Addr → (Str → Option Value) → List (Addr × Obj) → Addr → Shared → Prop) (it : Value) (s : Shared) : Prop
  | mk (I : Addr) (g : Heap) (L : Addr) (m : Str → Option Value) (news : List (Addr × Obj)) (frs : List (Addr × Obj)) (k : Nat) (o : Obj)
      (_ : it = .ref I) (_ : Ar A L frs k) (_ : St g L ((I, o) :: (news ++ frs)) s.heap m) (_ : ∀ C D c oL h₁, Bears oL m → Ar A C ((L, oL) :: frs) k → St g C ((I, o) :: ((osOf one c ++ ((D, lstO [] 0) :: news)) ++ (L, oL) :: frs)) h₁ (fun _ => none) → codeAny (model prog w) A (.compStart (.ListComp elt gens scope pos) 0 (.ref I) (.ref D) (compEnvC scope (clOf one c cl) C env)) (fun r s' => match r with | .ok _ => CompEnd2 s g L C D oL m frs (fun g' led s' => K g' L m led D s') s' | .error _ => False) { s with heap := h₁ }) : CompGo2 prog w A env elt gens scope pos cl one K it s
section
variable {prog : Program} {w : World} {A : Around} {E : Value → Shared → Prop} {s : Shared} {env : Env}
theorem newEnv_G {scope : Scope} {cl : List (Str × Addr)} {one : Option Str} {Q : Env → Shared → Prop} {M : Model} (hl : LaysCells scope cl one)
    (h : Q (newEnv scope s.heap.objs.size env.globals (clOf one (s.heap.objs.size + 1) cl) env.qual none .none (some env) builtinsNs) { s with heap := (osOf one (s.heap.objs.size + 1)).foldl (fun h p => h.push p.2) (s.heap.push { cls := .type "dict", data := .dict #[] }) }) :
    wpAny M A (newFunctionEnv scope env.globals cl [] env.qual none .none (some env)) Q E s := by
  simp only [newFunctionEnv, Option.isSome_some, if_true]
  refine wpAny_bind (wpAny_alloc ?_)
  refine wpAny_bind (wpAny_layCells _ (fun name kind cells => by cases hkc : kind == NameKind.cell <;> simp [hkc]) _ _ _ _ ?_)
  rw [show ({ s with heap := s.heap.push { cls := .type "dict", data := .dict #[] } } : Shared).heap.objs.size = s.heap.objs.size + 1 from Heap.size_push ..]
  cases one with
  | none =>
    obtain ⟨h1, h2⟩ := hl
    rw [h1, h2]
    refine wpAny_bind (by rw [List.forIn_nil]; exact wpAny_pure (wpAny_pure h))
  | some x =>
    obtain ⟨h1, h2⟩ := hl
    rw [h1, h2]
    refine wpAny_bind (by rw [List.forIn_nil]; exact wpAny_pure (wpAny_pure h))
theorem comp_block2 {elt : Expr} {gens : List Comprehension} {scope : Scope} {pos : Pos} {cl : List (Str × Addr)} {one : Option Str} {RR : Value → Addr → Result → Shared → Prop} {K : Heap → Addr → (Str → Option Value) → List (Addr × Obj) → Addr → Shared → Prop} {it : Value} (hl : LaysCells scope cl one)
    (h : CompGo2 prog w A env elt gens scope pos cl one K it s)
    (hRR : ∀ g' L m D C oC mC led f s', Bears oC mC → St g' L ((C, oC) :: led) s'.heap m → (∀ h'', St g' L led h'' m → K g' L m led D { s' with heap := h'' }) → RR (.ref D) C (.ok f) s') :
    wpAny (model prog w) A (newList []) (fun acc s₃ => wpAny (model prog w) A (newFunctionEnv scope env.globals cl [] env.qual none .none (some env)) (fun cenv s₄ =>
      codeAny (model prog w) A (.compStart (.ListComp elt gens scope pos) 0 it acc { cenv with scope := relabel scope env }) (RR acc cenv.locals) s₄) E s₃) E s := by
  obtain ⟨I, g, L, m, news, frs, k, o, rfl, Z, S, go⟩ := h
  refine wpAny_newObj_type (newEnv_G hl ?_)
  dsimp only
  have S1 := S.push { cls := .type "list", dict := none, data := .seq ([] : List Value).toArray } rfl
  generalize hD : s.heap.objs.size = D at S1 ⊢
  generalize hH2 : s.heap.push { cls := .type "list", dict := none, data := .seq ([] : List Value).toArray } = H2 at S1 ⊢
  have S2 := S1.push { cls := .type "dict", data := .dict #[] } rfl
  generalize hC : H2.objs.size = C at S2 ⊢
  have S3 : St g L (osOf one (C + 1) ++ ((C, { cls := .type "dict", data := .dict #[] }) :: (D, lstO [] 0) :: (I, o) :: (news ++ frs))) ((osOf one (C + 1)).foldl (fun h p => h.push p.2) (H2.push { cls := .type "dict", data := .dict #[] })) m := by
    cases one with
    | none => exact S2
    | some x =>
      have := S2.push celO rfl
      rw [Heap.size_push, hC] at this
      exact this
  generalize (osOf one (C + 1)).foldl (fun h p => h.push p.2) (H2.push { cls := .type "dict", data := .dict #[] }) = H4 at S3 ⊢
  have S4 : St g L ((C, { cls := .type "dict", data := .dict #[] }) :: (osOf one (C + 1) ++ ((D, lstO [] 0) :: (I, o) :: (news ++ frs)))) H4 m := S3.perm List.perm_middle
  obtain ⟨oL, hbL, S5⟩ := S4.swap (mC := fun _ => none) bears0
  have S6 : St g C ((I, o) :: ((osOf one (C + 1) ++ ((D, lstO [] 0) :: news)) ++ (L, oL) :: frs)) H4 (fun _ => none) := S5.perm (by
    have h1 : ((L, oL) :: (osOf one (C + 1) ++ (D, lstO [] 0) :: (I, o) :: (news ++ frs))).Perm ((L, oL) :: (I, o) :: (osOf one (C + 1) ++ (D, lstO [] 0) :: (news ++ frs))) := by
      have q := List.perm_middle (a := (I, o)) (l₁ := osOf one (C + 1) ++ [(D, lstO [] 0)]) (l₂ := news ++ frs)
      refine List.Perm.cons _ ?_
      simpa only [List.append_assoc, List.cons_append, List.nil_append] using q
    have h2 : ((L, oL) :: (osOf one (C + 1) ++ (D, lstO [] 0) :: (news ++ frs))).Perm ((osOf one (C + 1) ++ (D, lstO [] 0) :: news) ++ (L, oL) :: frs) := by
      have := (List.perm_middle (a := (L, oL)) (l₁ := osOf one (C + 1) ++ (D, lstO [] 0) :: news) (l₂ := frs)).symm
      simpa only [List.append_assoc, List.cons_append] using this
    exact h1.trans ((List.Perm.swap _ _ _).trans (h2.cons _)))
  have ZC : Ar A C ((L, oL) :: frs) k := by
    obtain ⟨l, hl1, hl2⟩ := Z.frames
    refine ⟨Z.hand, Z.room, Z.units, fun p hp => ?_, l, hl1, hl2.push hbL⟩
    rcases List.mem_cons.mp hp with rfl | hp
    · exact ⟨m, hbL⟩
    · exact Z.bear p hp
  refine codeAny_mono (go C D (C + 1) oL H4 hbL ZC S6) fun r s' hr => ?_
  cases r with
  | error _ => exact hr.elim
  | ok f =>
    obtain ⟨g', news', fs', h', tk', m', ys, ep, rfl, hk, hu, hS, hK⟩ := hr
    obtain ⟨oC, esC, epC, hCo, hbC⟩ := hS.ns
    obtain ⟨frs₁, hu₁, S7, hsub, hLin⟩ := leaveIn hbL hS hu
    refine hRR g' L m D C oC m' _ f _ ⟨esC, epC, hbC⟩ (S7.held hCo hS.off (fun q => ?_) fun p hp => ?_) fun h'' S8 => hK frs₁ h'' hu₁ S8
    · obtain ⟨o', hm⟩ := hLin
      exact hS.nL _ (List.mem_append_right _ hm) q.symm
    · refine hS.nL p ?_
      rcases List.mem_append.mp hp with h1 | h1
      · exact List.mem_append_left _ h1
      · exact List.mem_append_right _ (hsub p h1)
theorem ListComp_G {elt target iter : Expr} {ifs : List Expr} {rest : List Comprehension} {scope : Scope} {cl : List (Str × Addr)} {one : Option Str} {pos : Pos} {Q : Value → Shared → Prop}
    (hclos : closureFor scope env = pure cl) (hl : LaysCells scope cl one) (hkind : scope.kind = .function) (hnames : ∀ y ∈ scope.names, y.2 = .local → scope.names.lookup y.1 = some .local)
    (h : wpAny (model prog w) A (eval iter env) (fun xv s₁ => wpAny (model prog w) A (pyIter xv) (CompGo2 prog w A env elt (⟨target, iter, ifs, 0⟩ :: rest) scope pos cl one (fun _ _ _ _ D s' => Q (.ref D) s')) E s₁) E s)
    (hs : ∀ x, foldedSetIterable iter env x = pure x := by intro _; rfl) :
    wpAny (model prog w) A (eval (.ListComp elt (⟨target, iter, ifs, 0⟩ :: rest) scope pos) env) Q E s := by
  rw [eval_ListComp]
  refine wpAny_comprehension_free (use := none) rfl hs hclos hkind hnames (wpAny_mono h (fun xv s₁ h₁ => wpAny_mono h₁ (fun it s₂ h₂ => ?_) fun _ _ e => e) fun _ _ e => e)
  refine comp_block2 hl h₂ fun g' L m D C oC mC led f s' hb S' fin => ?_
  exact ⟨mC, hb.ns (S'.nw _ (.head _)), fun h' hs' => fin h' (S'.dropBut fun b x hb e => (hs'.2 b (fun q => hb (List.mem_singleton.mpr q))).trans e)⟩
theorem Assign_ListComp_G {elt target iter : Expr} {ifs : List Expr} {rest : List Comprehension} {y : Str} {py : Pos} {scope : Scope} {cl : List (Str × Addr)} {one : Option Str} {pos spos : Pos} {Q : Flow → Shared → Prop}
    (hsw : swapsWith (.ListComp elt (⟨target, iter, ifs, 0⟩ :: rest) scope pos) (some (.Name y py)) spos.line env = pure true)
    (hclos : closureFor scope env = pure cl) (hl : LaysCells scope cl one) (hkind : scope.kind = .function) (hnames : ∀ y ∈ scope.names, y.2 = .local → scope.names.lookup y.1 = some .local)
    (hy : env.kindOf y = some .local) (hp : (env.scope.kind == .class || (env.scope.kind == .module && env.locals != env.globals)) = false)
    (h : wpAny (model prog w) A (eval iter env) (fun xv s₁ => wpAny (model prog w) A (pyIter xv) (CompGo2 prog w A env elt (⟨target, iter, ifs, 0⟩ :: rest) scope pos cl one (fun g L m ledger D s' => env.locals = L ∧ ∀ h', St g L ledger h' (upd m y (.ref D)) → Q .next { s' with heap := h', toks := s'.toks + 1 })) E s₁) E s)
    (hs : ∀ x, foldedSetIterable iter env x = pure x := by intro _; rfl) :
    wpAny (model prog w) A (exec (.Assign [.Name y py] (.ListComp elt (⟨target, iter, ifs, 0⟩ :: rest) scope pos) spos) env) Q E s := by
  rw [exec_Assign_Name_used _ _ _ _ hsw]
  refine wpAny_bind (wpAny_standAt (wpAny_bind ?_))
  show wpAny _ A (do let _ ← comprehension (.ListComp elt (⟨target, iter, ifs, 0⟩ :: rest) scope pos) scope env _ (newList []) false (eval iter env) (some (assign (.Name y py) env))) _ _ s
  refine wpAny_bind (wpAny_mono (wpAny_comprehension_free (use := some (assign (.Name y py) env)) (Q := fun _ s' => Q .next s') rfl hs hclos hkind hnames
    (wpAny_mono h (fun xv s₁ h₁ => wpAny_mono h₁ (fun it s₂ h₂ => ?_) fun _ _ e => e) fun _ _ e => e)) (fun _ s' hq => wpAny_pure (wpAny_pure hq)) fun _ _ e => e)
  refine comp_block2 hl h₂ fun g' L m D C oC mC led f s' hb S' fin => ?_
  obtain ⟨rfl, fin⟩ := fin s'.heap S'.drop
  refine wpAny_assign_Name (wpAny_storeName_local hy S'.ns (fun h₃ hn₃ hs₃ => ?_) hp)
  have S4 := S'.setL hn₃ hs₃
  refine ⟨mC, hb.ns (S4.nw _ (.head _)), fun h' hs' => fin h' (S4.dropBut fun b x hb e => (hs'.2 b (fun q => hb (List.mem_singleton.mpr q))).trans e)⟩
end
end Mine

end
section
open PySem PySem.W PySem.W.X PyProof.Rows PySem.Calls PySem.Spec
namespace Mine
theorem turn_last (elt target iter : Expr) (ifs : List Expr) (scope : Scope) (pos : Pos) (it acc : Value) (env : Env) :
    compTurn (.ListComp elt [⟨target, iter, ifs, 0⟩] scope pos) 0 it acc env = turnOf (.ListComp elt [⟨target, iter, ifs, 0⟩] scope pos) 0 target ifs iter.pos it acc env (do let _ ← call (.builtin "list.append") [acc, ← eval elt env]) := by rfl
theorem turn_two0 (elt t0 i0 t1 i1 : Expr) (f0 f1 : List Expr) (scope : Scope) (pos : Pos) (it acc : Value) (env : Env) :
    compTurn (.ListComp elt [⟨t0, i0, f0, 0⟩, ⟨t1, i1, f1, 0⟩] scope pos) 0 it acc env = turnOf (.ListComp elt [⟨t0, i0, f0, 0⟩, ⟨t1, i1, f1, 0⟩] scope pos) 0 t0 f0 i0.pos it acc env (do
      let x ← eval i1 env
      standAt i1.pos
      let x ← foldedSetIterable i1 env x
      let _ ← runOwn (.compStart (.ListComp elt [⟨t0, i0, f0, 0⟩, ⟨t1, i1, f1, 0⟩] scope pos) 1 (← holding [x] (pyIter x)) acc env) env) := by
  unfold turnOf
  simp only [bind_assoc, pure_bind]
  rfl
theorem turn_two1 (elt t0 i0 t1 i1 : Expr) (f0 f1 : List Expr) (scope : Scope) (pos : Pos) (it acc : Value) (env : Env) :
    compTurn (.ListComp elt [⟨t0, i0, f0, 0⟩, ⟨t1, i1, f1, 0⟩] scope pos) 1 it acc env = turnOf (.ListComp elt [⟨t0, i0, f0, 0⟩, ⟨t1, i1, f1, 0⟩] scope pos) 1 t1 f1 i1.pos it acc env (do let _ ← call (.builtin "list.append") [acc, ← eval elt env]) := by rfl
theorem nest_S2 {prog : Program} {w : World} {A : Around} {s : Shared} {i1 : Expr} {e : Expr} {d : Nat} {acc : Value} {env : Env} {Q : Unit → Shared → Prop} (hs : ∀ x, foldedSetIterable i1 env x = pure x)
    (h : wpAny (model prog w) A (eval i1 env) (fun x s₁ => wpAny (model prog w) A (pyIter x) (fun it s₂ => codeAny (model prog w) A (.compStart e d it acc env) (fun r s' => match r with | .ok _ => Q () s' | .error _ => False) s₂) (fun _ _ => False) s₁) (fun _ _ => False) s) :
    wpAny (model prog w) A (do
      let x ← eval i1 env
      standAt i1.pos
      let x ← foldedSetIterable i1 env x
      let _ ← runOwn (.compStart e d (← holding [x] (pyIter x)) acc env) env) Q (fun _ _ => False) s := by
  refine wpAny_bind (wpAny_mono h (fun x s₁ h₁ => wpAny_bind (wpAny_standAt (wpAny_bind (wpAny_of_eq (hs x) (wpAny_bind (wpAny_holding (wpAny_mono h₁ (fun it s₂ h₂ => ?_) fun _ _ x => x))))))) fun _ _ x => x)
  refine wpAny_bind (wpAny_runOwn (h := none) ?_)
  rw [Around.mark_none]
  refine codeAny_mono h₂ fun r s' hr => ?_
  cases r with
  | ok f => exact wpAny_pure hr
  | error e => exact hr.elim
theorem tests0 {M : Model} {A : Around} {E : Value → Shared → Prop} {s : Shared} {env : Env} {Q : Bool → Shared → Prop} (h : Q true s) :
    wpAny M A (forIn ([] : List Expr) true fun c r => if r = true then do let ok ← isTrue c env (eval c env); pure (ForInStep.yield ok) else pure (ForInStep.yield r)) Q E s := wpAny_pure h
end Mine

end
section
set_option maxHeartbeats 1000000
open PySem PySem.W PySem.W.X PyProof.Rows PySem.Calls PySem.Spec
namespace Mine
noncomputable def IntP (g : Heap) (p : Int × Int) (v : Value) : Prop := ∃ a t u, v = .ref a ∧ g.get? a = some (tupObj [.int p.1 t, .int p.2 u])
theorem IntP.keeps {g g' : Heap} {p : Int × Int} {v : Value} (h : IntP g p v) (k : Sub g g') : IntP g' p v := let ⟨a, t, u, h1, h2⟩ := h; ⟨a, t, u, h1, k _ _ h2⟩
theorem maxP_snoc (b : Int × Int) (l : List (Int × Int)) (y : Int × Int) : maxP b (l ++ [y]) = if ltP (maxP b l) y then y else maxP b l := by unfold maxP; rw [List.foldl_append]; rfl
section
variable {prog : Program} {w : World} {A : Around} {E : Value → Shared → Prop} {s : Shared} {g : Heap} {L l : Addr} {m : Str → Option Value} {news : List (Addr × Obj)} {vs : List Value} {ep : Nat} {p0 : Int × Int} {ps : List (Int × Int)}
theorem max_S {Q : Value → Shared → Prop} (S : St g L news s.heap m) (hA : A.handled = none) (hu : A.units + 2 < cLine) (hl : g.get? l = some (lstO vs ep)) (hp : Paired (IntP g) (p0 :: ps) vs)
    (h : ∀ v h' tk, IntP g (maxP p0 ps) v → St g L news h' m → Q v { s with heap := h', toks := tk }) : wpAny (model prog w) A (call (.builtin "max") [.ref l]) Q E s := by
  have hname : (toString "max" ++ toString ".loop" : String) = "max.loop" := by decide
  refine call_function_tree F.kind_max F.plain_max F.entry_max (F.args_max1 _) ?_
  show wpAny _ A.in1 (Builtin.Builtins.bindParams "max" ["key", "default"] 0 ⟨[], []⟩ >>= _) _ _ s
  refine wpAny_bind (wpAny_of_eq (show Builtin.Builtins.bindParams "max" ["key", "default"] 0 ⟨[], []⟩ = pure [none, none] from rfl) ?_)
  refine wpAny_bind (wpAny_pure ?_)
  refine wpAny_bind ?_
  refine iter_list S (show g.IsList l vs.toArray from ⟨_, hl, rfl, _, rfl⟩) (Sub.refl _) ?_
  intro I o ob h1 W h0 S1
  refine wpAny_bind (wpAny_newObj_type ?_ (Nat.zero_le _))
  have S2 := S1.push (lstO [] 0) rfl
  generalize hB : h1.objs.size = Bx at S2
  rw [hname]
  dsimp only
  refine wpAny_pure ⟨plainId_quiet F.plain_max_loop _, ?_⟩
  have loop : ∀ (r i : Nat) (o : Obj) (h' : Heap) (tk : Nat) (best : List Value) (c : Nat), r = vs.toArray.size - i → i ≤ vs.toArray.size → ob i o → St g L ((Bx, lstO best c) :: (I, o) :: news) h' m →
      ((i = 0 ∧ best = []) ∨ ∃ j v, i = j + 1 ∧ best = [v, v] ∧ IntP g (maxP p0 (ps.take j)) v) →
      codeAny (model prog w) A (.builtin "max.loop" ⟨[.ref I, .none, .ref Bx], []⟩) (fun r s' => match r with | .ok (.ret v) => Q v s' | .ok _ => False | .error e => E e s') { s with heap := h', toks := tk } := by
    intro r
    induction r with
    | zero =>
      intro i o h' tk best c hr hi hob S3 hbest
      have hin : i = vs.toArray.size := sub_end hr.symm hi
      have hlen := hp.length
      rw [List.length_cons] at hlen
      rw [List.size_toArray] at hin
      rcases hbest with ⟨h0, _⟩ | ⟨j, v, hj, rfl, hv⟩
      · exact absurd (hlen.trans (hin.symm.trans h0)) (Nat.succ_ne_zero _)
      refine codeAny_builtin F.entry_max_loop ?_
      rw [Around.under_plainId F.plain_max_loop _]
      show wpAny _ A.in1 (seqItems? (.ref Bx) >>= _) _ _ _
      refine wpAny_bind (wpAny_seqItems (S3.nw _ (.head _)) rfl ?_)
      show wpAny _ A.in1 (tryCatch (pyNext (.ref I)) _ >>= _) _ _ _
      refine wpAny_bind (wpAny_tryCatch (W.done A.in1 o _ _ _ g L ((Bx, lstO [v, v] c) :: news) m hA (Sub.refl _) (by rw [List.size_toArray, ← hin]; exact hob) (S3.perm (List.Perm.swap _ _ _)) fun h5 tk5 S4 => ?_))
      show wpAny _ A.in1 (updateSeq Bx (fun _ => #[]) >>= _) _ _ _
      refine wpAny_bind ?_
      refine wpAny_updateSeq (S4.nw _ (.head _)) rfl (wpAny_bind (wpAny_letGo (wpAny_pure ?_)))
      have hps : ps.take j = ps := List.take_of_length_le (Nat.le_of_succ_le_succ (Nat.le_of_eq (hlen.trans (hin.symm.trans hj))))
      rw [hps] at hv
      exact h v _ tk5 hv (S4.dropBut fun b x hb e => (Heap.get?_update_other _ _ (fun q => hb (List.mem_singleton.mpr q.symm))).trans e)
    | succ r ih =>
      intro i o h' tk best c hr hi hob S3 hbest
      have hlt : i < vs.toArray.size := Nat.lt_of_sub_eq_succ hr.symm
      refine codeAny_builtin F.entry_max_loop ?_
      rw [Around.under_plainId F.plain_max_loop _]
      show wpAny _ A.in1 (seqItems? (.ref Bx) >>= _) _ _ _
      refine wpAny_bind (wpAny_seqItems (S3.nw _ (.head _)) rfl ?_)
      show wpAny _ A.in1 (tryCatch (pyNext (.ref I)) _ >>= _) _ _ _
      refine wpAny_bind (wpAny_tryCatch (W.item A.in1 i o _ _ _ g L ((Bx, lstO best c) :: news) m hA hlt (Sub.refl _) hob (S3.perm (List.Perm.swap _ _ _)) fun v o5 h5 tk5 hP hob5 S4 => ?_))
      have S5 := S4.perm (List.Perm.swap _ _ _)
      obtain ⟨p, hpi, hvp⟩ := paired_get hp (i := i) (b := v) (by simpa using hP)
      rcases hbest with ⟨rfl, rfl⟩ | ⟨j, vb, rfl, rfl, hvb⟩
      · show wpAny _ A.in1 (updateSeq Bx (fun _ => #[v, v]) >>= _) _ _ _
        refine wpAny_bind ?_
        refine wpAny_updateSeq (S5.nw _ (.head _)) rfl ?_
        rw [hname]
        have hp0 : p = p0 := by simpa using hpi.symm
        subst hp0
        exact wpAny_pure ⟨plainId_quiet F.plain_max_loop _, ih 1 _ _ _ [v, v] _ (sub_step hr.symm).symm hlt hob5 (S5.upd rfl rfl) (.inr ⟨0, v, rfl, rfl, by simpa [maxP] using hvp⟩)⟩
      · show wpAny _ A.in1 (tryCatch (holding [v, v] (richCompare .Gt v vb >>= _)) _ >>= _) _ _ _
        obtain ⟨a, t1, t2, rfl, ha⟩ := hvp
        obtain ⟨b, u1, u2, rfl, hb⟩ := hvb
        have hpj : ps[j]? = some p := by simpa using hpi
        have htk : ps.take (j + 1) = ps.take j ++ [p] := by rw [List.take_add_one, hpj]; rfl
        refine wpAny_bind (wpAny_tryCatch (wpAny_holding (wpAny_bind (tup_gt (lt_line hu (by decide)) (S5.keep _ _ ha) (S5.keep _ _ hb) ?_))))
        refine wpAny_bind (wpAny_holding (wpAny_truthy_bool ?_))
        refine wpAny_bind (wpAny_letGo (wpAny_pure ?_))
        cases hlp : ltP ((maxP p0 (ps.take j)).1, (maxP p0 (ps.take j)).2) (p.1, p.2) with
        | true =>
          simp only [if_true]
          refine wpAny_bind ?_
          refine wpAny_updateSeq (S5.nw _ (.head _)) rfl (wpAny_bind (wpAny_letGo ?_))
          rw [hname]
          exact wpAny_pure ⟨plainId_quiet F.plain_max_loop _, ih (j + 2) _ _ _ [.ref a, .ref a] _ (sub_step hr.symm).symm hlt hob5 (S5.upd rfl rfl) (.inr ⟨j + 1, .ref a, rfl, rfl, by rw [htk, maxP_snoc, if_pos hlp]; exact ⟨a, t1, t2, rfl, ha⟩⟩)⟩
        | false =>
          simp only [Bool.false_eq_true, if_false]
          refine wpAny_bind (wpAny_letGo ?_)
          rw [hname]
          exact wpAny_pure ⟨plainId_quiet F.plain_max_loop _, ih (j + 2) _ _ _ [.ref b, .ref b] _ (sub_step hr.symm).symm hlt hob5 S5 (.inr ⟨j + 1, .ref b, rfl, rfl, by rw [htk, maxP_snoc, if_neg (by rw [hlp]; exact Bool.false_ne_true)]; exact ⟨b, u1, u2, rfl, hb⟩⟩)⟩
  exact loop _ 0 o _ _ [] 0 rfl (Nat.zero_le _) h0 S2 (.inl ⟨rfl, rfl⟩)
end
end Mine

end
section
set_option maxHeartbeats 1000000
open PySem PySem.W PySem.W.X PyProof.Rows PySem.Calls PySem.Spec
namespace Mine
theorem idx_spec {x : Nat} : ∀ {cs : List Nat} {vs : List Value}, SignsAt vs cs → x ∈ cs → ∃ hj : cs.idxOf x < vs.length, isStrOf ⟨#[x]⟩ vs[cs.idxOf x] = true ∧ ∀ i (hi : i < vs.length), i < cs.idxOf x → isStrOf ⟨#[x]⟩ vs[i] = false
  | [], _, _, hx => nomatch hx
  | c :: cs, vs, hs, hx => by
    unfold SignsAt at hs
    rw [List.map_cons] at hs
    cases hs with
    | cons n t hs' =>
      rename_i vs'
      by_cases q : c = x
      · subst q
        have e : (c :: cs).idxOf c = 0 := by simp
        simp only [e]
        exact ⟨by simp, by simp [isStrOf], fun i _ hlt => absurd hlt (Nat.not_lt_zero _)⟩
      · have hx' : x ∈ cs := by
          rcases List.mem_cons.mp hx with e | e
          · exact absurd e.symm q
          · exact e
        obtain ⟨h1, h2, h3⟩ := idx_spec (vs := vs') hs' hx'
        have e : (c :: cs).idxOf x = cs.idxOf x + 1 := by rw [List.idxOf_cons, show (c == x) = false by simpa using q]; rfl
        simp only [e]
        refine ⟨by simpa using h1, by simpa using h2, fun i hi hlt => ?_⟩
        cases i with
        | zero =>
          show isStrOf _ (Value.str _ _) = false
          simp only [isStrOf]
          exact beq_eq_false_iff_ne.mpr fun e => q (one_inj e)
        | succ i => exact h3 i (by simpa using hi) (by lia)
section
variable {prog : Program} {w : World} {A : Around} {E : Value → Shared → Prop} {s : Shared} {g : Heap} {L l : Addr} {m : Str → Option Value} {news : List (Addr × Obj)} {vs : List Value} {ep : Nat} {cs : List Nat} {x : Nat} {t : Tok}
theorem index_S {Q : Value → Shared → Prop} (hl : s.heap.get? l = some (lstO vs ep)) (hs : SignsAt vs cs) (hx : x ∈ cs) (hz : vs.length ≤ sizeLine)
    (h : Q (.int (cs.idxOf x : Nat) s.toks) { s with toks := s.toks + 1 }) : wpAny (model prog w) A (call (.builtin "list.index") [.ref l, .str ⟨#[x]⟩ t]) Q E s := by
  obtain ⟨a, b, c⟩ := idx_spec hs hx
  rw [sizeLine_eq] at hz
  refine call_meets PySem.F.slot_list_index ⟨_, hl, rfl⟩ PySem.F.entry_list_index (PySem.F.args_list_index_2 _ _)
    (MeetsSeq.list_index l vs.toArray ep (.str ⟨#[x]⟩ t) (isStrOf ⟨#[x]⟩) (fun y hy => eq_isStrOf _ t hs y (by simpa using hy)) (cs.idxOf x) (by simpa using a) (by lia) (by simpa using b) (fun i hi hlt => by simpa using c i (by simpa using hi) hlt)) ⟨hl, h⟩
theorem gm_index {pl : Sem Bool} {Q : Value × List Value → Shared → Prop} (hl : s.heap.get? l = some (lstO vs ep)) (h : Q (.builtin "list.index", [.ref l]) s) :
    wpAny (model prog w) A (getMethod (.ref l) "index" pl) Q E s :=
  getMethod_builtin ⟨_, hl, rfl⟩ PySem.F.plainAttrs_list PySem.F.slot_list_index PySem.F.type_list_index (fun a e => by cases e; exact ⟨_, hl, rfl⟩) h
end
end Mine

end
section
set_option maxHeartbeats 1000000
open PySem PySem.W PySem.W.X PyProof.Rows PySem.Calls PySem.Spec
namespace Mine
theorem St.made1 {g h h' : Heap} {L x : Addr} {ox : Obj} {m : Str → Option Value} {news : List (Addr × Obj)} (S : St g L news h m) (F : Fr {} L h' m) (N : News {} L h' ((x, ox) :: others h L L)) (h1 : h.get? x = none) : St g L ((x, ox) :: news) h' m := by
  have hk : ∀ b y, b ≠ L → h.get? b = some y → h'.get? b = some y := fun b y q e => (N _ (.tail _ (others_mem e q q))).1
  have gn : ∀ b, h.get? b = none → g.get? b = none := fun b e => by
    cases q : g.get? b with
    | none => rfl
    | some y => rw [S.keep _ _ q] at e; cases e
  refine ⟨F.ns, fun b y e => hk b y (fun q => by rw [q, S.off] at e; cases e) (S.keep b y e), S.off, fun p hp => ?_, fun p hp => ?_, fun p hp => ?_, ?_⟩
  · rcases List.mem_cons.mp hp with rfl | hp
    · exact (N _ (.head _)).1
    · exact hk _ _ (S.nL p hp) (S.nw p hp)
  · rcases List.mem_cons.mp hp with rfl | hp
    · exact (N _ (.head _)).2.1
    · exact S.nL p hp
  · rcases List.mem_cons.mp hp with rfl | hp
    · exact gn _ h1
    · exact S.ng p hp
  · refine List.nodup_cons.mpr ⟨fun hm => ?_, S.nd⟩
    obtain ⟨p, hp, e⟩ := List.mem_map.mp hm
    have e' : p.1 = x := e
    rw [← e', S.nw p hp] at h1; cases h1
/-- an item (rank, name), rank a tuple of two ints -/
noncomputable def RankAt (g : Heap) (e : (Int × Int) × Nat) (v : Value) : Prop := ∃ a b t, v = .ref a ∧ g.get? a = some (tupObj [.ref b, .str ⟨#[e.2]⟩ t]) ∧ IntP g e.1 (.ref b)
theorem RankAt.keeps {g g' : Heap} {e : (Int × Int) × Nat} {v : Value} (h : RankAt g e v) (k : Sub g g') : RankAt g' e v := by
  obtain ⟨a, b, t, h1, h2, h3⟩ := h
  exact ⟨a, b, t, h1, k _ _ h2, h3.keeps k⟩
theorem firsts {g h : Heap} (k : Sub g h) : ∀ {xs : List ((Int × Int) × Nat)} {vs : List Value}, Paired (RankAt g) xs vs → ∃ fs, KatTups h vs fs ∧ fs.length = vs.length ∧ ∀ f ∈ fs, ∃ b p, f = .ref b ∧ IntP h p f := by
  intro xs vs hp
  induction hp with
  | nil => exact ⟨[], trivial, rfl, fun _ hf => nomatch hf⟩
  | cons hx hr ih =>
    obtain ⟨fs, h1, h2, h3⟩ := ih
    obtain ⟨a, b, t, rfl, ha, hb⟩ := hx
    refine ⟨.ref b :: fs, KatTups.cons (k _ _ ha) rfl rfl rfl h1, congrArg Nat.succ h2, fun f hf => ?_⟩
    rcases List.mem_cons.mp hf with rfl | hf
    · exact ⟨b, _, rfl, hb.keeps k⟩
    · exact h3 f hf
section
variable {prog : Program} {w : World} {A : Around} {E : Value → Shared → Prop} {s : Shared} {g : Heap} {L l : Addr} {m : Str → Option Value} {news : List (Addr × Obj)} {vs : List Value} {ep : Nat}
theorem rank_lt {Q : Bool → Shared → Prop} {x y : (Int × Int) × Nat} {v u : Value} (hu : A.units + 2 < cLine) (k : Sub g s.heap) (hx : RankAt g x v) (hy : RankAt g y u) (hne : x.1 ≠ y.1) (h : Q (ltP x.1 y.1) s) :
    wpAny (model prog w) A (keyLt' (tuples' false) v u) Q E s := by
  obtain ⟨a, b, t, rfl, ha, _, t1, t2, e, hb⟩ := hx
  cases e
  obtain ⟨a', b', t', rfl, ha', _, u1, u2, e, hb'⟩ := hy
  cases e
  refine kat_lt (k _ _ ha) rfl (k _ _ ha') rfl ?_
  refine kat_cons (tup_eq (by lia) (k _ _ hb) (k _ _ hb') ?_)
  have hd : decide ((x.1.1, x.1.2) = (y.1.1, y.1.2)) = false := decide_eq_false fun q => hne q
  rw [hd]
  refine kat_no ?_
  rw [Bool.false_and]
  exact kat_one _ _ (tup_lt (by lia) (k _ _ hb) (k _ _ hb') h)
theorem sorted2_S {xs : List ((Int × Int) × Nat)} {Q : Value → Shared → Prop} (S : St g L news s.heap m) (hu : A.units + 8 < cLine) (hl : g.get? l = some (lstO vs ep)) (hp : Paired (RankAt g) xs vs) (h2 : 2 ≤ vs.length) (h64 : vs.length < 64)
    (hi : ∀ (i j : Nat) (x y : (Int × Int) × Nat), xs[i]? = some x → xs[j]? = some y → x.1 = y.1 → i = j) (hb : ∀ x ∈ xs, 0 ≤ x.1.2 ∧ x.1.2 < 100000)
    (h : ∀ (D : Addr) (is : List Nat) (e : Nat) (h' : Heap) (tk : Nat), St g L ((D, lstO (is.map fun i => vs.getD i Value.none) e) :: news) h' m → is.Perm (List.range vs.length) →
      (is.map fun i => xs.getD i ((0, 0), 0)).Pairwise (fun x y => ltP x.1 y.1 = true) → Q (.ref D) { s with heap := h', toks := tk }) :
    wpAny (model prog w) A (call (.builtin "sorted") [.ref l]) Q E s := by
  have N0 : News {} L s.heap (others s.heap L L) := fun p hp => ⟨(others_of hp).1, (others_of hp).2.1, no_get _⟩
  refine kat_sorted S.fr N0 ⟨_, S.keep _ _ hl, rfl, _, rfl⟩ h2 h64 fun D e1 h' F1 N1 hlt => ?_
  have hD : s.heap.get? D = none := by
    cases q : s.heap.get? D with
    | none => rfl
    | some o => exact absurd (hlt _ (others_mem q (N1 _ (.head _)).2.1 (N1 _ (.head _)).2.1)) (Nat.lt_irrefl _)
  have S1 := S.made1 F1 N1 hD
  obtain ⟨fs, hf1, hf2, hf3⟩ := firsts (h := h') S1.keep hp
  refine kat_kind (T := .type "tuple") hf1 (by lia) (fun v hv => ?_) (by decide) ?_
  · obtain ⟨b, p, rfl, _, t1, t2, e, hb⟩ := hf3 v hv
    cases e
    exact (Looks.ld hb).andThen .now
  rw [show (Value.type "tuple" != Value.type "tuple") = false by decide]
  have hlen := hp.length
  have at_ : ∀ i, i < vs.length → ∃ x, xs[i]? = some x ∧ RankAt g x (vs.getD i Value.none) := fun i hi => by
    obtain ⟨x, h1, h2⟩ := paired_get hp (i := i) (b := vs.getD i Value.none) (by simp [hi])
    exact ⟨x, h1, h2⟩
  have key_lt : ∀ x ∈ xs, ∀ y ∈ xs, decide (x.1.1 * 100000 + x.1.2 < y.1.1 * 100000 + y.1.2) = ltP x.1 y.1 := fun x hx y hy => by
    unfold ltP
    rw [decide_eq_decide]
    exact lexI (hb x hx) (hb y hy)
  refine sort_wp (n := vs.length) (key := fun i => (xs.getD i ((0, 0), 0)).1.1 * 100000 + (xs.getD i ((0, 0), 0)).1.2) (Inv := fun s' => s' = { s with heap := h' }) (fun i j hi' hj' e => ?_) (fun i j C s' hi' hj' hij hs hC => ?_) (by lia) rfl fun p s' hs hp' hu' => ?_
  · obtain ⟨x, hx, _⟩ := at_ i hi'
    obtain ⟨y, hy, _⟩ := at_ j hj'
    simp only [List.getD_eq_getElem?_getD, hx, hy, Option.getD_some] at e
    have k1 := key_lt x (List.mem_of_getElem? hx) y (List.mem_of_getElem? hy)
    have k2 := key_lt y (List.mem_of_getElem? hy) x (List.mem_of_getElem? hx)
    rw [e, decide_eq_false (Int.lt_irrefl _)] at k1
    rw [e, decide_eq_false (Int.lt_irrefl _)] at k2
    exact hi i j x y hx hy (ltP_total k1.symm k2.symm)
  · subst hs
    obtain ⟨x, hx, hrx⟩ := at_ i hi'
    obtain ⟨y, hy, hry⟩ := at_ j hj'
    have hC' := hC _ rfl
    simp only [List.getD_eq_getElem?_getD, hx, hy, Option.getD_some] at hC'
    rw [key_lt x (List.mem_of_getElem? hx) y (List.mem_of_getElem? hy)] at hC'
    unfold kas_ask
    exact rank_lt (by show A.units + 1 + 1 + 2 < cLine; exact lt_line (v := 4) hu (by decide)) S1.keep hrx hry (fun q => hij (hi i j x y hx hy q)) hC'
  · subst hs
    refine KasFin.intro F1 N1 (.head fun p hp => (fun q => by
      have := hlt p hp
      rw [q] at this; exact Nat.lt_irrefl _ this)) fun h'' c F2 N2 => ?_
    have S2 := S.made1 F2 N2 hD
    refine h D p.toList c h'' _ S2 ?_ ?_
    · simpa using Array.perm_iff_toList_perm.mp hp'
    · rw [List.pairwise_map, List.pairwise_iff_getElem]
      intro i j hi' hj' hij
      have hs := hp'.size
      have hin : i < vs.length := by simpa [hs] using hi'
      have hjn : j < vs.length := by simpa [hs] using hj'
      have hk := hu' i j hij hjn
      unfold Ky at hk
      have gi : p.getD i 0 = p.toList[i] := by simp [Array.getD, hs, hin]
      have gj : p.getD j 0 = p.toList[j] := by simp [Array.getD, hs, hjn]
      have li := hp'.lt hin
      have lj := hp'.lt hjn
      rw [gi] at li hk
      rw [gj] at lj hk
      obtain ⟨x, hx, _⟩ := at_ _ li
      obtain ⟨y, hy, _⟩ := at_ _ lj
      rw [← key_lt _ (by rw [List.getD_eq_getElem?_getD, hx]; exact List.mem_of_getElem? hx) _ (by rw [List.getD_eq_getElem?_getD, hy]; exact List.mem_of_getElem? hy)]
      exact decide_eq_true hk
end
end Mine

end
section
set_option maxHeartbeats 2000000
namespace Mine
open PySem PySem.W PySem.Calls PyProof.Rows
section
variable {prog : Program} {w : World} {A : Around} {E : Value → Shared → Prop} {s : Shared} {h₀ : Heap} {L a : Addr} {m : Str → Option Value} {news : List (Addr × Obj)} {vs : List Value}
theorem few_out (h2 : vs.length < 2) : (arrOf (SortSt.mk' general' (vs.toArray.zip vs.toArray) #[] 7 none)).map (·.2) = vs.toArray := by
  show (vs.toArray.zip vs.toArray).map (·.2) = vs.toArray
  cases vs with
  | nil => simp
  | cons v r =>
    cases r with
    | nil => simp
    | cons u q => rw [List.length_cons, List.length_cons] at h2; lia
theorem few_list_sort {n : Nat} {P : PySem.Fin → Shared → Prop} (F : Fr h₀ L s.heap m) (N : News h₀ L s.heap news) (ho : s.heap.get? a = some (seqObj "list" vs.toArray n)) (haL : a ≠ L) (ha0 : h₀.get? a = none) (hna : ∀ p ∈ news, p.1 ≠ a)
    (h2 : vs.length < 2)
    (h : ∀ c h', Fr h₀ L h' m → News h₀ L h' ((a, listOf vs.toArray c) :: news) → P (.done (.ret .none)) { s with heap := h' }) :
    wpAny (model prog w) A (Builtin.«list.sort» ⟨[.ref a], []⟩) P E s := by
  have s1 := Heap.SameBut.update s.heap a (Obj.mapSeq fun _ => (#[] : Array Value))
  obtain ⟨e1, ho1⟩ : ∃ e1, (s.heap.update a (Obj.mapSeq fun _ => (#[] : Array Value))).get? a = some (seqObj "list" #[] e1) := ⟨_, get?_update_seq ho fun _ => #[]⟩
  have F3 : Fr h₀ L (((s.heap.update a (Obj.mapSeq fun _ => (#[] : Array Value))).push (seqObj "tuple" vs.toArray 0)).push (seqObj "list" #[] 0)) m := ((kas_fr F s1 haL ha0).push _).push _
  have N2 : News h₀ L (((s.heap.update a (Obj.mapSeq fun _ => (#[] : Array Value))).push (seqObj "tuple" vs.toArray 0)).push (seqObj "list" #[] 0)) news :=
    (kas_news N s1 hna).grown fun b x e => Heap.get?_push_of_some _ (Heap.get?_push_of_some _ e)
  have N3 : News h₀ L (((s.heap.update a (Obj.mapSeq fun _ => (#[] : Array Value))).push (seqObj "tuple" vs.toArray 0)).push (seqObj "list" #[] 0)) ([] ++ (a, seqObj "list" #[] e1) :: news) := fun p hp => by
    rcases List.mem_cons.mp hp with rfl | hp
    · exact ⟨Heap.get?_push_of_some _ (Heap.get?_push_of_some _ ho1), haL, ha0⟩
    · exact N2 p hp
  rw [list_sort_plain]
  refine wpAny_bind (listItems_at ho rfl ?_)
  refine wpAny_bind (listUpdate_at ho rfl ?_ (by rw [List.size_toArray, sizeLine_eq]; lia) (Nat.zero_le _))
  refine wpAny_bind (seqEpoch_at ho1 rfl ?_)
  refine wpAny_bind (wpAny_newTuple ?_ (by show vs.length ≤ _; rw [sizeLine_eq]; lia))
  refine wpAny_bind (wpAny_newList ?_ (Nat.zero_le _))
  refine wpAny_holding ?_
  show wpAny (model prog w) A _ P E { s with heap := ((s.heap.update a (Obj.mapSeq fun _ => (#[] : Array Value))).push (seqObj "tuple" vs.toArray 0)).push (seqObj "list" #[] 0) }
  dsimp only
  have hn2 : vs.toArray.size < 2 := by rw [List.size_toArray]; lia
  rw [if_pos hn2, if_pos hn2]
  refine wpAny_bind (wpAny_pure ?_)
  refine wpAny_bind (wpAny_of_eq (a := ((), SortSt.mk' general' (vs.toArray.zip vs.toArray) #[] 7 none)) rfl ?_)
  dsimp only
  rw [few_out h2]
  have na := N3 (a, seqObj "list" #[] e1) (.head _)
  have s2 := Heap.SameBut.update (((s.heap.update a (Obj.mapSeq fun _ => (#[] : Array Value))).push (seqObj "tuple" vs.toArray 0)).push (seqObj "list" #[] 0)) a (Obj.mapSeq fun _ => vs.toArray)
  obtain ⟨c2, hc2⟩ : ∃ c2, ((((s.heap.update a (Obj.mapSeq fun _ => (#[] : Array Value))).push (seqObj "tuple" vs.toArray 0)).push (seqObj "list" #[] 0)).update a (Obj.mapSeq fun _ => vs.toArray)).get? a = some (seqObj "list" vs.toArray c2) := ⟨_, get?_update_seq na.1 fun _ => vs.toArray⟩
  refine wpAny_bind (seqEpoch_at na.1 rfl ?_)
  refine wpAny_bind (listUpdate_at na.1 rfl ?_ (Nat.zero_le _) (by rw [List.size_toArray, sizeLine_eq]; lia))
  simp only [bne_self_eq_false, Bool.false_eq_true, if_false]
  exact wpAny_pure (h c2 _ (kas_fr F3 s2 na.2.1 na.2.2) (news_set (pre := []) N3 (fun _ h => nomatch h) hna s2 hc2))
theorem few_sorted {l : Addr} {Q : Value → Shared → Prop} (F : Fr h₀ L s.heap m) (N : News h₀ L s.heap news) (hl : s.heap.IsList l vs.toArray) (h2 : vs.length < 2)
    (h : ∀ D c h', Fr h₀ L h' m → News h₀ L h' ((D, listOf vs.toArray c) :: news) → (∀ q ∈ news, q.1 < D) → Q (.ref D) { s with heap := h' }) :
    wpAny (model prog w) A (call (.builtin "sorted") [.ref l]) Q E s := by
  refine Calls.call_function_entry kind_sorted plain_sorted entry_sorted (args_sorted1 _) ?_
  unfold Builtin.«sorted»
  refine wpAny_bind (m := checkCount "sorted" 1 1 _) (wpAny_pure ?_)
  refine wpAny_bind (collect_list hl ?_ (by rw [sizeLine_eq]; lia))
  refine wpAny_bind (wpAny_newList ?_ (by rw [sizeLine_eq]; lia))
  have hsz : ((s.heap.push (seqObj "list" #[] 0)).update s.heap.objs.size (Obj.mapSeq (· ++ vs.toArray))).objs.size = s.heap.objs.size + 1 := by
    rw [Heap.size_update, size_push']
  have hoL : (((s.heap.push (seqObj "list" #[] 0)).update s.heap.objs.size (Obj.mapSeq (· ++ vs.toArray))).push (seqObj "list" vs.toArray 0)).get? (s.heap.objs.size + 1) = some (seqObj "list" vs.toArray 0) := by
    rw [← hsz]; exact Heap.get?_push_size _ rfl
  have keep : ∀ b o, s.heap.get? b = some o → (((s.heap.push (seqObj "list" #[] 0)).update s.heap.objs.size (Obj.mapSeq (· ++ vs.toArray))).push (seqObj "list" vs.toArray 0)).get? b = some o := fun b o q => by
    have hlt : b < s.heap.objs.size := Heap.lt_size q
    rw [Heap.get?_push_ne _ _ _ (by rw [hsz]; exact Nat.ne_of_lt (Nat.lt_succ_of_lt hlt)), Heap.get?_update_ne _ _ _ _ (Nat.ne_of_lt hlt), Heap.get?_push_ne _ _ _ (Nat.ne_of_lt hlt)]
    exact q
  have hL : L < s.heap.objs.size := F.ns.lt
  show wpAny _ _ _ _ _ { s with heap := ((s.heap.push (seqObj "list" #[] 0)).update s.heap.objs.size (Obj.mapSeq (· ++ vs.toArray))).push (seqObj "list" vs.toArray 0) }
  rw [hsz]
  refine wpAny_bind (wpAny_holding (wpAny_call_entry slot_list_sort ⟨_, hoL, rfl⟩ entry_list_sort ?body (args_list_sort _)))
  case body =>
    refine few_list_sort (s := { s with heap := ((s.heap.push (seqObj "list" #[] 0)).update s.heap.objs.size (Obj.mapSeq (· ++ vs.toArray))).push (seqObj "list" vs.toArray 0) })
      (F.kept keep) (N.grown keep) hoL (Nat.ne_of_gt (Nat.lt_succ_of_lt hL)) (Heap.get?_none_of_le (Nat.le_trans F.above (Nat.le_succ_of_le (Nat.le_of_lt hL))))
      (fun p hp => Nat.ne_of_lt (Nat.lt_succ_of_lt (Heap.lt_size (N p hp).1))) h2 fun c h' F' N' => ?_
    exact ⟨_, rfl, wpAny_pure ⟨_, rfl, h _ c h' F' N' fun q hq => Nat.lt_succ_of_lt (Heap.lt_size (N q hq).1)⟩⟩
end
end Mine
namespace Mine
open PySem PySem.W PySem.W.X PyProof.Rows PySem.Calls PySem.Spec
section
variable {prog : Program} {w : World} {A : Around} {E : Value → Shared → Prop} {s : Shared} {g : Heap} {L l : Addr} {m : Str → Option Value} {news : List (Addr × Obj)} {vs : List Value} {ep : Nat}
/-- sorted over (rank, name), whatever the length -/
theorem sortedT_S {xs : List ((Int × Int) × Nat)} {Q : Value → Shared → Prop} (S : St g L news s.heap m) (hu : A.units + 8 < cLine) (hl : g.get? l = some (lstO vs ep)) (hp : Paired (RankAt g) xs vs) (h64 : vs.length < 64)
    (hi : ∀ (i j : Nat) (x y : (Int × Int) × Nat), xs[i]? = some x → xs[j]? = some y → x.1 = y.1 → i = j) (hb : ∀ x ∈ xs, 0 ≤ x.1.2 ∧ x.1.2 < 100000)
    (h : ∀ (D : Addr) (ys : List ((Int × Int) × Nat)) (us : List Value) (e : Nat) (h' : Heap) (tk : Nat), St g L ((D, lstO us e) :: news) h' m → Paired (RankAt g) ys us → ys.Perm xs →
      ys.Pairwise (fun x y => ltP x.1 y.1 = true) → Q (.ref D) { s with heap := h', toks := tk }) :
    wpAny (model prog w) A (call (.builtin "sorted") [.ref l]) Q E s := by
  have hlen := hp.length
  by_cases h2 : vs.length < 2
  · have N0 : News {} L s.heap (others s.heap L L) := fun p hp => ⟨(others_of hp).1, (others_of hp).2.1, no_get _⟩
    refine few_sorted S.fr N0 ⟨_, S.keep _ _ hl, rfl, _, rfl⟩ h2 fun D c h' F1 N1 hlt => ?_
    have hD : s.heap.get? D = none := by
      cases q : s.heap.get? D with
      | none => rfl
      | some o => exact absurd (hlt _ (others_mem q (N1 _ (.head _)).2.1 (N1 _ (.head _)).2.1)) (Nat.lt_irrefl _)
    refine h D xs vs c h' s.toks (S.made1 F1 N1 hD) hp (.refl _) ?_
    rw [List.pairwise_iff_getElem]
    intro i j hi' hj' hij
    exact absurd h2 (Nat.not_lt.mpr (Nat.lt_of_le_of_lt (Nat.zero_lt_of_lt hij) (hp.length ▸ hj')))
  · refine sorted2_S S hu hl hp (by lia) h64 hi hb fun D is e h' tk S1 hperm hpw => ?_
    have hmem : ∀ i ∈ is, i < vs.length := fun i q => List.mem_range.mp (hperm.mem_iff.mp q)
    have pr : ∀ (is : List Nat), (∀ i ∈ is, i < vs.length) → Paired (RankAt g) (is.map fun i => xs.getD i ((0, 0), 0)) (is.map fun i => vs.getD i Value.none) := fun is => by
      induction is with
      | nil => exact fun _ => .nil
      | cons i is ih =>
        intro hm
        refine .cons ?_ (ih fun j hj => hm j (.tail _ hj))
        obtain ⟨x, h1, h2⟩ := paired_get hp (i := i) (b := vs.getD i Value.none) (by simp [hm i (.head _)])
        show RankAt g (xs.getD i ((0, 0), 0)) (vs.getD i Value.none)
        rw [show xs.getD i ((0, 0), 0) = x by rw [List.getD_eq_getElem?_getD, h1]; rfl]
        exact h2
    refine h D _ _ e h' tk S1 (pr is hmem) ?_ hpw
    refine (hperm.map _).trans (List.Perm.of_eq ?_)
    apply List.ext_getElem
    · simp [hlen]
    · intro i h1 h2
      simp [h2]
end
end Mine

end
section
set_option maxHeartbeats 1000000
open PySem PySem.W PySem.W.X PyProof.Rows PySem.Calls PySem.Spec
namespace Mine
section
variable {prog : Program} {w : World} {A : Around} {E : Value → Shared → Prop} {s : Shared} {g g₀ : Heap} {L l : Addr} {m : Str → Option Value} {news : List (Addr × Obj)} {env : Env}
/-- more things at new addresses, nothing else -/
theorem St.grown {h h' : Heap} (S : St g L news h m) (hk : ∀ b o, h.get? b = some o → h'.get? b = some o) : St g L news h' m :=
  ⟨S.ns.keeps hk, fun b o e => hk _ _ (S.keep b o e), S.off, fun p hp => hk _ _ (S.nw p hp), S.nL, S.ng, S.nd⟩
theorem St.updS {a : Addr} {o o₁ : Obj} {f : Obj → Obj} {news' : Obj → List (Addr × Obj)} {h : Heap} (S : St g L news h m) (U : ∀ o', UpdS a o o' news (news' o')) (e : f o = o₁) (hf : o₁.isFreed = false) : St g L (news' o₁) (h.update a f) m := by
  obtain ⟨r, h1, h2⟩ := (U o₁).split
  exact ((S.perm h1).upd e hf).perm h2
/-- a tuple is taken apart -/
theorem unpack_S {elts : List Expr} {k} {pos : Pos} {t : Addr} {ys : List Value} {Q : Unit → Shared → Prop} (S : St g L news s.heap m) (hA : A.handled = none) (ht : g₀.get? t = some (tupObj ys)) (hk : Sub g₀ g)
    (hn : (assignEach elts env).length = ys.length) (hstar : (assignEach elts env).findIdx? (·.1) = none)
    (h : ∀ h', St g L news h' m → wpAny (model prog w) A (assignInOrder ((assignEach elts env).map (·.2)) ys) Q E { s with heap := h' }) :
    wpAny (model prog w) A (assign (.Tuple elts k pos) env (.ref t)) Q E s := by
  refine assign_Tuple_tuple (items := ys.toArray) hA ⟨_, S.keep _ _ (hk _ _ ht), rfl, _, rfl⟩ (by rw [List.size_toArray]; exact hn) hstar fun h' he => ?_
  exact h h' (S.grown fun b o e => he b o (Nat.ne_of_lt (Heap.lt_size e)) e)
/-- the iterator of a list, with what it says of itself -/
theorem iter_listO {Q : Value → Shared → Prop} {items : Array Value} (S : St g L news s.heap m) (hl : g₀.IsList l items) (k : Sub g₀ g)
    (h : ∀ I o ob h', It prog w I g items.size (fun i v => items[i]? = some v) ob → (∀ i o, ob i o → ∀ h, Sub g h → h.get? I = some o → h.IsListIter I l i) → ob 0 o → St g L ((I, o) :: news) h' m → Q (.ref I) { s with heap := h' }) : wpAny (model prog w) A (pyIter (.ref l)) Q E s := by
  obtain ⟨ol, hol, r⟩ := id hl
  have hg := k _ _ hol
  have hs := S.keep _ _ hg
  have hne : l ≠ s.heap.objs.size := Nat.ne_of_lt (Heap.lt_size hs)
  refine wpAny_pyIter_list ⟨ol, hs, r⟩ ?_
  refine h s.heap.objs.size { cls := .type "list_iterator", data := .fields #[.ref l, .int 0 0] } _ _ (It.of_walks (fun A hA => Walks.list hA s.heap.objs.size l hne items) (fun i h st => by obtain ⟨o, e, _⟩ := st.1; exact ⟨o, e⟩) fun b hb => ?_) (fun i o hob h k' e => (hob h k' e).1) (fun h k' e => ⟨⟨_, e, rfl, rfl⟩, ol, k' _ _ hg, r⟩) (S.push _ rfl)
  rcases List.mem_cons.mp hb with rfl | hb
  · exact .inl rfl
  · rw [List.mem_singleton.mp hb]; exact .inr ⟨ol, hg⟩
/-- the loop's tuple target over the iterator of a list -/
theorem owned_S {elts : List Expr} {x1} {pos : Pos} {I T : Addr} {i : Nat} {o : Obj} {ob : Nat → Obj → Prop} {Q : Unit → Shared → Prop} (S : St g L news s.heap m) (hm : (I, o) ∈ news) (hk : Sub g₀ g) (hob : ob i o)
    (hit : ∀ i o, ob i o → ∀ h, Sub g₀ h → h.get? I = some o → h.IsListIter I l i) (hQ : Q () s) : wpAny (model prog w) A (letOwnedTupleGo (.Tuple elts x1 pos) (.ref I) (.ref T)) Q E s :=
  wpAny_letOwnedTupleGo_listiter (hit i o hob s.heap (hk.trans S.keep) (S.nw _ hm)) hQ
/-- a list against an empty one -/
theorem eqNil_S {a b : Addr} {vs : List Value} {e1 e2 : Nat} {Q : Value → Shared → Prop} (hu : A.units < cLine) (ha : s.heap.get? a = some (lstO vs e1)) (hb : s.heap.get? b = some (lstO [] e2)) (h : Q (.bool (decide (vs = []))) s) :
    wpAny (model prog w) A (compareOp .Eq (.ref a) (.ref b)) Q E s := by
  cases vs with
  | nil => exact PySem.SeqAt.eq_listAt (e := fun _ => true) ⟨_, ha, rfl, _, rfl⟩ ⟨_, hb, rfl, _, rfl⟩ rfl hu (fun j h1 h2 => absurd h1 (Nat.not_lt_zero _)) h
  | cons v vs => exact PySem.SeqAt.eq_list_lengthsAt ⟨_, ha, rfl, _, rfl⟩ ⟨_, hb, rfl, _, rfl⟩ (by simp) hu (by simpa using h)
theorem seqI_list : seqSlot? (.type "list") (dunderI "add") = pure (some (.builtin "list.__iadd__")) := PyProof.Rows.seqSlot_of F.slot_list_iadd.lookup (by decide +kernel)
/-- += of lists -/
theorem iaddL_S {D b : Addr} {vs ws : List Value} {ep e2 : Nat} {news' : Obj → List (Addr × Obj)} {Q : Value → Shared → Prop} (S : St g L news s.heap m) (U : ∀ o', UpdS D (lstO vs ep) o' news (news' o')) (hb : s.heap.get? b = some (lstO ws e2)) (hz : vs.length + ws.length ≤ 1000)
    (h : ∀ h' ep', St g L (news' (lstO (vs ++ ws) ep')) h' m → Q (.ref D) { s with heap := h' }) : wpAny (model prog w) A (inplaceOp .Add (.ref D) (.ref b)) Q E s := by
  have hD := S.nw _ (U (lstO vs ep)).mem
  have ha : s.TypeIs (.ref D) "list" := ⟨_, hD, rfl⟩
  have hb' : s.TypeIs (.ref b) "list" := ⟨_, hb, rfl⟩
  unfold inplaceOp
  refine wpAny_holding ?_
  have hfi : fillsInplaceSlot (.type "list") "add" (Operator.Add == .Add) = pure false := by
    unfold fillsInplaceSlot
    show (typeLookup (.type "list") (dunderI "add") >>= fun fi => pure (fi.isSome && !isSeqSlot fi)) = pure false
    rw [F.slot_list_iadd.lookup]; rfl
  refine wpAny_bind (wpAny_typeOf ha (wpAny_bind (wpAny_of_eq hfi ?_)))
  show wpAny _ A (if false = true then _ else _) Q E s
  rw [if_neg Bool.false_ne_true]
  refine wpAny_bind (binaryOp1_none (nm := "add") ha hb' noFill_list_add ?_)
  refine wpAny_bind (wpAny_of_eq seqI_list ?_)
  refine wpAny_bind (wpAny_rule ?_)
  refine call_meets F.slot_list_iadd ha F.entry_list_iadd (F.args_list_iadd_2 _ _) (PySem.AutoSeq1.list___iadd___list_list_0 D vs.toArray ep b ws.toArray e2 ?_ ?_ ?_) ⟨hD, hb, ?_⟩
  · intro q
    simp only [Bool.and_eq_true, Builtin.List.listTooLong, decide_eq_true_eq, List.size_toArray, sizeLine_eq] at q
    lia
  · rw [List.size_toArray, sizeLine_eq]; lia
  · rw [List.size_toArray, List.size_toArray, sizeLine_eq]; lia
  · show Q _ _
    have e : Obj.mapSeq (fun x => x ++ ws.toArray) (lstO vs ep) = lstO (vs ++ ws) (if (vs.toArray ++ ws.toArray).size == vs.toArray.size then ep else ep + 1) := by
      simp [Obj.mapSeq, lstO]
    exact h _ _ (St.updS S U e rfl)
/-- a tuple against an empty one -/
theorem neTup0_S {a b : Addr} {vs : List Value} {Q : Value → Shared → Prop} (hu : A.units < cLine) (ha : s.heap.get? a = some (tupObj vs)) (hb : s.heap.get? b = some (tupObj [])) (h : Q (.bool (!vs.isEmpty)) s) :
    wpAny (model prog w) A (compareOp .NotEq (.ref a) (.ref b)) Q E s := by
  show wpAny (model prog w) A (richCompare .NotEq (.ref a) (.ref b)) Q E s
  refine PySem.SeqAt.RcNeAt.tuples (items := vs.toArray) (items2 := #[]) (e := fun _ => true) ⟨_, ha, rfl, _, rfl⟩ ⟨_, hb, rfl, _, rfl⟩ hu (fun j h1 h2 => absurd h2 (Nat.not_lt_zero _)) prog w E Q ?_
  have e : (!((List.range (min vs.toArray.size (#[] : Array Value).size)).all (fun _ => true) && vs.toArray.size == (#[] : Array Value).size)) = !vs.isEmpty := by
    cases vs <;> simp
  rw [e]; exact h
/-- list of a tuple -/
theorem listT_S {t : Addr} {vs : List Value} {Q : Value → Shared → Prop} (S : St g L news s.heap m) (ht : s.heap.get? t = some (tupObj vs)) (hz : vs.length ≤ 1000)
    (h : ∀ D ep h', St g L ((D, lstO vs ep) :: news) h' m → Q (.ref D) { s with heap := h' }) : wpAny (model prog w) A (call (.type "list") [.ref t]) Q E s := by
  refine call_list_seq t (.inr rfl) ht rfl rfl (fun h' c' hk hD => ?_) (by rw [List.size_toArray, sizeLine_eq]; lia)
  refine h _ c' h' ⟨S.ns.keeps hk, fun b o e => hk _ _ (S.keep b o e), S.off, fun p hp => ?_, fun p hp => ?_, fun p hp => ?_, ?_⟩
  · rcases List.mem_cons.mp hp with rfl | hp
    · exact hD
    · exact hk _ _ (S.nw p hp)
  · rcases List.mem_cons.mp hp with rfl | hp
    · exact Nat.ne_of_gt S.lt
    · exact S.nL p hp
  · rcases List.mem_cons.mp hp with rfl | hp
    · exact S.fresh (Nat.le_refl _)
    · exact S.ng p hp
  · rw [List.map_cons]
    refine List.nodup_cons.mpr ⟨fun hm => ?_, S.nd⟩
    obtain ⟨p, hp, q⟩ := List.mem_map.mp hm
    exact absurd (S.news_lt hp) (by rw [q]; exact Nat.lt_irrefl _)
end
/-- a tuple of two values -/
inductive PairV (g : Heap) (v v1 v2 : Value) : Prop
  | mk (a : Addr)
      (_ : v = .ref a) (_ : g.get? a = some (tupObj [v1, v2])) : PairV g v v1 v2
/-- behind one turn of a comprehension over pairs -/
inductive StepP (s : Shared) (C D I : Addr) (o : Obj) (us : List Value) (ep : Nat) (g' : Heap) (news fs' : List (Addr × Obj)) (m' : Str → Option Value) (Inv : Heap → Prop) (s₄ : Shared) : Prop
  | mk (g'' h'' : Heap) (tk'' : Nat) (_ : s₄ = { s with heap := h'', toks := tk'' }) (_ : Sub g' g'') (_ : St g'' C (((D, lstO us ep) :: (news ++ [(I, o)])) ++ fs') h'' m') (_ : Inv g'') : StepP s C D I o us ep g' news fs' m' Inv s₄
section
variable {prog : Program} {w : World} {A : Around} {E : Value → Shared → Prop} {s : Shared} {g : Heap} {L l : Addr} {m : Str → Option Value} {news frs : List (Addr × Obj)} {env : Env}
/-- a comprehension over a list of pairs, whose target takes each pair apart, and that calls no def -/
theorem pairs_go {elt iter : Expr} {ifs : List Expr} {x y : Str} {px py pt pos : Pos} {k0} {scope : Scope} {cl : List (Str × Addr)} {K : Heap → Addr → (Str → Option Value) → List (Addr × Obj) → Addr → Shared → Prop} {vs : List Value} {ep k : Nat}
    (S : St g L (news ++ frs) s.heap m) (Z : Ar A L frs k) (hl : g.get? l = some (lstO vs ep)) (hz : vs.length ≤ 1000) (hv : ∀ v ∈ vs, ∃ v1 v2, PairV g v v1 v2)
    (hx : scope.names.lookup x = some .local) (hy : scope.names.lookup y = some .local) (hxy : x ≠ y) (hk : scope.kind = .function)
    (Inv : Nat → List Value → Heap → Prop) (h0 : Inv 0 [] g)
    (step : ∀ i v v1 v2 us ep C D I o g' fs' h tk m', vs[i]? = some v → PairV g v v1 v2 → Inv i us g' → Sub g g' → us.length ≤ i → Ar A C fs' k → St g' C (((D, lstO us ep) :: (news ++ [(I, o)])) ++ fs') h m' → m' x = some v1 → m' y = some v2 →
      wpAny (model prog w) A (forIn ifs true fun c r => if r = true then do let ok ← isTrue c (compEnvC scope cl C env) (eval c (compEnvC scope cl C env)); pure (ForInStep.yield ok) else pure (ForInStep.yield r)) (fun ok s₃ =>
        if ok = true then wpAny (model prog w) A (eval elt (compEnvC scope cl C env)) (fun u s₄ => StepP s C D I o us ep g' news fs' m' (Inv (i + 1) (us ++ [u])) s₄) (fun _ _ => False) s₃
        else StepP s C D I o us ep g' news fs' m' (Inv (i + 1) us) s₃) (fun _ _ => False) { s with heap := h, toks := tk })
    (fin : ∀ D us ep g' frs' h tk, Inv vs.length us g' → us.length ≤ vs.length → Sub g g' → Up frs frs' → St g' L (((D, lstO us ep) :: news) ++ frs') h m → K g' L m (((D, lstO us ep) :: news) ++ frs') D { s with heap := h, toks := tk }) :
    wpAny (model prog w) A (pyIter (.ref l)) (CompGo2 prog w A env elt [⟨.Tuple [.Name x px, .Name y py] k0 pt, iter, ifs, 0⟩] scope pos cl none K) E s := by
  have hL : g.IsList l vs.toArray := ⟨_, hl, rfl, _, rfl⟩
  refine iter_listO S hL (Sub.refl _) ?_
  intro I oI ob h1 W hit h0' S1
  refine ⟨I, g, L, m, news, frs, k, oI, rfl, Z, S1, ?_⟩
  intro C D c oL h2 hb Z2 S2
  replace S2 : St g C ((I, oI) :: (((D, lstO [] 0) :: news) ++ (L, oL) :: frs)) h2 (fun _ => none) := S2
  refine' compStart_G rfl ?loop (W.self _ 0 _ _ _ _ g C _ _ Z2.hand (Sub.refl _) h0' S2 ?loop)
  refine compLoop_T (turn_last _ _ _ _ _ _ _ _ _) (fun i g' m' news' => ∃ us ep, news' = (D, lstO us ep) :: news ∧ us.length ≤ i ∧ Inv i us g') Z2.hand W ?_ ?_ h0' S2 ⟨[], 0, rfl, Nat.le_refl _, h0⟩
  · intro i v o g' m' news' fs' h tk hi hP hob hInv k' hu' S3
    obtain ⟨us, epu, rfl, hul, hI⟩ := hInv
    have hvi : vs[i]? = some v := by simpa using hP
    have hi' : i < vs.length := (List.getElem?_eq_some_iff.mp hvi).1
    obtain ⟨v1, v2, a, rfl, ha⟩ := hv v (List.mem_of_getElem? hvi)
    refine owned_S S3 (List.mem_append_left _ (List.mem_append_right _ (.head _))) k' hob hit ?_
    refine unpack_S S3 Z2.hand ha k' rfl rfl fun h3 S4 => ?_
    refine assignInOrder_cons (wpAny_assign_Name (stC_L hx S4 (fun h4 S5 => ?_) hk))
    refine assignInOrder_cons (wpAny_assign_Name (stC_L hy S5 (fun h5 S6 => ?_) hk))
    refine assignInOrder_nil ?_
    have mx : (fun z => if z = y then some v2 else (fun z => if z = x then some v1 else m' z) z) x = some v1 := by
      show (if x = y then _ else if x = x then _ else _) = _
      rw [if_neg hxy, if_pos rfl]
    have my : (fun z => if z = y then some v2 else (fun z => if z = x then some v1 else m' z) z) y = some v2 := if_pos rfl
    refine wpAny_mono (step i _ v1 v2 us epu C D I o g' fs' h5 _ _ hvi ⟨a, rfl, ha⟩ hI k' hul (Z2.up hu') S6 mx my) (fun ok s₃ h₃ => ?_) fun _ _ x => x
    cases ok with
    | false =>
      simp only [Bool.false_eq_true, if_false] at h₃ ⊢
      obtain ⟨g'', h'', tk'', rfl, k'', S'', I''⟩ := h₃
      exact ⟨g'', _, (D, lstO us epu) :: news, fs', h'', tk'', rfl, k'', Up.refl _, S'', us, epu, rfl, by lia, I''⟩
    | true =>
      simp only [if_true] at h₃ ⊢
      refine emit_S (wpAny_mono h₃ (fun u s₄ h₄ => ?_) fun _ _ x => x)
      obtain ⟨g'', h'', tk'', rfl, k'', S'', I''⟩ := h₄
      refine ⟨g'', C, _, _, us, epu, S'', by rw [sizeLine_eq]; lia, fun h6 S7 => ?_⟩
      exact ⟨g'', _, (D, lstO (us ++ [u]) (epu + 1)) :: news, fs', h6, _, rfl, k'', Up.refl _, S7, us ++ [u], epu + 1, rfl, by rw [List.length_append, List.length_singleton]; lia, I''⟩
  · intro g' m' news' fs' h tk hInv k' hu' S3
    obtain ⟨us, epu, rfl, hul, hI⟩ := hInv
    rw [List.size_toArray] at hul hI
    exact ⟨g', news, fs', h, tk, m', us, epu, rfl, k', hu', S3, fun frs₁ h'' hu1 S4 => fin D us epu g' frs₁ h'' tk hI hul k' hu1 S4⟩
end
end Mine
namespace Mine
theorem aug_cell {prog : Program} {w : World} {A : Around} {E : Value → Shared → Prop} {s : Shared} {g : Heap} {L c : Addr} {m : Str → Option Value} {news : List (Addr × Obj)} {env : Env} {o : Obj} {x : Str} {p pos : Pos} {op : Operator} {value : Expr} {v : Value} {Q : Flow → Shared → Prop}
    (S : St g L news s.heap m) (hk : env.scope.kind = .function) (hx : env.kindOf x = some .cell) (hl : env.cells.lookup x = some c) (e : (c, o) ∈ news) (hd : o.data = .cell (some v))
    (h : wpAny (model prog w) A (eval value env) (fun u s₂ => wpAny (model prog w) A (inplaceOp op v u) (fun r s₃ => wpAny (model prog w) A (storeName env x r) (fun _ => Q .next) E s₃) E s₂) E s) :
    wpAny (model prog w) A (exec (.AugAssign (.Name x p) op value pos) env) Q E s :=
  wpAny_AugAssign_Name (wpAny_loadName_cell hk hx hl ⟨o, S.nw _ e, hd⟩ h)
end Mine
end
local macro_rules | `(tactic| walk_at "eval Name") => do let k ← Lean.MonadQuotation.getCurrMacroScope; return kd (fs (qs k ``nm_cellB "Slked_hx" "SAlReskSdshRxj" "") (qs k ``nm_cellN "Sled_hx" "SAlReMdshRxj" ""))
local macro_rules | `(tactic| walk_at "eval ListComp") => return sw (Lean.Unhygienic.run `(PySem.eval (.ListComp _ [⟨.Tuple _ _ _, _, _, _⟩] _ _) _)) (kd (rt (Lean.Unhygienic.run `(ListComp_G (one := none) $(pt 'U') $(pt 'c') $(pt 'U') $(pt 'D') ?_ $(pt 'V')))))
local macro_rules | `(tactic| walk_at "exec AugAssign") => return rk ``aug_cell "ARRRMs?" ""
section
set_option maxHeartbeats 2000000
open PySem PySem.W PySem.W.X PyProof.Rows PySem.Calls PySem.Spec PySem.Builtin PySem.Builtin.Str
namespace Mine
theorem any_sign (cs : List Nat) (x : Nat) : (cs.map fun c => (⟨#[c]⟩ : PySem.Str)).any (· == ⟨#[x]⟩) = decide (x ∈ cs) := by
  rw [Bool.eq_iff_iff, List.any_eq_true, decide_eq_true_iff]
  constructor
  · rintro ⟨y, hy, e⟩
    obtain ⟨c, hc, rfl⟩ := List.mem_map.mp hy
    rw [← one_inj (eq_of_beq e)]; exact hc
  · intro h; exact ⟨_, List.mem_map_of_mem h, by simp⟩
theorem notin_S {prog : Program} {w : World} {A : Around} {E : Value → Shared → Prop} {s : Shared} {l : Addr} {vs : List Value} {cs : List Nat} {x : Nat} {t : Tok} {Q : Value → Shared → Prop} (hl : s.heap.IsList l vs.toArray) (hs : SignsAt vs cs) (h : Q (.bool (!decide (x ∈ cs))) s) :
    wpAny (model prog w) A (compareOp .NotIn (.str ⟨#[x]⟩ t) (.ref l)) Q E s := notin_list_strs hl hs (by rw [any_sign]; exact h)
theorem in_S {prog : Program} {w : World} {A : Around} {E : Value → Shared → Prop} {s : Shared} {l : Addr} {vs : List Value} {cs : List Nat} {x : Nat} {t : Tok} {Q : Value → Shared → Prop} (hl : s.heap.IsList l vs.toArray) (hs : SignsAt vs cs) (h : Q (.bool (decide (x ∈ cs))) s) :
    wpAny (model prog w) A (compareOp .In (.str ⟨#[x]⟩ t) (.ref l)) Q E s := in_list_strs hl hs (by rw [any_sign]; exact h)
theorem insK_in {ks : List Nat} {x : Nat} (h : x ∈ ks) : insK ks x = ks := if_pos h
theorem insK_out {ks : List Nat} {x : Nat} (h : x ∉ ks) : insK ks x = ks ++ [x] := if_neg h
theorem ins_snoc (ks l : List Nat) (x : Nat) : (l ++ [x]).foldl insK ks = insK (l.foldl insK ks) x := by rw [List.foldl_append]; rfl
theorem iE_snoc (r : List Nat) : ∀ (rows : List (List Nat)) (k : Nat), iE k (rows ++ [r]) = iE k rows ++ r.tail.map fun p => (p, k + rows.length, r.headD 0)
  | [], k => by simp [iE]
  | a :: rows, k => by
    rw [List.cons_append, iE, iE_snoc r rows (k + 1), iE, List.append_assoc, List.length_cons, show k + 1 + rows.length = k + (rows.length + 1) by lia]
theorem needs_snoc (rows : List (List Nat)) (r : List Nat) (x : Nat) : needsOf (rows ++ [r]) x = needsOf rows x ++ (if r.headD 0 = x then r.tail.map fun p => (p, rows.length) else []) := by
  unfold needsOf
  rw [iE_snoc, List.filter_append, List.map_append, Nat.zero_add]
  congr 1
  by_cases h : r.headD 0 = x
  · rw [if_pos h, List.filter_eq_self.mpr (fun e he => by obtain ⟨p, _, rfl⟩ := List.mem_map.mp he; simpa using h), List.map_map]
    rfl
  · rw [if_neg h, List.filter_eq_nil_iff.mpr (fun e he => by obtain ⟨p, _, rfl⟩ := List.mem_map.mp he; simpa using h)]
    rfl
inductive PairAt (g : Heap) (v : Value) (e : Nat × Nat) : Prop
  | mk (a : Addr) (tp : Tok) (tk : Tok)
      (_ : v = .ref a) (_ : g.get? a = some (tupObj [.str ⟨#[e.1]⟩ tp, .int (e.2 : Nat) tk])) : PairAt g v e
theorem PairAt.keeps {g g' : Heap} {v : Value} {e : Nat × Nat} (h : PairAt g v e) (k : Sub g g') : PairAt g' v e := let ⟨a, tp, tk, h1, h2⟩ := h; ⟨a, tp, tk, h1, k _ _ h2⟩
inductive NeedAt (rows : List (List Nat)) (g : Heap) (v : Value) (x : Nat) : Prop
  | mk (a : Addr) (vs : List Value) (ep : Nat)
      (_ : v = .ref a) (_ : g.get? a = some (lstO vs ep)) (_ : Paired (fun e v => PairAt g v e) (needsOf rows x) vs) : NeedAt rows g v x
theorem NeedAt.keeps {rows : List (List Nat)} {g g' : Heap} {v : Value} {x : Nat} (h : NeedAt rows g v x) (k : Sub g g') : NeedAt rows g' v x := let ⟨a, vs, ep, h1, h2, h3⟩ := h; ⟨a, vs, ep, h1, k _ _ h2, paired_mono (fun _ _ h => h.keeps k) h3⟩
theorem paired_get' {α β : Type} {F : α → β → Prop} {l₁ : List α} {l₂ : List β} (h : Paired F l₁ l₂) {i : Nat} {a : α} (e : l₁[i]? = some a) : ∃ b, l₂[i]? = some b ∧ F a b := by
  induction h generalizing i with
  | nil => simp at e
  | cons hf _ ih =>
    cases i with
    | zero => simp at e; subst e; exact ⟨_, rfl, hf⟩
    | succ i => simp at e; simpa using ih e
theorem two_of {os : List (Addr × Obj)} {a b : Addr} {o p : Obj} (h : os.map (·.1) = [a, b]) (h1 : (a, o) ∈ os) (h2 : (b, p) ∈ os) (hn : a ≠ b) : os = [(a, o), (b, p)] := by
  cases os with
  | nil => cases h1
  | cons x os => cases os with
    | nil => simp at h
    | cons y os => cases os with
      | cons z os => simp at h
      | nil =>
        rw [List.map_cons, List.map_cons, List.map_nil] at h
        injection h with e1 h
        injection h with e2 _
        have f1 : (a, o) = x := by
          rcases List.mem_cons.mp h1 with q | q
          · exact q
          · have q := List.mem_singleton.mp q
            exact absurd (by rw [← e2, ← q]) hn
        have f2 : (b, p) = y := by
          rcases List.mem_cons.mp h2 with q | q
          · exact absurd (by rw [← e1, ← q]) (Ne.symm hn)
          · exact List.mem_singleton.mp q
        rw [f1, f2]
noncomputable abbrev stmtAt (st : Option Stmt) (j : Nat) : Option Stmt := match st with
  | some (.FunctionDef _ _ body _ _ _ _ _ _ _) => body[j]?
  | some (.For _ _ body _ _) => body[j]?
  | _ => none
noncomputable abbrev scopeAt {nm : PySem.Str} {ps : Arguments} {body : List Stmt} {ds : List Expr} {rt : Option Expr} {tps : List TypeParam} {sc : Scope} {ts : Option Scope} {bn : PySem.Str} {pos : Pos} (st : Option Stmt)
    (_h : st = some (.FunctionDef nm ps body ds rt tps sc ts bn pos)) : Scope := sc
noncomputable abbrev forBody {t i : Expr} {b o : List Stmt} {p : Pos} (st : Option Stmt) (_h : st = some (.For t i b o p)) : List Stmt := b
end Mine

end
section
set_option maxHeartbeats 2000000
open PySem PySem.W PySem.W.X PyProof.Rows PySem.Calls PySem.Spec PySem.Builtin PySem.Builtin.Str
namespace Mine
section
variable {w : World} {mg mb : PySem.Str → Option Value} {A : Around} {g : Heap} {L1 Dn D2 Df Dt Dd : Addr} {m : PySem.Str → Option Value} {news frs : List (Addr × Obj)} {s : Shared}
    {Q : Flow → Shared → Prop} {E : Value → Shared → Prop}
theorem plan_number {rows : List (List Nat)} {ys ws fs gsv ds : List Value} {epn epw epf ept epd j x : Nat} {D : List Nat} {oD : Obj} {tj : Tok}
  (hDn : g.get? Dn = some (lstO ys epn)) (hys : SignsAt ys (namesOf rows)) (hD2 : g.get? D2 = some (lstO ws epw)) (hws : Paired (fun x v => NeedAt rows g v x) (namesOf rows) ws)
  (hn64 : (namesOf rows).length < 64) (hl : ∀ x, (needsOf rows x).length ≤ 200)
  (B : Bs w mg mb g) (S : Mine.St g L1 (((Df, lstO fs epf) :: (Dt, lstO gsv ept) :: (Dd, lstO ds epd) :: (L1 + 1 + 1, oD) :: news) ++ frs) s.heap m) (Z : Ar A L1 frs 1)
  (hoD : oD.data = .cell (some (.ref Dd))) (hds : SignsAt ds D) (hdl : D.length ≤ 64)
  (hms : m "seen" = some (.ref Dn)) (hmn : m "needs" = some (.ref D2)) (hmf : m "free" = some (.ref Df)) (hmx : m "number" = some (.int (j : Nat) tj))
  (hj : (namesOf rows)[j]? = some x) (hfl : fs.length ≤ 100)
  (hyes : (decide (x ∉ D) && (needsOf rows x).all fun e => decide (e.1 ∈ D)) = true → ∀ g' v frs' h' tk', Sub g g' → Up frs frs' → RankAt g' (rank rows D x, x) v → Mine.St g' L1 (((Df, lstO (fs ++ [v]) (epf + 1)) :: (Dt, lstO gsv ept) :: (Dd, lstO ds epd) :: (L1 + 1 + 1, oD) :: news) ++ frs') h' m → Q .next { s with heap := h', toks := tk' })
  (hno : (decide (x ∉ D) && (needsOf rows x).all fun e => decide (e.1 ∈ D)) = false → ∀ g' frs' h' tk', Sub g g' → Up frs frs' → Mine.St g' L1 (((Df, lstO fs epf) :: (Dt, lstO gsv ept) :: (Dd, lstO ds epd) :: (L1 + 1 + 1, oD) :: news) ++ frs') h' m → Q .next { s with heap := h', toks := tk' }) :
  wpAny (model prg w) A (execs (forBody (stmtAt (stmtAt prg.main.body[30]? 5) 1) rfl) (envX (PySem.Str.ofString "_law_plan") (scopeAt prg.main.body[30]? rfl) L1 273 (.ref 272) (cellsFrom (L1 + 1) (scopeAt prg.main.body[30]? rfl).names []))) Q E s := by
  dsimp only [forBody, scopeAt]
  have hDnl : g.IsList Dn ys.toArray := ⟨_, hDn, rfl, _, rfl⟩
  have hD2l : g.IsList D2 ws.toArray := ⟨_, hD2, rfl, _, rfl⟩
  have hjl : j < (namesOf rows).length := (List.getElem?_eq_some_iff.mp hj).1
  obtain ⟨v0, hv0, a0, us0, ep0, rfl, ha0, hp0⟩ := paired_get' hws hj
  obtain ⟨y0, hy0⟩ : ∃ y0, ys[j]? = some y0 := by
    have := StrsAre.length hys
    rw [List.length_map] at this
    exact ⟨ys[j], List.getElem?_eq_getElem (by lia)⟩
  obtain ⟨c, tc, hc, rfl⟩ := signs_get hys hy0
  rw [hj] at hc
  cases hc
  have hyv : ys.toArray[j]? = some (.str ⟨#[x]⟩ tc) := by simpa using hy0
  have hwv : ws.toArray[j]? = some (.ref a0) := by simpa using hv0
  walk_at "go"
  refine notin_S ⟨_, S.nw _ (.tail _ (.tail _ (.head _))), rfl, _, rfl⟩ hds ?_
  by_cases hxD : x ∈ D
  · rw [decide_eq_true hxD]
    walk_at "go"
    exact hno (by rw [decide_eq_false (fun q => q hxD), Bool.false_and]) g frs _ _ (Sub.refl _) (Up.refl _) S
  rw [decide_eq_false hxD]
  have hul0 : us0.length ≤ 200 := by rw [← hp0.length]; exact hl x
  walk_at "go"
  refine pairs_go (frs := frs) S Z ha0 (by lia) (fun v hv => ?_) (by decide) (by decide) (by decide) rfl (fun i us g' => Sub g g' ∧ SignsAt us ((((needsOf rows x).take i).filter fun e => decide (e.1 ∉ D)).map (·.1))) ⟨Sub.refl _, .nil⟩ ?_ ?_
  · obtain ⟨i, hi⟩ := List.mem_iff_getElem?.mp hv
    obtain ⟨e, _, a, tp, tk, rfl, ha⟩ := paired_get hp0 hi
    exact ⟨_, _, a, rfl, ha⟩
  · intro i v v1 v2 us epu C Dc I o g1 fs1 h1 tk1 m1 hi hv hI k1 hul Z1 S1 m1x m1y
    (try k_fold)
    obtain ⟨e, he, a, tp, tk, rfl, ha⟩ := paired_get hp0 hi
    obtain ⟨a', q, hv⟩ := hv
    cases q
    rw [ha] at hv
    cases hv
    walk_at "go"
    refine notin_S ⟨_, S1.nw _ (.tail _ (.tail _ (.tail _ (.head _)))), rfl, _, rfl⟩ hds ?_
    have htk : (needsOf rows x).take (i + 1) = (needsOf rows x).take i ++ [e] := by rw [List.take_add_one, he]; rfl
    by_cases he1 : e.1 ∈ D
    · rw [decide_eq_true he1]
      walk_at "go"
      refine ⟨g1, _, _, rfl, Sub.refl _, S1, hI.1, ?_⟩
      rw [htk, List.filter_append, List.filter_cons_of_neg (by simpa using he1), List.filter_nil, List.append_nil]
      exact hI.2
    · rw [decide_eq_false he1]
      walk_at "go"
      refine ⟨g1, _, _, rfl, Sub.refl _, S1, hI.1, ?_⟩
      rw [htk, List.filter_append, List.filter_cons_of_pos (by simpa using he1), List.filter_nil, List.map_append]
      exact signs_append hI.2 (.cons _ _ .nil)
  · intro Dc us epu g1 frs1 h1 tk1 hI hul k1 hu1 S1
    (try k_fold)
    rw [hp0.length.symm, List.take_length] at hI
    walk_at "go"
    rename_i D3 h2 S2
    have hu0 : A.units < cLine := Nat.lt_of_le_of_lt (Nat.le_add_right _ _) Z.units
    refine eqNil_S hu0 (S2.nw _ (.tail _ (.head _))) (S2.nw _ (.head _)) ?_
    have hnil : decide (us = []) = (needsOf rows x).all fun e => decide (e.1 ∈ D) := by
      rw [all_done, Bool.eq_iff_iff, decide_eq_true_iff, decide_eq_true_iff]
      have := StrsAre.length hI.2
      rw [List.length_map, List.length_map] at this
      rw [← List.length_eq_zero_iff, ← List.length_eq_zero_iff, this]
    cases hall : (needsOf rows x).all fun e => decide (e.1 ∈ D) with
    | false =>
      rw [hnil, hall]
      walk_at "go"
      exact hno (by rw [decide_eq_true hxD, hall]; rfl) g1 frs1 _ _ hI.1 hu1 S2.drop.drop
    | true =>
      rw [hnil, hall]
      have hall' : ∀ e ∈ needsOf rows x, e.1 ∈ D := fun e he => by simpa using List.all_eq_true.mp hall e he
      clear hno
      walk_at "go"
      rename_i g2 pa h3 k2 hpa S3 D4 h4 S4
      have S5 := (S4.perm (List.Perm.swap _ _ _)).drop
      have S6 : Mine.St g2 L1 (((D4, lstO [.ref pa] 0) :: (Df, lstO fs epf) :: (Dt, lstO gsv ept) :: (Dd, lstO ds epd) :: (L1 + 1 + 1, oD) :: news) ++ frs1) h4 m := (S5.perm (List.Perm.swap _ _ _)).drop
      clear S4 S5 S3 S2 S1
      have k12 : Sub g g2 := hI.1.trans k2
      refine pairs_go (frs := frs1) S6 (Z.up hu1) (k12 _ _ ha0) (by lia) (fun v hv => ?_) (by decide) (by decide) (by decide) rfl (fun i us g' => Sub g2 g' ∧ Paired (IntP g') (((needsOf rows x).take i).map fun e => ((D.idxOf e.1 : Int), (e.2 : Int))) us) ⟨Sub.refl _, .nil⟩ ?_ ?_
      · obtain ⟨i, hi⟩ := List.mem_iff_getElem?.mp hv
        obtain ⟨e, _, a, tp, tk, rfl, ha⟩ := paired_get hp0 hi
        exact ⟨_, _, a, rfl, k12 _ _ ha⟩
      · intro i v v1 v2 us2 ep2 C2 Dc2 I2 o2 g3 fs3 h5 tk5 m5 hi hv hI3 k3 hul3 Z3 S7 m5x m5y
        (try k_fold)
        obtain ⟨e, he, a, tp, tk, rfl, ha⟩ := paired_get hp0 hi
        obtain ⟨a', q, hv⟩ := hv
        cases q
        rw [k12 _ _ ha] at hv
        cases hv
        refine tests0 ?_
        simp only [if_true]
        walk_at "go"
        refine gm_index (S7.nw _ (.tail _ (.tail _ (.tail _ (.tail _ (.head _)))))) ?_
        walk_at "go"
        refine index_S (S7.nw _ (.tail _ (.tail _ (.tail _ (.tail _ (.head _)))))) hds (hall' e (List.mem_of_getElem? he)) (by rw [StrsAre.length hds, List.length_map, sizeLine_eq]; lia) ?_
        walk_at "go"
        rename_i g4 pb h6 k4 hpb S8
        refine ⟨g4, _, _, rfl, k4, S8, hI3.1.trans k4, ?_⟩
        have htk : (needsOf rows x).take (i + 1) = (needsOf rows x).take i ++ [e] := by rw [List.take_add_one, he]; rfl
        rw [htk, List.map_append]
        exact paired_snoc (paired_mono (fun _ _ h => h.keeps k4) hI3.2) ⟨pb, _, _, rfl, hpb⟩
      · intro Dc2 us2 ep2 g3 frs3 h5 tk5 hI3 hul3 k3 hu3 S7
        (try k_fold)
        rw [hp0.length.symm, List.take_length] at hI3
        walk_at "go"
        refine addL_S S7 ⟨_, S7.nw _ (.tail _ (.head _)), rfl, _, rfl⟩ ⟨_, S7.nw _ (.head _), rfl, _, rfl⟩ (by rw [sizeLine_eq]; simp only [List.length_singleton]; lia) ?_
        intro D6 h6 S8
        (try k_fold)
        obtain ⟨g4, k4, S9, hD6⟩ := St.settle S8
        have S10 := S9.drop.drop
        have hpr : Paired (IntP g4) (((-1 : Int), (j : Int)) :: ((needsOf rows x).map fun e => ((D.idxOf e.1 : Int), (e.2 : Int)))) ([Value.ref pa] ++ us2) :=
          .cons ⟨pa, _, _, rfl, k4 _ _ (k3 _ _ hpa)⟩ (paired_mono (fun _ _ h => h.keeps k4) hI3.2)
        walk_at "go"
        have hDnl4 : g4.IsList Dn ys.toArray := lk hDnl (k12.trans (k3.trans k4))
        refine max_S S10 Z.hand (by have := Z.units; lia) hD6 hpr ?_
        intro vm h7 tk7 hvm S11
        (try k_fold)
        obtain ⟨bm, t7, u7, rfl, hbm⟩ := hvm
        clear S7 S8 S9 S10
        walk_at "go"
        rename_i g5 pc h8 k5 hpc S12
        refine append_S S12 (by rw [sizeLine_eq]; lia) ?_
        intro h9 S13
        (try k_fold)
        walk_at "go"
        have hidx : (namesOf rows).idxOf x = j := by
          have h1 := List.idxOf_lt_length_of_mem (List.mem_of_getElem? hj)
          have h2 := List.getElem_idxOf h1
          obtain ⟨h3, h4⟩ := List.getElem?_eq_some_iff.mp hj
          exact (List.getElem_inj (h₀ := h1) (h₁ := h3) (names_nodup rows)).mp (h2.trans h4.symm)
        refine hyes (by rw [decide_eq_true hxD, hall]; rfl) g5 (.ref pc) frs3 _ _ (k12.trans (k3.trans (k4.trans k5))) (hu1.trans hu3) ⟨pc, bm, tc, rfl, hpc, bm, t7, u7, rfl, ?_⟩ S13
        show g5.get? bm = some (tupObj [.int (rank rows D x).1 t7, .int (rank rows D x).2 u7])
        unfold rank
        rw [hidx]
        exact k5 _ _ hbm
end
end Mine

end
section
set_option maxHeartbeats 2000000
open PySem PySem.W PySem.W.X PyProof.Rows PySem.Calls PySem.Spec PySem.Builtin PySem.Builtin.Str
namespace Mine
section
variable {w : World} {mg mb : PySem.Str → Option Value} {A : Around} {g : Heap} {L1 Dn D2 Dt Dd : Addr} {m : PySem.Str → Option Value} {news frs : List (Addr × Obj)} {s : Shared}
    {Q : Flow → Shared → Prop}
inductive PlT (Df Dt Dd L1 Dn D2 : Addr) (gsv ds : List Value) (ept epd : Nat) (oD : Obj) (news : List (Addr × Obj)) (rows : List (List Nat)) (D : List Nat) (i : Nat) (g' : Heap) (m' : PySem.Str → Option Value) (news' : List (Addr × Obj)) : Prop
  | mk  (fs : List Value) (epf : Nat) (_ : news' = (Df, lstO fs epf) :: (Dt, lstO gsv ept) :: (Dd, lstO ds epd) :: (L1 + 1 + 1, oD) :: news) (_ : Paired (RankAt g') ((((namesOf rows).take i).filter fun x => decide (x ∉ D) && (needsOf rows x).all fun e => decide (e.1 ∈ D)).map fun x => (rank rows D x, x)) fs) (_ : fs.length ≤ i) (_ : m' "seen" = some (.ref Dn)) (_ : m' "needs" = some (.ref D2)) (_ : m' "told" = some (.ref Dt)) (_ : m' "free" = some (.ref Df)) : PlT Df Dt Dd L1 Dn D2 gsv ds ept epd oD news rows D i g' m' news'
theorem plan_turn {rows : List (List Nat)} {ys ws gsv ds : List Value} {epn epw ept epd : Nat} {D : List Nat} {oD : Obj}
  (hDn : g.get? Dn = some (lstO ys epn)) (hys : SignsAt ys (namesOf rows)) (hD2 : g.get? D2 = some (lstO ws epw)) (hws : Paired (fun x v => NeedAt rows g v x) (namesOf rows) ws)
  (hn64 : (namesOf rows).length < 64) (hl : rows.length ≤ 100) (hl2 : ∀ x, (needsOf rows x).length ≤ 200)
  (B : Bs w mg mb g) (S : Mine.St g L1 (((Dt, lstO gsv ept) :: (Dd, lstO ds epd) :: (L1 + 1 + 1, oD) :: news) ++ frs) s.heap m) (Z : Ar A L1 frs 1)
  (hoD : oD.data = .cell (some (.ref Dd))) (hds : SignsAt ds D) (hdl : D.length ≤ 64) (hgl : gsv.length ≤ 100)
  (hms : m "seen" = some (.ref Dn)) (hmn : m "needs" = some (.ref D2)) (hmt : m "told" = some (.ref Dt))
  (hnext : ∀ G g' frs' h' tk' m' oD' gv us' epd', IsF rows D G → G ≠ [] → Sub g g' → Up frs frs' → GroupAt g' gv G → SignsAt us' (D ++ G) → oD'.data = .cell (some (.ref Dd)) → m' "seen" = some (.ref Dn) → m' "needs" = some (.ref D2) → m' "told" = some (.ref Dt) →
    Mine.St g' L1 (((Dt, lstO (gsv ++ [gv]) (ept + 1)) :: (Dd, lstO us' epd') :: (L1 + 1 + 1, oD') :: news) ++ frs') h' m' → Q .next { s with heap := h', toks := tk' })
  (hstop : ∀ g' frs' h' tk' m' gv, IsF rows D [] → Sub g g' → Up frs frs' → GroupAt g' gv [] → m' "seen" = some (.ref Dn) → m' "needs" = some (.ref D2) → m' "told" = some (.ref Dt) →
    Mine.St g' L1 (((Dt, lstO (gsv ++ [gv]) (ept + 1)) :: (Dd, lstO ds epd) :: (L1 + 1 + 1, oD) :: news) ++ frs') h' m' → Q .brk { s with heap := h', toks := tk' }) :
  wpAny (model prg w) A (execs (forBody (stmtAt prg.main.body[30]? 5) rfl) (envX (PySem.Str.ofString "_law_plan") (scopeAt prg.main.body[30]? rfl) L1 273 (.ref 272) (cellsFrom (L1 + 1) (scopeAt prg.main.body[30]? rfl).names []))) Q (fun _ _ => False) s := by
  dsimp only [forBody, scopeAt]
  have hDnl : g.IsList Dn ys.toArray := ⟨_, hDn, rfl, _, rfl⟩
  have hyl : ys.length = (namesOf rows).length := by
    have := StrsAre.length hys
    simpa using this
  walk_at "go"
  rename_i Df h1 S1 h2 S2 g1 rg h3 tk3 ta tb tc k1 hrg S3
  refine range_iter (n := (namesOf rows).length) S3 (by rw [List.size_toArray, hyl] at hrg; exact hrg) (Sub.refl _) (by lia) ?_
  intro I oI ob h4 W h0 S4
  (try k_fold)
  clear S1 S2 S3
  have hDn1 := k1 _ _ hDn
  have hD21 := k1 _ _ hD2
  have hws1 := paired_mono (fun _ _ h => NeedAt.keeps h k1) hws
  have B1 := B.keeps k1
  refine forLoop_S (L := L1) (frs := frs) (news := (Df, lstO [] 0) :: (Dt, lstO gsv ept) :: (Dd, lstO ds epd) :: (L1 + 1 + 1, oD) :: news)
    (fun i g' m' news' => PlT Df Dt Dd L1 Dn D2 gsv ds ept epd oD news rows D i g' m' news') Z.hand W (fun _ => rfl) ?_ ?_ h0 S4 ⟨[], 0, rfl, .nil, Nat.le_refl _, hms, hmn, hmt, rfl⟩
  · intro i v o g2 m2 news2 frs2 h5 tk5 hi hP hInv k2 hu2 S5
    (try k_fold)
    obtain ⟨fs, epf, hq44_0, hfs, hfl, e1, e2, e3, e4⟩ := hInv
    subst hq44_0
    obtain ⟨ti, rfl⟩ := hP
    obtain ⟨x, hx⟩ : ∃ x, (namesOf rows)[i]? = some x := ⟨(namesOf rows)[i], List.getElem?_eq_getElem hi⟩
    refine wpAny_assign_Name (st_L S5 (fun h6 S6 => ?_) rfl rfl)
    have htk : (namesOf rows).take (i + 1) = (namesOf rows).take i ++ [x] := by rw [List.take_add_one, hx]; rfl
    have filt1 : List.filter (fun x => decide (x ∉ D) && (needsOf rows x).all fun e => decide (e.1 ∈ D)) [x] = if (decide (x ∉ D) && (needsOf rows x).all fun e => decide (e.1 ∈ D)) = true then [x] else [] := by rw [List.filter_cons, List.filter_nil]
    refine plan_number (tj := ti) (rows := rows) (j := i) (x := x) (D := D) (ys := ys) (ws := ws) (Dn := Dn) (D2 := D2) (Df := Df) (Dt := Dt) (Dd := Dd) (fs := fs) (gsv := gsv) (ds := ds) (oD := oD) (news := news ++ [(I, o)]) (k2 _ _ hDn1) hys (k2 _ _ hD21) (paired_mono (fun _ _ h => NeedAt.keeps h k2) hws1) hn64 hl2 (B1.keeps k2) S6 (Z.up hu2) hoD hds hdl ?_ ?_ ?_ ?_ hx (by lia) ?_ ?_
    · exact e1
    · exact e2
    · exact e4
    · rfl
    · intro hP g3 v3 frs3 h7 tk7 k3 hu3 hv3 S7
      (try k_fold)
      refine ⟨g3, _, ((Df, lstO (fs ++ [v3]) (epf + 1)) :: (Dt, lstO gsv ept) :: (Dd, lstO ds epd) :: (L1 + 1 + 1, oD) :: news), frs3, h7, tk7, rfl, k3, hu3, S7, fs ++ [v3], epf + 1, rfl, ?_, by rw [List.length_append, List.length_singleton]; lia, e1, e2, e3, e4⟩
      rw [htk, List.filter_append, filt1, hP, if_pos rfl, List.map_append]
      exact paired_snoc (paired_mono (fun _ _ h => h.keeps k3) hfs) hv3
    · intro hP g3 frs3 h7 tk7 k3 hu3 S7
      (try k_fold)
      refine ⟨g3, _, ((Df, lstO fs epf) :: (Dt, lstO gsv ept) :: (Dd, lstO ds epd) :: (L1 + 1 + 1, oD) :: news), frs3, h7, tk7, rfl, k3, hu3, S7, fs, epf, rfl, ?_, by lia, e1, e2, e3, e4⟩
      rw [htk, List.filter_append, filt1, hP, if_neg Bool.false_ne_true, List.append_nil]
      exact paired_mono (fun _ _ h => h.keeps k3) hfs
  · intro g2 m2 news2 frs2 h5 tk5 hInv k2 hu2 S5
    (try k_fold)
    obtain ⟨fs, epf, hq67_0, hfs, hfl, e1, e2, e3, e4⟩ := hInv
    subst hq67_0
    rw [List.take_length] at hfs
    replace hfs : Paired (RankAt g2) ((freeL rows D).map fun x => (rank rows D x, x)) fs := hfs
    obtain ⟨g3, k3, S6, hDf⟩ := St.settle S5
    have B3 := (B1.keeps k2).keeps k3
    clear S5
    replace S6 : Mine.St g3 L1 (((Dt, lstO gsv ept) :: (Dd, lstO ds epd) :: (L1 + 1 + 1, oD) :: news) ++ frs2) h5 m2 := S6
    (try dsimp only)
    walk_at "go"
    have hfn := free_nodup rows D
    have hfm : ∀ x ∈ freeL rows D, x ∈ namesOf rows := fun x hx => (free_mem.mp hx).1
    refine sortedT_S S6 (by have := Z.units; lia) hDf (paired_mono (fun _ _ h => RankAt.keeps h k3) hfs) (by lia) ?_ ?_ ?_
    · intro i j x y hx hy hxy
      (try k_fold)
      rw [List.getElem?_map] at hx hy
      obtain ⟨x', hx', rfl⟩ := Option.map_eq_some_iff.mp hx
      obtain ⟨y', hy', rfl⟩ := Option.map_eq_some_iff.mp hy
      have hxy' : x' = y' := rank_inj (hfm x' (List.mem_of_getElem? hx')) hxy
      subst hxy'
      obtain ⟨h1, h2⟩ := List.getElem?_eq_some_iff.mp hx'
      obtain ⟨h3, h4⟩ := List.getElem?_eq_some_iff.mp hy'
      exact (List.getElem_inj (h₀ := h1) (h₁ := h3) hfn).mp (h2.trans h4.symm)
    · intro x hx
      (try k_fold)
      obtain ⟨x', hx', rfl⟩ := List.mem_map.mp hx
      refine rank_snd ?_ ?_
      · have := List.idxOf_lt_length_of_mem (hfm x' hx')
        lia
      · intro e he
        (try k_fold)
        have := needs_lt he
        lia
    intro Ds zs us eps h6 tk6 S7 hus hperm hpw
    (try k_fold)
    have hF := isF_of hperm hpw
    generalize hG : zs.map (·.2) = G at hF
    have hGl : G.length ≤ 64 := by
      have := hF.1.length_eq
      rw [this]
      have := hfn.length_le_of_subset (l₂ := namesOf rows) hfm
      lia
    have hul : us.length ≤ 64 := by
      rw [hus.length.symm]
      have : zs.length = G.length := by rw [← hG, List.length_map]
      lia
    obtain ⟨g4, k4, S8, hDs⟩ := St.settle S7
    clear S6 S7
    walk_at "go"
    refine pairs_go (frs := frs2) S8 (Z.up hu2) hDs (by lia) (fun v hv => ?_) (by decide) (by decide) (by decide) rfl (fun i us' g' => Sub g4 g' ∧ SignsAt us' ((zs.take i).map (·.2))) ⟨Sub.refl _, .nil⟩ ?_ ?_
    · obtain ⟨i, hi⟩ := List.mem_iff_getElem?.mp hv
      obtain ⟨e, _, a, b, t, rfl, ha, _⟩ := paired_get hus hi
      exact ⟨_, _, a, rfl, k4 _ _ ha⟩
    · intro i v v1 v2 us2 ep2 C2 Dc2 I2 o2 g5 fs3 h7 tk7 m7 hi hv hI5 k5 hul5 Z5 S9 m7x m7y
      (try k_fold)
      obtain ⟨e, he, a, b, t, rfl, ha, _⟩ := paired_get hus hi
      obtain ⟨a', q, hv⟩ := hv
      cases q
      rw [k4 _ _ ha] at hv
      cases hv
      refine tests0 ?_
      simp only [if_true]
      walk_at "go"
      refine ⟨g5, _, _, rfl, Sub.refl _, S9, hI5.1, ?_⟩
      rw [List.take_add_one, he, List.map_append]
      exact signs_append hI5.2 (.cons _ _ .nil)
    · intro Dg gv epg g5 frs5 h7 tk7 hI5 hul5 k5 hu5 S9
      (try k_fold)
      rw [hus.length.symm, List.take_length, hG] at hI5
      walk_at "go"
      refine tuple_LS S9 (.head _) (by rw [sizeLine_eq]; lia) ?_
      intro g6 Tg h8 k6 hTg S10
      (try k_fold)
      replace S10 : Mine.St g6 L1 (((Dt, lstO gsv ept) :: (Dd, lstO ds epd) :: (L1 + 1 + 1, oD) :: news) ++ frs5) h8 m2 := S10.drop
      clear S8 S9
      have hu0 : A.units < cLine := Nat.lt_of_le_of_lt (Nat.le_add_right _ _) Z.units
      have hgvl : gv.length = G.length := by rw [StrsAre.length hI5.2, List.length_map]
      walk_at "go"
      rename_i h9 S11 g7 t1 h10 k7 ht1 S12
      refine neTup0_S hu0 (S12.keep _ _ (k7 _ _ hTg)) (S12.keep _ _ ht1) ?_
      walk_at "go"
      rename_i g8 t2 h11 k8 ht2 S13
      refine neTup0_S hu0 (S13.keep _ _ (k8 _ _ (k7 _ _ hTg))) (S13.keep _ _ ht2) ?_
      walk_at "go"
      rename_i g9 pc h12 k9 hpc S14
      refine append_S S14 (by rw [sizeLine_eq]; lia) ?_
      intro h13 S15
      (try k_fold)
      have hTg9 := k9 _ _ (k8 _ _ (k7 _ _ hTg))
      clear S10 S11 S12 S13 S14
      walk_at "go"
      rename_i g10 t3 h14 k10 ht3 S16
      have kall : Sub g g10 := k1.trans (k2.trans (k3.trans (k4.trans (k5.trans (k6.trans (k7.trans (k8.trans (k9.trans k10))))))))
      have uall : Up frs frs5 := hu2.trans hu5
      have hgrp : GroupAt g10 (.ref pc) G := by
        have e : gv.isEmpty = G.isEmpty := by
          rw [Bool.eq_iff_iff, List.isEmpty_iff, List.isEmpty_iff, ← List.length_eq_zero_iff, ← List.length_eq_zero_iff, hgvl]
        rw [e] at hpc
        exact ⟨pc, Tg, gv, rfl, k10 _ _ hpc, k10 _ _ hTg9, hI5.2⟩
      refine eqTup_S (cs := G) (ds := []) S16 hu0 (k10 _ _ hTg9) ht3 hI5.2 .nil ?_
      by_cases hG0 : G = []
      · rw [decide_eq_true hG0]
        rw [hG0] at hF hgrp
        walk_at "go"
        exact hstop g10 frs5 _ _ (upd m2 (PySem.Str.ofString "group") (.ref Tg)) _ hF kall uall hgrp e1 e2 e3 S16
      · rw [decide_eq_false hG0]
        clear hstop
        have B10 := B.keeps kall
        walk_at "go"
        refine listT_S S16 (S16.keep _ _ (k10 _ _ hTg9)) (by lia) ?_
        intro Dl epl h15 S17
        (try k_fold)
        walk_at "go"
        have S18 : Mine.St g10 L1 ((Dl, lstO gv epl) :: (Dt, lstO (gsv ++ [.ref pc]) (ept + 1)) :: (Dd, lstO ds epd) :: (L1 + 1 + 1, oD) :: (news ++ frs5)) h15 (upd m2 (PySem.Str.ofString "group") (.ref Tg)) := S17
        have hdsl : ds.length ≤ 64 := by rw [StrsAre.length hds, List.length_map]; exact hdl
        refine iaddL_S (vs := ds) (ws := gv) (ep := epd) (e2 := epl) (news' := fun o' => (Dl, lstO gv epl) :: (Dt, lstO (gsv ++ [.ref pc]) (ept + 1)) :: (Dd, o') :: (L1 + 1 + 1, oD) :: (news ++ frs5)) S18 (fun _ => .tail (.tail .head)) (S18.nw _ (.head _)) (by lia) ?_
        intro h16 ep' S19
        (try k_fold)
        refine st_cell (c := L1 + 1 + 1) (news' := fun o' => (Dl, lstO gv epl) :: (Dt, lstO (gsv ++ [.ref pc]) (ept + 1)) :: (Dd, lstO (ds ++ gv) ep') :: (L1 + 1 + 1, o') :: (news ++ frs5)) S19 rfl (fun _ => .tail (.tail (.tail .head))) hoD ?_ rfl rfl
        intro oD' h17 hoD' S20
        (try k_fold)
        clear S15 S16 S17 S18 S19
        walk_at "go"
        exact hnext G g10 frs5 _ _ (upd m2 (PySem.Str.ofString "group") (.ref Tg)) oD' (.ref pc) (ds ++ gv) ep' hF hG0 kall uall hgrp (signs_append hds hI5.2) hoD' e1 e2 e3 S20.drop
noncomputable abbrev oneStmt {x : Stmt} (st : Option Stmt) (_h : st = some x) : List Stmt := [x]
/-- the plan's last line -/
theorem plan_last {ys gsv ds : List Value} {epn ept epd n d : Nat} {oD : Obj} {E : Value → Shared → Prop}
  (hDn : g.get? Dn = some (lstO ys epn)) (hyl : ys.length = n) (hn : n ≤ 1000)
  (B : Bs w mg mb g) (S : Mine.St g L1 (((Dt, lstO gsv ept) :: (Dd, lstO ds epd) :: (L1 + 1 + 1, oD) :: news) ++ frs) s.heap m)
  (hoD : oD.data = .cell (some (.ref Dd))) (hdl : ds.length = d) (hd : d ≤ 1000) (hgl : gsv.length ≤ 1000)
  (hms : m "seen" = some (.ref Dn)) (hmt : m "told" = some (.ref Dt))
  (hret : ∀ D' h' tk', Mine.St g L1 (((D', lstO (.bool (decide (d < n)) :: gsv) 0) :: news) ++ frs) h' m → Q (.ret (.ref D')) { s with heap := h', toks := tk' }) :
  wpAny (model prg w) A (execs (oneStmt (stmtAt prg.main.body[30]? 6) rfl) (envX (PySem.Str.ofString "_law_plan") (scopeAt prg.main.body[30]? rfl) L1 273 (.ref 272) (cellsFrom (L1 + 1) (scopeAt prg.main.body[30]? rfl).names []))) Q E s := by
  dsimp only [oneStmt, scopeAt]
  have hDnl : g.IsList Dn ys.toArray := ⟨_, hDn, rfl, _, rfl⟩
  walk_at "go"
  refine PyProof.Rows.len_list (items := ds.toArray) ⟨_, S.nw _ (.tail _ (.head _)), rfl, _, rfl⟩ (by rw [List.size_toArray]; lia) ?_
  walk_at "go"
  rename_i D1 h1 S1
  have hlt : decide ((ds.toArray.size : Int) < (ys.toArray.size : Int)) = decide (d < n) := by
    rw [List.size_toArray, List.size_toArray, hdl, hyl, Bool.eq_iff_iff, decide_eq_true_iff, decide_eq_true_iff]; lia
  rw [hlt] at S1
  refine addL_S S1 ⟨_, S1.nw _ (.head _), rfl, _, rfl⟩ ⟨_, S1.nw _ (.tail _ (.head _)), rfl, _, rfl⟩ (by rw [sizeLine_eq]; simp only [List.length_singleton]; lia) ?_
  intro D2' h2 S2
  (try k_fold)
  have S3 : Mine.St g L1 ((D2', lstO (.bool (decide (d < n)) :: gsv) 0) :: (D1, lstO [.bool (decide (d < n))] 0) :: (Dt, lstO gsv ept) :: (Dd, lstO ds epd) :: (L1 + 1 + 1, oD) :: (news ++ frs)) h2 m := S2
  have S4 := (S3.perm (List.Perm.swap _ _ _)).drop
  have S5 := (S4.perm (List.Perm.swap _ _ _)).drop
  have S6 := (S5.perm (List.Perm.swap _ _ _)).drop
  have S7 := (S6.perm (List.Perm.swap _ _ _)).drop
  clear S1 S2 S3 S4 S5 S6
  walk_at "go"
  exact hret D2' _ _ S7
end
end Mine

end
section
set_option maxHeartbeats 2000000
open PySem PySem.W PySem.W.X PyProof.Rows PySem.Calls PySem.Spec PySem.Builtin PySem.Builtin.Str
namespace Mine
section
variable {w : World} {mg mb : PySem.Str → Option Value} {A : Around} {g : Heap} {L : Addr} {m : PySem.Str → Option Value} {news frs : List (Addr × Obj)} {s : Shared} {tk t2 t3 : Tok}
    {Q E : Value → Shared → Prop}
inductive PlS1 (g1 : Heap) (Dn L1 : Addr) (oD : Obj) (news : List (Addr × Obj)) (rows : List (List Nat)) (i : Nat) (g' : Heap) (m' : PySem.Str → Option Value) (news' : List (Addr × Obj)) : Prop
  | mk (_ : g1 = g') (ys : List Value) (ep : Nat) (_ : news' = (Dn, lstO ys ep) :: (L1 + 1 + 1, oD) :: news) (_ : SignsAt ys ((rows.take i).foldl (fun ks r => (r.headD 0 :: r.tail).foldl insK ks) [])) (_ : m' "seen" = some (.ref Dn)) : PlS1 g1 Dn L1 oD news rows i g' m' news'
inductive PlS2 (g1 : Heap) (Dn L1 I : Addr) (oD o3 : Obj) (news : List (Addr × Obj)) (rows : List (List Nat)) (r : List Nat) (i : Nat) (j : Nat) (g' : Heap) (m' : PySem.Str → Option Value) (news' : List (Addr × Obj)) : Prop
  | mk (_ : g1 = g') (ys' : List Value) (ep : Nat) (_ : news' = (Dn, lstO ys' ep) :: (L1 + 1 + 1, oD) :: (news ++ [(I, o3)])) (_ : SignsAt ys' ((r.take j).foldl insK ((rows.take i).foldl (fun ks r => (r.headD 0 :: r.tail).foldl insK ks) []))) (_ : ys'.length ≤ 200 + j) (_ : m' "seen" = some (.ref Dn)) : PlS2 g1 Dn L1 I oD o3 news rows r i j g' m' news'
inductive PlN (c2 D2 L1 : Addr) (oD : Obj) (news : List (Addr × Obj)) (rows : List (List Nat)) (i : Nat) (g' : Heap) (m' : PySem.Str → Option Value) (news' : List (Addr × Obj)) : Prop
  | mk  (oc : Obj) (ws : List Value) (ep : Nat) (v0 : Option Value) (_ : news' = (c2, oc) :: (D2, lstO ws ep) :: (L1 + 1 + 1, oD) :: news) (_ : oc.data = .cell v0) (_ : ws.length = i) (_ : Paired (fun x v => NeedAt rows g' v x) ((namesOf rows).take i) ws) : PlN c2 D2 L1 oD news rows i g' m' news'
inductive PlU (D3 c2 D2 L1 I2 : Addr) (oc5 oD o3 : Obj) (ws : List Value) (epw : Nat) (news : List (Addr × Obj)) (rows : List (List Nat)) (x : Nat) (j : Nat) (g' : Heap) (m' : PySem.Str → Option Value) (news' : List (Addr × Obj)) : Prop
  | mk  (us : List Value) (ep : Nat) (_ : news' = (D3, lstO us ep) :: ((c2, oc5) :: (D2, lstO ws epw) :: (L1 + 1 + 1, oD) :: (news ++ [(I2, o3)]))) (_ : us.length ≤ j) (_ : Paired (fun e v => PairAt g' v e) (needsOf (rows.take j) x) us) : PlU D3 c2 D2 L1 I2 oc5 oD o3 ws epw news rows x j g' m' news'
inductive PlV (D3 c2 D2 L1 I2 I3 : Addr) (oc5 oD o3 o5 : Obj) (ws : List Value) (epw : Nat) (news : List (Addr × Obj)) (rows : List (List Nat)) (x j : Nat) (cs : List Nat) (tj : Tok) (l : Nat) (g' : Heap) (m' : PySem.Str → Option Value) (news' : List (Addr × Obj)) : Prop
  | mk  (us' : List Value) (ep : Nat) (_ : news' = ((D3, lstO us' ep) :: ((c2, oc5) :: (D2, lstO ws epw) :: (L1 + 1 + 1, oD) :: (news ++ [(I2, o3)]))) ++ [(I3, o5)]) (_ : us'.length ≤ j + l) (_ : Paired (fun e v => PairAt g' v e) (needsOf (rows.take j) x ++ (cs.take l).map fun p => (p, j)) us') (_ : m' "k" = some (.int (j : Nat) tj)) : PlV D3 c2 D2 L1 I2 I3 oc5 oD o3 o5 ws epw news rows x j cs tj l g' m' news'
inductive PlM (Dt Dd L1 Dn D2 : Addr) (news : List (Addr × Obj)) (rows : List (List Nat)) (i : Nat) (g' : Heap) (m' : PySem.Str → Option Value) (news' : List (Addr × Obj)) : Prop
  | mk  (gs : List (List Nat)) (D : List Nat) (gsv : List Value) (ds : List Value) (epd : Nat) (ept : Nat) (oD2 : Obj) (_ : gs.length = i) (_ : PlanP rows gs D) (_ : news' = (Dt, lstO gsv ept) :: (Dd, lstO ds epd) :: (L1 + 1 + 1, oD2) :: news) (_ : oD2.data = .cell (some (.ref Dd))) (_ : SignsAt ds D) (_ : Paired (fun cs v => GroupAt g' v cs) gs gsv) (_ : m' "seen" = some (.ref Dn)) (_ : m' "needs" = some (.ref D2)) (_ : m' "told" = some (.ref Dt)) : PlM Dt Dd L1 Dn D2 news rows i g' m' news'
theorem c_plan {T : Addr} {vs : List Value} {ep : Nat} {rows : List (List Nat)} (hT : g.get? T = some (lstO vs ep)) (hR : RowsAt g vs rows) (hl : rows.length ≤ 100) (hn64 : (namesOf rows).length < 64) (hr : ∀ r ∈ rows, r ≠ [] ∧ r.length ≤ 2) (B : Bs w mg mb g) (S : Mine.St g L (news ++ frs) s.heap m) (Z : Ar A L frs 2)
   (hret : ∀ D ws ep' gs Df g' frs' h' tk', PlanN rows ((namesOf rows).length + 1) [] gs Df → Paired (fun cs v => GroupAt g' v cs) gs ws → g'.get? D = some (lstO (.bool (decide (Df.length < (namesOf rows).length)) :: ws) ep') → Sub g g' → Up frs frs' →
     Mine.St g' L (news ++ frs') h' m → Q (.ref D) { s with heap := h', toks := tk' }) :
   wpAny (model prg w) A (call (.ref 273) [.ref T]) Q E s := by
  have hTl : g.IsList T vs.toArray := ⟨_, hT, rfl, _, rfl⟩
  refine wpAny_call ?_
  refine enterCs (binds := [(PySem.Str.ofString "rows", .ref T)]) B (Sub.refl _) S Z (by k_dflt k_is) (by k_dflt k_is) rfl (fun a y hy => by rw [List.mem_singleton.mp hy]; exact .inr ⟨rfl, rfl⟩) ?_ (fun a => by show ([PySem.Str.ofString "done", PySem.Str.ofString "rows"] : List PySem.Str).Nodup; decide) rfl rfl rfl
  intro oL L1 h1 tk1 os Lb hos hcell S1 Z1
  (try k_fold)
  obtain ⟨oR, hoR, hdR⟩ := hcell (PySem.Str.ofString "rows") (L1 + 1) (.tail _ (.head _)) rfl
  obtain ⟨oD, hoD, hdD⟩ := hcell (PySem.Str.ofString "done") (L1 + 1 + 1) (.head _) rfl
  replace hdR : oR.data = .cell (some (.ref T)) := hdR
  replace hdD : oD.data = .cell none := hdD
  clear hcell
  replace hos : os.map (·.1) = [L1 + 1 + 1, L1 + 1] := hos
  obtain rfl := two_of hos hoD hoR (Nat.succ_ne_self _)
  clear hos hoD hoR
  replace S1 : Mine.St g L1 ((L1 + 1 + 1, oD) :: (L1 + 1, oR) :: (news ++ (L, oL) :: frs)) h1 (fun _ => none) := S1
  obtain ⟨g1, k1, S2, hoR⟩ := (S1.perm (List.Perm.swap _ _ _)).settle
  clear S1
  have B1 := B.keeps k1
  have hTl1 := lk hTl k1
  walk_at "go"
  rename_i Dn h2 S3 h3 S4
  have hlen2 : ∀ (rs : List (List Nat)) (ks : List Nat), (∀ r ∈ rs, r ≠ [] ∧ r.length ≤ 2) → (rs.foldl (fun ks r => (r.headD 0 :: r.tail).foldl insK ks) ks).length ≤ ks.length + 2 * rs.length := by
    have ins_len : ∀ (l ks : List Nat), (l.foldl insK ks).length ≤ ks.length + l.length := by
      intro l
      (try k_fold)
      induction l with
      | nil => intro ks; exact Nat.le_refl _
      | cons x l ih =>
        intro ks
        (try k_fold)
        have := ih (insK ks x)
        rw [List.foldl_cons, List.length_cons]
        have h2 : (insK ks x).length ≤ ks.length + 1 := by unfold insK; split <;> simp
        lia
    intro rs
    (try k_fold)
    induction rs with
    | nil => intro ks _; exact Nat.le_refl _
    | cons r rs ih =>
      intro ks h
      (try k_fold)
      have h1 := ih ((r.headD 0 :: r.tail).foldl insK ks) fun r' hr' => h r' (.tail _ hr')
      have h2 := ins_len (r.headD 0 :: r.tail) ks
      obtain ⟨h3, h4⟩ := h r (.head _)
      rw [List.foldl_cons, List.length_cons]
      have h5 : (r.headD 0 :: r.tail).length = r.length := by cases r with | nil => exact absurd rfl h3 | cons _ _ => rfl
      lia
  refine iter_list S4 hTl1 (Sub.refl _) ?_
  intro I oI ob h4 W h0 S5
  (try k_fold)
  refine forLoop_S (L := L1) (frs := (L, oL) :: frs) (news := (Dn, lstO [] 0) :: (L1 + 1 + 1, oD) :: news)
    (fun i g' m' news' => PlS1 g1 Dn L1 oD news rows i g' m' news') Z1.hand W (fun _ => rfl) ?_ ?_ h0 S5 ?_
  · intro i v o3 g3 m3 news3 frs3 h5 tk5 hi hP hInv k3 hu3 S6
    (try k_fold)
    obtain ⟨rfl, ys, ep3, rfl, hys, e1⟩ := hInv
    clear k3
    have hv : vs[i]? = some v := by simpa using hP
    obtain ⟨r, hr1, a, us, ep5, rfl, ha, hsu⟩ := paired_get hR hv
    obtain ⟨hr2, hr3⟩ := hr r (List.mem_of_getElem? hr1)
    have hi' : i < rows.length := (List.getElem?_eq_some_iff.mp hr1).1
    have hal : g1.IsList a us.toArray := ⟨_, k1 _ _ ha, rfl, _, rfl⟩
    have hul : us.length = r.length := by
      have := StrsAre.length hsu
      simpa using this
    have hyb := hlen2 (rows.take i) [] fun r hr' => hr r (List.mem_of_mem_take hr')
    rw [List.length_take] at hyb
    walk_at "go"
    rename_i h6 S7
    refine iter_list S7 hal (Sub.refl _) ?_
    intro I2 oI2 ob2 h7 W2 h02 S8
    (try k_fold)
    refine forLoop_S (L := L1) (frs := frs3) (news := (Dn, lstO ys ep3) :: (L1 + 1 + 1, oD) :: (news ++ [(I, o3)]))
      (fun j g' m' news' => PlS2 g1 Dn L1 I oD o3 news rows r i j g' m' news') Z1.hand W2 (fun _ => rfl) ?_ ?_ h02 S8 ?_
    · intro j v2 o4 g4 m4 news4 frs4 h8 tk8 hj hP2 hInv2 k4 hu4 S9
      (try k_fold)
      obtain ⟨rfl, ys4, ep4, hq91_0, hys4, hyl4, f1⟩ := hInv2
      subst hq91_0
      clear k4
      obtain ⟨c, tc, hc, rfl⟩ := signs_get hsu (by simpa using hP2)
      have hj' : j < r.length := by rw [← hul]; simpa using hj
      walk_at "go"
      rename_i h9 S10
      refine notin_S ⟨_, S10.nw (Dn, lstO ys4 ep4) (.head _), rfl, _, rfl⟩ hys4 ?_
      have hst : (r.take (j + 1)).foldl insK ((rows.take i).foldl (fun ks r => (r.headD 0 :: r.tail).foldl insK ks) []) = insK ((r.take j).foldl insK ((rows.take i).foldl (fun ks r => (r.headD 0 :: r.tail).foldl insK ks) [])) c := by
        rw [List.take_add_one, hc]; exact ins_snoc _ _ _
      by_cases hm : c ∈ (r.take j).foldl insK ((rows.take i).foldl (fun ks r => (r.headD 0 :: r.tail).foldl insK ks) [])
      · rw [decide_eq_true hm]
        walk_at "go"
        refine ⟨g1, _, ((Dn, lstO ys4 ep4) :: (L1 + 1 + 1, oD) :: (news ++ [(I, o3)])), frs4, _, _, rfl, Sub.refl _, Up.refl _, S10, rfl, ys4, ep4, rfl, ?_, by lia, f1⟩
        rw [hst, insK_in hm]; exact hys4
      · rw [decide_eq_false hm]
        walk_at "go"
        refine append_S S10 (by rw [sizeLine_eq]; lia) ?_
        intro h10 S11
        (try k_fold)
        walk_at "go"
        refine ⟨g1, _, ((Dn, lstO (ys4 ++ [Value.str ⟨#[c]⟩ tc]) (ep4 + 1)) :: (L1 + 1 + 1, oD) :: (news ++ [(I, o3)])), frs4, _, _, rfl, Sub.refl _, Up.refl _, S11, rfl, _, _, rfl, ?_, by rw [List.length_append, List.length_singleton]; lia, f1⟩
        rw [hst, insK_out hm]
        exact signs_append hys4 (.cons _ _ .nil)
    · intro g4 m4 news4 frs4 h8 tk8 hInv2 k4 hu4 S9
      (try k_fold)
      obtain ⟨rfl, ys4, ep4, hq116_0, hys4, hyl4, f1⟩ := hInv2
      subst hq116_0
      clear k4
      rw [List.size_toArray, hul, List.take_length] at hys4
      refine wpAny_execs_nil ?_
      refine ⟨g1, _, ((Dn, lstO ys4 ep4) :: (L1 + 1 + 1, oD) :: news), frs4, _, _, rfl, Sub.refl _, hu4, S9, rfl, ys4, ep4, rfl, ?_, f1⟩
      rw [List.take_add_one, hr1]
      show SignsAt ys4 (List.foldl _ _ (rows.take i ++ [r]))
      rw [List.foldl_append]
      have : r.headD 0 :: r.tail = r := by cases r with | nil => exact absurd rfl hr2 | cons _ _ => rfl
      rw [List.foldl_cons, List.foldl_nil, this]; exact hys4
    · refine ⟨rfl, ys, ep3, rfl, hys, ?_, e1⟩
      have := StrsAre.length hys
      rw [List.length_map] at this
      simp only [List.length_nil] at hyb
      lia
  · intro g3 m3 news3 frs3 h5 tk5 hInv k3 hu3 S6
    (try k_fold)
    obtain ⟨rfl, ys, ep3, rfl, hys, e1⟩ := hInv
    clear k3
    rw [List.size_toArray, hR.length.symm, List.take_length] at hys
    replace hys : SignsAt ys (namesOf rows) := hys
    have hnl : (namesOf rows).length ≤ 200 := by
      have := hlen2 rows [] hr
      simp only [List.length_nil] at this
      unfold namesOf; lia
    have hyl : ys.length = (namesOf rows).length := by
      have := StrsAre.length hys
      simpa using this
    obtain ⟨g2, k2, S7, hDn⟩ := S6.settle
    clear S6
    have hDl : g2.IsList Dn ys.toArray := ⟨_, hDn, rfl, _, rfl⟩
    have hTl2 := lk hTl1 k2
    have hoR2 := k2 _ _ hoR
    have B2 := B1.keeps k2
    (try dsimp only)
    refine wpAny_execs_cons ?_
    refine' Assign_ListComp_G (one := some (PySem.Str.ofString "name")) (cl := [(PySem.Str.ofString "rows", L1 + 1)]) ?hsw ?hclos ?hl ?hkind ?hnames ?hy ?hp ?_ ?hs
    case hsw => with_unfolding_all rfl
    case hclos => with_unfolding_all rfl
    case hl => exact ⟨fun a => rfl, fun h => rfl⟩
    case hkind => with_unfolding_all rfl
    case hnames => decide
    case hy => rfl
    case hp => rfl
    case hs => intro _; with_unfolding_all rfl
    walk_at "go"
    refine iter_list S7 hDl (Sub.refl _) ?_
    intro I2 oI2 ob2 h6 W2 h02 S8
    (try k_fold)
    refine ⟨I2, g2, L1, _, ((L1 + 1 + 1, oD) :: news), frs3, _, oI2, rfl, Z1.up hu3, S8, ?_⟩
    intro C2 D2 c2 oL2 h7 hb2 Z2 S9
    (try k_fold)
    replace S9 : Mine.St g2 C2 ((I2, oI2) :: (((c2, celO) :: (D2, lstO [] 0) :: (L1 + 1 + 1, oD) :: news) ++ (L1, oL2) :: frs3)) h7 (fun _ => none) := S9
    refine' compStart_G rfl ?loop (W2.self _ 0 _ _ _ _ g2 C2 _ _ Z2.hand (Sub.refl _) h02 S9 ?loop)
    refine compLoop_T (turn_last _ _ _ _ _ _ _ _ _) (fun i g' m' news' => PlN c2 D2 L1 oD news rows i g' m' news') Z2.hand W2 ?_ ?_ h02 S9 ⟨celO, [], 0, none, rfl, rfl, rfl, .nil⟩
    · intro i v o3 g4 m4 news4 fs4 h8 tk8 hi hP hob hInv k4 hu4 S10
      (try k_fold)
      obtain ⟨oc, ws, epw, v0, hq173_0, hoc, hwl, hws⟩ := hInv
      subst hq173_0
      obtain ⟨x, tx, hx, rfl⟩ := signs_get hys (by simpa using hP)
      refine wpAny_of_eq (a := ()) rfl ?_
      refine wpAny_assign_Name (st_cell (c := c2) (news' := fun o' => (((c2, o') :: (D2, lstO ws epw) :: (L1 + 1 + 1, oD) :: news) ++ [(I2, o3)]) ++ fs4) S10 rfl (fun _ => .head) hoc ?_ rfl rfl)
      intro oc5 h9 hoc5 S11
      (try k_fold)
      refine tests0 ?_
      simp only [if_true]
      refine emit_S ?_
      refine' ListComp_G (one := none) (cl := [(PySem.Str.ofString "rows", L1 + 1), (PySem.Str.ofString "name", c2)]) ?hclos ?hl ?hkind ?hnames ?_ ?hs
      case hclos => with_unfolding_all rfl
      case hl => exact ⟨fun a => rfl, fun h => rfl⟩
      case hkind => with_unfolding_all rfl
      case hnames => decide
      case hs => intro _; with_unfolding_all rfl
      have hoR4 := k4 _ _ hoR2
      have hTl4 := lk hTl2 k4
      have B4 := B2.keeps k4
      have hvl : vs.length = rows.length := hR.length.symm
      walk_at "go"
      rename_i g5 rg h10 tk10 ta tb tc k5 hrg S12
      refine range_iter (n := rows.length) S12 (by rw [List.size_toArray, hvl] at hrg; exact hrg) (Sub.refl _) (by lia) ?_
      intro I3 oI3 ob3 h11 W3 h03 S13
      (try k_fold)
      refine ⟨I3, g5, C2, _, (((c2, oc5) :: (D2, lstO ws epw) :: (L1 + 1 + 1, oD) :: news) ++ [(I2, o3)]), fs4, _, oI3, rfl, Z2.up hu4, S13, ?_⟩
      intro C3 D3 c3 oL3 h12 hb3 Z3 S14
      (try k_fold)
      replace S14 : Mine.St g5 C3 ((I3, oI3) :: (((D3, lstO [] 0) :: ((c2, oc5) :: (D2, lstO ws epw) :: (L1 + 1 + 1, oD) :: (news ++ [(I2, o3)]))) ++ (C2, oL3) :: fs4)) h12 (fun _ => none) := S14
      have hoR5 := k5 _ _ hoR4
      have hTl5 := lk hTl4 k5
      have B5 := B4.keeps k5
      have S14' := S14
      refine' compStart_G rfl ?loop3 (W3.self _ 0 _ _ _ _ g5 C3 _ _ Z3.hand (Sub.refl _) h03 S14 ?loop3)
      clear S14'
      refine compLoop_T (turn_two0 _ _ _ _ _ _ _ _ _ _ _ _) (fun j g' m' news' => PlU D3 c2 D2 L1 I2 oc5 oD o3 ws epw news rows x j g' m' news') Z3.hand W3 ?_ ?_ h03 S14 ⟨[], 0, rfl, Nat.le_refl _, .nil⟩
      · intro j v o5 g6 m6 news6 fs6 h13 tk13 hj hP3 hob3 hInv3 k6 hu6 S15
        (try k_fold)
        obtain ⟨us, epu, rfl, hul, hus⟩ := hInv3
        obtain ⟨tj, rfl⟩ := hP3
        obtain ⟨r, hr1⟩ : ∃ r, rows[j]? = some r := ⟨rows[j], List.getElem?_eq_getElem hj⟩
        obtain ⟨vr, hvr, a, rs, epr, rfl, ha, hrs⟩ := paired_get' hR hr1
        obtain ⟨hr2, hr3⟩ := hr r (List.mem_of_getElem? hr1)
        obtain ⟨c, cs, rfl⟩ : ∃ c cs, r = c :: cs := by
          cases r with
          | nil => exact absurd rfl hr2
          | cons c cs => exact ⟨c, cs, rfl⟩
        obtain ⟨tcc, rs', rfl, hrs'⟩ : ∃ tc us', rs = .str ⟨#[c]⟩ tc :: us' ∧ SignsAt us' cs := by
          cases hrs with
          | cons y t h => exact ⟨t, _, rfl, h⟩
        have hT6 : g6.IsList T vs.toArray := lk hTl5 k6
        have hoR6 := k6 _ _ hoR5
        have hvr' : vs.toArray[j]? = some (.ref a) := by simpa using hvr
        have ha6 : g6.IsList a (Value.str ⟨#[c]⟩ tcc :: rs').toArray := ⟨_, k6 _ _ (k5 _ _ (k4 _ _ (k2 _ _ (k1 _ _ ha)))), rfl, _, rfl⟩
        refine wpAny_of_eq (a := ()) rfl ?_
        clear S14 S13 S12 S11 S10
        have hx0 : (Value.str ⟨#[c]⟩ tcc :: rs').toArray[(0 : Int).toNat]? = some (.str ⟨#[c]⟩ tcc) := rfl
        have hx1 : (Value.str ⟨#[c]⟩ tcc :: rs').toArray[0]? = some (.str ⟨#[c]⟩ tcc) := rfl
        have hcl : rs'.length = cs.length := by
          have := StrsAre.length hrs'
          simpa using this
        rw [List.length_cons] at hr3
        have hlz6 : (Value.str ⟨#[c]⟩ tcc :: rs').toArray.size ≤ sizeLine := by rw [List.size_toArray, List.length_cons, sizeLine_eq]; lia
        have htk : rows.take (j + 1) = rows.take j ++ [c :: cs] := by rw [List.take_add_one, hr1]; rfl
        have htl : (rows.take j).length = j := by rw [List.length_take]; exact Nat.min_eq_left (Nat.le_of_lt (by assumption))
        walk_at "go"
        · rename_i h14 S16 hcx
          have hcx' : c = x := one_inj (eq_of_beq hcx)
          refine nest_S2 (by intro _; with_unfolding_all rfl) ?_
          walk_at "go"
          refine kba_turn (value' := PySem.Expr.Name (PySem.Str.ofString "_") ⟨0, 0, 0, 0⟩) (fun _ => rfl) ?_
          walk_at "go"
          rename_i g7 D7 h15 k7 e7 S17
          rw [pick_tail] at e7
          refine iter_list S17 e7 (Sub.refl _) ?_
          intro I6 oI6 ob6 h16 W6 h06 S18
          (try k_fold)
          refine' compStart_G rfl ?loop4 (W6.self _ 0 _ _ _ _ g7 C3 _ _ Z3.hand (Sub.refl _) h06 S18 ?loop4)
          refine compLoop_T (turn_two1 _ _ _ _ _ _ _ _ _ _ _ _) (fun l g' m' news' => PlV D3 c2 D2 L1 I2 I3 oc5 oD o3 o5 ws epw news rows x j cs tj l g' m' news') Z3.hand W6 ?_ ?_ h06 S18 ⟨us, epu, rfl, hul, by simpa using paired_mono (fun _ _ h => h.keeps k7) hus, rfl⟩
          · intro l v o7 g8 m8 news8 fs8 h17 tk17 hl hP7 hob7 hInv7 k8 hu8 S19
            (try k_fold)
            obtain ⟨us7, ep7, rfl, hul7, hus7, hk7⟩ := hInv7
            obtain ⟨p, tp, hp, rfl⟩ := signs_get hrs' (by simpa using hP7)
            refine wpAny_of_eq (a := ()) rfl ?_
            have hl' : l < cs.length := by rw [← hcl]; simpa using hl
            walk_at "go"
            rename_i h18 S20
            refine emit_S ?_
            walk_at "go"
            rename_i g9 pa h19 k9 hpa S21
            refine ⟨g9, C3, _, _, us7, ep7, S21, by rw [sizeLine_eq]; lia, fun h20 S22 => ?_⟩
            have S23 : Mine.St g9 C3 (((((D3, lstO (us7 ++ [Value.ref pa]) (ep7 + 1)) :: ((c2, oc5) :: (D2, lstO ws epw) :: (L1 + 1 + 1, oD) :: (news ++ [(I2, o3)]))) ++ [(I3, o5)]) ++ [(I6, o7)]) ++ fs8) h20 (upd m8 (PySem.Str.ofString "need") (Value.str ⟨#[p]⟩ tp)) := S22
            refine ⟨g9, (upd m8 (PySem.Str.ofString "need") (Value.str ⟨#[p]⟩ tp)), (((D3, lstO (us7 ++ [Value.ref pa]) (ep7 + 1)) :: ((c2, oc5) :: (D2, lstO ws epw) :: (L1 + 1 + 1, oD) :: (news ++ [(I2, o3)]))) ++ [(I3, o5)]), fs8, h20, _, rfl, k9, Up.refl _, S23, us7 ++ [Value.ref pa], ep7 + 1, rfl, by rw [List.length_append, List.length_singleton]; lia, ?_, hk7⟩
            rw [List.take_add_one, hp]
            show Paired _ (_ ++ List.map _ (cs.take l ++ [p])) _
            rw [List.map_append, ← List.append_assoc]
            exact paired_snoc (paired_mono (fun _ _ h => h.keeps k9) hus7) ⟨pa, tp, tj, rfl, hpa⟩
          · intro g8 m8 news8 fs8 h17 tk17 hInv7 k8 hu8 S19
            (try k_fold)
            obtain ⟨us7, ep7, rfl, hul7, hus7, hk7⟩ := hInv7
            rw [List.size_toArray, hcl, List.take_length] at hus7
            rw [List.size_toArray, hcl] at hul7
            (try dsimp only)
            refine ⟨g8, m8, ((D3, lstO us7 ep7) :: ((c2, oc5) :: (D2, lstO ws epw) :: (L1 + 1 + 1, oD) :: (news ++ [(I2, o3)]))), fs8, h17, tk17, rfl, k7.trans k8, hu8, S19, us7, ep7, rfl, by lia, ?_⟩
            rw [htk, needs_snoc, if_pos (by simpa using hcx'), htl]
            exact hus7
        · rename_i h14 S16 hcx
          have hcx' : c ≠ x := fun q => by rw [q] at hcx; simp at hcx
          refine ⟨g6, _, _, fs6, _, _, rfl, Sub.refl _, Up.refl _, S16, us, epu, rfl, by lia, ?_⟩
          rw [htk, needs_snoc, if_neg (by simpa using hcx'), List.append_nil]
          exact hus
      · intro g6 m6 news6 fs6 h13 tk13 hInv3 k6 hu6 S15
        (try k_fold)
        obtain ⟨us, epu, rfl, hul, hus⟩ := hInv3
        rw [List.take_length] at hus
        (try dsimp only)
        refine ⟨g6, ((c2, oc5) :: (D2, lstO ws epw) :: (L1 + 1 + 1, oD) :: (news ++ [(I2, o3)])), fs6, h13, tk13, m6, us, epu, rfl, k6, hu6, S15, fun frs9 h9' hu9 S16 => ?_⟩
        obtain ⟨g7, k7, S17, hD3⟩ := St.settle S16
        have S18 := S17.perm (List.Perm.swap _ _ _)
        refine ⟨g7, C2, _, _, ws, epw, S18, by rw [sizeLine_eq]; have := (List.getElem?_eq_some_iff.mp hx).1; lia, fun h20 S19 => ?_⟩
        have S20 : Mine.St g7 C2 ((((c2, oc5) :: (D2, lstO (ws ++ [Value.ref D3]) (epw + 1)) :: (L1 + 1 + 1, oD) :: news) ++ [(I2, o3)]) ++ frs9) h20 m4 := S19.perm (List.Perm.swap _ _ _)
        have k47 : Sub g4 g7 := (k5.trans k6).trans k7
        refine ⟨g7, m4, ((c2, oc5) :: (D2, lstO (ws ++ [Value.ref D3]) (epw + 1)) :: (L1 + 1 + 1, oD) :: news), frs9, h20, _, rfl, k47, hu9, S20, oc5, ws ++ [Value.ref D3], epw + 1, _, rfl, hoc5, by rw [List.length_append, List.length_singleton, hwl], ?_⟩
        rw [List.take_add_one, hx]
        exact paired_snoc (paired_mono (fun _ _ h => h.keeps k47) hws) ⟨D3, us, epu, rfl, hD3, paired_mono (fun _ _ h => h.keeps k7) hus⟩
    · intro g4 m4 news4 fs4 h8 tk8 hInv k4 hu4 S10
      (try k_fold)
      obtain ⟨oc, ws, epw, v0, hq300_0, hoc, hwl, hws⟩ := hInv
      subst hq300_0
      rw [List.size_toArray, hyl, List.take_length] at hws
      (try dsimp only)
      refine ⟨g4, ((c2, oc) :: (L1 + 1 + 1, oD) :: news), fs4, h8, tk8, m4, ws, epw, rfl, k4, hu4, S10.perm (List.Perm.swap _ _ _), fun frs5 h9 hu5 S11 => ⟨rfl, fun h10 S12 => ?_⟩⟩
      obtain ⟨g5, k5, S13, hD2⟩ := St.settle S12
      replace S13 : Mine.St g5 L1 ((L1 + 1 + 1, oD) :: (news ++ frs5)) h10 (upd m3 (PySem.Str.ofString "needs") (Value.ref D2)) := S13.drop
      have hDl5 := lk hDl (k4.trans k5)
      have hnl5 : g5.IsList D2 ws.toArray := ⟨_, hD2, rfl, _, rfl⟩
      have hws5 := paired_mono (fun _ _ h => NeedAt.keeps h k5) hws
      have B5 := B2.keeps (k4.trans k5)
      have hu35 := hu3.trans hu5
      clear S7 S9 S10 S11 S12
      walk_at "go"
      rename_i Dd h11 S14
      refine st_cell (c := L1 + 1 + 1) (news' := fun o' => (Dd, lstO [] 0) :: (L1 + 1 + 1, o') :: (news ++ frs5)) S14 rfl (fun _ => .tail .head) hdD ?_ rfl rfl
      intro oD' h12 hdD' S15
      (try k_fold)
      clear S13 S14
      walk_at "go"
      rename_i Dt h13 S16 h14 S17 g6 rg h15 tk15 ta tb tc k6 hrg S18
      clear S15 S16 S17
      refine range_iter (n := (namesOf rows).length + 1) S18 (by rw [List.size_toArray, hyl] at hrg; exact hrg) (Sub.refl _) (by lia) ?_
      intro I7 oI7 ob7 h16 W7 h07 S19
      (try k_fold)
      have hDn6 := k6 _ _ (k5 _ _ (k4 _ _ hDn))
      have hD26 := k6 _ _ hD2
      have hws6 := paired_mono (fun _ _ h => NeedAt.keeps h k6) hws5
      have B6 := B5.keeps k6
      have hl2 : ∀ x, (needsOf rows x).length ≤ 200 := fun x => by
        unfold needsOf
        rw [List.length_map]
        have h1 := List.length_filter_le (fun e : Nat × Nat × Nat => e.2.2 == x) (iE 0 rows)
        have h2 : (iE 0 rows).length = (edges rows).length := by rw [← iE_edges rows 0, List.length_map]
        have h3 := edges_len rows fun r hr' => (hr r hr').2
        lia
      have finish : ∀ {gs : List (List Nat)} {Df : List Nat} {gsv : List Value} {g9 : Heap} {frs9 : List (Addr × Obj)} {m9 : PySem.Str → Option Value} {D' : Addr} {h' : Heap} {tk' : Nat}, PlanN rows ((namesOf rows).length + 1) [] gs Df → Paired (fun cs v => GroupAt g9 v cs) gs gsv → Sub g6 g9 → Up frs5 frs9 →
          Mine.St g9 L1 (((D', lstO (.bool (decide (Df.length < (namesOf rows).length)) :: gsv) 0) :: news) ++ frs9) h' m9 → Q (.ref D') { s with heap := h', toks := tk' } := by
        intro gs Df gsv g9 frs9 m9 D' h' tk' hN hg k9 hu9 S9
        (try k_fold)
        obtain ⟨g10, k10, S10, hD'⟩ := St.settle S9
        obtain ⟨frs11, hu11, S11⟩ := leave Lb S10 (hu35.trans hu9)
        exact hret D' gsv 0 gs Df g10 frs11 h' tk' hN (paired_mono (fun _ _ h => h.keeps k10) hg) hD' (k1.trans (k2.trans (k4.trans (k5.trans (k6.trans (k9.trans k10)))))) hu11 S11
      refine forLoop_S (L := L1) (frs := frs5) (news := (Dt, lstO [] 0) :: (Dd, lstO [] 0) :: (L1 + 1 + 1, oD') :: news)
        (fun i g' m' news' => PlM Dt Dd L1 Dn D2 news rows i g' m' news') Z1.hand W7 (fun _ => rfl) ?_ ?_ h07 S19 ⟨[], [], [], [], 0, 0, oD', rfl, .nil, rfl, hdD', .nil, .nil, e1, rfl, rfl⟩
      · intro i v o g7 m7 news7 frs7 h17 tk17 hi hP hInv k7 hu7 S20
        (try k_fold)
        obtain ⟨gs, D, gsv, ds, epd, ept, oD2, hgl, hPP, hq347_2, hoD2, hds, hgsv, f1, f2, f3⟩ := hInv
        subst hq347_2
        obtain ⟨ti, rfl⟩ := hP
        have hdl : D.length ≤ 64 := by
          have := hPP.info.1.length_le_of_subset (l₂ := namesOf rows) hPP.info.2
          lia
        have hgvl : gsv.length = i := by rw [← hgsv.length]; exact hgl
        refine wpAny_assign_Name (st_L S20 (fun h18 S21 => ?_) rfl rfl)
        refine plan_turn (rows := rows) (D := D) (ys := ys) (ws := ws) (Dn := Dn) (D2 := D2) (Dt := Dt) (Dd := Dd) (gsv := gsv) (ds := ds) (oD := oD2) (news := news ++ [(I7, o)]) (k7 _ _ hDn6) hys (k7 _ _ hD26) (paired_mono (fun _ _ h => NeedAt.keeps h k7) hws6) hn64 hl hl2 (B6.keeps k7) S21 ((Z1.up (hu35.trans hu7)).le (by decide)) hoD2 hds hdl (by lia) ?_ ?_ ?_ ?_ ?_
        · exact f1
        · exact f2
        · exact f3
        · intro G g8 frs8 h19 tk19 m8 oD8 gv us8 epd8 hF hG0 k8 hu8 hgv hus8 hoD8 q1 q2 q3 S22
          (try k_fold)
          exact ⟨g8, m8, (Dt, lstO (gsv ++ [gv]) (ept + 1)) :: (Dd, lstO us8 epd8) :: (L1 + 1 + 1, oD8) :: news, frs8, h19, tk19, rfl, k8, hu8, S22, gs ++ [G], D ++ G, gsv ++ [gv], us8, epd8, ept + 1, oD8, by rw [List.length_append, List.length_singleton, hgl], .snoc hPP hF hG0, rfl, hoD8, hus8,
            paired_snoc (paired_mono (fun _ _ h => h.keeps k8) hgsv) hgv, q1, q2, q3⟩
        · intro g8 frs8 h19 tk19 m8 gv hF k8 hu8 hgv q1 q2 q3 S22
          (try k_fold)
          have hN := hPP.stop hF ((namesOf rows).length - i)
          rw [hgl, show i + ((namesOf rows).length - i + 1) = (namesOf rows).length + 1 from left_sum (by assumption)] at hN
          (try dsimp only)
          (try (walk_at "go"))
          (try unfold Turned)
          (try dsimp only)
          refine plan_last (n := (namesOf rows).length) (d := D.length) (gsv := gsv ++ [gv]) (Dn := Dn) (ds := ds) (oD := oD2) (Dd := Dd) (Dt := Dt) (news := news ++ [(I7, o)]) (k8 _ _ (k7 _ _ hDn6)) hyl (by lia) (B6.keeps (k7.trans k8)) S22 hoD2 (by rw [StrsAre.length hds, List.length_map]) (by lia) (by rw [List.length_append, List.length_singleton]; lia) q1 q3 ?_
          intro D' h20 tk20 S23
          (try k_fold)
          exact finish hN (paired_snoc (paired_mono (fun _ _ h => h.keeps k8) hgsv) hgv) (k7.trans k8) (hu7.trans hu8) (S23.subl (.cons₂ _ ((List.sublist_append_left _ _).append (List.Sublist.refl frs8))))
      · intro g7 m7 news7 frs7 h17 tk17 hInv k7 hu7 S20
        (try k_fold)
        obtain ⟨gs, D, gsv, ds, epd, ept, oD2, hgl, hPP, hq376_2, hoD2, hds, hgsv, f1, f2, f3⟩ := hInv
        subst hq376_2
        have hdl : D.length ≤ 64 := by
          have := hPP.info.1.length_le_of_subset (l₂ := namesOf rows) hPP.info.2
          lia
        have hN := hPP.all
        rw [hgl] at hN
        (try dsimp only)
        refine plan_last (n := (namesOf rows).length) (d := D.length) (gsv := gsv) (Dn := Dn) (ds := ds) (oD := oD2) (Dd := Dd) (Dt := Dt) (news := news) (k7 _ _ hDn6) hyl (by lia) (B6.keeps k7) S20 hoD2 (by rw [StrsAre.length hds, List.length_map]) (by lia) (by rw [← hgsv.length]; lia) f1 f3 ?_
        intro D' h20 tk20 S23
        (try k_fold)
        exact finish hN hgsv k7 hu7 S23
  · exact ⟨rfl, [], 0, rfl, .nil, rfl⟩
end
end Mine

end
section
open PySem PySem.W PySem.W.X PyProof.Rows PySem.Calls PySem.Spec PySem.SeqAt
namespace Mine
/-- what a reader tells at a place -/
noncomputable def TellAt (g : Heap) (x : Str) (n k : Nat) (v : Value) : Prop := (∀ y, toldS x k n = .inl y → ∃ t, v = .str y t) ∧ ∀ c, toldS x k n = .inr c → ∃ a tx ty, v = .ref a ∧ g.get? a = some (tupObj [.int (k + n : Nat) tx, .str ⟨#[c]⟩ ty])
theorem snoc_at {α : Type} {l : List α} {x u : α} {j : Nat} (h : (l ++ [x])[j]? = some u) : l[j]? = some u ∨ (j = l.length ∧ u = x) := by
  rcases Nat.lt_or_ge j l.length with q | q
  · rw [List.getElem?_append_left q] at h; exact .inl h
  · rw [List.getElem?_append_right q] at h
    cases e : j - l.length with
    | zero => rw [e] at h; exact .inr ⟨Nat.le_antisymm (Nat.le_of_sub_eq_zero e) q, (Option.some.inj h).symm⟩
    | succ n => rw [e] at h; cases h
theorem TellAt.keeps {g g' : Heap} {x : Str} {n k : Nat} {v : Value} (h : TellAt g x n k v) (hk : Sub g g') : TellAt g' x n k v := by
  refine ⟨h.1, fun c hc => ?_⟩
  obtain ⟨a, tx, ty, h1, h2⟩ := h.2 c hc
  exact ⟨a, tx, ty, h1, hk _ _ h2⟩
theorem TellAt.told {g : Heap} {x : Str} {n k : Nat} {v : Value} (h : TellAt g x n k v) : ToldAt g v (toldS x k n) := by
  cases q : toldS x k n with
  | inl y => exact h.1 y q
  | inr c => obtain ⟨a, tx, ty, h1, h2⟩ := h.2 c q; exact ⟨a, _, tx, ty, h1, h2⟩
section
variable {prog : Program} {w : World} {A : Around} {E : Value → Shared → Prop} {s : Shared} {a b : Addr} {vs ws : List Value}
theorem eqTup_at (ha : s.heap.get? a = some (tupObj vs)) (hb : s.heap.get? b = some (tupObj ws)) (hlen : vs.length = ws.length) (hu : A.units < cLine)
    (he : ∀ (j : Nat) v u, vs[j]? = some v → ws[j]? = some u → EqAt A.in1 s v u true) : EqAt A s (.ref a) (.ref b) true := by
  by_cases hab : a = b
  · rw [hab]; exact EqAt.same _
  · have := RcAt.tuples (s := s) (e := fun _ => true) (items := vs.toArray) (items2 := ws.toArray) ⟨_, ha, rfl, _, rfl⟩ ⟨_, hb, rfl, _, rfl⟩ hu fun j h1 h2 => he j _ _ (by simp [show j < vs.length by simpa using h1]) (by simp [show j < ws.length by simpa using h2])
    refine EqAt.of_refs hab ?_
    have e : ((List.range (min vs.toArray.size ws.toArray.size)).all (fun _ => true) && vs.toArray.size == ws.toArray.size) = true := by simp [hlen]
    rwa [e] at this
theorem neLists_S {Q : Value → Shared → Prop} (ha : s.heap.IsList a vs.toArray) (hb : s.heap.IsList b ws.toArray) (hlen : vs.length = ws.length) (hu : A.units < cLine)
    (he : ∀ (j : Nat) v u, vs[j]? = some v → ws[j]? = some u → EqAt A.in1 s v u true) (h : Q (.bool false) s) : wpAny (model prog w) A (compareOp .NotEq (.ref a) (.ref b)) Q E s := by
  show wpAny (model prog w) A (richCompare .NotEq (.ref a) (.ref b)) Q E s
  refine RcNeAt.lists (e := fun _ => true) ha hb (by simp [hlen]) hu (fun j h1 h2 => he j _ _ (by simp [show j < vs.length by simpa using h1]) (by simp [show j < ws.length by simpa using h2])) prog w E Q ?_
  have e : (!(List.range vs.toArray.size).all fun _ => true) = false := by simp
  rw [e]; exact h
theorem eqLists_S {Q : Value → Shared → Prop} (ha : s.heap.IsList a vs.toArray) (hb : s.heap.IsList b ws.toArray) (hlen : vs.length = ws.length) (hu : A.units < cLine)
    (he : ∀ (j : Nat) v u, vs[j]? = some v → ws[j]? = some u → EqAt A.in1 s v u true) (h : Q (.bool true) s) : wpAny (model prog w) A (compareOp .Eq (.ref a) (.ref b)) Q E s := by
  refine eq_listAt (e := fun _ => true) ha hb (by simp [hlen]) hu (fun j h1 h2 => he j _ _ (by simp [show j < vs.length by simpa using h1]) (by simp [show j < ws.length by simpa using h2])) ?_
  have e : ((List.range vs.toArray.size).all fun _ => true) = true := by simp
  rw [e]; exact h
theorem eqStr_at {x : Str} {t u : Tok} : EqAt A s (.str x t) (.str x u) true := by
  have := EqAt.str_str (A := A) (s := s) x t x u
  rwa [beq_self_eq_true] at this
theorem eqInt_at {x : Int} {t u : Tok} : EqAt A s (.int x t) (.int x u) true := by
  have := EqAt.int_int (A := A) (s := s) x t x u
  rwa [beq_self_eq_true] at this
theorem eqBool_at {x : Bool} : EqAt A s (.bool x) (.bool x) true := EqAt.same _
theorem tell_eq {g : Heap} {x : Str} {n k : Nat} {v u : Value} (hk : ∀ b o, g.get? b = some o → s.heap.get? b = some o) (hv : TellAt g x n k v) (hu' : TellAt g x n k u) (hu : A.units < cLine) : EqAt A s v u true := by
  cases q : toldS x k n with
  | inl y =>
    obtain ⟨t, rfl⟩ := hv.1 y q
    obtain ⟨t', rfl⟩ := hu'.1 y q
    exact eqStr_at
  | inr c =>
    obtain ⟨a, tx, ty, rfl, ha⟩ := hv.2 c q
    obtain ⟨b, sx, sy, rfl, hb⟩ := hu'.2 c q
    refine eqTup_at (hk _ _ ha) (hk _ _ hb) rfl hu fun j v u h1 h2 => ?_
    match j with
    | 0 => cases h1; cases h2; exact eqInt_at
    | 1 => cases h1; cases h2; exact eqStr_at
    | j + 2 => simp at h1
theorem signs_eq {ys zs : List Value} {cs : List Nat} (hy : SignsAt ys cs) (hz : SignsAt zs cs) : ∀ (j : Nat) v u, ys[j]? = some v → zs[j]? = some u → EqAt A s v u true := fun j v u h1 h2 => by
  obtain ⟨c, t, e1, rfl⟩ := signs_get hy h1
  obtain ⟨d, t', e2, rfl⟩ := signs_get hz h2
  rw [e1] at e2; cases e2
  exact eqStr_at
theorem signs_len {ys : List Value} {cs : List Nat} (hy : SignsAt ys cs) : ys.length = cs.length := by rw [StrsAre.length hy, List.length_map]
theorem group_eq {g : Heap} {cs : List Nat} {v u : Value} (hk : ∀ b o, g.get? b = some o → s.heap.get? b = some o) (hv : GroupAt g v cs) (hw : GroupAt g u cs) (hu : A.units + 1 < cLine) : EqAt A s v u true := by
  obtain ⟨a, t, ys, rfl, ha, ht, hys⟩ := hv
  obtain ⟨b, t', zs, rfl, hb, ht', hzs⟩ := hw
  refine eqTup_at (hk _ _ ha) (hk _ _ hb) rfl (Nat.lt_of_succ_lt hu) fun j v u h1 h2 => ?_
  match j with
  | 0 => cases h1; cases h2; exact eqBool_at
  | 1 =>
    cases h1; cases h2
    exact eqTup_at (hk _ _ ht) (hk _ _ ht') ((signs_len hys).trans (signs_len hzs).symm) hu (signs_eq hys hzs)
  | 2 => cases h1; cases h2; exact eqBool_at
  | j + 3 => simp at h1
end
end Mine
namespace Mine
theorem paired_of_idx {α β : Type} {F : α → β → Prop} : ∀ {l₁ : List α} {l₂ : List β}, l₁.length = l₂.length → (∀ (j : Nat) a b, l₁[j]? = some a → l₂[j]? = some b → F a b) → Paired F l₁ l₂ := by
  intro l₁
  induction l₁ with
  | nil => intro l₂ h _; cases l₂ with
    | nil => exact .nil
    | cons b l₂ => cases h
  | cons a l₁ ih => intro l₂ h hf; cases l₂ with
    | nil => cases h
    | cons b l₂ => exact .cons (hf 0 a b rfl rfl) (ih (Nat.succ.inj h) fun j a b h1 h2 => hf (j + 1) a b h1 h2)
end Mine
namespace Mine
theorem isl_of {h : PySem.Heap} {D : PySem.Addr} {vs : List PySem.Value} {ep : Nat} (e : h.get? D = some (lstO vs ep)) : h.IsList D vs.toArray := ⟨_, e, rfl, _, rfl⟩
end Mine

end
section
set_option maxHeartbeats 1000000
open PySem PySem.W PySem.W.X PyProof.Rows PySem.Calls PySem.Spec
namespace Mine
/-- behind one turn, whatever the state is in its other parts -/
inductive AfterU (C I : Addr) (o : Obj) (g : Heap) (fs : List (Addr × Obj)) (Inv : Heap → (Str → Option Value) → List (Addr × Obj) → Shared → Prop) (s' : Shared) : Prop
  | mk (g' : Heap) (m' : Str → Option Value) (news' : List (Addr × Obj)) (fs' : List (Addr × Obj))
      (_ : Sub g g') (_ : Up fs fs') (_ : St g' C ((news' ++ [(I, o)]) ++ fs') s'.heap m') (_ : Inv g' m' news' s') : AfterU C I o g fs Inv s'
/-- a comprehension that has come to its end -/
inductive CompEndU (g : Heap) (L C D : Addr) (oL : Obj) (m : Str → Option Value) (frs : List (Addr × Obj)) (K : Heap → List (Addr × Obj) → Shared → Prop) (s' : Shared) : Prop
  | mk (g' : Heap) (news' : List (Addr × Obj)) (fs' : List (Addr × Obj)) (m' : Str → Option Value) (ys : List Value) (ep : Nat)
      (_ : Sub g g') (_ : Up ((L, oL) :: frs) fs') (_ : St g' C (((D, lstO ys ep) :: news') ++ fs') s'.heap m') (_ : ∀ frs₁ h'', Up frs frs₁ → St g' L (((D, lstO ys ep) :: news') ++ frs₁) h'' m → K g' (((D, lstO ys ep) :: news') ++ frs₁) { s' with heap := h'' }) : CompEndU g L C D oL m frs K s'
/-- what a comprehension needs once its iterator stands -/
inductive CompGoU (prog : Program) (w : World) (A : Around) (env : Env) (elt : Expr) (gens : List Comprehension) (scope : Scope) (pos : Pos) (cl : List (Str × Addr)) (K : Heap → Addr → (Str → Option Value) → List (Addr × Obj) → Addr → Shared → Prop) (it : Value) (s : Shared) : Prop
  | mk (I : Addr) (g : Heap) (L : Addr) (m : Str → Option Value) (news : List (Addr × Obj)) (frs : List (Addr × Obj)) (k : Nat) (o : Obj)
      (_ : it = .ref I) (_ : Ar A L frs k) (_ : St g L ((I, o) :: (news ++ frs)) s.heap m) (_ : ∀ C D oL h₁, Bears oL m → Ar A C ((L, oL) :: frs) k → St g C ((I, o) :: (((D, lstO [] 0) :: news) ++ (L, oL) :: frs)) h₁ (fun _ => none) → codeAny (model prog w) A (.compStart (.ListComp elt gens scope pos) 0 (.ref I) (.ref D) (compEnvC scope cl C env)) (fun r s' => match r with | .ok _ => CompEndU g L C D oL m frs (fun g' led s' => K g' L m led D s') s' | .error _ => False) { s with heap := h₁ }) : CompGoU prog w A env elt gens scope pos cl K it s
section
variable {prog : Program} {w : World} {A : Around} {E : Value → Shared → Prop} {s : Shared} {env : Env}
theorem comp_blockU {elt : Expr} {gens : List Comprehension} {scope : Scope} {pos : Pos} {cl : List (Str × Addr)} {RR : Value → Addr → Result → Shared → Prop} {K : Heap → Addr → (Str → Option Value) → List (Addr × Obj) → Addr → Shared → Prop} {it : Value} (hl : LaysCells scope cl none)
    (h : CompGoU prog w A env elt gens scope pos cl K it s)
    (hRR : ∀ g' L m D C oC mC led f s', Bears oC mC → St g' L ((C, oC) :: led) s'.heap m → (∀ h'', St g' L led h'' m → K g' L m led D { s' with heap := h'' }) → RR (.ref D) C (.ok f) s') :
    wpAny (model prog w) A (newList []) (fun acc s₃ => wpAny (model prog w) A (newFunctionEnv scope env.globals cl [] env.qual none .none (some env)) (fun cenv s₄ =>
      codeAny (model prog w) A (.compStart (.ListComp elt gens scope pos) 0 it acc { cenv with scope := relabel scope env }) (RR acc cenv.locals) s₄) E s₃) E s := by
  obtain ⟨I, g, L, m, news, frs, k, o, rfl, Z, S, go⟩ := h
  refine wpAny_newObj_type (newEnv_G (one := none) hl ?_)
  dsimp only
  have S1 := S.push { cls := .type "list", dict := none, data := .seq ([] : List Value).toArray } rfl
  generalize hD : s.heap.objs.size = D at S1 ⊢
  generalize hH2 : s.heap.push { cls := .type "list", dict := none, data := .seq ([] : List Value).toArray } = H2 at S1 ⊢
  have S2 := S1.push { cls := .type "dict", data := .dict #[] } rfl
  generalize hC : H2.objs.size = C at S2 ⊢
  have S4 : St g L ((C, { cls := .type "dict", data := .dict #[] }) :: ((D, lstO [] 0) :: (I, o) :: (news ++ frs))) (H2.push { cls := .type "dict", data := .dict #[] }) m := S2
  obtain ⟨oL, hbL, S5⟩ := S4.swap (mC := fun _ => none) bears0
  have S6 : St g C ((I, o) :: (((D, lstO [] 0) :: news) ++ (L, oL) :: frs)) (H2.push { cls := .type "dict", data := .dict #[] }) (fun _ => none) := S5.perm (by
    have h1 : ((L, oL) :: (D, lstO [] 0) :: (I, o) :: (news ++ frs)).Perm ((I, o) :: (L, oL) :: (D, lstO [] 0) :: (news ++ frs)) :=
      ((List.Perm.swap _ _ _).cons _).trans (List.Perm.swap _ _ _)
    exact h1.trans (List.Perm.cons _ (List.perm_middle (l₁ := (D, lstO [] 0) :: news)).symm))
  have ZC : Ar A C ((L, oL) :: frs) k := by
    obtain ⟨l, hl1, hl2⟩ := Z.frames
    refine ⟨Z.hand, Z.room, Z.units, fun p hp => ?_, l, hl1, hl2.push hbL⟩
    rcases List.mem_cons.mp hp with rfl | hp
    · exact ⟨m, hbL⟩
    · exact Z.bear p hp
  refine codeAny_mono (go C D oL _ hbL ZC S6) fun r s' hr => ?_
  cases r with
  | error _ => exact hr.elim
  | ok f =>
    obtain ⟨g', news', fs', m', ys, ep, hk, hu, hS, hK⟩ := hr
    obtain ⟨oC, esC, epC, hCo, hbC⟩ := hS.ns
    obtain ⟨frs₁, hu₁, S7, hsub, hLin⟩ := leaveIn hbL hS hu
    refine hRR g' L m D C oC m' _ f _ ⟨esC, epC, hbC⟩ (S7.held hCo hS.off (fun q => ?_) fun p hp => ?_) fun h'' S8 => hK frs₁ h'' hu₁ S8
    · obtain ⟨o', hm⟩ := hLin
      exact hS.nL _ (List.mem_append_right _ hm) q.symm
    · refine hS.nL p ?_
      rcases List.mem_append.mp hp with h1 | h1
      · exact List.mem_append_left _ h1
      · exact List.mem_append_right _ (hsub p h1)
theorem ListComp_U {elt target iter : Expr} {ifs : List Expr} {rest : List Comprehension} {scope : Scope} {cl : List (Str × Addr)} {pos : Pos} {Q : Value → Shared → Prop}
    (hclos : closureFor scope env = pure cl) (hl : LaysCells scope cl none) (hkind : scope.kind = .function) (hnames : ∀ y ∈ scope.names, y.2 = .local → scope.names.lookup y.1 = some .local)
    (h : wpAny (model prog w) A (eval iter env) (fun xv s₁ => wpAny (model prog w) A (pyIter xv) (CompGoU prog w A env elt (⟨target, iter, ifs, 0⟩ :: rest) scope pos cl (fun _ _ _ _ D s' => Q (.ref D) s')) E s₁) E s)
    (hs : ∀ x, foldedSetIterable iter env x = pure x := by intro _; rfl) :
    wpAny (model prog w) A (eval (.ListComp elt (⟨target, iter, ifs, 0⟩ :: rest) scope pos) env) Q E s := by
  rw [eval_ListComp]
  refine wpAny_comprehension_free (use := none) rfl hs hclos hkind hnames (wpAny_mono h (fun xv s₁ h₁ => wpAny_mono h₁ (fun it s₂ h₂ => ?_) fun _ _ e => e) fun _ _ e => e)
  refine comp_blockU hl h₂ fun g' L m D C oC mC led f s' hb S' fin => ?_
  exact ⟨mC, hb.ns (S'.nw _ (.head _)), fun h' hs' => fin h' (S'.dropBut fun b x hb e => (hs'.2 b (fun q => hb (List.mem_singleton.mpr q))).trans e)⟩
theorem Assign_ListComp_U {elt target iter : Expr} {ifs : List Expr} {rest : List Comprehension} {y : Str} {py : Pos} {scope : Scope} {cl : List (Str × Addr)} {pos spos : Pos} {Q : Flow → Shared → Prop}
    (hsw : swapsWith (.ListComp elt (⟨target, iter, ifs, 0⟩ :: rest) scope pos) (some (.Name y py)) spos.line env = pure true)
    (hclos : closureFor scope env = pure cl) (hl : LaysCells scope cl none) (hkind : scope.kind = .function) (hnames : ∀ y ∈ scope.names, y.2 = .local → scope.names.lookup y.1 = some .local)
    (hy : env.kindOf y = some .local) (hp : (env.scope.kind == .class || (env.scope.kind == .module && env.locals != env.globals)) = false)
    (h : wpAny (model prog w) A (eval iter env) (fun xv s₁ => wpAny (model prog w) A (pyIter xv) (CompGoU prog w A env elt (⟨target, iter, ifs, 0⟩ :: rest) scope pos cl (fun g L m ledger D s' => env.locals = L ∧ ∀ h', St g L ledger h' (upd m y (.ref D)) → Q .next { s' with heap := h', toks := s'.toks + 1 })) E s₁) E s)
    (hs : ∀ x, foldedSetIterable iter env x = pure x := by intro _; rfl) :
    wpAny (model prog w) A (exec (.Assign [.Name y py] (.ListComp elt (⟨target, iter, ifs, 0⟩ :: rest) scope pos) spos) env) Q E s := by
  rw [exec_Assign_Name_used _ _ _ _ hsw]
  refine wpAny_bind (wpAny_standAt (wpAny_bind ?_))
  show wpAny _ A (do let _ ← comprehension (.ListComp elt (⟨target, iter, ifs, 0⟩ :: rest) scope pos) scope env _ (newList []) false (eval iter env) (some (assign (.Name y py) env))) _ _ s
  refine wpAny_bind (wpAny_mono (wpAny_comprehension_free (use := some (assign (.Name y py) env)) (Q := fun _ s' => Q .next s') rfl hs hclos hkind hnames
    (wpAny_mono h (fun xv s₁ h₁ => wpAny_mono h₁ (fun it s₂ h₂ => ?_) fun _ _ e => e) fun _ _ e => e)) (fun _ s' hq => wpAny_pure (wpAny_pure hq)) fun _ _ e => e)
  refine comp_blockU hl h₂ fun g' L m D C oC mC led f s' hb S' fin => ?_
  obtain ⟨rfl, fin⟩ := fin s'.heap S'.drop
  refine wpAny_assign_Name (wpAny_storeName_local hy S'.ns (fun h₃ hn₃ hs₃ => ?_) hp)
  have S4 := S'.setL hn₃ hs₃
  refine ⟨mC, hb.ns (S4.nw _ (.head _)), fun h' hs' => fin h' (S4.dropBut fun b x hb e => (hs'.2 b (fun q => hb (List.mem_singleton.mpr q))).trans e)⟩
end
section
variable {prog : Program} {w : World} {A : Around} {s : Shared} {R : Result → Shared → Prop} {g : Heap} {C I : Addr} {cenv : Env} {fs : List (Addr × Obj)} {n : Nat} {P : Nat → Value → Prop} {ob : Nat → Obj → Prop}
inductive LoopU (n : Nat) (ob : Nat → Obj → Prop) (Inv : Nat → Heap → (Str → Option Value) → List (Addr × Obj) → Shared → Prop) (g : Heap) (fs : List (Addr × Obj)) (C I : Addr) (k : Nat) (s' : Shared) : Prop
  | mk (i : Nat) (o : Obj) (g' : Heap) (m' : Str → Option Value) (news' fs' : List (Addr × Obj)) (_ : i ≤ n) (_ : k = n + 1 - i) (_ : ob i o) (_ : Inv i g' m' news' s') (_ : Sub g g') (_ : Up fs fs') (_ : St g' C ((I, o) :: (news' ++ fs')) s'.heap m') : LoopU n ob Inv g fs C I k s'
theorem compLoop_U {elt target : Expr} {gens : List Comprehension} {scope : Scope} {pos : Pos} {ifs : List Expr} {d : Nat} {p : Pos} {acc : Value} {BODY : Sem Unit} (hturn : compTurn (.ListComp elt gens scope pos) d (.ref I) acc cenv = turnOf (.ListComp elt gens scope pos) d target ifs p (.ref I) acc cenv BODY)
    (Inv : Nat → Heap → (Str → Option Value) → List (Addr × Obj) → Shared → Prop) (hA : A.handled = none) (W : It prog w I g n P ob) (hst : ∀ i g m news s h tk, Inv i g m news s → Inv i g m news { s with heap := h, toks := tk })
    (step : ∀ i v o g' m' news' fs' s', i < n → P i v → ob (i + 1) o → Inv i g' m' news' s' → Sub g g' → Up fs fs' → St g' C ((news' ++ [(I, o)]) ++ fs') s'.heap m' →
      wpAny (model prog w) A (letOwnedTupleGo target (.ref I) v) (fun _ s₁ => wpAny (model prog w) A (assign target cenv v) (fun _ s₂ => wpAny (model prog w) A (forIn ifs true fun c r => if r = true then do let ok ← isTrue c cenv (eval c cenv); pure (ForInStep.yield ok) else pure (ForInStep.yield r)) (fun ok s₃ =>
        if ok = true then wpAny (model prog w) A BODY (fun _ s₄ => AfterU C I o g' fs' (Inv (i + 1)) s₄) (fun _ _ => False) s₃ else AfterU C I o g' fs' (Inv (i + 1)) s₃) (fun _ _ => False) s₂) (fun _ _ => False) s₁) (fun _ _ => False) s')
    (fin : ∀ g' m' news' fs' s', Inv n g' m' news' s' → Sub g g' → Up fs fs' → St g' C (news' ++ fs') s'.heap m' → R (.ok .next) s')
    {news : List (Addr × Obj)} {o : Obj} {m : Str → Option Value} (h0 : ob 0 o) (hS : St g C ((I, o) :: (news ++ fs)) s.heap m) (hI : Inv 0 g m news s) :
    codeAny (model prog w) A (.compLoop (.ListComp elt gens scope pos) d (.ref I) acc cenv) R s := by
  refine compLoop_B hturn (LoopU n ob Inv g fs C I) ?_ (n + 1)
    ⟨0, o, g, m, news, fs, Nat.zero_le _, rfl, h0, hI, Sub.refl _, Up.refl _, hS⟩
  rintro k s' ⟨i, o, g', m', news', fs', hi, rfl, hob, hInv, hk, hu, S⟩
  have after : ∀ {o' : Obj} (s₄ : Shared), i < n → ob (i + 1) o' → AfterU C I o' g' fs' (Inv (i + 1)) s₄ → ∃ m, m < n + 1 - i ∧ LoopU n ob Inv g fs C I m s₄ := by
    rintro o' s₄ hlt hob' ⟨g₄, m₄, news₄, fs₄, k₄, u₄, S₄, I₄⟩
    exact ⟨n + 1 - (i + 1), turn_lt (by assumption), i + 1, o', g₄, m₄, news₄, fs₄, hlt, rfl, hob', I₄, hk.trans k₄, hu.trans u₄, S₄.perm (perm1 _ _ _)⟩
  by_cases hlt : i < n
  · refine W.item A i o _ _ _ g' C _ m' hA hlt hk hob S fun v o' h₂ tk₂ hP hob' S2 => ?_
    refine wpAny_mono (step i v o' g' m' news' fs' _ hlt hP hob' (hst _ _ _ _ _ h₂ tk₂ hInv) hk hu (S2.perm (perm1 _ _ _).symm)) (fun _ s₁ h₁ => wpAny_mono h₁ (fun _ s₂ h₂ => wpAny_mono h₂ (fun ok s₃ h₃ => ?_) fun _ _ x => x.elim) fun _ _ x => x.elim) fun _ _ x => x.elim
    cases ok with
    | false => exact after s₃ hlt hob' h₃
    | true =>
      refine wpAny_mono h₃ (fun _ s₄ h₄ => after s₄ hlt hob' h₄) fun _ _ x => x.elim
  · obtain rfl : i = n := Nat.le_antisymm hi (Nat.not_lt.mp hlt)
    refine W.done A o _ _ _ g' C _ m' hA hk hob S fun h₂ tk₂ S2 => ?_
    exact fin g' m' news' fs' _ (hst _ _ _ _ _ h₂ tk₂ hInv) hk hu S2
end
/-- a tuple of three values -/
inductive TripV (g : Heap) (v v1 v2 v3 : Value) : Prop
  | mk (a : Addr)
      (_ : v = .ref a) (_ : g.get? a = some (tupObj [v1, v2, v3])) : TripV g v v1 v2 v3
/-- behind one turn of a comprehension over triples -/
inductive StepU (C D I : Addr) (o : Obj) (us : List Value) (ep : Nat) (g' : Heap) (fs' : List (Addr × Obj)) (Inv : Heap → List (Addr × Obj) → Shared → Prop) (s₄ : Shared) : Prop
  | mk (g'' : Heap) (news'' fs'' : List (Addr × Obj)) (m'' : Str → Option Value) (_ : Sub g' g'') (_ : Up fs' fs'') (_ : St g'' C ((news'' ++ [(D, lstO us ep), (I, o)]) ++ fs'') s₄.heap m'') (_ : Inv g'' news'' s₄) : StepU C D I o us ep g' fs' Inv s₄
section
variable {prog : Program} {w : World} {A : Around} {E : Value → Shared → Prop} {s : Shared} {g : Heap} {L l : Addr} {m : Str → Option Value} {news frs : List (Addr × Obj)} {env : Env}
/-- a comprehension over a list of triples, whose target takes each apart -/
theorem triples_goU {elt iter : Expr} {x y z : Str} {px py pz pt pos : Pos} {k0} {scope : Scope} {cl : List (Str × Addr)} {K : Heap → Addr → (Str → Option Value) → List (Addr × Obj) → Addr → Shared → Prop} {vs : List Value} {k : Nat}
    (S : St g L (news ++ frs) s.heap m) (Z : Ar A L frs k) (hL : g.IsList l vs.toArray) (hz : vs.length ≤ 1000) (hv : ∀ v ∈ vs, ∃ v1 v2 v3, TripV g v v1 v2 v3)
    (hx : scope.names.lookup x = some .local) (hy : scope.names.lookup y = some .local) (hz' : scope.names.lookup z = some .local) (hxy : x ≠ y) (hxz : x ≠ z) (hyz : y ≠ z) (hk : scope.kind = .function)
    (Inv : Nat → List Value → Heap → List (Addr × Obj) → Shared → Prop) (h0 : ∀ h tk, Inv 0 [] g news { s with heap := h, toks := tk }) (hst : ∀ i us g news s h tk, Inv i us g news s → Inv i us g news { s with heap := h, toks := tk })
    (step : ∀ i v v1 v2 v3 us ep C D I o g' news' fs' s' m', vs[i]? = some v → TripV g v v1 v2 v3 → Inv i us g' news' s' → Sub g g' → us.length ≤ i → Ar A C fs' k → St g' C ((news' ++ [(D, lstO us ep), (I, o)]) ++ fs') s'.heap m' → m' x = some v1 → m' y = some v2 → m' z = some v3 →
      wpAny (model prog w) A (eval elt (compEnvC scope cl C env)) (fun u s₄ => StepU C D I o us ep g' fs' (Inv (i + 1) (us ++ [u])) s₄) (fun _ _ => False) s')
    (fin : ∀ D us ep g' news' frs' s', Inv vs.length us g' news' s' → us.length ≤ vs.length → Sub g g' → Up frs frs' → (∀ h'', St g' L (((D, lstO us ep) :: news') ++ frs') h'' m → K g' L m (((D, lstO us ep) :: news') ++ frs') D { s' with heap := h'' })) :
    wpAny (model prog w) A (pyIter (.ref l)) (CompGoU prog w A env elt [⟨.Tuple [.Name x px, .Name y py, .Name z pz] k0 pt, iter, [], 0⟩] scope pos cl K) E s := by
  refine iter_listO S hL (Sub.refl _) ?_
  intro I oI ob h1 W hit h0' S1
  refine ⟨I, g, L, m, news, frs, k, oI, rfl, Z, S1, ?_⟩
  intro C D oL h2 hb Z2 S2
  replace S2 : St g C ((I, oI) :: (((D, lstO [] 0) :: news) ++ (L, oL) :: frs)) h2 (fun _ => none) := S2
  refine' compStart_G rfl ?loop (W.self _ 0 _ _ _ _ g C _ _ Z2.hand (Sub.refl _) h0' S2 ?loop)
  refine compLoop_U (s := { s with heap := h2 }) (turn_last _ _ _ _ _ _ _ _ _) (fun i g' m' news' s' => ∃ us ep news0, news' = (D, lstO us ep) :: news0 ∧ us.length ≤ i ∧ Inv i us g' news0 s') Z2.hand W (fun i g m news s h tk ⟨us, ep, news0, h1, h2, h3⟩ => ⟨us, ep, news0, h1, h2, hst _ _ _ _ _ _ _ h3⟩) ?_ ?_ h0' S2 ⟨[], 0, news, rfl, Nat.le_refl _, h0 h2 s.toks⟩
  · intro i v o g' m' news' fs' s' hi hP hob hInv k' hu' S3
    obtain ⟨us, epu, news0, rfl, hul, hI⟩ := hInv
    have hvi : vs[i]? = some v := by simpa using hP
    have hi' : i < vs.length := (List.getElem?_eq_some_iff.mp hvi).1
    obtain ⟨v1, v2, v3, a, rfl, ha⟩ := hv v (List.mem_of_getElem? hvi)
    refine owned_S S3 (List.mem_append_left _ (List.mem_append_right _ (.head _))) k' hob hit ?_
    refine unpack_S S3 Z2.hand ha k' rfl rfl fun h3 S4 => ?_
    refine assignInOrder_cons (wpAny_assign_Name (stC_L hx S4 (fun h4 S5 => ?_) hk))
    refine assignInOrder_cons (wpAny_assign_Name (stC_L hy S5 (fun h5 S6 => ?_) hk))
    refine assignInOrder_cons (wpAny_assign_Name (stC_L hz' S6 (fun h6 S7 => ?_) hk))
    refine assignInOrder_nil ?_
    refine tests0 ?_
    simp only [if_true]
    have pm : ∀ (n0 : List (Addr × Obj)) (f : List (Addr × Obj)), ((((D, lstO us epu) :: n0) ++ [(I, o)]) ++ f).Perm ((n0 ++ [(D, lstO us epu), (I, o)]) ++ f) := fun n0 f => by
      have : (n0 ++ [(D, lstO us epu), (I, o)]) ++ f = n0 ++ (D, lstO us epu) :: ((I, o) :: f) := by simp
      rw [this]
      have e2 : (((D, lstO us epu) :: n0) ++ [(I, o)]) ++ f = (D, lstO us epu) :: (n0 ++ (I, o) :: f) := by simp
      rw [e2]
      exact List.perm_middle.symm
    generalize hmm : upd (upd (upd m' x v1) y v2) z v3 = mm at S7
    have mx : mm x = some v1 := by
      rw [← hmm]
      show (if x = z then _ else if x = y then _ else if x = x then _ else _) = _
      rw [if_neg hxz, if_neg hxy, if_pos rfl]
    have my : mm y = some v2 := by
      rw [← hmm]
      show (if y = z then _ else if y = y then _ else _) = _
      rw [if_neg hyz, if_pos rfl]
    have mz : mm z = some v3 := by rw [← hmm]; exact if_pos rfl
    refine emit_S (wpAny_mono (step i _ v1 v2 v3 us epu C D I o g' news0 fs' _ mm hvi ⟨a, rfl, ha⟩ (hst _ _ _ _ _ _ _ hI) k' hul (Z2.up hu') (S7.perm (pm _ _)) mx my mz) (fun u s₄ h₄ => ?_) fun _ _ x => x)
    obtain ⟨g'', news'', fs'', m'', k'', u'', S'', I''⟩ := h₄
    refine ⟨g'', C, m'', (news'' ++ [(I, o)]) ++ fs'', us, epu, S''.perm (pm _ _).symm, by rw [sizeLine_eq]; lia, fun h7 S8 => ?_⟩
    exact ⟨g'', m'', (D, lstO (us ++ [u]) (epu + 1)) :: news'', fs'', k'', u'', S8, us ++ [u], epu + 1, news'', rfl, by rw [List.length_append, List.length_singleton]; lia, hst _ _ _ _ _ h7 s₄.toks I''⟩
  · intro g' m' news' fs' s' hInv k' hu' S3
    obtain ⟨us, epu, news0, rfl, hul, hI⟩ := hInv
    rw [List.size_toArray] at hul hI
    exact ⟨g', news0, fs', m', us, epu, k', hu', S3, fun frs₁ h'' hu1 S4 => fin D us epu g' news0 frs₁ s' hI hul k' hu1 h'' S4⟩
end
end Mine
end
local macro_rules | `(tactic| walk_at "eval ListComp") => return sw (Lean.Unhygienic.run `(PySem.eval (.ListComp _ [⟨.Tuple [_, _, _] _ _, _, _, _⟩] _ _) _)) (rk ``ListComp_U "UcUD?V" "")
local macro_rules | `(tactic| walk_at "exec Assign cons ListComp") => return sw (Lean.Unhygienic.run `(PySem.exec (.Assign _ (.ListComp _ [⟨.Tuple [_, _, _] _ _, _, _, _⟩] _ _) _) _)) (rk ``Assign_ListComp_U "UUcUDRR?V" "")
section
set_option maxHeartbeats 2000000
open PySem PySem.W PySem.W.X PyProof.Rows PySem.Calls PySem.Spec PySem.Builtin PySem.Builtin.Str
namespace Mine
section
variable {w : World} {mg mb : PySem.Str → Option Value} {A : Around} {g : Heap} {L : Addr} {m : PySem.Str → Option Value} {news frs : List (Addr × Obj)} {s : Shared} {tk t2 t3 : Tok}
    {Q E : Value → Shared → Prop}
theorem text_sum : ∀ cs : List Nat, ((cs.map textS).map (·.length)).sum ≤ 10 * cs.length
  | [] => Nat.le_refl _
  | c :: cs => by
    have h1 := text_sum cs
    have h2 := textS_len c
    rw [List.map_cons, List.map_cons, List.sum_cons, List.length_cons]
    lia
noncomputable def wordS (cs : List Nat) : PySem.Str := Txt.join (PySem.Str.ofString " ") (cs.map textS)
inductive SzA (qs : Array Value) (news : List (Addr × Obj)) (x : PySem.Str) (n : Nat) (i : Nat) (ys : List Value) (g' : Heap) (news' : List (Addr × Obj)) : Prop
  | mk  (ps' : Array Value) (_ : news' = (64, tabObj ps') :: (203, tabObj qs) :: news) (_ : TabS g' coordPos coordQual ps') (_ : ys.length = i) (_ : ∀ (j : Nat) v, ys[j]? = some v → TellAt g' x n j v) : SzA qs news x n i ys g' news'
inductive SzB (ps4 : Array Value) (news : List (Addr × Obj)) (s : Shared) (gs : List (List Nat)) (i : Nat) (us' : List Value) (g' : Heap) (news' : List (Addr × Obj)) (s' : Shared) : Prop
  | mk  (qs' : Array Value) (_ : news' = (64, tabObj ps4) :: (203, tabObj qs') :: news) (_ : TabS g' joinPos joinQual qs') (_ : AllBare s'.gens) (_ : s'.os = s.os) (_ : StrsAre us' ((gs.take i).map wordS)) : SzB ps4 news s gs i us' g' news' s'
theorem c_size {x : PySem.Str} {n : Nat} {ps qs : Array Value} (h7 : ∀ c ∈ x.cps.toList, c < 128) (hx : x.length ≤ 20) (hn : n ≤ 600) (hn0 : 0 < n) (HX : HexSet prg w g) (hbare : AllBare s.gens) (B : Bs w mg mb g)
  (S : Mine.St g L (((64, tabObj ps) :: (203, tabObj qs) :: news) ++ frs) s.heap m) (Z : Ar A L frs 10) (T : TabS g coordPos coordQual ps) (Tb : TabS g joinPos joinQual qs)
  (hret : ∀ g' frs' s' ps' qs', Sub g g' → Up frs frs' → TabS g' coordPos coordQual ps' → TabS g' joinPos joinQual qs' → AllBare s'.gens → s'.os = s.os →
    Mine.St g' L (((64, tabObj ps') :: (203, tabObj qs') :: news) ++ frs') s'.heap m → Q (.bool true) s') :
  wpAny (model prg w) A (call (.ref 278) [.str x t2, .int n tk]) Q E s := by
  refine wpAny_call ?_
  refine enterCs (binds := [(PySem.Str.ofString "text", .str x t2), (PySem.Str.ofString "size", .int n tk)]) B (Sub.refl _) S Z (by k_dflt k_is) (by k_dflt k_is) rfl (fun a y hy => by
    rcases List.mem_cons.mp hy with rfl | hy
    · exact .inr ⟨rfl, rfl⟩
    · rw [List.mem_singleton.mp hy]; exact .inr ⟨rfl, rfl⟩) ?_ (fun a => by show ([PySem.Str.ofString "size", PySem.Str.ofString "text"] : List PySem.Str).Nodup; decide) rfl rfl rfl
  intro oL L1 h1 tk1 os Lb hos hcell S1 Z1
  (try k_fold)
  obtain ⟨oT, hoT, hdT⟩ := hcell (PySem.Str.ofString "text") (L1 + 1) (.tail _ (.head _)) rfl
  obtain ⟨oN, hoN, hdN⟩ := hcell (PySem.Str.ofString "size") (L1 + 1 + 1) (.head _) rfl
  replace hdT : oT.data = .cell (some (.str x t2)) := hdT
  replace hdN : oN.data = .cell (some (.int n tk)) := hdN
  clear hcell
  replace hos : os.map (·.1) = [L1 + 1 + 1, L1 + 1] := hos
  obtain rfl := two_of hos hoN hoT (Nat.succ_ne_self _)
  clear hos hoT hoN
  replace S1 : Mine.St g L1 ((L1 + 1 + 1, oN) :: (L1 + 1, oT) :: (((64, tabObj ps) :: (203, tabObj qs) :: news) ++ (L, oL) :: frs)) h1 (fun _ => none) := S1
  obtain ⟨g1, k1, S2, hoN⟩ := S1.settle
  obtain ⟨g2, k2, S3, hoT⟩ := S2.settle
  replace hoN := k2 _ _ hoN
  clear S1 S2
  have B2 := (B.keeps k1).keeps k2
  have hxs : x.cps.size ≤ 20 := hx
  walk_at "go"
  rename_i g3 rg h3 tk3 ta tb tc k3 hrg S4
  refine range_iter (n := x.length + 1) S4 hrg (Sub.refl _) (by lia) ?_
  intro I oI ob h4 W h0 S5
  (try k_fold)
  clear S3 S4
  have hoN3 := k3 _ _ hoN
  have hoT3 := k3 _ _ hoT
  have B3 := B2.keeps k3
  have k03 : Sub g g3 := k1.trans (k2.trans k3)
  refine ⟨I, g3, L1, _, ((64, tabObj ps) :: (203, tabObj qs) :: news), ((L, oL) :: frs), _, _, _, ob, oI, (fun i ys g' news' => SzA qs news x n i ys g' news'), rfl, Z1, W, by rw [sizeLine_eq]; lia, fun i ys g' news' h => by obtain ⟨_, _, _, h, _⟩ := h; lia, S5, h0, ⟨ps, rfl, T.keeps k03, rfl, fun j v h => by simp at h⟩, fun _ => rfl, ?_, ?_⟩
  · intro C D oL2 i v ys ep o' g4 news4 fs4 h5 tk5 m5 hb hi hP hInv k4 hu4 Z2 S6
    (try k_fold)
    obtain ⟨ti, rfl⟩ := hP
    obtain ⟨ps4, rfl, T4, hyl, hys⟩ := hInv
    walk_at "go"
    rename_i h6 S7
    refine c_told (x := x) (k := i) (n := n) (news := (203, tabObj qs) :: (news ++ [(I, o'), (D, lstO ys ep)])) (frs := fs4) (by lia) (by lia) hn hn0 (HX.keeps (k03.trans k4)) (B3.keeps k4) S7 (Z2.le (by decide)) T4 ?_
    intro v g5 fs5 h7' ps5 tk7 hv1 hv2 k5 hu5 T5 S8
    (try k_fold)
    refine ⟨g5, ((64, tabObj ps5) :: (203, tabObj qs) :: news), fs5, h7', tk7, _, rfl, k5, hu5, S8, ps5, rfl, T5, by rw [List.length_append, List.length_singleton, hyl], fun j u hj => ?_⟩
    rcases snoc_at hj with hj | ⟨e, rfl⟩
    · exact (hys j u hj).keeps k5
    · obtain rfl : j = i := e.trans hyl
      exact ⟨hv1, hv2⟩
  · intro D ys ep g4 news4 frs4 h5 tk5 hInv k4 hu4 S6
    (try k_fold)
    obtain ⟨ps4, rfl, T4, hyl, hys⟩ := hInv
    refine ⟨rfl, ?_⟩
    intro h6 S7
    (try k_fold)
    obtain ⟨g5, k5, S8, hD⟩ := St.settle S7
    replace S8 : Mine.St g5 L1 (((64, tabObj ps4) :: (203, tabObj qs) :: news) ++ frs4) h6 _ := S8
    have hoN5 := k5 _ _ (k4 _ _ hoN3)
    have hoT5 := k5 _ _ (k4 _ _ hoT3)
    have B5 := (B3.keeps k4).keeps k5
    have T5 := T4.keeps k5
    have hys5 : ∀ (j : Nat) v, ys[j]? = some v → TellAt g5 x n j v := fun j v h => (hys j v h).keeps k5
    clear S5 S6 S7 hys T4
    walk_at "go"
    rename_i g6 rg2 h7' tk7 ta2 tb2 tc2 k6 hrg2 S9
    refine range_iter (n := x.length + 1) S9 hrg2 (Sub.refl _) (by lia) ?_
    intro I2 oI2 ob2 h8 W2 h02 S10
    (try k_fold)
    have hoN6 := k6 _ _ hoN5
    have hoT6 := k6 _ _ hoT5
    have B6 := B5.keeps k6
    refine ⟨I2, g6, L1, _, ((64, tabObj ps4) :: (203, tabObj qs) :: news), frs4, _, _, _, ob2, oI2, (fun i zs g' news' => news' = (64, tabObj ps4) :: (203, tabObj qs) :: news ∧ zs.length = i ∧ ∀ (j : Nat) v, zs[j]? = some v → TellAt g' x n j v), rfl, Z1.up hu4, W2, by rw [sizeLine_eq]; lia, fun i ys g' news' h => by obtain ⟨_, h, _⟩ := h; lia, S10, h02, ⟨rfl, rfl, fun j v h => by simp at h⟩, fun _ => rfl, ?_, ?_⟩
    · intro C D2 oL2 i v zs epz o' g7 news7 fs7 h9 tk9 m9 hb hi hP hInv k7 hu7 Z2 S11
      (try k_fold)
      obtain ⟨ti, rfl⟩ := hP
      obtain ⟨rfl, hzl, hzs⟩ := hInv
      walk_at "go"
      rename_i h10 S12
      refine c_due (x := x) (k := i) (n := n) (news := (64, tabObj ps4) :: (203, tabObj qs) :: (news ++ [(I2, o'), (D2, lstO zs epz)])) (frs := fs7) h7 (by lia) (by lia) hn hn0 (B6.keeps k7) S12 (Z2.le (by decide)) ?_
      intro v g8 fs8 h11 tk11 hv1 hv2 k8 hu8 S13
      (try k_fold)
      refine ⟨g8, ((64, tabObj ps4) :: (203, tabObj qs) :: news), fs8, h11, tk11, _, rfl, k8, hu8, S13, rfl, by rw [List.length_append, List.length_singleton, hzl], fun j u hj => ?_⟩
      rcases snoc_at hj with hj | ⟨e, rfl⟩
      · exact (hzs j u hj).keeps k8
      · obtain rfl : j = i := e.trans hzl
        exact ⟨hv1, hv2⟩
    · intro D2 zs epz g7 news7 frs7 h9 tk9 hInv k7 hu7 S11
      (try k_fold)
      obtain ⟨rfl, hzl, hzs⟩ := hInv
      have kk : Sub g5 g7 := k6.trans k7
      have hD7 := kk _ _ hD
      have hu0 := Z1.units
      refine neLists_S ⟨_, S11.keep _ _ hD7, rfl, _, rfl⟩ ⟨_, S11.nw _ (.head _), rfl, _, rfl⟩ (by rw [hyl, hzl]) (Nat.lt_of_le_of_lt (Nat.le_add_right _ _) hu0) (fun j v u h1 h2 => tell_eq S11.keep ((hys5 j v h1).keeps kk) (hzs j u h2) (Nat.lt_of_le_of_lt (Nat.add_le_add_left (show 1 ≤ 40 * 9 by decide) _) hu0)) ?_
      replace S11 : Mine.St g7 L1 (((64, tabObj ps4) :: (203, tabObj qs) :: news) ++ frs7) h9 _ := S11.drop
      have B7 := B6.keeps k7
      have hu47 := hu4.trans hu7
      clear S8 S9 S10
      walk_at "go"
      generalize hrs : (List.range (x.length + 1)).map (fun k => toldS x k n) = rs
      have hrl : rs.length = x.length + 1 := by rw [← hrs, List.length_map, List.length_range]
      have hPt : Paired (fun r v => ToldAt g7 v r) rs ys := paired_of_idx (by rw [hrl, hyl]) fun j r v h1 h2 => by
        have := ((hys5 j v h2).keeps kk).told
        rw [← hrs, List.getElem?_map] at h1
        obtain ⟨k, hk, rfl⟩ := Option.map_eq_some_iff.mp h1
        have : k = j := by
          obtain ⟨q1, q2⟩ := List.getElem?_eq_some_iff.mp hk
          rw [List.getElem_range] at q2; exact q2.symm
        rw [this]; assumption
      refine c_rows hD7 hPt (by lia) B7 S11 ((Z1.up hu47).le (by decide)) ?_
      intro v D3 rws epr g8 frs8 h10 tk10 hv k8 hu8 hD3 hR S12
      (try k_fold)
      subst hv
      generalize hrows : rowsOf rs = rows at hR
      have hrowl : rows.length ≤ 21 := by
        have := rowsOf_le rs
        rw [hrows] at this
        lia
      have hnm : (namesOf rows).length ≤ rows.length := by
        have := names_le rs
        rwa [hrows] at this
      have hr : ∀ r ∈ rows, r ≠ [] ∧ r.length ≤ 2 := by rw [← hrows]; exact rowsFrom_ok rs none
      have B8 := B7.keeps k8
      clear S11 hys5 hPt hzs
      walk_at "go"
      rename_i h11 S13
      refine c_plan hD3 hR (by lia) (by lia) hr B8 S13 ((Z1.up (hu47.trans hu8)).le (by decide)) ?_
      intro Dp ws epp gs Df g9 frs9 h12 tk12 hPN hgs hDp k9 hu9 S14
      (try k_fold)
      have B9 := B8.keeps k9
      have hD39 := k9 _ _ hD3
      have hD39l : g9.IsList D3 rws.toArray := ⟨_, hD39, rfl, _, rfl⟩
      have hrwl : rws.length = rows.length := hR.length.symm
      clear S12 S13
      walk_at "go"
      rename_i h13 S15
      refine c_rounds (k := rws.toArray.size) hD39 (hR.keeps k9) (by lia) hr (by rw [List.size_toArray]; lia) B9 S15 ((Z1.up ((hu47.trans hu8).trans hu9)).le (by decide)) ?_
      intro Dr us epq ring g10 frs10 h14 tk14 hring hgr hDr k10 hu10 S16
      (try k_fold)
      rw [List.size_toArray, hrwl] at hgr
      obtain ⟨hgse, hrge⟩ := rounds_plan (k := rows.length) (fun r h => (hr r h).2) hnm hPN hring
      rw [← hgse] at hgr
      subst hrge
      have B10 := B9.keeps k10
      have hDp10 : g10.get? Dp = some (lstO (.bool (decide (Df.length < (namesOf rows).length)) :: ws) epp) := k10 _ _ hDp
      have hgs10 := paired_mono (fun _ _ h => GroupAt.keeps h k10) hgs
      walk_at "go"
      refine neLists_S (vs := .bool (decide (Df.length < (namesOf rows).length)) :: us) (ws := .bool (decide (Df.length < (namesOf rows).length)) :: ws) ?_ ?_ (by rw [List.length_cons, List.length_cons, hgr.length.symm, hgs.length.symm]) (Nat.lt_of_le_of_lt (Nat.le_add_right _ _) hu0) (fun j v u h1 h2 => ?_) ?_
      · exact isl_of (S16.keep _ _ hDr)
      · exact isl_of (S16.keep _ _ hDp10)
      · cases j with
        | zero => cases h1; cases h2; exact eqBool_at
        | succ j =>
          obtain ⟨cs, e1, hv⟩ := paired_get hgr (i := j) (b := v) h1
          obtain ⟨ds, e2, hu⟩ := paired_get hgs10 (i := j) (b := u) h2
          rw [e1] at e2; cases e2
          exact group_eq S16.keep hv hu (Nat.lt_of_le_of_lt (Nat.add_le_add_left (show 1 + 1 ≤ 40 * 9 by decide) _) hu0)
      have uall := (((hu47.trans hu8).trans hu9).trans hu10)
      clear S14 S15
      obtain ⟨hgl1, hgl2⟩ := planN_len _ _ _ _ hPN
      have hwl : ws.length = gs.length := hgs.length.symm
      have hDpl : g10.IsList Dp (Value.bool (decide (Df.length < (namesOf rows).length)) :: ws).toArray := isl_of hDp10
      have hDpz : (Value.bool (decide (Df.length < (namesOf rows).length)) :: ws).toArray.size ≤ sizeLine := by rw [List.size_toArray, List.length_cons, sizeLine_eq]; lia
      walk_at "go"
      rename_i g11 D4 h15 k11 hD4 S17
      rw [pick_tail] at hD4
      have hgs11 := paired_mono (fun _ _ h => GroupAt.keeps h k11) hgs10
      have B11 := B10.keeps k11
      have Tb11 : TabS g11 joinPos joinQual qs := Tb.keeps (k03.trans (k4.trans (k5.trans (kk.trans (k8.trans (k9.trans (k10.trans k11)))))))
      refine triples_goU (frs := frs10) S17 (Z1.up uall) hD4 (by lia) (fun v hv => ?_) (by decide) (by decide) (by decide) (by decide) (by decide) (by decide) rfl
        (fun i us' g' news' s' => SzB ps4 news s gs i us' g' news' s')
        (fun h tk => ⟨qs, rfl, Tb11, hbare, rfl, .nil⟩) (fun i us' g' news' s' h tk ⟨q, a, b, c, d, e⟩ => ⟨q, a, b, c, d, e⟩) ?_ ?_
      · obtain ⟨i, hi⟩ := List.mem_iff_getElem?.mp hv
        obtain ⟨cs, _, a, t, ys', rfl, ha, _⟩ := paired_get hgs11 hi
        exact ⟨_, _, _, a, rfl, ha⟩
      · intro i v v1 v2 v3 us' epu C5 D5 I5 o5 g12 news12 fs12 s12 m12 hi hv hI k12 hul Z12 S18 mx my mz
        (try k_fold)
        obtain ⟨cs, he, a, t, ys', rfl, ha, ht, hys'⟩ := paired_get hgs11 hi
        obtain ⟨a', q, hv⟩ := hv
        cases q
        rw [ha] at hv
        cases hv
        obtain ⟨qs', rfl, Tb12, hbare12, hos12, hus'⟩ := hI
        have hcs := hgl2 cs (List.mem_of_getElem? he)
        walk_at "go"
        have S19 : Mine.St g12 C5 (((203, tabObj qs') :: (64, tabObj ps4) :: (news ++ [(D5, lstO us' epu), (I5, o5)])) ++ fs12) s12.heap m12 := S18.perm (List.Perm.swap _ _ _)
        refine c_join (k12 _ _ ht) hys' (by lia) hbare12 (B11.keeps k12) S19 (Z12.le (by decide)) Tb12 ?_
        intro v t6 g13 frs13 s13 ps13 hv k13 hu13 T13 hbare13 hos13 S20
        (try k_fold)
        subst hv
        refine ⟨g13, ((64, tabObj ps4) :: (203, tabObj ps13) :: news), frs13, m12, k13, hu13, S20.perm (List.Perm.swap _ _ _), ps13, rfl, T13, hbare13, hos13.trans hos12, ?_⟩
        rw [List.take_add_one, he, List.map_append]
        exact hus'.append' (.cons _ _ .nil)
      · intro D5 us' epu g12 news12 frs12 s12 hI hul k12 hu12
        (try k_fold)
        obtain ⟨qs', rfl, Tb12, hbare12, hos12, hus'⟩ := hI
        rw [hwl, List.take_length] at hus'
        refine fun h16 S18 => ⟨rfl, fun h17 S19 => ?_⟩
        clear S16 S17 S18
        obtain ⟨g13, k13, S20, hD5⟩ := St.settle S19
        replace S20 : Mine.St g13 L1 (((64, tabObj ps4) :: (203, tabObj qs') :: news) ++ frs12) h17 _ := S20
        clear S19
        have k1113 := k12.trans k13
        have B13 := B11.keeps k1113
        have hDpl13 := lk hDpl (k11.trans k1113)
        have hgs13 := paired_mono (fun _ _ h => GroupAt.keeps h k1113) hgs11
        walk_at "go"
        rename_i g14 D6 h18 k14 hD6 S21
        rw [pick_tail] at hD6
        have hgs14 := paired_mono (fun _ _ h => GroupAt.keeps h k14) hgs13
        have B14 := B13.keeps k14
        refine triples_goU (frs := frs12) S21 (Z1.up (uall.trans hu12)) hD6 (by lia) (fun v hv => ?_) (by decide) (by decide) (by decide) (by decide) (by decide) (by decide) rfl
          (fun i us' g' news' s' => news' = (64, tabObj ps4) :: (203, tabObj qs') :: news ∧ AllBare s'.gens ∧ s'.os = s.os ∧ StrsAre us' ((gs.take i).map wordS))
          (fun h tk => ⟨rfl, hbare12, hos12, .nil⟩) (fun i us' g' news' s' h tk hh => hh) ?_ ?_
        · obtain ⟨i, hi⟩ := List.mem_iff_getElem?.mp hv
          obtain ⟨cs, _, a, t, ys', rfl, ha, _⟩ := paired_get hgs14 hi
          exact ⟨_, _, _, a, rfl, ha⟩
        · intro i v v1 v2 v3 ls epl C7 D7 I7 o7 g15 news15 fs15 s15 m15 hi hv hI k15 hul15 Z15 S22 mx my mz
          (try k_fold)
          obtain ⟨cs, he, a, t, ys', rfl, ha, ht, hys'⟩ := paired_get hgs14 hi
          obtain ⟨a', q, hv⟩ := hv
          cases q
          rw [ha] at hv
          cases hv
          obtain ⟨rfl, hbare15, hos15, hls⟩ := hI
          have hcs := hgl2 cs (List.mem_of_getElem? he)
          have B15 := B14.keeps k15
          have ht15 := k15 _ _ ht
          have hyl' := signs_len hys'
          walk_at "go"
          refine iter_tuple S22 (show g15.IsTuple t ys'.toArray from ⟨_, ht15, rfl, _, rfl⟩) (Sub.refl _) ?_
          intro I8 oI8 ob8 h20 W8 h08 S23
          (try k_fold)
          refine ⟨I8, g15, C7, _, (((64, tabObj ps4) :: (203, tabObj qs') :: news) ++ [(D7, lstO ls epl), (I7, o7)]), fs15, _, _, _, ob8, oI8, (fun i zs g' news' => g15 = g' ∧ news' = ((64, tabObj ps4) :: (203, tabObj qs') :: news) ++ [(D7, lstO ls epl), (I7, o7)] ∧ StrsAre zs ((cs.take i).map textS)), rfl, Z15, W8, by rw [List.size_toArray, sizeLine_eq]; lia, fun i zs g' news' h => by rw [h.2.2.length, List.length_map, List.length_take]; exact Nat.min_le_left _ _, S23, h08, ⟨rfl, rfl, .nil⟩, fun _ => rfl, ?_, ?_⟩
          · intro C9 D9 oL9 i2 v zs epz o9 g16 news16 fs16 h21 tk21 m21 hb hi2 hP hInv k16 hu16 Z16 S24
            (try k_fold)
            obtain ⟨rfl, rfl, hzs⟩ := hInv
            obtain ⟨c, tc, hc, rfl⟩ := signs_get hys' (by simpa using hP)
            walk_at "go"
            rename_i h22 S25
            refine c_text (c := c) B15 S25 (Z16.le (by decide)) ?_
            intro v t9 frs17 h23 tk23 hv hu17 S26
            (try k_fold)
            subst hv
            refine ⟨g15, _, frs17, h23, tk23, _, rfl, Sub.refl _, hu17, S26, rfl, rfl, ?_⟩
            rw [List.take_add_one, hc, List.map_append]
            exact hzs.append' (.cons _ _ .nil)
          · intro D9 zs epz g16 news16 frs16 h21 tk21 hInv k16 hu16 S24
            (try k_fold)
            obtain ⟨rfl, rfl, hzs⟩ := hInv
            rw [List.size_toArray, hyl', List.take_length] at hzs
            (try dsimp only)
            walk_at "go"
            refine PyProof.Rows.join_listC (items := zs.toArray) (ys := cs.map textS) ?_ ?_ (by decide) ?_ ?_
            · exact isl_of (S24.nw _ (.head _))
            · exact hzs
            · have := text_sum cs
              rw [List.length_map]
              lia
            intro t' k'
            (try k_fold)
            refine ⟨g15, ((64, tabObj ps4) :: (203, tabObj qs') :: news), frs16, m15, Sub.refl _, hu16, S24.drop, rfl, hbare15, hos15, ?_⟩
            rw [List.take_add_one, he, List.map_append]
            exact hls.append' (.cons _ _ .nil)
        · intro D7 ls epl g15 news15 frs15 s15 hI hul15 k15 hu15
          (try k_fold)
          obtain ⟨rfl, hbare15, hos15, hls⟩ := hI
          rw [hwl, List.take_length] at hls
          intro h19 S22
          (try k_fold)
          (try dsimp only)
          walk_at "go"
          have hl1 : us'.length = ls.length := by rw [hus'.length, hls.length]
          refine eqLists_S (vs := us') (ws := ls) ?_ ?_ hl1 (Nat.lt_of_le_of_lt (Nat.le_add_right _ _) hu0) (fun j v u h1 h2 => ?_) ?_
          · exact isl_of (S22.keep _ _ (k15 _ _ (k14 _ _ hD5)))
          · exact isl_of (S22.nw _ (.head _))
          · obtain ⟨y, t, rfl, e1⟩ := hus'.item j v h1
            obtain ⟨z, t', rfl, e2⟩ := hls.item j u h2
            rw [e1] at e2; cases e2
            exact eqStr_at
          · obtain ⟨frs20, hu20, S30⟩ := leave Lb S22.drop ((uall.trans hu12).trans hu15)
            exact hret g15 frs20 _ ps4 qs' (k03.trans (k4.trans (k5.trans (kk.trans (k8.trans (k9.trans (k10.trans (k11.trans (k1113.trans (k14.trans k15)))))))))) hu20 (T5.keeps (kk.trans (k8.trans (k9.trans (k10.trans (k11.trans (k1113.trans (k14.trans k15)))))))) (Tb12.keeps (k13.trans (k14.trans k15))) hbare15 hos15 S30
end
end Mine

end
section
set_option maxHeartbeats 2000000
open PySem PySem.W PySem.W.X PyProof.Rows PySem.Calls PySem.Spec PySem.Builtin PySem.Builtin.Str
namespace Mine
section
variable {prog : Program} {w : World} {A : Around} {s : Shared} {g : Heap} {mg mb : PySem.Str → Option Value} {news : List (Addr × Obj)}
/-- into a def with cells, from surroundings that have no frame -/
theorem enterCs0 {R : Result → Shared → Prop} {f : Addr} {name qual : PySem.Str} {params : Arguments} {body : List Stmt} {scope : Scope} {dV kV doc pm cdv ct oc : Value} {an od : Option Addr} {osl : Array (Option Value)} {args : List Value} {binds : List (PySem.Str × Value)} {k : Nat}
    (B : Bs w mg mb g) (hkS : Sub g s.heap) (hnw : ∀ p ∈ news, s.heap.get? p.1 = some p.2) (hng : ∀ p ∈ news, g.get? p.1 = none) (hnn : (news.map (·.1)).Nodup)
    (hh : A.handled = none) (hroom : A.depth + 2 * (k + 1) < recursionLimit) (hunits : A.units + 40 * (k + 1) < cLine) (hfr : A.frames = some [])
    (ho : (Kf w.params).lookup f = some ⟨oc, od, .func (fnOf name qual params body scope dV kV doc pm an cdv ct), osl⟩) (hcd : codeIn (Kf w.params) cdv qual = true)
    (hbind : bindArgs (fnOf name qual params body scope dV kV doc pm an cdv ct) ⟨args, []⟩ = pure binds)
    (hkind : ∀ a, ∀ y ∈ binds, scope.names.lookup y.1 = some .local ∨ (scope.names.lookup y.1 = some .cell ∧ ((cellsFrom (a + 1) scope.names []).lookup y.1).isSome = true))
    (h : ∀ L' h₁ tk os, os.map (·.1) = (cellsFrom (L' + 1) scope.names []).map (·.2) → (∀ n c, (n, c) ∈ cellsFrom (L' + 1) scope.names [] → (cellsFrom (L' + 1) scope.names []).lookup n = some c → ∃ o, (c, o) ∈ os ∧ o.data = .cell (bindC (fun x => scope.names.lookup x) binds (fun _ => none) n)) →
      Mine.St g L' ((os ++ news) ++ []) h₁ (bindL (fun x => scope.names.lookup x) binds fun _ => none) → Ar (A.deeper (envX qual scope L' f cdv (cellsFrom (L' + 1) scope.names []))) L' [] k →
      wpAny (model prog w) (A.deeper (envX qual scope L' f cdv (cellsFrom (L' + 1) scope.names []))) (execs body (envX qual scope L' f cdv (cellsFrom (L' + 1) scope.names []))) (fun fl s' => R (.ok (.ret (match fl with | .ret v => v | _ => .none))) s')
        (fun e s' => wpAny (model prog w) (A.deeper (envX qual scope L' f cdv (cellsFrom (L' + 1) scope.names []))) (leaving (envX qual scope L' f cdv (cellsFrom (L' + 1) scope.names [])) e) (fun _ s'' => R (.error e) s'') (fun e' s'' => R (.error e') s'') s')
        { s with heap := h₁, toks := tk })
    (hnd : ∀ a, ((cellsFrom (a + 1) scope.names []).map (·.1)).Nodup)
    (hco : scope.isCoroutine = false := by rfl) (hgen : scope.isGenerator = false := by rfl) (hk : scope.kind = .function := by rfl) : codeAny (model prog w) A (.call (.ref f) ⟨args, []⟩) R s := by
  refine codeAny_call_cells (fd := fnOf name qual params body scope dV kV doc pm an cdv ct) (by lia) (hkS _ _ (B.X _ _ ho)) rfl (B.nolimit.keeps hkS) ((codeRec_of B.X hcd).keeps hkS) rfl hbind rfl (hkind _) (fun s₁ x => ?_) hco hgen hk
  obtain ⟨h₁, tk, rfl⟩ := x.toInCall.same
  generalize hL' : s.heap.objs.size = L' at x
  have hcell : ∀ p ∈ cellsFrom (L' + 1) scope.names [], ∃ o, h₁.get? p.2 = some o ∧ o.data = .cell (bindC (fun y => scope.names.lookup y) binds (fun _ => none) p.1) := fun p hp => by
    have hl : (cellsFrom (L' + 1) scope.names []).lookup p.1 = some p.2 := by
      have hn := hnd L'
      generalize cellsFrom (L' + 1) scope.names [] = l at hp hn
      induction l with
      | nil => cases hp
      | cons q l ih =>
        rw [List.map_cons, List.nodup_cons] at hn
        obtain ⟨q1, q2⟩ := q
        rw [List.lookup_cons]
        rcases List.mem_cons.mp hp with rfl | hp
        · simp
        · have : (p.1 == q1) = false := beq_eq_false_iff_ne.mpr fun e => hn.1 (by show q1 ∈ _; rw [← e]; exact List.mem_map_of_mem hp)
          rw [this]
          exact ih hp hn.2
    exact x.cell p.1 p.2 hl
  obtain ⟨os, hos1, hos2⟩ : ∃ os : List (Addr × Obj), os.map (·.1) = (cellsFrom (L' + 1) scope.names []).map (·.2) ∧ (∀ p ∈ os, h₁.get? p.1 = some p.2) ∧ ∀ q ∈ cellsFrom (L' + 1) scope.names [], ∃ o, (q.2, o) ∈ os ∧ o.data = .cell (bindC (fun y => scope.names.lookup y) binds (fun _ => none) q.1) := by
    generalize cellsFrom (L' + 1) scope.names [] = l at hcell
    clear x
    induction l with
    | nil => exact ⟨[], rfl, (fun p hp => (nomatch hp)), fun q hq => (nomatch hq)⟩
    | cons q l ih =>
      obtain ⟨os, h1, h2, h3⟩ := ih fun p hp => hcell p (.tail _ hp)
      obtain ⟨o, ho1, ho2⟩ := hcell q (.head _)
      refine ⟨(q.2, o) :: os, by rw [List.map_cons, List.map_cons, h1], fun p hp => ?_, fun p hp => ?_⟩
      · rcases List.mem_cons.mp hp with rfl | hp
        · exact ho1
        · exact h2 p hp
      · rcases List.mem_cons.mp hp with rfl | hp
        · exact ⟨o, .head _, ho2⟩
        · obtain ⟨o', a, b⟩ := h3 p hp; exact ⟨o', .tail _ a, b⟩
  have hndc : (os.map (·.1)).Nodup := by
    rw [hos1]
    exact List.pairwise_map.mpr x.apart
  have habove : ∀ p ∈ os, L' < p.1 := fun p hp => by
    have : p.1 ∈ os.map (·.1) := List.mem_map_of_mem hp
    rw [hos1] at this
    obtain ⟨q, hq, e⟩ := List.mem_map.mp this
    rw [← e]; exact x.above q.1 q.2 hq
  have gn : ∀ a, L' ≤ a → g.get? a = none := fun a ha => by
    cases q : g.get? a with
    | none => rfl
    | some o => exact absurd (Heap.lt_size (hkS _ _ q)) (Nat.not_lt.mpr (by rw [hL']; exact ha))
  have lt : ∀ p ∈ news, p.1 < L' := fun p hp => by rw [← hL']; exact Heap.lt_size (hnw p hp)
  refine h L' h₁ tk os hos1 (fun n c hm hl => hos2.2 (n, c) hm) ?_ ⟨hh, ?_, ?_, fun p hp => (nomatch hp), [envX qual scope L' f cdv (cellsFrom (L' + 1) scope.names [])], ?_, ?_⟩
  · rw [List.append_nil]
    refine ⟨x.toInCall.ns, fun b o e => x.toInCall.keep b o (hkS b o e), gn L' (Nat.le_refl _), fun p hp => ?_, fun p hp => ?_, fun p hp => ?_, ?_⟩
    · rcases List.mem_append.mp hp with hp | hp
      · exact hos2.1 p hp
      · exact x.toInCall.keep _ _ (hnw p hp)
    · rcases List.mem_append.mp hp with hp | hp
      · exact Nat.ne_of_gt (habove p hp)
      · exact Nat.ne_of_lt (lt p hp)
    · rcases List.mem_append.mp hp with hp | hp
      · exact gn _ (Nat.le_of_lt (habove p hp))
      · exact hng p hp
    · rw [List.map_append]
      refine List.nodup_append.mpr ⟨hndc, hnn, fun a ha b hb q => ?_⟩
      obtain ⟨p, hp, rfl⟩ := List.mem_map.mp ha
      obtain ⟨p', hp', rfl⟩ := List.mem_map.mp hb
      have h1 := habove p hp
      have h2 := lt p' hp'
      rw [q] at h1
      exact absurd h2 (Nat.lt_asymm h1)
  · show A.depth + 1 + 2 * k < _; lia
  · show A.units + 3 + 40 * k < _; lia
  · show A.frames.map _ = _; rw [hfr]; rfl
  · intro e he
    rw [List.mem_singleton.mp he]
    exact ⟨hk, _, rfl, .inl rfl⟩
end
end Mine

end
section
set_option maxHeartbeats 2000000
open PySem PySem.W PySem.W.X PyProof.Rows PySem.Calls PySem.Spec PySem.Builtin PySem.Builtin.Str
namespace Mine
theorem pick_head (vs : List Value) (n : Nat) : slicePick vs.toArray none (some (n : Int)) none = (vs.take n).toArray := by
  rw [slicePick_plain]
  have h1 : Option.elim (some (n : Int)) vs.toArray.size (clipAt vs.toArray.size) = min n vs.length := by
    show clipAt _ (n : Int) = _
    rw [clipAt_nat, List.size_toArray]
  simp only [h1]
  apply Array.toList_inj.mp
  show ((vs.drop 0).take (min n vs.length - 0)) = vs.take n
  rw [List.drop_zero, Nat.sub_zero, Nat.min_comm, List.take_eq_take_iff]
  rw [Nat.min_comm vs.length n, Nat.min_assoc, Nat.min_self]
theorem join_ones7 : ∀ cs : List Nat, (∀ c ∈ cs, c < 128) → (PySem.Str.join (PySem.Str.ofString "") (cs.map fun c => ⟨#[c]⟩)).length ≤ cs.length ∧ ∀ c ∈ (PySem.Str.join (PySem.Str.ofString "") (cs.map fun c => ⟨#[c]⟩)).cps.toList, c < 128
  | [], _ => ⟨by decide, by decide⟩
  | [c], h => ⟨Nat.le_refl _, fun d hd => by
    have : d ∈ [c] := hd
    rw [List.mem_singleton.mp this]; exact h c (.head _)⟩
  | c :: d :: cs, h => by
    obtain ⟨h1, h2⟩ := join_ones7 (d :: cs) fun x hx => h x (.tail _ hx)
    have e : PySem.Str.join (PySem.Str.ofString "") ((c :: d :: cs).map fun c => ⟨#[c]⟩) = (⟨#[c]⟩ ++ PySem.Str.ofString "") ++ PySem.Str.join (PySem.Str.ofString "") ((d :: cs).map fun c => ⟨#[c]⟩) := rfl
    rw [e]
    have h0 : (PySem.Str.ofString "").length = 0 := by decide
    refine ⟨?_, fun x hx => ?_⟩
    · rw [PySem.Str.length_append, PySem.Str.length_append, h0, List.length_cons]
      have : (⟨#[c]⟩ : PySem.Str).length = 1 := rfl
      lia
    · have hx' : x ∈ (#[c] ++ (PySem.Str.ofString "").cps ++ (PySem.Str.join (PySem.Str.ofString "") ((d :: cs).map fun c => ⟨#[c]⟩)).cps).toList := hx
      rw [Array.toList_append, Array.toList_append, List.mem_append, List.mem_append] at hx'
      rcases hx' with (hx' | hx') | hx'
      · have : x ∈ [c] := hx'
        rw [List.mem_singleton.mp this]; exact h c (.head _)
      · have : x ∈ ([] : List Nat) := hx'
        cases this
      · exact h2 x hx'
theorem ones_sum : ∀ cs : List Nat, ((cs.map fun c => (⟨#[c]⟩ : PySem.Str)).map (·.length)).sum = cs.length
  | [] => rfl
  | c :: cs => by
    rw [List.map_cons, List.map_cons, List.sum_cons, ones_sum cs, List.length_cons]
    have : (⟨#[c]⟩ : PySem.Str).length = 1 := rfl
    lia
theorem sign_lt : ∀ k, k < 34 → (PySem.Str.ofString "0123456789abcdeDEfF0ABCd08F0f1g_\n ").cps.getD k 0 < 128 := by decide
section
variable {w : World} {mg mb : PySem.Str → Option Value} {A : Around} {g : Heap} {s : Shared} {Q E : Value → Shared → Prop}
theorem c_law {l : Addr} {vs : List Value} {xs : List Int} {ps qs : Array Value} (hl : g.IsList l vs.toArray) (hi : IntsAre vs xs) (hlen : vs.length ≤ 63) (HX : HexSet prg w g) (hbare : AllBare s.gens) (B : Bs w mg mb g)
  (hkS : Sub g s.heap) (h64 : s.heap.get? 64 = some (tabObj ps)) (h203 : s.heap.get? 203 = some (tabObj qs)) (g64 : g.get? 64 = none) (g203 : g.get? 203 = none)
  (hh : A.handled = none) (hroom : A.depth + 2 * 12 < recursionLimit) (hunits : A.units + 40 * 12 < cLine) (hfr : A.frames = some []) (T : TabS g coordPos coordQual ps) (Tb : TabS g joinPos joinQual qs)
  (hret : ∀ s' ps' qs', Sub g s'.heap → AllBare s'.gens → s'.os = s.os → s'.heap.get? 64 = some (tabObj ps') → s'.heap.get? 203 = some (tabObj qs') → Q (.bool true) s') :
  wpAny (model prg w) A (call (.ref 283) [.ref l]) Q E s := by
  refine wpAny_call ?_
  refine enterCs0 (news := [(64, tabObj ps), (203, tabObj qs)]) (k := 11) (binds := [(PySem.Str.ofString "script", .ref l)]) B hkS (fun p hp => ?_) (fun p hp => ?_) (by show ([64, 203] : List Addr).Nodup; decide) hh hroom hunits hfr (by k_dflt k_is) (by k_dflt k_is) rfl (fun a y hy => by
    rw [List.mem_singleton.mp hy]; exact .inl rfl) ?_ (fun a => by show ([PySem.Str.ofString "signs"] : List PySem.Str).Nodup; decide) rfl rfl rfl
  · rcases List.mem_cons.mp hp with rfl | hp
    · exact h64
    · rw [List.mem_singleton.mp hp]; exact h203
  · rcases List.mem_cons.mp hp with rfl | hp
    · exact g64
    · rw [List.mem_singleton.mp hp]; exact g203
  intro L1 h1 tk1 os hos hcell S1 Z1
  (try k_fold)
  obtain ⟨oS, hoS, hdS⟩ := hcell (PySem.Str.ofString "signs") (L1 + 1) (.head _) rfl
  replace hdS : oS.data = .cell none := hdS
  clear hcell
  replace hos : os.map (·.1) = [L1 + 1] := hos
  obtain rfl : os = [(L1 + 1, oS)] := by
    cases os with
    | nil => cases hoS
    | cons a os => cases os with
      | nil => rw [List.mem_singleton.mp hoS]
      | cons b os => simp at hos
  clear hos hoS
  replace S1 : Mine.St g L1 (((L1 + 1, oS) :: (64, tabObj ps) :: (203, tabObj qs) :: []) ++ []) h1 (fun y => if y = PySem.Str.ofString "script" then some (.ref l) else none) := S1
  walk_at "go"
  refine c_signs B S1 (Z1.le (by decide)) ?_
  intro ts frs2 h2 tk2 hu2 S2
  (try k_fold)
  walk_at "go"
  refine st_cell (c := L1 + 1) (news' := fun o' => ((L1 + 1, o') :: (64, tabObj ps) :: (203, tabObj qs) :: []) ++ frs2) S2 rfl (fun _ => .head) hdS ?_ rfl rfl
  intro oS' h3 hdS' S3
  (try k_fold)
  obtain ⟨g4, k4, S4, hoS⟩ := St.settle S3
  replace S4 : Mine.St g4 L1 (((64, tabObj ps) :: (203, tabObj qs) :: []) ++ frs2) h3 _ := S4
  have B4 := B.keeps k4
  have hl4 := lk hl k4
  have hlz : vs.toArray.size ≤ sizeLine := by rw [List.size_toArray, sizeLine_eq]; lia
  clear S1 S2 S3
  walk_at "go"
  rename_i g5 D5 h4 k5 hD5 S5
  rw [show (6 : Int) = ((6 : Nat) : Int) from rfl, pick_head] at hD5
  have hoS5 := k5 _ _ hoS
  have B5 := B4.keeps k5
  refine iter_list S5 hD5 (Sub.refl _) ?_
  intro I oI ob h5 W h0 S6
  (try k_fold)
  have hi6 := hi.take 6
  have hl6 : (vs.take 6).length ≤ 6 := by rw [List.length_take]; exact Nat.min_le_left _ _
  refine ⟨I, g5, L1, _, ((64, tabObj ps) :: (203, tabObj qs) :: []), frs2, _, _, _, ob, oI, (fun i ys g' news' => g5 = g' ∧ news' = (64, tabObj ps) :: (203, tabObj qs) :: [] ∧ ys.length = i ∧ ∃ cs, SignsAt ys cs ∧ ∀ c ∈ cs, c < 128), rfl, Z1.up hu2, W, by rw [List.size_toArray, sizeLine_eq]; lia, fun i ys g' news' h => by rw [h.2.2.1]; exact Nat.le_refl _, S6, h0, ⟨rfl, rfl, rfl, [], .nil, fun c h => (nomatch h)⟩, fun _ => rfl, ?_, ?_⟩
  · intro C D oL2 i v ys ep o' g6 news6 fs6 h6 tk6 m6 hb hii hP hInv k6 hu6 Z2 S7
    (try k_fold)
    obtain ⟨rfl, rfl, hys, cs, hsg, hcs⟩ := hInv
    have hvi : (vs.take 6)[i]? = some v := by simpa using hP
    obtain ⟨n, tn, rfl, hn⟩ := hi6.at i v hvi
    walk_at "go"
    have hsl : (PySem.Str.ofString "0123456789abcdeDEfF0ABCd08F0f1g_\n ").length = 34 := by decide
    refine PyProof.Rows.len_str (by rw [hsl]; decide) ?_
    rw [hsl]
    walk_at "go"
    have hk0 : 0 ≤ (n.fmod (10 ^ Int.toNat 6)).fmod ((34 : Nat) : Int) := Int.fmod_nonneg_of_pos _ (by decide)
    have hk1 : (n.fmod (10 ^ Int.toNat 6)).fmod ((34 : Nat) : Int) < 34 := Int.fmod_lt_of_pos _ (by decide)
    generalize (n.fmod (10 ^ Int.toNat 6)).fmod ((34 : Nat) : Int) = kk at hk0 hk1 ⊢
    rw [item_meets ⟨hk0, by rw [hsl]; exact hk1⟩]
    refine ⟨g5, ((64, tabObj ps) :: (203, tabObj qs) :: []), fs6, _, _, _, rfl, Sub.refl _, Up.refl _, by assumption, rfl, rfl, by rw [List.length_append, List.length_singleton, hys], cs ++ [(PySem.Str.ofString "0123456789abcdeDEfF0ABCd08F0f1g_\n ").cps.getD kk.toNat 0], signs_append hsg (.cons _ _ .nil), fun c hc => ?_⟩
    rcases List.mem_append.mp hc with hc | hc
    · exact hcs c hc
    · rw [List.mem_singleton.mp hc]
      exact sign_lt _ (by lia)
  · intro D ys ep g6 news6 frs6 h6 tk6 hInv k6 hu6 S7
    (try k_fold)
    obtain ⟨rfl, rfl, hys, cs, hsg, hcs⟩ := hInv
    rw [List.size_toArray] at hys
    have hcl : cs.length ≤ 6 := by rw [← signs_len hsg]; lia
    (try dsimp only)
    walk_at "go"
    refine PyProof.Rows.join_listC (items := ys.toArray) (ys := cs.map fun c => ⟨#[c]⟩) ?_ ?_ (by decide) ?_ ?_
    · exact isl_of (S7.nw _ (.head _))
    · exact hsg
    · rw [ones_sum, List.length_map]; lia
    intro tj kj
    (try k_fold)
    obtain ⟨hj1, hj2⟩ := join_ones7 cs hcs
    have hje : Txt.join (PySem.Str.ofString "") (cs.map fun c => ⟨#[c]⟩) = PySem.Str.join (PySem.Str.ofString "") (cs.map fun c => ⟨#[c]⟩) := StrLaws.glued_eq_join _ _
    rw [hje]
    generalize PySem.Str.join (PySem.Str.ofString "") (cs.map fun c => ⟨#[c]⟩) = j at hj1 hj2 ⊢
    have ha : (PySem.Str.ofString "10FFFF").length = 6 := by decide
    have hb : (PySem.Str.ofString "D7FFE000").length = 8 := by decide
    replace S7 : Mine.St g5 L1 (((64, tabObj ps) :: (203, tabObj qs) :: []) ++ frs6) h6 _ := S7.drop
    walk_at "go"
    rename_i tx kx h7 S8 Dn h8 S9 g7 D7 h9 k7 hD7 S10
    clear S9
    rw [show (6 : Int) = ((6 : Nat) : Int) from rfl, pick_head] at hD7
    obtain ⟨ns0, hns0, S11⟩ : ∃ ns0, IntsAre ns0 [-1, 0, 55295, 55296, 57343, 57344, 1114111, 1114112] ∧ Mine.St g7 L1 ((Dn, lstO ns0 0) :: (((64, tabObj ps) :: (203, tabObj qs) :: []) ++ frs6)) h9 (upd (fun y => if y = PySem.Str.ofString "script" then some (.ref l) else none) (PySem.Str.ofString "text") (.str (PySem.Str.ofString "10FFFF" ++ j ++ PySem.Str.ofString "D7FFE000") tx)) :=
      ⟨_, .cons _ _ (.cons _ _ (.cons _ _ (.cons _ _ (.cons _ _ (.cons _ _ (.cons _ _ (.cons _ _ .nil))))))), S10⟩
    have hnl := hns0.length
    simp only [List.length_cons, List.length_nil] at hnl
    refine addL_S (vs := ns0) (ws := vs.take 6) S11 ?_ ?_ (by rw [sizeLine_eq]; lia) ?_
    · exact isl_of (S11.nw _ (.head _))
    · exact lk hD7 S11.keep
    intro D8 h10 S12
    (try k_fold)
    have hnums := hns0.append hi6
    generalize hnu : ([-1, 0, 55295, 55296, 57343, 57344, 1114111, 1114112] : List Int) ++ xs.take 6 = nums at hnums
    generalize hnv : ns0 ++ vs.take 6 = nvs at hnums S12
    have hnvl : nvs.length ≤ 14 := by rw [← hnv, List.length_append]; lia
    obtain ⟨g8, k8, S13, hD8⟩ := St.settle S12
    replace S13 : Mine.St g8 L1 (((64, tabObj ps) :: (203, tabObj qs) :: []) ++ frs6) h10 _ := S13.drop
    have hD8l : g8.IsList D8 nvs.toArray := isl_of hD8
    have B8 := (B5.keeps k7).keeps k8
    clear S8 S10 S11 S12
    walk_at "go"
    rename_i h11 S14
    refine iter_list S14 hD8l (Sub.refl _) ?_
    intro I9 oI9 ob9 h12 W9 h09 S15
    (try k_fold)
    refine ⟨I9, g8, L1, _, ((64, tabObj ps) :: (203, tabObj qs) :: []), frs6, _, _, _, ob9, oI9, (fun i ys g' news' => g8 = g' ∧ news' = (64, tabObj ps) :: (203, tabObj qs) :: [] ∧ ys = (nums.take i).map fun n => Value.bool (scalarB n)), rfl, Z1.up (hu2.trans hu6), W9, by rw [List.size_toArray, sizeLine_eq]; lia, fun i ys g' news' h => by rw [h.2.2, List.length_map, List.length_take]; lia, S15, h09, ⟨rfl, rfl, rfl⟩, fun _ => rfl, ?_, ?_⟩
    · intro C D2 oL2 i v zs epz o' g9 news9 fs9 h13 tk13 m13 hb9 hii hP hInv k9 hu9 Z9 S16
      (try k_fold)
      obtain ⟨rfl, rfl, rfl⟩ := hInv
      obtain ⟨n, tn, rfl, hn⟩ := hnums.at i v (by simpa using hP)
      walk_at "go"
      rename_i h14 S17
      refine c_scalar (n := n) B8 S17 (Z9.le (by decide)) ?_
      intro v fs10 h15 tk15 hv hu10 S18
      (try k_fold)
      subst hv
      refine ⟨g8, ((64, tabObj ps) :: (203, tabObj qs) :: []), fs10, h15, tk15, _, rfl, Sub.refl _, hu10, S18, rfl, rfl, ?_⟩
      rw [List.take_add_one, hn, List.map_append]; rfl
    · intro D9 zs epz g9 news9 frs9 h13 tk13 hInv k9 hu9 S16
      (try k_fold)
      obtain ⟨rfl, rfl, rfl⟩ := hInv
      rw [List.size_toArray, hnums.length, List.take_length] at S16
      (try dsimp only)
      walk_at "go"
      refine iter_list S16 hD8l (Sub.refl _) ?_
      intro I10 oI10 ob10 h14 W10 h010 S17
      (try k_fold)
      refine ⟨I10, g8, L1, _, ((D9, lstO (nums.map fun n => Value.bool (scalarB n)) epz) :: (64, tabObj ps) :: (203, tabObj qs) :: []), frs9, _, _, _, ob10, oI10, (fun i ys g' news' => g8 = g' ∧ news' = (D9, lstO (nums.map fun n => Value.bool (scalarB n)) epz) :: (64, tabObj ps) :: (203, tabObj qs) :: [] ∧ ys = (nums.take i).map fun n => Value.bool (scalarB n)), rfl, Z1.up (hu2.trans (hu6.trans hu9)), W10, by rw [List.size_toArray, sizeLine_eq]; lia, fun i ys g' news' h => by rw [h.2.2, List.length_map, List.length_take]; lia, S17, h010, ⟨rfl, rfl, rfl⟩, fun _ => rfl, ?_, ?_⟩
      · intro C D2 oL2 i v zs epz' o' g10 news10 fs10 h15 tk15 m15 hb10 hii hP hInv k10 hu10 Z10 S18
        (try k_fold)
        obtain ⟨rfl, rfl, rfl⟩ := hInv
        obtain ⟨n, tn, rfl, hn⟩ := hnums.at i v (by simpa using hP)
        walk_at "go"
        rename_i h16 S19
        refine c_lscalar (n := n) B8 S19 (Z10.le (by decide)) ?_
        intro v fs11 h17 tk17 hv hu11 S20
        (try k_fold)
        subst hv
        refine ⟨g8, ((D9, lstO (nums.map fun n => Value.bool (scalarB n)) epz) :: (64, tabObj ps) :: (203, tabObj qs) :: []), fs11, h17, tk17, _, rfl, Sub.refl _, hu11, S20, rfl, rfl, ?_⟩
        rw [List.take_add_one, hn, List.map_append]; rfl
      · intro D10 zs2 epz2 g10 news10 frs10 h15 tk15 hInv k10 hu10 S18
        (try k_fold)
        obtain ⟨rfl, rfl, rfl⟩ := hInv
        rw [List.size_toArray, hnums.length, List.take_length] at S18
        refine neLists_S (vs := nums.map fun n => Value.bool (scalarB n)) (ws := nums.map fun n => Value.bool (scalarB n)) ?_ ?_ rfl (Nat.lt_of_le_of_lt (Nat.le_add_right _ _) Z1.units) (fun j v u h1 h2 => ?_) ?_
        · exact isl_of (S18.nw _ (.tail _ (.head _)))
        · exact isl_of (S18.nw _ (.head _))
        · rw [h1] at h2; cases h2
          rw [List.getElem?_map] at h1
          obtain ⟨n, _, rfl⟩ := Option.map_eq_some_iff.mp h1
          exact eqBool_at
        have S19 : Mine.St g8 L1 (((64, tabObj ps) :: (203, tabObj qs) :: []) ++ frs10) h15 _ := S18.drop.drop
        clear S13 S14 S15 S16 S17 S18
        have hxl : (PySem.Str.ofString "10FFFF" ++ j ++ PySem.Str.ofString "D7FFE000").length ≤ 20 := by
          rw [PySem.Str.length_append, PySem.Str.length_append, ha, hb]; lia
        have hx7 : ∀ c ∈ (PySem.Str.ofString "10FFFF" ++ j ++ PySem.Str.ofString "D7FFE000").cps.toList, c < 128 := fun c hc => by
          have hc' : c ∈ ((PySem.Str.ofString "10FFFF").cps ++ j.cps ++ (PySem.Str.ofString "D7FFE000").cps).toList := hc
          rw [Array.toList_append, Array.toList_append, List.mem_append, List.mem_append] at hc'
          rcases hc' with (hc' | hc') | hc'
          · exact (by decide : ∀ c ∈ (PySem.Str.ofString "10FFFF").cps.toList, c < 128) c hc'
          · exact hj2 c hc'
          · exact (by decide : ∀ c ∈ (PySem.Str.ofString "D7FFE000").cps.toList, c < 128) c hc'
        generalize PySem.Str.ofString "10FFFF" ++ j ++ PySem.Str.ofString "D7FFE000" = x at S19 hxl hx7
        have k08 : Sub g g8 := k4.trans (k5.trans (k7.trans k8))
        walk_at "go"
        refine c_size (n := 4) hx7 hxl (by decide) (by decide) (HX.keeps k08) hbare B8 S19 ((Z1.up (hu2.trans (hu6.trans (hu9.trans hu10)))).le (by decide)) (T.keeps k08) (Tb.keeps k08) ?_
        intro g11 frs11 s11 ps11 qs11 k11 hu11 T11 Tb11 hbare11 hos11 S20
        (try k_fold)
        have B11 := B8.keeps k11
        walk_at "go"
        refine c_size (n := 6) hx7 hxl (by decide) (by decide) (HX.keeps (k08.trans k11)) hbare11 B11 S20 ((Z1.up (hu2.trans (hu6.trans (hu9.trans (hu10.trans hu11))))).le (by decide)) T11 Tb11 ?_
        intro g12 frs12 s12 ps12 qs12 k12 hu12 T12 Tb12 hbare12 hos12 S21
        (try k_fold)
        exact hret s12 ps12 qs12 ((k08.trans (k11.trans k12)).trans S21.keep) hbare12 (hos12.trans hos11) (S21.nw _ (.head _)) (S21.nw _ (.tail _ (.head _)))
end
end Mine

end
section
set_option maxHeartbeats 4000000
open PySem PySem.W PySem.W.X PyProof.Rows PySem.Calls PySem.Spec PySem.Builtin PySem.Builtin.Str
namespace Mine
noncomputable abbrev rw0 := PySem.Challenge.rw_ny0262_01
theorem kf283 (P : Params) : (Kf P).lookup 283 = some (o283 P) := rfl
theorem kf68 (P : Params) : (Kf P).lookup 68 = some (o68 P) := rfl
theorem kf207 (P : Params) : (Kf P).lookup 207 = some (o207 P) := rfl
theorem main_law (P : Params) : nsIn (Kf P) mainGlobals (PySem.Str.ofString "law") = some (some (.ref 283)) := by
  show nsIn (Kf P) mainGlobals (PySem.Str.ofString "law") = some (some (.ref 283))
  k_is
/-- the head's pin: law stands as its def is written -/
theorem pin_law {w : World} {s : Shared} {mb : PySem.Str → Option Value} (hg : s.heap.isNs mainGlobals = true) (B : Bs w (s.heap.nsMap mainGlobals) mb s.heap) : isTheDefsW prg s.heap (PySem.Str.ofString "law") := by
  refine ⟨283, _, _, _, _, _, (Pin.globalOf_eq hg _).trans (mg_of B.X B.G (main_law _)), B.X _ _ (kf283 _), rfl, by with_unfolding_all rfl, rfl, rfl, rfl, rfl, rfl, rfl, rfl, rfl, .inl ⟨rfl, rfl⟩, [], rfl, .inl ⟨rfl, rfl⟩⟩
theorem tab64 {w : World} {mg mb : PySem.Str → Option Value} {h : Heap} (B : Bs w mg mb h) : isCodeTable h 64 := ⟨68, _, _, B.X _ _ (kf68 _), rfl, rfl, rfl⟩
theorem tab203 {w : World} {mg mb : PySem.Str → Option Value} {h : Heap} (B : Bs w mg mb h) : isCodeTable h 203 := ⟨207, _, _, B.X _ _ (kf207 _), rfl, rfl, rfl⟩
theorem get_hide {h : Heap} {ps qs : Array Value} {a : Addr} {o : Obj} (h64 : h.get? 64 = some (tabObj ps)) (h203 : h.get? 203 = some (tabObj qs)) (e : h.get? a = some o) (hn : ∀ zs, o ≠ tabObj zs) : (hideAll h [64, 203]).get? a = some o := by
  refine hideAll_get _ e fun q => ?_
  rcases List.mem_cons.mp q with rfl | q
  · rw [h64] at e; exact hn _ (Option.some.inj e).symm
  · rw [List.mem_singleton.mp q, h203] at e; exact hn _ (Option.some.inj e).symm
theorem ns_hide {h : Heap} {ps qs : Array Value} {a : Addr} {m : PySem.Str → Option Value} (h64 : h.get? 64 = some (tabObj ps)) (h203 : h.get? 203 = some (tabObj qs)) (N : h.Ns a m) : (hideAll h [64, 203]).Ns a m := by
  obtain ⟨o, es, ep, ho, hd, r⟩ := N
  exact ⟨o, es, ep, get_hide h64 h203 ho (fun zs q => by rw [q] at hd; cases hd), hd, r⟩
theorem bs_hide {w : World} {mg mb : PySem.Str → Option Value} {h : Heap} {ps qs : Array Value} (h64 : h.get? 64 = some (tabObj ps)) (h203 : h.get? 203 = some (tabObj qs)) (B : Bs w mg mb h) : Bs w mg mb (hideAll h [64, 203]) := by
  refine ⟨fun a o e => ?_, ns_hide h64 h203 B.G, ns_hide h64 h203 B.B, ?_, B.builtins, ?_, ?_⟩
  · refine hideAll_get _ (B.X a o e) fun q => ?_
    rcases List.mem_cons.mp q with rfl | q
    · rw [show (Kf w.params).lookup 64 = none from rfl] at e; cases e
    · rw [List.mem_singleton.mp q, show (Kf w.params).lookup 203 = none from rfl] at e; cases e
  · obtain ⟨mc, h1, h2⟩ := B.nolimit
    exact ⟨mc, ns_hide h64 h203 h1, h2⟩
  · obtain ⟨mc, h1, h2⟩ := B.nodigits
    exact ⟨mc, ns_hide h64 h203 h1, h2⟩
  · obtain ⟨bm, ob, h1, h2, h3, h4, r⟩ := B.bmain
    exact ⟨bm, ob, h1, h2, get_hide h64 h203 h3 (fun zs q => by rw [q] at h4; cases h4), h4, r⟩
theorem call_law {w : World} {mg mb : PySem.Str → Option Value} {s₁ : Shared} {cl : PySem.Str → Option Addr} {mean : ExcName → Option Value} {args : List WData} {vals : List Value} {as : List Addr} (B : Bs w mg mb s₁.heap) (HX : HexSet prg w s₁.heap)
    (h64 : s₁.heap.get? 64 = some (tabObj #[])) (h203 : s₁.heap.get? 203 = some (tabObj #[])) (hgens : s₁.gens = #[]) (hpre : rw0.row.toRowW.claim.pre args = true) (hlay : WData.layableAll args = true)
    (hrd : ReadsAllW rw0.row.toRowW.records cl s₁.heap vals args as) (hwl : WellAll w.params s₁.heap vals args) (hlo : ∀ a ∈ as, (a == sysModules) = false) :
    wpAny (model prg w) callerA (PySem.call (.ref 283) vals) (fun v s' => GoodWG rw0.row.toRowW.claim cl mean args s₁ (.ok (.ret v)) s') (fun e s' => GoodWG rw0.row.toRowW.claim cl mean args s₁ (.error e) s') s₁ := by
  wrow_args hpre hlay hrd hwl hlo
  rename_i xs hs hlay0 hL1 hr1 hl2 as4 as3 l vs as0 hL ra w1 r0 hI hr hc1 hc2
  have hlen : vs.length ≤ 63 := by rw [hI.length]; lia
  obtain ⟨ol, ho, hcl, n, hd⟩ := hL
  have hl' : (hideAll s₁.heap [64, 203]).IsList l vs.toArray := ⟨ol, get_hide h64 h203 ho (fun zs q => by rw [q] at hcl; cases hcl), hcl, n, hd⟩
  have HX' : HexSet prg w (hideAll s₁.heap [64, 203]) := by
    obtain ⟨es, ep, t, e, r⟩ := HX
    exact ⟨es, ep, t, get_hide h64 h203 e (fun zs q => by cases q), r⟩
  have B' := bs_hide h64 h203 B
  refine c_law hl' hI hlen HX' (AllBare.of_eq hgens) B' (fun b o e => of_hideAll _ e) h64 h203 (hideAll_none _ (.head _)) (hideAll_none _ (.tail _ (.head _))) rfl (by decide) (by decide) rfl ⟨trivial, .inl rfl⟩ ⟨trivial, .inl rfl⟩ ?_
  intro s' ps' qs' hk hbare hos h64' h203'
  refine ⟨.inl ⟨.bool true, .bool true, [], rfl, fun cls => rfl, .bool true, by first | rfl | wrow_post, fun _ => ⟨List.nodup_nil, fun a h => (nomatch h)⟩⟩, ⟨fun b o e => ?_, fun b o e => ?_⟩, hos, hbare⟩
  · by_cases hb : b ∈ ([64, 203] : List Addr)
    · rcases List.mem_cons.mp hb with rfl | hb
      · rw [h64] at e; cases e
        exact .inr (.inl ⟨tab64 B, rfl, #[], ps', rfl, by rw [Array.empty_append]; exact h64'⟩)
      · obtain rfl := List.mem_singleton.mp hb
        rw [h203] at e; cases e
        exact .inr (.inl ⟨tab203 B, rfl, #[], qs', rfl, by rw [Array.empty_append]; exact h203'⟩)
    · exact .inl (hk _ _ (hideAll_get _ e hb))
  · by_cases hb : b ∈ ([64, 203] : List Addr)
    · rcases List.mem_cons.mp hb with rfl | hb
      · exact ⟨_, h64'⟩
      · obtain rfl := List.mem_singleton.mp hb
        exact ⟨_, h203'⟩
    · exact ⟨o, hk _ _ (hideAll_get _ e hb)⟩
/- the row is well said: a part at a time, by the library's quick twins -/
noncomputable abbrev pw := PySem.Challenge.rw_ny0262_01.row.prog
theorem said_a : (PySem.W.Fast.tw11788848310118352699 pw.main && ((PySem.W.Fast.tw9807087744658564304 pw.main.body).isEmpty || PySem.W.Fast.tw12862048085361865435 (PySem.W.Fast.tw9807087744658564304 pw.main.body) pw.main.body)) = true := by kernel_rfl
theorem said_b : PySem.W.Fast.tw8377067652309620493 pw = true := by kernel_rfl
theorem said_c : (pw.boundNames.all fun n => !worldNames.contains n) = true := by kernel_rfl
theorem said_d : PySem.W.Fast.tw8326940854005059898 { strict := !(importedModules pw.main.body).all cThrough.contains, foot := none, bare := (["vars", "dir", "locals"] : List Str).filter (readsOut pw pw.main.body) } pw.main.body = true := by kernel_rfl
theorem said_e : PySem.W.Fast.tw17119622794617984870 pw pw.main.body (fun _ n => PySem.W.Fast.tw17868728402115742887 n) = true := by kernel_rfl
theorem said_looks : looksOpen pw = true := by
  have a := said_a
  have b := said_b
  have d := said_d
  have e := said_e
  rw [← PySem.W.Fast.te11788848310118352699, ← PySem.W.Fast.te9807087744658564304, ← PySem.W.Fast.te12862048085361865435] at a
  rw [← PySem.W.Fast.te8377067652309620493] at b
  rw [← PySem.W.Fast.te8326940854005059898] at d
  rw [← PySem.W.Fast.te17119622794617984870, ← PySem.W.Fast.te17868728402115742887] at e
  unfold looksOpen
  rw [a, b, said_c, d, e]; rfl
theorem said_part : OpenRow.partSaid PySem.Challenge.rw_ny0262_01.row = true := by
  unfold OpenRow.partSaid
  rw [said_looks]
  kernel_rfl
theorem said_row : OpenRow.wellSaid PySem.Challenge.rw_ny0262_01.row = true := by
  unfold OpenRow.wellSaid
  rw [said_part]
  kernel_rfl
theorem said_ok : PySem.Challenge.rw_ny0262_01.wellSaid = true := by
  unfold OpenLaw.wellSaid
  rw [said_row, PySem.W.Fast.te8326940854005059898, PySem.W.Fast.te17119622794617984870]
  kernel_rfl
theorem row_holds (said : rw0.row.wellSaid = true) : rw0.row.Holds := by
  have hw : rw0.row.toRowW.promised := ⟨[.list []], by decide +kernel, by decide +kernel⟩
  refine ⟨said, hw, ⟨⟨⟨rfl, rfl, rfl, rfl, rfl, by decide +kernel⟩, by decide +kernel, rfl⟩, hw.witness, fun w => ⟨(left w).1, fun s' hs' => ?_⟩⟩⟩
  obtain ⟨s₀, hf, hg0, s, H⟩ := (left w).2 s' hs'
  refine ⟨s₀, hf, hg0, s, H.ran, fun n hn => ?_, fun x hx => (nomatch hx), fun x hx => (nomatch hx), ?_⟩
  · obtain rfl : n = PySem.Str.ofString "law" := by
      have hn' : n ∈ [PySem.Str.ofString "law"] := hn
      exact List.mem_singleton.mp hn'
    exact pin_law H.main H.base
  refine ClaimW.callFrom_of_specG (c := rw0.row.toRowW.claim) (tree := fun vs => do match ← nsGet mainNs rw0.row.toRowW.name with
      | some f => do ret (← PySem.call f vs)
      | none => unsupported "claim.caller:no-such-global") H.asleep H.gens fun args hpre hlay ord hord => ?_
  obtain ⟨⟨vs, s₁⟩, hlaid⟩ := Option.isSome_iff_exists.mp (layAllW_isSome (R := rw0.row.toRowW.records) (cl := classAt s.heap) (P := w.params) (ord := ord) (fun c hc => (nomatch hc)) args rw0.row.toRowW.args s (pre_splitW hpre).1)
  have keeps := layAllW_keeps _ _ _ hlaid
  have hal := layAllW_rest _ _ _ hlaid
  obtain ⟨as, hrd, hin, hold⟩ := reads_layAllW hord _ _ _ hlaid hlay s₁.heap (fun _ _ e => e)
  have L : Laid rw0.row.toRowW.records w s s₁ args vs as := ⟨⟨ord, hord, hlaid⟩, hrd, hin, hold, keeps, hal.1.trans H.gens, hal.2.2.1⟩
  have B1 := H.base.keeps keeps
  have hlow : sysModules < s.heap.objs.size := Heap.lt_size (H.t64) |> fun h => Nat.lt_trans (by decide) h
  have h := call_law (cl := classAt s.heap) (mean := ExcName.means s.heap) B1 (H.hex.keeps keeps) (keeps _ _ H.t64) (keeps _ _ H.t203) L.gens hpre hlay L.reads L.well (L.low hlow)
  have hi := ident_freeW (r := rw0.row.toRowW) rfl rfl rfl
  have hf283 : s.heap.nsMap mainGlobals (PySem.Str.ofString "law") = some (.ref 283) := mg_of H.base.X H.base.G (main_law _)
  refine ⟨vs, s₁, hlaid, ?_⟩
  refine wpAny_bind (wpAny_nsGet B1.G ?_)
  rw [show s.heap.nsMap mainGlobals rw0.row.toRowW.name = some (.ref 283) from hf283]
  show wpAny (model prg w) callerA (do ret (← PySem.call (.ref 283) vs)) _ _ s₁
  refine wpAny_bind (wpAny_mono h (fun v s' g => wpAny_pure ?_) fun e s' g => ?_)
  · have z := g.laid (c := rw0.row.toRowW.claim) rfl rfl hi L
    exact ⟨_, rfl, z.1, z.2.1, z.2.2, fun q => (nomatch q)⟩
  · have z := g.laid (c := rw0.row.toRowW.claim) rfl rfl hi L
    exact ⟨z.1, z.2.1, z.2.2, fun q => (nomatch q)⟩
end Mine
end
set_option maxRecDepth 100000 in
set_option maxHeartbeats 8000000 in
theorem PySem.Challenge.cw_ny0262_01_holds : PySem.Challenge.rw_ny0262_01.Holds := by
  exact holds_law Mine.said_ok fun said => Mine.row_holds said
