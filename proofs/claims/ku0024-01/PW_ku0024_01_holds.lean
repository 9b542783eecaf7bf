import PyProof.Rows.All
import Wide.All
import OpenK.AllK
import Wide.FinOn
import PyProof.AttrMissHeap
import PyProof.Draws
import PyProof.EnumMake
import PyProof.WalksU
import PyProof.IsiH_list
import PyProof.Rows.GenRowsF
import PyProof.ZipIter
import PyProof.StrCalls
import PyProof.StrCalls2
import PyProof.Rows.StrJoin2
import PyProof.Rows.Range3
import KE.BitLaws
import KE.IntBitsLaws
import KE.KAnyBase
import KE.KBits
import KE.KBytesUnr
import KE.KSlice
import KE.LcTurns
import KE.KLcTest
import KE.KNest
import KE.KLam
import KE.KTurns
import KE.KFromBytes
import KE.KPairTest
import KE.KRangeStep
import KE.KWhile
import KE.KxDecode
import Lean
import PySem.Challenge.RW_ku0024_01
open PySem PySem.W PyProof.Rows
set_option Elab.async false
set_option maxRecDepth 100000
set_option maxHeartbeats 0
set_option compiler.extract_closed false
set_option linter.unusedVariables false
namespace Mine
theorem left4 {p q : Program} {loose : List Str} {Xt : Shared → Bool} {α : Type} {Yf : Shared → α} {Ya : World → α} {N : Nat} (r1 r2 : String)
    (h1 : ∀ w : World, (openEnds treeTable p ((w.withFollow r2 false).withFollow r1 false) N).map (fun s => (openSeen q loose (importedModules p.main.body) Xt true s, Yf s)) = some (openGood q loose, Ya ((w.withFollow r2 false).withFollow r1 false)))
    (h2 : ∀ w : World, (openEnds treeTable p ((w.withFollow r2 true).withFollow r1 false) N).map (fun s => (openSeen q loose (importedModules p.main.body) Xt true s, Yf s)) = some (openGood q loose, Ya ((w.withFollow r2 true).withFollow r1 false)))
    (h3 : ∀ w : World, (openEnds treeTable p ((w.withFollow r2 false).withFollow r1 true) N).map (fun s => (openSeen q loose (importedModules p.main.body) Xt true s, Yf s)) = some (openGood q loose, Ya ((w.withFollow r2 false).withFollow r1 true)))
    (h4 : ∀ w : World, (openEnds treeTable p ((w.withFollow r2 true).withFollow r1 true) N).map (fun s => (openSeen q loose (importedModules p.main.body) Xt true s, Yf s)) = some (openGood q loose, Ya ((w.withFollow r2 true).withFollow r1 true))) : LeftO p q loose Xt Yf Ya N :=
  fun w => byRow2 (P := fun w => (openEnds treeTable p w N).map (fun s => (openSeen q loose (importedModules p.main.body) Xt true s, Yf s)) = some (openGood q loose, Ya w)) r1
    (fun w => byRow2 (P := fun w => (openEnds treeTable p (w.withFollow r1 false) N).map (fun s => (openSeen q loose (importedModules p.main.body) Xt true s, Yf s)) = some (openGood q loose, Ya (w.withFollow r1 false))) r2 h1 h2 w)
    (fun w => byRow2 (P := fun w => (openEnds treeTable p (w.withFollow r1 true) N).map (fun s => (openSeen q loose (importedModules p.main.body) Xt true s, Yf s)) = some (openGood q loose, Ya (w.withFollow r1 true))) r2 h3 h4 w) w
theorem ws1 : OpenLaw.wellSaid PySem.Challenge.rw_ku0024_01 = true := by kernel_rfl
section
local macro_rules
  | `(tactic| refine $f:ident $a1 $a2 $a3 $a4 $a5 $a6 $a7 $a8 ?$h:ident $b1 $b2 $b3 $b4 $b5 $b6 $b7 $b8 $b9 $b10 $b11 $b12 ?$h2:ident ?$h3:ident) => do
    if h.getId == `hl then `(tactic| (refine $f $a1 $a2 $a3 $a4 $a5 $a6 $a7 $a8 ?hl2 $b1 $b2 $b3 $b4 $b5 $b6 $b7 $b8 $b9 $b10 $b11 $b12 ?$h2 (by exact $(Lean.mkIdent `walk)); (case hl2 => (refine left4 "comprehension-iter-twice" "special-get-raises" ?_ ?_ ?_ ?_; exact $(Lean.mkIdent `w1); exact $(Lean.mkIdent `w2); exact $(Lean.mkIdent `w3); exact $(Lean.mkIdent `w4))))) else Lean.Macro.throwUnsupported
noncomputable def ex1 : (T : Prop) ×' (S1 : Prop) ×' (S2 : Prop) ×' (S3 : Prop) ×' (S4 : Prop) ×' (S1 → S2 → S3 → S4 → T → PySem.Challenge.rw_ku0024_01.Holds) := by
  refine' ⟨_, _, _, _, _, fun w1 w2 w3 w4 walk => ?main⟩
  case main =>
    w_on
    refine holds_law ws1 fun said => ?_
    k_head
    case hw => w_witness2
end
theorem way1 : ex1.2.1 := fun w => by kernel_rfl
theorem way2 : ex1.2.2.1 := fun w => by kernel_rfl
theorem way3 : ex1.2.2.2.1 := fun w => by kernel_rfl
theorem way4 : ex1.2.2.2.2.1 := fun w => by kernel_rfl
theorem off0 : True := by
  w_top off
  trivial
section
/-- a frame by a name -/
theorem use_let {g : Heap} {L : Addr} {h : Heap} {m : Str → Option Value} {P : Prop} (F : Fr g L h m) (k : let m' := m; Fr g L h m' → P) : P := k F
theorem frN {α : Type} {c : Prop} {d : Decidable c} {a b v : α} (h : ¬ c) (r : b = v) : (@ite α c d a b) = v := (if_neg h).trans r
/-- a fact of each member, one by one -/
theorem fmC {α : Type} {P : α → Prop} {a : α} {l : List α} (h : P a) (t : ∀ q ∈ l, P q) : ∀ q ∈ a :: l, P q := List.forall_mem_cons.mpr ⟨h, t⟩
theorem fm0 {α : Type} {P : α → Prop} : ∀ q ∈ ([] : List α), P q := nofun
theorem fmA {α : Type} {P : α → Prop} {a b : List α} (h : ∀ q ∈ a, P q) (t : ∀ q ∈ b, P q) : ∀ q ∈ a ++ b, P q := fun q hq => (List.mem_append.mp hq).elim (h q) (t q)

/-- a fact that stands aside -/
def Hid (p : Prop) : Prop := p
theorem hid {p : Prop} (h : p) : Hid p := h
theorem Hid.out {p : Prop} (h : Hid p) : p := h

theorem tn_add {k : Int} (h : 0 ≤ k) (n : Nat) {d : Int} (e : d = n) : (k + d).toNat = k.toNat + n := by rw [e, Int.toNat_add_nat h]
theorem tn_lt {L k d : Int} (hd : 0 < d) (h : k < L) : (L - (k + d)).toNat < (L - k).toNat := by omega
theorem tn_body {n : Nat} {k : Int} (h0 : 0 ≤ k) (h : k < n) : k.toNat < n := by omega
theorem tn_body' {n a : Nat} {k : Int} (h0 : 0 ≤ k) (h : k.toNat + a < n) : k + (a : Int) < n := by omega

theorem w_turn {kk t i : Nat} (h : (kk : Int) + 6 * t = 8 * i + 8) (h6 : 6 ≤ (kk : Int)) : ((kk : Int) - 6).toNat = kk - 6 ∧ 8 * i + 8 - 6 * (t + 1) = ((kk : Int) - 6).toNat ∧ ((kk : Int) - 6).toNat < ((kk : Int)).toNat := by
  have hN : kk + 6 * t = 8 * i + 8 := by exact_mod_cast h
  have h7 : 6 ≤ kk := Int.ofNat_le.mp h6
  have e : ((kk : Int) - 6).toNat = kk - 6 := Int.toNat_sub kk 6
  rw [e]
  clear e h h6
  refine ⟨rfl, by rw [← hN]; omega, Nat.sub_lt (Nat.lt_of_lt_of_le (by decide) h7) (by decide)⟩

/-- the goal stands aside under a name while facts are opened -/
theorem useG {G : Prop} (k : ∀ P : Prop, (G → P) → P) : G := k G id
end

section
theorem min_le_line {a b c : Nat} (h : b ≤ 4) : min (min a b) c ≤ 16777216 := Nat.le_trans (Nat.min_le_left _ _) (Nat.le_trans (Nat.min_le_right _ _) (Nat.le_trans h (by decide)))
theorem min_le_line1 {a b : Nat} (h : b ≤ 4) : min a b ≤ 16777216 := Nat.le_trans (Nat.min_le_right _ _) (Nat.le_trans h (by decide))
theorem tn0 (j : Nat) : ((0 : Int) + (j : Int)).toNat = j := by rw [Int.zero_add]; rfl
theorem seven_len (n : Nat) : min 7 n + (7 - n) = 7 := by
  rcases Nat.le_total 7 n with h | h
  · rw [Nat.min_eq_left h, Nat.sub_eq_zero_of_le h]
  · rw [Nat.min_eq_right h, Nat.add_sub_cancel' h]
theorem led_in9 {d : Addr × Obj} (P : List (Addr × Obj)) {ts B T : List (Addr × Obj)} : ∀ q ∈ P ++ ((d :: (ts ++ B)) ++ T), q ∈ d :: (P ++ (ts ++ (B ++ T))) :=
  fmA (fun _ h => .tail _ (List.mem_append_left _ h)) (fmA (fmC (.head _) (fmA (fun _ h => .tail _ (List.mem_append_right _ (List.mem_append_left _ h))) (fun _ h => .tail _ (List.mem_append_right _ (List.mem_append_right _ (List.mem_append_left _ h)))))) (fun _ h => .tail _ (List.mem_append_right _ (List.mem_append_right _ (List.mem_append_right _ h)))))
theorem led_or9 {d : Addr × Obj} (P : List (Addr × Obj)) {ts W : List (Addr × Obj)} : ∀ p ∈ P ++ ((ts ++ [d]) ++ W), p = d ∨ p ∈ P ++ (ts ++ W) :=
  fmA (fun _ h => .inr (List.mem_append_left _ h)) (fmA (fmA (fun _ h => .inr (List.mem_append_right _ (List.mem_append_left _ h))) (fmC (.inl rfl) fm0)) (fun _ h => .inr (List.mem_append_right _ (List.mem_append_right _ h))))
theorem led_own9 {a b : Addr × Obj} (P : List (Addr × Obj)) {ts B own : List (Addr × Obj)} : ∀ q ∈ a :: b :: own, q ∈ a :: b :: (P ++ (ts ++ (B ++ own))) :=
  fmC (.head _) (fmC (.tail _ (.head _)) (fun _ h => .tail _ (.tail _ (List.mem_append_right _ (List.mem_append_right _ (List.mem_append_right _ h))))))
end

section
theorem allLt_ne {d e : Addr} : ∀ {l : List (Addr × Obj)}, AllLt d l → @LE.le Nat _ d e → ∀ p ∈ l, p.1 ≠ e := by
  intro l
  induction l with
  | nil => intro _ _ p hp; cases hp
  | cons q r ih =>
    intro h he p hp
    rcases List.mem_cons.mp hp with h1 | h1
    · rw [h1]; exact Nat.ne_of_lt (Nat.lt_of_lt_of_le h.1 he)
    · exact ih h.2 he p h1
theorem use_led {g : Heap} {L : Addr} {h : Heap} {Λ : List (Addr × Obj)} {P : Prop} (C : List (Addr × Obj) → Prop) (_N : News g L h Λ) (key : C Λ) (rest : C Λ → P) : P := rest key
/-- little-endian digits to a number -/
def dval (n : Nat) : List Int → Int
  | [] => 0
  | d :: r => d + dval n r * 2 ^ n
theorem dval_append (n : Nat) (a b : List Int) : dval n (a ++ b) = dval n a + dval n b * 2 ^ (n * a.length) := by
  induction a with
  | nil => simp [dval]
  | cons d r ih =>
    simp only [List.cons_append, dval, ih, List.length_cons, Nat.mul_add, Nat.mul_one, Int.pow_add, Int.add_mul]
    rw [Int.mul_assoc, Int.add_assoc]
theorem dval_nonneg (n : Nat) (a : List Int) (h : ∀ d ∈ a, 0 ≤ d) : 0 ≤ dval n a := by
  induction a with
  | nil => simp [dval]
  | cons d r ih =>
    have h1 := h d (.head _)
    have h2 := ih fun x hx => h x (.tail _ hx)
    simp only [dval]
    have : 0 ≤ dval n r * 2 ^ n := Int.mul_nonneg h2 (Int.pow_nonneg (by decide))
    omega
theorem dval_lt (n : Nat) (a : List Int) (h : ∀ d ∈ a, 0 ≤ d ∧ d < 2 ^ n) : dval n a < 2 ^ (n * a.length) := by
  induction a with
  | nil => simp [dval]
  | cons d r ih =>
    have h1 := h d (.head _)
    have h2 := ih fun x hx => h x (.tail _ hx)
    simp only [dval, List.length_cons, Nat.mul_add, Nat.mul_one, Int.pow_add]
    have h3 : (dval n r + 1) * 2 ^ n ≤ 2 ^ (n * r.length) * 2 ^ n := Int.mul_le_mul_of_nonneg_right (by omega) (Int.pow_nonneg (by decide))
    rw [Int.add_mul] at h3
    omega

theorem mid_facts {lo hi : Int} {d : Nat} (h1 : lo < hi) (hne : lo + 1 ≠ hi) (h0 : 0 ≤ lo) (h3 : hi - lo ≤ 2 ^ (d + 1)) :
    lo < (lo + hi).fdiv (2 ^ Int.toNat 1) ∧ (lo + hi).fdiv (2 ^ Int.toNat 1) < hi ∧ hi - (lo + hi).fdiv (2 ^ Int.toNat 1) ≤ 2 ^ d ∧ (lo + hi).fdiv (2 ^ Int.toNat 1) - lo ≤ 2 ^ d := by
  have e : (lo + hi).fdiv (2 ^ Int.toNat 1) = (lo + hi) / 2 := by
    have : (2 ^ Int.toNat 1 : Int) = 2 := by decide
    rw [this, Int.fdiv_eq_ediv_of_nonneg _ (by decide)]
  rw [e]
  have h4 : (2 : Int) ^ (d + 1) = 2 * 2 ^ d := by rw [Int.pow_succ]; omega
  rw [h4] at h3
  generalize (2 : Int) ^ d = P at h3 ⊢
  omega

theorem dval_bits {n : Nat} {ns : List Int} (hns : ∀ x ∈ ns, 0 ≤ x ∧ x < 2 ^ n) (hn : n < 100) (hl : ns.length < 100) (i j : Nat) : Builtin.Int.intBits (dval n ((ns.drop i).take j)) ≤ 10000 := by
  have hm : ∀ x ∈ (ns.drop i).take j, 0 ≤ x ∧ x < 2 ^ n := fun x hx => hns x (List.mem_of_mem_drop (List.mem_of_mem_take hx))
  have h0 := dval_nonneg n _ fun x hx => (hm x hx).1
  have h1 := dval_lt n _ hm
  have hlen : ((ns.drop i).take j).length ≤ 100 := by simp only [List.length_take, List.length_drop]; omega
  have h2 : n * ((ns.drop i).take j).length ≤ 10000 := Nat.le_trans (Nat.mul_le_mul (Nat.le_of_lt hn) hlen) (by decide)
  refine PySem.intBits_le_iff.mpr ?_
  have h3 : (2 : Nat) ^ (n * ((ns.drop i).take j).length) ≤ 2 ^ 10000 := Nat.pow_le_pow_right (by decide) h2
  refine Nat.lt_of_lt_of_le ?_ h3
  generalize n * ((ns.drop i).take j).length = k at h1
  have e : ((2 : Int) ^ k) = ((2 ^ k : Nat) : Int) := by simp
  rw [e] at h1
  generalize (2 : Nat) ^ k = P at h1 ⊢
  omega
theorem shift_facts {lo mid hi : Int} {n : Nat} (h0 : 0 ≤ lo) (h1 : lo < mid) (h2 : mid < hi) (h3 : hi ≤ 100) (hn : n < 100) : 0 ≤ (mid - lo) * (n : Int) ∧ (mid - lo) * (n : Int) ≤ 10000 := by
  constructor
  · exact Int.mul_nonneg (by omega) (by omega)
  · have := Int.mul_le_mul (a := mid - lo) (b := (n : Int)) (c := 100) (d := 100) (by omega) (by omega) (by omega) (by omega)
    omega
theorem tn_split {lo mid hi : Int} (h1 : lo < mid) (h2 : mid < hi) : (hi - lo).toNat = (mid - lo).toNat + (hi - mid).toNat := by
  rw [← Int.toNat_add (Int.sub_nonneg_of_le (Int.le_of_lt h1)) (Int.sub_nonneg_of_le (Int.le_of_lt h2))]
  congr 1; omega
theorem tn_mid {lo mid : Int} (h0 : 0 ≤ lo) (h1 : lo < mid) : mid.toNat = lo.toNat + (mid - lo).toNat := by
  rw [← Int.toNat_add h0 (Int.sub_nonneg_of_le (Int.le_of_lt h1))]
  congr 1; omega
theorem tn_top {lo mid : Int} {n : Nat} (h0 : 0 ≤ lo) (h1 : lo < mid) (h3 : mid ≤ n) : lo.toNat + (mid - lo).toNat ≤ n := by
  rw [← tn_mid h0 h1]; exact Int.toNat_le.mpr h3
theorem tn_mul {lo mid : Int} {n : Nat} (h1 : lo < mid) : ((mid - lo) * (n : Int)).toNat = n * (mid - lo).toNat := by
  have : (mid - lo) * (n : Int) = ((n * (mid - lo).toNat : Nat) : Int) := by
    rw [Int.natCast_mul, Int.toNat_of_nonneg (Int.sub_nonneg_of_le (Int.le_of_lt h1)), Int.mul_comm]
  rw [this]; rfl
theorem dval_mid {n : Nat} {ns : List Int} {lo mid hi : Int} (h0 : 0 ≤ lo) (h1 : lo < mid) (h2 : mid < hi) (h3 : hi ≤ ns.length) :
    dval n ((ns.drop mid.toNat).take (hi - mid).toNat) * 2 ^ ((mid - lo) * (n : Int)).toNat + dval n ((ns.drop lo.toNat).take (mid - lo).toNat) = dval n ((ns.drop lo.toNat).take (hi - lo).toNat) := by
  rw [tn_split h1 h2, List.take_add, dval_append, List.drop_drop, ← tn_mid h0 h1, tn_mul h1, List.length_take, List.length_drop,
    Nat.min_eq_left (Nat.le_sub_of_add_le' (tn_top h0 h1 (Int.le_trans (Int.le_of_lt h2) h3)))]
  exact Int.add_comm _ _
theorem dval_one {n : Nat} {ns : List Int} {lo hi : Int} (h0 : 0 ≤ lo) (h1 : lo + 1 = hi) (h3 : hi ≤ ns.length) : ns.getD lo.toNat 0 = dval n ((ns.drop lo.toNat).take (hi - lo).toNat) := by
  have e1 : (hi - lo).toNat = 1 := by omega
  have h : lo.toNat < ns.length := by omega
  rw [e1, List.drop_eq_getElem_cons h, List.getD_eq_getElem?_getD, List.getElem?_eq_getElem h]
  show ns[lo.toNat] = ns[lo.toNat] + 0 * 2 ^ n
  omega
end

section
/-- a call that may change the ledger -/
def CallsTo (w : World) (p : Program) (loose : List Str) (mean : ExcName → Option Value) (mg mb : Str → Option Value) (base₀ : Heap → Prop) (Λ : List (Addr × Obj)) (f : Addr) (args : List Value) (D U : Nat) (R : Value → List (Addr × Obj) → Prop) : Prop :=
  ∀ (dp un : Nat) (gd : Option (List Code)) (cn : Str) (cs : Scope) (a : Addr) (ccd : Value) (cl : List (Str × Addr)) (outer : List Env) (A₀ : Around) (base h₀ : Heap) (L : Addr) (m : Str → Option Value) (s : Shared) (Q E : Value → Shared → Prop),
    Below A₀ base outer h₀ → base₀ base → Fr h₀ L s.heap m → (ex1.heap_1 w.params).In h₀ → News h₀ L s.heap Λ → Top p loose mean mg mb h₀ → cs.kind = .function → dp + D < recursionLimit → un + U < cLine →
    (∀ v Λ' h' tk', Fr h₀ L h' m → News h₀ L h' Λ' → R v Λ' → Q v { s with heap := h', toks := tk' }) →
    wpAny (model PySem.Challenge.rw_ku0024_01.row.prog w) (ktrTop dp un gd cn cs L a ccd cl outer) (call (.ref f) args) Q E s

/-- a code table: nothing yet, or the one inner def's code -/
def TabIs (q : Str) (ln col : Nat) (P : Addr) (T : List (Addr × Obj)) : Prop :=
  T = [(P, tabObj #[])] ∨ ∃ c' oc vs t, T = [(P, tabObj #[rawInt ln, rawInt col, .ref c']), (c', oc)] ∧ @LT.lt Nat _ 160 c' ∧ oc.data = .fields vs ∧ vs[1]? = some (.str q t)

theorem perm3 {g h : Heap} {L : Addr} {x1 x2 y : Addr × Obj} {r : List (Addr × Obj)} (N : News g L h (x1 :: x2 :: y :: r)) : News g L h (y :: x1 :: x2 :: r) := by
  intro p hp; apply N; simp only [List.mem_cons] at hp ⊢
  rcases hp with h | h | h | h <;> simp [h]
theorem perm2 {g h : Heap} {L : Addr} {x1 y : Addr × Obj} {r : List (Addr × Obj)} (N : News g L h (x1 :: y :: r)) : News g L h (y :: x1 :: r) := by
  intro p hp; apply N; simp only [List.mem_cons] at hp ⊢
  rcases hp with h | h | h <;> simp [h]
abbrev Tab54 := TabIs "_int2digits.<locals>.inner" 36 4 54
abbrev Tab61 := TabIs "_digits2int.<locals>.inner" 51 4 61
abbrev tup2 (x y : Value) (k : Nat) : Obj := {cls := .type "tuple", data := .seq #[x, y] k}
def Hi (l : List (Addr × Obj)) : Prop := ∀ q ∈ l, @Ne Nat q.1 54 ∧ @Ne Nat q.1 61
theorem hi_of {h₀ h : Heap} {L : Addr} {m : Str → Option Value} {o : Obj} (F : Fr h₀ L h m) (e : h₀.get? 172 = some o) : @LT.lt Nat _ 172 L := Nat.lt_of_lt_of_le (Heap.lt_size e) F.above
theorem Hi.ne {l : List (Addr × Obj)} {P : Addr} (h : Hi l) (hP : @Eq Nat P 54 ∨ @Eq Nat P 61) : ∀ q ∈ l, q.1 ≠ P := fun q hq e => by
  rcases hP with h1 | h1
  · exact (h q hq).1 (e.trans h1)
  · exact (h q hq).2 (e.trans h1)
/-- from a table to a table; a full one stays -/
def TabTo (q : Str) (ln col : Nat) (P : Addr) (T T' : List (Addr × Obj)) : Prop := TabIs q ln col P T' ∧ (2 ≤ T.length → T' = T)
abbrev To54 := TabTo "_int2digits.<locals>.inner" 36 4 54
abbrev To61 := TabTo "_digits2int.<locals>.inner" 51 4 61
theorem TabTo.refl {q : Str} {ln col : Nat} {P : Addr} {T : List (Addr × Obj)} (h : TabIs q ln col P T) : TabTo q ln col P T T := ⟨h, fun _ => rfl⟩
theorem TabTo.trans {q : Str} {ln col : Nat} {P : Addr} {T T' T'' : List (Addr × Obj)} (h : TabTo q ln col P T T') (h' : TabTo q ln col P T' T'') : TabTo q ln col P T T'' := ⟨h'.1, fun e => by have e1 := h.2 e; rw [h'.2 (by rw [e1]; exact e), e1]⟩
theorem TabIs.ne {q : Str} {ln col : Nat} {P P' : Addr} {T : List (Addr × Obj)} (h : TabIs q ln col P T) (hP : @LE.le Nat _ P' 160) (hne : P ≠ P') : ∀ q ∈ T, q.1 ≠ P' := by
  intro x hx
  rcases h with rfl | ⟨c', oc, vs, t, rfl, h1, _, _⟩
  · simp only [List.mem_singleton] at hx; rw [hx]; exact hne
  · simp only [List.mem_cons, List.not_mem_nil, or_false] at hx
    rcases hx with rfl | rfl
    · exact hne
    · exact fun e => by simp only at e; rw [e] at h1; exact absurd h1 (Nat.not_lt.mpr hP)
theorem ne_app {a b : List (Addr × Obj)} {P : Addr} (ha : ∀ q ∈ a, q.1 ≠ P) (hb : ∀ q ∈ b, q.1 ≠ P) : ∀ q ∈ a ++ b, q.1 ≠ P := fun q hq => (List.mem_append.mp hq).elim (ha q) (hb q)
theorem ne_cons {x : Addr × Obj} {b : List (Addr × Obj)} {P : Addr} (ha : x.1 ≠ P) (hb : ∀ q ∈ b, q.1 ≠ P) : ∀ q ∈ x :: b, q.1 ≠ P := fun q hq => (List.mem_cons.mp hq).elim (fun e => e ▸ ha) (hb q)

/-- as CallsTo, with keywords -/
def CallsToK (w : World) (p : Program) (loose : List Str) (mean : ExcName → Option Value) (mg mb : Str → Option Value) (base₀ : Heap → Prop) (Λ : List (Addr × Obj)) (f : Addr) (args : List Value) (kw : List (Str × Value)) (D U : Nat) (R : Value → List (Addr × Obj) → Prop) : Prop :=
  ∀ (dp un : Nat) (gd : Option (List Code)) (cn : Str) (cs : Scope) (a : Addr) (ccd : Value) (cl : List (Str × Addr)) (outer : List Env) (A₀ : Around) (base h₀ : Heap) (L : Addr) (m : Str → Option Value) (s : Shared) (Q E : Value → Shared → Prop),
    Below A₀ base outer h₀ → base₀ base → Fr h₀ L s.heap m → (ex1.heap_1 w.params).In h₀ → News h₀ L s.heap Λ → Top p loose mean mg mb h₀ → cs.kind = .function → dp + D < recursionLimit → un + U < cLine →
    (∀ v Λ' h' tk', Fr h₀ L h' m → News h₀ L h' Λ' → R v Λ' → Q v { s with heap := h', toks := tk' }) →
    wpAny (model PySem.Challenge.rw_ku0024_01.row.prog w) (ktrTop dp un gd cn cs L a ccd cl outer) (call (.ref f) args kw) Q E s
end

section
theorem nat_and_high (x k : Nat) : x &&& (x / 2 ^ k * 2 ^ k) = x / 2 ^ k * 2 ^ k := by
  rw [← Nat.shiftRight_eq_div_pow, ← Nat.shiftLeft_eq]
  apply Nat.eq_of_testBit_eq
  intro i
  simp only [Nat.testBit_and, Nat.testBit_shiftLeft, Nat.testBit_shiftRight]
  by_cases h : k ≤ i
  · have : k + (i - k) = i := by omega
    simp [this, h]
  · simp [h]
theorem xor_low {x : Int} (hx : 0 ≤ x) (k : Nat) : Builtin.bitXor x (x.fdiv (2 ^ k) * 2 ^ k) = x % 2 ^ k := by
  obtain ⟨n, rfl⟩ := Int.eq_ofNat_of_zero_le hx
  have e : (n : Int).fdiv (2 ^ k) * 2 ^ k = ((n / 2 ^ k * 2 ^ k : Nat) : Int) := by
    rw [Int.fdiv_eq_ediv_of_nonneg _ (Int.pow_nonneg (by decide))]; simp
  rw [bitXor_and, e]
  have e2 : Builtin.bitAnd (n : Int) ((n / 2 ^ k * 2 ^ k : Nat) : Int) = ((n / 2 ^ k * 2 ^ k : Nat) : Int) := by
    unfold Builtin.bitAnd
    have h1 : (0 : Int) ≤ (n : Int) := by omega
    have h2 : (0 : Int) ≤ ((n / 2 ^ k * 2 ^ k : Nat) : Int) := Int.natCast_nonneg _
    simp only [h1, h2, decide_true, Int.toNat_natCast]
    rw [nat_and_high]
  rw [e2]
  have e3 : ((n : Int) % 2 ^ k) = ((n % 2 ^ k : Nat) : Int) := by simp
  rw [e3]
  have := Nat.div_add_mod n (2 ^ k)
  rw [Nat.mul_comm] at this
  omega
theorem emod_mul_div (x : Int) {a b : Int} (ha : 0 < a) : x % (a * b) / a = x / a % b := by
  rw [Int.emod_def, Int.emod_def (x / a), ← Int.ediv_ediv_of_nonneg (Int.le_of_lt ha)]
  generalize x / a / b = q
  have : x - a * b * q = x + a * (-(b * q)) := by rw [Int.mul_assoc, Int.mul_neg]; omega
  rw [this, Int.add_mul_ediv_left _ _ (Int.ne_of_gt ha)]
  omega
/-- k digits of x, n bits each, the lowest first -/
def digs (n : Nat) : Nat → Int → List Int
  | 0, _ => []
  | k + 1, x => x % 2 ^ n :: digs n k (x / 2 ^ n)
theorem digs_length (n k : Nat) : ∀ x, (digs n k x).length = k := by
  induction k with
  | zero => intro x; rfl
  | succ k ih => intro x; simp [digs, ih]
theorem digs_mem (n k : Nat) : ∀ x, ∀ d ∈ digs n k x, 0 ≤ d ∧ d < 2 ^ n := by
  have hp : (0 : Int) < 2 ^ n := Int.pow_pos (by decide)
  induction k with
  | zero => intro x d hd; cases hd
  | succ k ih =>
    intro x d hd
    rcases List.mem_cons.mp hd with h | h
    · rw [h]; exact ⟨Int.emod_nonneg _ (Int.ne_of_gt hp), Int.emod_lt_of_pos _ hp⟩
    · exact ih _ d h
theorem digs_add (n j k : Nat) : ∀ x : Int, digs n (j + k) x = digs n j (x % 2 ^ (n * j)) ++ digs n k (x / 2 ^ (n * j)) := by
  induction j with
  | zero => intro x; simp [digs, Nat.zero_add]
  | succ j ih =>
    intro x
    have hp : (0 : Int) < 2 ^ n := Int.pow_pos (by decide)
    have e1 : j + 1 + k = (j + k) + 1 := by omega
    have e2 : (2 : Int) ^ (n * (j + 1)) = 2 ^ n * 2 ^ (n * j) := by rw [Nat.mul_add, Nat.mul_one, Int.pow_add, Int.mul_comm]
    have e3 : x % 2 ^ (n * (j + 1)) % 2 ^ n = x % 2 ^ n := by rw [e2]; exact Int.emod_emod_of_dvd _ (Int.dvd_mul_right _ _)
    have e4 : x % 2 ^ (n * (j + 1)) / 2 ^ n = x / 2 ^ n % 2 ^ (n * j) := by rw [e2]; exact emod_mul_div x hp
    have e5 : x / 2 ^ (n * (j + 1)) = x / 2 ^ n / 2 ^ (n * j) := by rw [e2, Int.ediv_ediv_of_nonneg (Int.le_of_lt hp)]
    rw [e1]
    simp only [digs, ih, List.cons_append, e3, e4, e5]
theorem dval_digs (n k : Nat) : ∀ x : Int, 0 ≤ x → x < 2 ^ (n * k) → dval n (digs n k x) = x := by
  induction k with
  | zero => intro x h0 h1; simp [digs, dval] at h1 ⊢; omega
  | succ k ih =>
    intro x h0 h1
    have hp : (0 : Int) < 2 ^ n := Int.pow_pos (by decide)
    have h2 : x / 2 ^ n < 2 ^ (n * k) := by
      rw [Nat.mul_add, Nat.mul_one, Int.pow_add] at h1
      exact Int.ediv_lt_of_lt_mul hp h1
    simp only [digs, dval]
    rw [ih _ (Int.ediv_nonneg h0 (Int.le_of_lt hp)) h2]
    have := Int.emod_add_mul_ediv x (2 ^ n)
    rw [Int.mul_comm] at this
    exact this
/-- the list with k digits of x from place lo on -/
def putD (n : Nat) (ns : List Int) (lo k : Nat) (x : Int) : List Int := ns.take lo ++ digs n k x ++ ns.drop (lo + k)
theorem putD_length {n : Nat} {ns : List Int} {lo k : Nat} {x : Int} (h : lo + k ≤ ns.length) : (putD n ns lo k x).length = ns.length := by
  simp only [putD, List.length_append, List.length_take, List.length_drop, digs_length]; omega
theorem putD_one {n : Nat} {ns : List Int} {lo : Nat} {x : Int} (h : lo < ns.length) (h0 : 0 ≤ x) (h1 : x < 2 ^ n) : ns.set lo x = putD n ns lo 1 x := by
  have : x % 2 ^ n = x := Int.emod_eq_of_lt h0 h1
  simp only [putD, digs, this]
  rw [List.set_eq_take_append_cons_drop, if_pos h]
  simp
theorem putD_two {n : Nat} {ns : List Int} {lo j k : Nat} {x : Int} (h : lo + j + k ≤ ns.length) :
    putD n (putD n ns lo j (x % 2 ^ (n * j))) (lo + j) k (x / 2 ^ (n * j)) = putD n ns lo (j + k) x := by
  have hl : (List.take lo ns ++ digs n j (x % 2 ^ (n * j))).length = lo + j := by
    simp only [List.length_append, List.length_take, digs_length]; omega
  have e1 : (putD n ns lo j (x % 2 ^ (n * j))).take (lo + j) = ns.take lo ++ digs n j (x % 2 ^ (n * j)) := by
    unfold putD
    rw [← hl, List.take_left']
    rw [hl]
  have e2 : (putD n ns lo j (x % 2 ^ (n * j))).drop (lo + j + k) = ns.drop (lo + (j + k)) := by
    unfold putD
    rw [List.drop_append, hl, List.drop_eq_nil_of_le (by omega), List.nil_append, List.drop_drop]
    congr 1; omega
  unfold putD at e1 e2 ⊢
  rw [e1, e2, digs_add]
  simp only [List.append_assoc]

theorem shift_facts2 {lo mid hi : Int} {n : Nat} (h0 : 0 ≤ lo) (h1 : lo < mid) (h2 : mid < hi) (h3 : hi ≤ 200) (hn : n < 100) : 0 ≤ (mid - lo) * (n : Int) ∧ (mid - lo) * (n : Int) ≤ 20000 := by
  constructor
  · exact Int.mul_nonneg (by omega) (by omega)
  · have := Int.mul_le_mul (a := mid - lo) (b := (n : Int)) (c := 200) (d := 100) (by omega) (by omega) (by omega) (by omega)
    omega
theorem low_facts {x lo mid hi : Int} {n : Nat} (hx : 0 ≤ x) (hb : Builtin.Int.intBits x ≤ 200) (h1 : lo < mid) (h2 : mid < hi) (hlt : x < 2 ^ (n * (hi - lo).toNat)) :
    Builtin.bitXor x (x.fdiv (2 ^ ((mid - lo) * (n : Int)).toNat) * 2 ^ ((mid - lo) * (n : Int)).toNat) = x % 2 ^ (n * (mid - lo).toNat) ∧
    0 ≤ x % 2 ^ (n * (mid - lo).toNat) ∧ x % 2 ^ (n * (mid - lo).toNat) < 2 ^ (n * (mid - lo).toNat) ∧ Builtin.Int.intBits (x % 2 ^ (n * (mid - lo).toNat)) ≤ 200 ∧
    x.fdiv (2 ^ ((mid - lo) * (n : Int)).toNat) = x / 2 ^ (n * (mid - lo).toNat) ∧
    0 ≤ x / 2 ^ (n * (mid - lo).toNat) ∧ x / 2 ^ (n * (mid - lo).toNat) < 2 ^ (n * (hi - mid).toNat) ∧ Builtin.Int.intBits (x / 2 ^ (n * (mid - lo).toNat)) ≤ 200 := by
  have e3 := tn_mul (n := n) h1
  have e4 : n * (hi - lo).toNat = n * (mid - lo).toNat + n * (hi - mid).toNat := by
    rw [← Nat.mul_add, tn_split h1 h2]
  rw [e3]
  rw [e4, Int.pow_add] at hlt
  generalize n * (mid - lo).toNat = K at hlt ⊢
  have hp : (0 : Int) < 2 ^ K := Int.pow_pos (by decide)
  have hf : x.fdiv (2 ^ K) = x / 2 ^ K := Int.fdiv_eq_ediv_of_nonneg _ (Int.le_of_lt hp)
  have m0 := Int.emod_nonneg x (Int.ne_of_gt hp)
  have m1 : x % 2 ^ K ≤ x := by
    have a1 := Int.emod_add_mul_ediv x (2 ^ K)
    have a2 : 0 ≤ 2 ^ K * (x / 2 ^ K) := Int.mul_nonneg (Int.le_of_lt hp) (Int.ediv_nonneg hx (Int.le_of_lt hp))
    omega
  have d0 := Int.ediv_nonneg hx (Int.le_of_lt hp)
  have d1 : x / 2 ^ K ≤ x := Int.ediv_le_self _ hx
  refine ⟨xor_low hx K, m0, Int.emod_lt_of_pos _ hp, intBits_le_of_natAbs (by omega) hb, hf, d0, ?_, intBits_le_of_natAbs (by omega) hb⟩
  exact Int.ediv_lt_of_lt_mul hp (by rw [Int.mul_comm]; exact hlt)
theorem nd_facts {x : Int} {n : Nat} (hx : 0 ≤ x) (hb : Builtin.Int.intBits x ≤ 200) (hn0 : 0 < n) (hn1 : n < 100) :
    ((Builtin.Int.intBits x : Int) + n - 1).fdiv n = ((Builtin.Int.intBits x + n - 1) / n : Nat) ∧ (Builtin.Int.intBits x + n - 1) / n ≤ 200 ∧ x < 2 ^ (n * ((Builtin.Int.intBits x + n - 1) / n)) ∧ (x ≠ 0 → 0 < (Builtin.Int.intBits x + n - 1) / n) ∧ (x = 0 → (Builtin.Int.intBits x + n - 1) / n = 0) := by
  have h1 : (Builtin.Int.intBits x : Int) + n - 1 = ((Builtin.Int.intBits x + n - 1 : Nat) : Int) := by omega
  have hlt : x.natAbs < 2 ^ Builtin.Int.intBits x := intBits_le_iff.mp (Nat.le_refl _)
  refine ⟨?_, ?_, ?_, ?_, ?_⟩
  · rw [h1, Int.fdiv_eq_ediv_of_nonneg _ (by omega)]; rfl
  · refine Nat.le_trans (Nat.div_le_of_le_mul (n := 200) (m := Builtin.Int.intBits x + n - 1) (k := n) ?_) (Nat.le_refl _)
    generalize Builtin.Int.intBits x = b at hb
    have : b ≤ n * b := Nat.le_mul_of_pos_left _ hn0
    have h2 : n * 200 = n * 199 + n := by omega
    have h3 : n * 1 ≤ n * 199 := Nat.mul_le_mul_left _ (by decide)
    have h4 : 1 * 199 ≤ n * 199 := Nat.mul_le_mul_right _ hn0
    omega
  · have h2 : Builtin.Int.intBits x ≤ n * ((Builtin.Int.intBits x + n - 1) / n) := by
      generalize Builtin.Int.intBits x = b
      have := Nat.div_add_mod (b + n - 1) n
      have := Nat.mod_lt (b + n - 1) hn0
      omega
    have h3 : (2 : Nat) ^ Builtin.Int.intBits x ≤ 2 ^ (n * ((Builtin.Int.intBits x + n - 1) / n)) := Nat.pow_le_pow_right (by decide) h2
    have h4 : x.natAbs < 2 ^ (n * ((Builtin.Int.intBits x + n - 1) / n)) := Nat.lt_of_lt_of_le hlt h3
    generalize n * ((Builtin.Int.intBits x + n - 1) / n) = K at h4
    have e : ((2 : Int) ^ K) = ((2 ^ K : Nat) : Int) := by simp
    rw [e]; omega
  · intro hne
    have : 0 < Builtin.Int.intBits x := by
      rcases Nat.eq_zero_or_pos (Builtin.Int.intBits x) with h | h
      · rw [h] at hlt; omega
      · exact h
    exact Nat.div_pos (by omega) hn0
  · intro h0
    have : Builtin.Int.intBits x = 0 := Nat.le_zero.mp (intBits_le_iff.mpr (by rw [h0]; decide))
    rw [this]
    exact Nat.div_eq_of_lt (by omega)
theorem mul_rep {prog : Program} {w : World} {A : Around} {E : Value → Shared → Prop} {s : Shared} {h₀ : Heap} {L : Addr} {m : Str → Option Value} {news : List (Addr × Obj)} {l : Addr} {x : Int} {u t0 : Tok} {c : Int} {k : Nat} {Q : Value → Shared → Prop}
    (F : Fr h₀ L s.heap m) (N : News h₀ L s.heap news) (hm : (l, W.listOf #[.int c t0] k) ∈ news) (hlo : 0 ≤ x) (hhi : x ≤ 200)
    (h : ∀ D ws h', Fr h₀ L h' m → News h₀ L h' ((D, W.listOf (List.toArray ws) 0) :: news) → (∀ p ∈ news, p.1 < D) → IntsAre ws (List.replicate x.toNat c) → Q (.ref D) { s with heap := h' }) :
    wpAny (model prog w) A (binaryOp .Mult (.ref l) (.int x u)) Q E s := by
  have hl : s.heap.IsList l [Value.int c t0].toArray := ⟨_, (N _ hm).1, rfl, _, rfl⟩
  refine KMa.mul F N hl (by omega) (by omega) (by simp; omega) rfl fun D h' F' N' l1 => h D _ h' F' N' l1 ?_
  generalize x.toNat = j
  induction j with
  | zero => exact .nil
  | succ j ih => rw [List.replicate_succ, List.replicate_succ, List.flatten_cons]; exact .cons _ _ ih

theorem putD_mid {n : Nat} {ns : List Int} {lo mid hi x : Int} (h0 : 0 ≤ lo) (h1 : lo < mid) (h2 : mid < hi) (h3 : hi ≤ ns.length) :
    putD n (putD n ns lo.toNat (mid - lo).toNat (x % 2 ^ (n * (mid - lo).toNat))) mid.toNat (hi - mid).toNat (x / 2 ^ (n * (mid - lo).toNat)) = putD n ns lo.toNat (hi - lo).toNat x := by
  have e := tn_top h0 (Int.lt_trans h1 h2) h3
  rw [tn_split h1 h2, ← Nat.add_assoc] at e
  rw [tn_mid h0 h1, tn_split h1 h2]
  exact putD_two e
theorem putD_all {n D : Nat} {x : Int} : putD n (List.replicate D 0) 0 D x = digs n D x := by
  simp [putD, List.drop_eq_nil_of_le]

theorem noPy {x y : Int} (hb : Builtin.Int.intBits y ≤ 200) : Builtin.divisionGoesByPylong x y = false := by
  have h := intBits_le_iff.mp hb
  refine PyProof.noPylong_of_log2 ?_
  by_cases h0 : y.natAbs = 0
  · rw [h0]; decide +kernel
  · exact Nat.lt_of_lt_of_le ((Nat.log2_lt h0).mpr h) (by decide)
end

section
open PySem PySem.W PyProof.Rows PySem.Calls

theorem unrPost_mono {h₀ : Heap} {L : Addr} {s₁ : Shared} {I : Addr} {it : Obj} {R R' : (Str → Option Value) → List (Addr × Obj) → Prop} {Q : Flow → Shared → Prop} (h : ∀ m n, R m n → R' m n) {f : Flow} {s₂ : Shared} (p : UnrPost h₀ L s₁ I it R Q f s₂) : UnrPost h₀ L s₁ I it R' Q f s₂ := by
  cases f with
  | ret v => exact p
  | brk => exact p
  | next => obtain ⟨h', tk, m', n', e, F, N, o, r⟩ := p; exact ⟨h', tk, m', n', e, F, N, o, h _ _ r⟩
  | cont => obtain ⟨h', tk, m', n', e, F, N, o, r⟩ := p; exact ⟨h', tk, m', n', e, F, N, o, h _ _ r⟩
theorem revRest_inv {prog : Program} {w : World} {A : Around} {E : Value → Shared → Prop} {h₀ : Heap} {env : Env} {x : Str} {body : List Stmt} {Q : Flow → Shared → Prop} {s : Shared} {I : Addr} {lp : Addr × Obj} (vs : List Value)
    (J : Nat → (Str → Option Value) → List (Addr × Obj) → Prop)
    (turn : ∀ i v m news (it : Obj) h tk, vs[i]? = some v → lp ∈ news → J i m news → it.cls = .type "list_reverseiterator" → Fr h₀ env.locals h (fun y => if y = x then some v else m y) → News h₀ env.locals h ((I, it) :: news) →
      wpAny (model prog w) A (execs body env) (UnrPost h₀ env.locals { s with heap := h, toks := tk } I it (fun m' n' => lp ∈ n' ∧ J (i + 1) m' n') Q) E { s with heap := h, toks := tk })
    (done : ∀ m news h tk, J vs.length m news → lp ∈ news → Fr h₀ env.locals h m → News h₀ env.locals h news → Q .next { s with heap := h, toks := tk }) :
    ∀ (r : List Value) (i : Nat) m news, vs.drop i = r → i ≤ vs.length → J i m news → lp ∈ news → RevRest prog w A E h₀ env x body Q s I lp r m news := by
  intro r
  induction r with
  | nil =>
    intro i m news hd hle hJ hlp
    have : i = vs.length := by have := congrArg List.length hd; simp at this; omega
    subst this
    exact fun h tk F N => done m news h tk hJ hlp F N
  | cons v r ih =>
    intro i m news hd hle hJ hlp
    have hlt : i < vs.length := by have := congrArg List.length hd; simp at this; omega
    have hv : vs[i]? = some v := by
      have := congrArg (·[0]?) hd
      simpa using this
    have hd' : vs.drop (i + 1) = r := by rw [← List.drop_drop, hd]; rfl
    refine RevRest.succ fun it h tk hc F N => ?_
    exact wpAny_mono (turn i v m news it h tk hv hlp hJ hc F N) (fun f s₂ p => unrPost_mono (fun m' n' x => ⟨x.1, ih (i + 1) m' n' hd' (by omega) x.2 x.1⟩) p) fun _ _ e => e
theorem frame3 {m m₀ : Str → Option Value} {x1 x2 x3 : Str} (h : ∀ z, z ≠ x1 → z ≠ x2 → z ≠ x3 → m z = m₀ z) : m = fun z => if z = x1 then m x1 else if z = x2 then m x2 else if z = x3 then m x3 else m₀ z := by
  funext z
  by_cases h1 : z = x1
  · subst h1; simp
  · by_cases h2 : z = x2
    · subst h2; simp [h1]
    · by_cases h3 : z = x3
      · subst h3; simp [h1, h2]
      · simp [h1, h2, h3, h z h1 h2 h3]
theorem frame2 {m m₀ : Str → Option Value} {x1 x2 : Str} (h : ∀ z, z ≠ x1 → z ≠ x2 → m z = m₀ z) : m = fun z => if z = x1 then m x1 else if z = x2 then m x2 else m₀ z := by
  funext z
  by_cases h1 : z = x1
  · subst h1; simp
  · by_cases h2 : z = x2
    · subst h2; simp [h1]
    · simp [h1, h2, h z h1 h2]

theorem frame1 {m m₀ : Str → Option Value} {x1 : Str} (h : ∀ z, z ≠ x1 → m z = m₀ z) : m = fun z => if z = x1 then m x1 else m₀ z := by
  funext z
  by_cases h1 : z = x1
  · subst h1; simp
  · simp [h1, h z h1]
end

section
theorem offI_of {I : Addr} {it : Obj} {l : List (Addr × Obj)} : (∀ p ∈ l, p.1 ≠ I) → OffI I it l := by
  induction l with
  | nil => intro _; trivial
  | cons p r ih => intro h; exact ⟨.inl (h p (.head _)), ih fun q hq => h q (.tail _ hq)⟩
theorem digs_get (n : Nat) : ∀ (k : Nat) (x : Int) (j : Nat), j < k → (digs n k x)[j]? = some (x / 2 ^ (n * j) % 2 ^ n) := by
  intro k
  induction k with
  | zero => intro x j h; omega
  | succ k ih =>
    intro x j h
    cases j with
    | zero => simp [digs]
    | succ j =>
      have hp : (0 : Int) < 2 ^ n := Int.pow_pos (by decide)
      simp only [digs, List.getElem?_cons_succ]
      rw [ih _ _ (by omega), Nat.mul_add, Nat.mul_one, Nat.add_comm (n * j) n, Int.pow_add, Int.ediv_ediv_of_nonneg (Int.le_of_lt hp)]
/-- what the loop of the long division keeps: i digits are done -/
def DivInv (n D : Nat) (x y : Int) (i : Nat) (r : Int) (qs : List Int) : Prop :=
  0 ≤ r ∧ r < y ∧ qs.length = i ∧ (∀ q ∈ qs, 0 ≤ q ∧ q < 2 ^ n) ∧ dval n qs.reverse * y + r = x / 2 ^ (n * (D - i))
theorem DivInv.start {n D : Nat} {x y : Int} (hx : 0 ≤ x) (hD : x < 2 ^ (n * D)) (hy : 0 < y) : DivInv n D x y 0 0 [] := by
  unfold DivInv
  refine ⟨by omega, hy, rfl, (by intro q h; cases h), ?_⟩
  rw [Nat.sub_zero, Int.ediv_eq_zero_of_lt hx hD]; simp [dval]
theorem DivInv.turn {n D : Nat} {x y : Int} {i : Nat} {r : Int} {qs : List Int} (h : DivInv n D x y i r qs) (hi : i < D) (d : Int) (hd : d = x / 2 ^ (n * (D - 1 - i)) % 2 ^ n) :
    DivInv n D x y (i + 1) ((r * 2 ^ n + d) % y) (qs ++ [(r * 2 ^ n + d) / y]) ∧ 0 ≤ d ∧ d < 2 ^ n ∧ 0 ≤ r * 2 ^ n + d := by
  refine useG ?_
  intro P9 h9
  obtain ⟨h0, h1, h2, h3, h4⟩ := h
  refine h9 ?_
  clear h9 P9
  have hp : (0 : Int) < 2 ^ n := Int.pow_pos (by decide)
  have hy : 0 < y := by omega
  have d0 : 0 ≤ d := by rw [hd]; exact Int.emod_nonneg _ (Int.ne_of_gt hp)
  have d1 : d < 2 ^ n := by rw [hd]; exact Int.emod_lt_of_pos _ hp
  have r0 : 0 ≤ r * 2 ^ n := Int.mul_nonneg h0 (Int.le_of_lt hp)
  have r1 : (r + 1) * 2 ^ n ≤ y * 2 ^ n := Int.mul_le_mul_of_nonneg_right (by omega) (Int.le_of_lt hp)
  rw [Int.add_mul, Int.one_mul] at r1
  have q0 : 0 ≤ (r * 2 ^ n + d) / y := Int.ediv_nonneg (by omega) (Int.le_of_lt hy)
  have q1 : (r * 2 ^ n + d) / y < 2 ^ n := Int.ediv_lt_of_lt_mul hy (by rw [Int.mul_comm (2 ^ n)]; omega)
  refine ⟨⟨Int.emod_nonneg _ (Int.ne_of_gt hy), Int.emod_lt_of_pos _ hy, by simp [h2], ?_, ?_⟩, d0, d1, by omega⟩
  · intro q hq
    rcases List.mem_append.mp hq with hq | hq
    · exact h3 q hq
    · rw [List.mem_singleton.mp hq]; exact ⟨q0, q1⟩
  · rw [List.reverse_append]
    show ((r * 2 ^ n + d) / y + dval n qs.reverse * 2 ^ n) * y + _ = _
    have e1 : D - (i + 1) = D - 1 - i := by rw [Nat.sub_sub, Nat.add_comm]
    have e2 : n * (D - i) = n * (D - 1 - i) + n := by
      have : D - i = D - 1 - i + 1 := by rw [Nat.sub_right_comm D 1 i, Nat.sub_add_cancel (Nat.sub_pos_of_lt hi)]
      rw [this, Nat.mul_add, Nat.mul_one]
    rw [e1]
    rw [e2, Int.pow_add, ← Int.ediv_ediv_of_nonneg (Int.pow_nonneg (by decide))] at h4
    generalize x / 2 ^ (n * (D - 1 - i)) = P at h4 hd ⊢
    have m1 := Int.emod_add_mul_ediv P (2 ^ n)
    have m2 := Int.emod_add_mul_ediv (r * 2 ^ n + d) y
    rw [← h4] at m1
    rw [← hd] at m1
    rw [Int.add_mul]
    have m3 : dval n qs.reverse * 2 ^ n * y = 2 ^ n * (dval n qs.reverse * y) := by
      rw [Int.mul_assoc, Int.mul_comm (2 ^ n) y, ← Int.mul_assoc, Int.mul_comm]
    rw [m3, Int.mul_comm ((r * 2 ^ n + d) / y) y]
    rw [Int.mul_add] at m1
    rw [Int.mul_comm r] at m2 ⊢
    clear h0 h1 h2 h3 hi hp hy d0 d1 r0 r1 q0 q1 e1 e2 m3
    omega
theorem DivInv.fin {n D : Nat} {x y : Int} {r : Int} {qs : List Int} (hy : 0 < y) (h : DivInv n D x y D r qs) : dval n qs.reverse = x / y ∧ r = x % y := by
  refine useG ?_
  intro P9 h9
  obtain ⟨h0, h1, h2, h3, h4⟩ := h
  refine h9 ?_
  clear h9 P9
  rw [Nat.sub_self, Nat.mul_zero] at h4
  have e : x = dval n qs.reverse * y + r := by rw [h4]; simp
  have := (Int.ediv_emod_unique hy (a := x) (r := r) (q := dval n qs.reverse)).mpr ⟨by rw [e, Int.mul_comm]; omega, h0, h1⟩
  exact ⟨this.1.symm, this.2.symm⟩

theorem use_fr {h₀ h : Heap} {L : Addr} {m : Str → Option Value} {P : Prop} (F : Fr h₀ L h m) (k : ∀ m₀, m₀ = m → Fr h₀ L h m₀ → P) : P := k m rfl F
theorem led_name1 {g h : Heap} {L l : Addr} {o : Obj} {r : List (Addr × Obj)} {P : Prop} (_N : News g L h ((l, o) :: r)) (k : ∀ lq, lq = l → P) : P := k l rfl
theorem led_name2 {g h : Heap} {L l : Addr} {o : Obj} {x1 : Addr × Obj} {r : List (Addr × Obj)} {P : Prop} (_N : News g L h (x1 :: (l, o) :: r)) (k : ∀ lq, lq = l → P) : P := k l rfl
theorem rev_item {vs : List Value} {ns : List Int} {i : Nat} {v : Value} (hi : IntsAre vs ns) (h : vs.reverse[i]? = some v) : i < ns.length ∧ ∃ d t, ns[ns.length - 1 - i]? = some d ∧ v = .int d t := by
  have hlen := hi.length
  have hlt : i < vs.reverse.length := (List.getElem?_eq_some_iff.mp h).1
  rw [List.length_reverse] at hlt
  refine ⟨by omega, ?_⟩
  rw [List.getElem?_reverse hlt] at h
  have hj : ns.length - 1 - i < ns.length := by omega
  obtain ⟨t, ht⟩ := hi.get (ns.length - 1 - i) ns[ns.length - 1 - i] (by simp [hj])
  rw [hlen, ht] at h
  exact ⟨_, t, by rw [List.getElem?_eq_getElem hj], (Option.some.inj h).symm⟩
theorem intBits_lt {x : Int} {k : Nat} (h0 : 0 ≤ x) (h : x < 2 ^ k) : Builtin.Int.intBits x ≤ k := by
  refine intBits_le_iff.mpr ?_
  have e : ((2 : Int) ^ k) = ((2 ^ k : Nat) : Int) := by simp
  rw [e] at h; omega
theorem lt_intBits {x : Int} : x < 2 ^ (Builtin.Int.intBits x) := by
  have h := intBits_le_iff.mp (Nat.le_refl (Builtin.Int.intBits x))
  have e : ((2 : Int) ^ Builtin.Int.intBits x) = ((2 ^ Builtin.Int.intBits x : Nat) : Int) := by simp
  rw [e]; omega
theorem step_bits {r d y : Int} {n : Nat} (h0 : 0 ≤ r) (h1 : r < y) (hy : Builtin.Int.intBits y < 100) (hn : n < 100) (hd0 : 0 ≤ d) (hd : d < 2 ^ n) : Builtin.Int.intBits (r * 2 ^ n + d) ≤ 4000 ∧ (Builtin.Int.intBits r : Int) + n ≤ 2 ^ 27 := by
  have hb : Builtin.Int.intBits r ≤ 99 := intBits_le_of_natAbs (y := y) (by omega) (by omega)
  have hp : (0 : Int) < 2 ^ n := Int.pow_pos (by decide)
  have hr : r < 2 ^ Builtin.Int.intBits y := Int.lt_trans h1 lt_intBits
  have h3 : (r + 1) * 2 ^ n ≤ 2 ^ Builtin.Int.intBits y * 2 ^ n := Int.mul_le_mul_of_nonneg_right (by omega) (Int.le_of_lt hp)
  rw [Int.add_mul, Int.one_mul, ← Int.pow_add] at h3
  have h4 := Int.mul_nonneg h0 (Int.le_of_lt hp)
  have := intBits_lt (x := r * 2 ^ n + d) (k := Builtin.Int.intBits y + n) (by omega) (by omega)
  omega

theorem News.drop1 {g h : Heap} {L : Addr} {x : Addr × Obj} {r : List (Addr × Obj)} (N : PyProof.Rows.News g L h (x :: r)) : PyProof.Rows.News g L h r := fun p hp => N p (List.mem_cons_of_mem _ hp)

theorem ints_snoc {x : Int} {u : Tok} {vs : List Value} {ns : List Int} (h : IntsAre vs ns) : IntsAre (vs ++ [.int x u]) (ns ++ [x]) := by
  induction h with
  | nil => exact .cons _ _ .nil
  | cons i t _ ih => exact .cons i t ih
theorem ints_rev {vs : List Value} {ns : List Int} (h : IntsAre vs ns) : IntsAre vs.reverse ns.reverse := by
  induction h with
  | nil => exact .nil
  | cons i t _ ih => rw [List.reverse_cons, List.reverse_cons]; exact ints_snoc ih

theorem use_frN {h₀ h : Heap} {L : Addr} {m : Str → Option Value} {P : Prop} (F : Fr h₀ L h m) (k : ∀ g0 L0 m₀, g0 = h₀ → L0 = L → m₀ = m → Fr h₀ L h m₀ → P) : P := k h₀ L m rfl rfl rfl F

theorem News.drop2 {g h : Heap} {L : Addr} {x y : Addr × Obj} {r : List (Addr × Obj)} (N : PyProof.Rows.News g L h (x :: y :: r)) : PyProof.Rows.News g L h r := fun p hp => N p (List.mem_cons_of_mem _ (List.mem_cons_of_mem _ hp))
end

section
open PySem PySem.W PyProof.Rows PySem.Calls

def WPost (I : Nat → Shared → Prop) (n : Nat) (Q : Flow → Shared → Prop) (f : Flow) (s : Shared) : Prop :=
  match f with
  | .next => ∃ m, m < n ∧ I m s
  | .cont => ∃ m, m < n ∧ I m s
  | .brk => Q .next s
  | .ret v => Q (.ret v) s
theorem whl_inv {prog : Program} {w : World} {A : Around} {E : Value → Shared → Prop} {env : Env} {test : PySem.Expr} {body orelse : List Stmt} {Q : Flow → Shared → Prop} (hE : PassesOwn (model prog w) A env E) (I : Nat → Shared → Prop)
    (turn : ∀ n s, I n s → wpAny (model prog w) A (isTrue test env (eval test env)) (fun b s₂ => WhlIf b (wpAny (model prog w) A (execs body env) (WPost I n Q) E s₂) (wpAny (model prog w) A (execs orelse env) Q E s₂)) E s) :
    ∀ n s, I n s → WhlRest prog w A E env test body orelse Q 1 s := by
  intro n
  induction n using Nat.strongRecOn with
  | ind n ih =>
    intro s h
    refine whl_turn (k := 0) hE (wpAny_mono (turn n s h) (fun b s₂ p => ?_) fun _ _ e => e)
    cases b with
    | false => exact p
    | true =>
      have p' : wpAny (model prog w) A (execs body env) (WPost I n Q) E s₂ := p
      refine wpAny_mono p' (fun f s₃ q => ?_) fun _ _ e => e
      cases f with
      | next => obtain ⟨m, hm, hi⟩ := q; exact ih m hm s₃ hi
      | cont => obtain ⟨m, hm, hi⟩ := q; exact ih m hm s₃ hi
      | brk => exact q
      | ret v => exact q
end

section
open PySem PySem.W PyProof.Rows PySem.Calls

theorem frame4 {m m₀ : Str → Option Value} {x1 x2 x3 x4 : Str} (h : ∀ z, z ≠ x1 → z ≠ x2 → z ≠ x3 → z ≠ x4 → m z = m₀ z) : m = fun z => if z = x1 then m x1 else if z = x2 then m x2 else if z = x3 then m x3 else if z = x4 then m x4 else m₀ z := by
  funext z
  by_cases h1 : z = x1
  · subst h1; simp
  · by_cases h2 : z = x2
    · subst h2; simp [h1]
    · by_cases h3 : z = x3
      · subst h3; simp [h1, h2]
      · by_cases h4 : z = x4
        · subst h4; simp [h1, h2, h3]
        · simp [h1, h2, h3, h4, h z h1 h2 h3 h4]

theorem ints_item {vs : List Value} {ns : List Int} {i : Nat} {v : Value} (hi : IntsAre vs ns) (h : vs[i]? = some v) : ∃ d t, ns[i]? = some d ∧ v = .int d t := by
  have hlen := hi.length
  have hlt : i < vs.length := (List.getElem?_eq_some_iff.mp h).1
  have hj : i < ns.length := by omega
  obtain ⟨t, ht⟩ := hi.get i ns[i] (by simp [hj])
  rw [h] at ht
  exact ⟨_, t, by rw [List.getElem?_eq_getElem hj], Option.some.inj ht⟩

theorem off_map {I : Addr} {l l' : List (Addr × Obj)} (h : ∀ p ∈ l, p.1 < I) (e : l'.map (·.1) = l.map (·.1)) : ∀ p ∈ l', p.1 ≠ I := by
  intro p hp
  have h1 : p.1 ∈ l'.map (·.1) := List.mem_map_of_mem hp
  rw [e] at h1
  obtain ⟨q, hq, e2⟩ := List.mem_map.mp h1
  have := h q hq
  rw [e2] at this
  exact Nat.ne_of_lt this
theorem bytesRest_inv {prog : Program} {w : World} {A : Around} {E : Value → Shared → Prop} {h₀ : Heap} {env : Env} {x : Str} {body : List Stmt} {Q : Flow → Shared → Prop} {s : Shared} {I : Addr} (l : List Int)
    (J : Nat → (Str → Option Value) → List (Addr × Obj) → Prop)
    (turn : ∀ i c m news (it : Obj) u h tk, l[i]? = some c → 0 ≤ c → c < 256 → J i m news → Fr h₀ env.locals h (fun y => if y = x then some (.int c u) else m y) → News h₀ env.locals h ((I, it) :: news) →
      wpAny (model prog w) A (execs body env) (UnrPost h₀ env.locals { s with heap := h, toks := tk } I it (J (i + 1)) Q) E { s with heap := h, toks := tk })
    (done : ∀ m news h tk, J l.length m news → Fr h₀ env.locals h m → News h₀ env.locals h news → Q .next { s with heap := h, toks := tk }) :
    ∀ (r : List Int) (i : Nat) m news, l.drop i = r → i ≤ l.length → J i m news → BytesRest prog w A E h₀ env x body Q s I r m news := by
  intro r
  induction r with
  | nil =>
    intro i m news hd hle hJ
    have : i = l.length := by have := congrArg List.length hd; simp at this; omega
    subst this
    exact fun h tk F N => done m news h tk hJ F N
  | cons v r ih =>
    intro i m news hd hle hJ
    have hlt : i < l.length := by have := congrArg List.length hd; simp at this; omega
    have hv : l[i]? = some v := by
      have := congrArg (·[0]?) hd
      simpa using this
    have hd' : l.drop (i + 1) = r := by rw [← List.drop_drop, hd]; rfl
    refine BytesRest.succ fun c0 c1 u it h tk F N => ?_
    exact wpAny_mono (turn i v m news it u h tk hv c0 c1 hJ F N) (fun f s₂ p => unrPost_mono (fun m' n' x => ih (i + 1) m' n' hd' (by omega) x) p) fun _ _ e => e
end

section
def bval (l : List Int) : Int := l.foldl (fun a c => a * 256 + c) 0
def b64t : List UInt8 := [65, 66, 67, 68, 69, 70, 71, 72, 73, 74, 75, 76, 77, 78, 79, 80, 81, 82, 83, 84, 85, 86, 87, 88, 89, 90, 97, 98, 99, 100, 101, 102, 103, 104, 105, 106, 107, 108, 109, 110, 111, 112, 113, 114, 115, 116, 117, 118, 119, 120, 121, 122, 48, 49, 50, 51, 52, 53, 54, 55, 56, 57, 43, 47]
/-- the sign's number of a sextet -/
def b64n (i : Int) : Int := ((b64t.getD i.toNat 0).toNat : Int)
theorem bval_snoc (l : List Int) (c : Int) : bval (l ++ [c]) = bval l * 256 + c := by simp [bval]
/-- the first t signs' numbers of a number of nb bits -/
def sexts (f : Int → Int) (V : Int) (nb t : Nat) : List Int := (List.range t).map fun j => f (V / 2 ^ (nb - 6 * (j + 1)) % 64)
theorem sexts_length (f : Int → Int) (V : Int) (nb t : Nat) : (sexts f V nb t).length = t := by simp [sexts]
theorem sexts_succ (f : Int → Int) (V : Int) (nb t : Nat) : sexts f V nb (t + 1) = sexts f V nb t ++ [f (V / 2 ^ (nb - 6 * (t + 1)) % 64)] := by
  simp [sexts, List.range_succ]
theorem sexts_ext (f : Int → Int) {V c : Int} {nb t : Nat} (h : 6 * t ≤ nb) (c0 : 0 ≤ c) (c1 : c < 256) : sexts f (V * 256 + c) (nb + 8) t = sexts f V nb t := by
  unfold sexts
  apply List.map_congr_left
  intro j hj
  have hj' : j < t := List.mem_range.mp hj
  have e : nb + 8 - 6 * (j + 1) = 8 + (nb - 6 * (j + 1)) := by rw [Nat.add_comm nb 8, Nat.add_sub_assoc (Nat.le_trans (Nat.mul_le_mul_left 6 hj') h)]
  rw [e, Int.pow_add, ← Int.ediv_ediv_of_nonneg (by decide)]
  have e2 : (V * 256 + c) / 2 ^ 8 = V := by
    show (V * 256 + c) / 256 = V
    omega
  rw [e2]
theorem or_shift {x c : Int} (hx : 0 ≤ x) (c0 : 0 ≤ c) (c1 : c < 256) : Builtin.bitOr (x * 2 ^ Int.toNat 8) c = x * 256 + c := by
  obtain ⟨n, rfl⟩ := Int.eq_ofNat_of_zero_le hx
  obtain ⟨m, rfl⟩ := Int.eq_ofNat_of_zero_le c0
  have e0 : ((n : Int) * 2 ^ Int.toNat 8) = ((n * 256 : Nat) : Int) := by
    have : (2 : Int) ^ Int.toNat 8 = 256 := by decide
    rw [this]; simp
  rw [e0]
  have h1 := bitXor_and ((n * 256 : Nat) : Int) (m : Int)
  have h2 : Builtin.bitAnd ((n * 256 : Nat) : Int) (m : Int) = 0 := by
    unfold Builtin.bitAnd
    have a1 : (0 : Int) ≤ ((n * 256 : Nat) : Int) := Int.natCast_nonneg _
    have a2 : (0 : Int) ≤ (m : Int) := Int.natCast_nonneg _
    simp only [a1, a2, decide_true, Int.toNat_natCast]
    have : n * 256 &&& m = 0 := by
      apply Nat.eq_of_testBit_eq
      intro i
      have e : n * 256 = n <<< 8 := by rw [Nat.shiftLeft_eq]
      rw [e, Nat.testBit_and, Nat.testBit_shiftLeft, Nat.zero_testBit]
      by_cases hi : 8 ≤ i
      · have : m.testBit i = false := Nat.testBit_lt_two_pow (Nat.lt_of_lt_of_le (by omega : m < 2 ^ 8) (Nat.pow_le_pow_right (by decide) hi))
        simp [this]
      · simp [hi]
    rw [this]; rfl
  have h3 : Builtin.bitXor ((n * 256 : Nat) : Int) (m : Int) = Builtin.bitOr ((n * 256 : Nat) : Int) (m : Int) - Builtin.bitAnd ((n * 256 : Nat) : Int) (m : Int) := rfl
  rw [h2] at h1 h3
  rw [h1] at h3
  simp only [Int.natCast_mul] at h3 ⊢
  omega
theorem and_low16 (x : Int) : Builtin.bitAnd x 65535 = x % 65536 := bitAnd_m16 x
/-- between the bytes: what is left over, and the signs so far -/
theorem b64_turn {lc V c : Int} {lb : Nat} (c0 : 0 ≤ c) (c1 : c < 256) (hlb : lb ≤ 4) (h : lc % 2 ^ lb = V % 2 ^ lb) :
    (lc * 256 + c) % 65536 % 2 ^ (lb + 8) = (V * 256 + c) % 2 ^ (lb + 8) := by
  have key : ∀ x : Int, (x * 256 + c) % 2 ^ (lb + 8) = x % 2 ^ lb * 256 + c := by
    intro x
    have hp : (0 : Int) < 2 ^ lb := Int.pow_pos (by decide)
    have e : (2 : Int) ^ (lb + 8) = 2 ^ lb * 256 := by rw [Int.pow_add]; rfl
    rw [e]
    have h1 := Int.emod_add_mul_ediv x (2 ^ lb)
    have h2 := Int.emod_nonneg x (Int.ne_of_gt hp)
    have h3 := Int.emod_lt_of_pos x hp
    have e2 : x * 256 + c = (x % 2 ^ lb * 256 + c) + 2 ^ lb * 256 * (x / 2 ^ lb) := by
      have : 2 ^ lb * 256 * (x / 2 ^ lb) = 2 ^ lb * (x / 2 ^ lb) * 256 := by rw [Int.mul_assoc, Int.mul_comm 256, ← Int.mul_assoc]
      rw [this]
      generalize 2 ^ lb * (x / 2 ^ lb) = y at h1
      generalize x % 2 ^ lb = z at h1
      omega
    have h4 : (x % 2 ^ lb + 1) * 256 ≤ 2 ^ lb * 256 := Int.mul_le_mul_of_nonneg_right (by omega) (by decide)
    rw [e2, Int.add_mul_emod_self_left]
    refine Int.emod_eq_of_lt (by omega) ?_
    generalize (2 : Int) ^ lb * 256 = P at h4
    omega
  have hd : (2 : Int) ^ (lb + 8) ∣ 65536 := by
    refine ⟨2 ^ (8 - lb), ?_⟩
    rw [← Int.pow_add]
    have : lb + 8 + (8 - lb) = 16 := by omega
    rw [this]; decide
  rw [Int.emod_emod_of_dvd _ hd, key, key, h]
theorem b64_idx {lc V : Int} {lb k : Nat} (h : lc % 2 ^ lb = V % 2 ^ lb) (hk : 6 ≤ k) (hkl : k ≤ lb) : Builtin.bitAnd (lc.fdiv (2 ^ (k - 6))) 63 = V / 2 ^ (k - 6) % 64 := by
  have hp : (0 : Int) < 2 ^ (k - 6) := Int.pow_pos (by decide)
  rw [bitAnd_m6, Int.fdiv_eq_ediv_of_nonneg _ (Int.le_of_lt hp)]
  have key : ∀ x : Int, x / 2 ^ (k - 6) % 64 = x % 2 ^ lb % 2 ^ k / 2 ^ (k - 6) := by
    intro x
    have hd : (2 : Int) ^ k ∣ 2 ^ lb := ⟨2 ^ (lb - k), by rw [← Int.pow_add]; congr 1; omega⟩
    have e : (2 : Int) ^ k = 2 ^ (k - 6) * 64 := by
      have : k = (k - 6) + 6 := by omega
      rw [this, Int.pow_add, Nat.add_sub_cancel]; rfl
    rw [Int.emod_emod_of_dvd _ hd, e, emod_mul_div x hp]
  rw [key, key, h]
theorem low_of_low {lc V : Int} {lb k : Nat} (h : lc % 2 ^ lb = V % 2 ^ lb) (hkl : k ≤ lb) : lc % 2 ^ k = V % 2 ^ k := by
  have hd : (2 : Int) ^ k ∣ 2 ^ lb := ⟨2 ^ (lb - k), by rw [← Int.pow_add]; congr 1; omega⟩
  rw [← Int.emod_emod_of_dvd lc hd, h, Int.emod_emod_of_dvd _ hd]

theorem b64n_byte (i : Int) : 0 ≤ b64n i ∧ b64n i < 256 := by
  unfold b64n
  have := (b64t.getD i.toNat 0).toNat_lt
  omega
theorem sexts_byte (V : Int) (nb t : Nat) : ∀ n ∈ sexts b64n V nb t, 0 ≤ n ∧ n < 256 := by
  intro n hn
  obtain ⟨j, _, rfl⟩ := List.mem_map.mp hn
  exact b64n_byte _

theorem bval_rev (l : List Int) : bval l.reverse = dval 8 l := by
  induction l with
  | nil => rfl
  | cons d r ih =>
    rw [List.reverse_cons, bval_snoc, ih]
    show dval 8 r * 256 + d = d + dval 8 r * 2 ^ 8
    have : (2 : Int) ^ 8 = 256 := by decide
    rw [this]; omega
theorem dval_zeros (n : Nat) (l : List Int) (j : Nat) : dval n (l ++ List.replicate j 0) = dval n l := by
  rw [dval_append]
  have : dval n (List.replicate j 0) = 0 := by
    induction j with
    | zero => rfl
    | succ j ih => rw [List.replicate_succ]; simp [dval, ih]
  rw [this]; simp
end

section
open PySem PySem.W PyProof.Rows PySem.Builtin

open _codecs
theorem forIn_steps {β : Type} {f : Nat → β → Sem (ForInStep β)} (g : Nat → β) : ∀ (n s a : Nat), (∀ i, i < n → ∀ x, f x (g (a + i)) = pure (.yield (g (a + i + 1)))) →
  forIn (List.range' s n) (g a) f = (pure (g (a + n)) : Sem β)
  | 0, s, a, _ => by rw [List.range'_zero]; rfl
  | n + 1, s, a, h => by
    rw [List.range'_succ, List.forIn_cons, show f s (g a) = _ from h 0 (by omega) s, pure_bind]
    show forIn (List.range' (s + 1) n) (g (a + 1)) f = _
    rw [forIn_steps g n (s + 1) (a + 1) (fun i hi x => by have := h (i + 1) (by omega) x; rw [show a + (i + 1) = a + 1 + i by omega] at this; exact this)]
    rw [show a + 1 + n = a + (n + 1) by omega]
theorem asciiRun {id : String} {b : Array UInt8} (hb : ∀ i, i < b.size → (b.getD i 0).toNat < 128) (hs : b.size ≤ 1000) :
  runDecoder id asciiDecoder none true b 0 [] = pure ((b.toList.map (·.toNat)).toArray, b.size) := by
  unfold runDecoder
  simp only [Std.Legacy.Range.forIn_eq_forIn_range', Std.Legacy.Range.size]
  have e := fun F h => forIn_steps (f := F) (g := fun i => (i, ((b.toList.take i).map (·.toNat)).toArray, ({ held := [] } : Faults))) b.size 0 0 h
  simp only [List.take_zero, List.map_nil, Nat.zero_add, Nat.sub_zero] at e
  rw [show (b.size - 0 + 1 - 1) / 1 = b.size by omega]
  rw [e]
  · rw [pure_bind]
    rw [List.take_of_length_le (by simp)]
  · intro i hi x
    have h1 : ¬ ((((b.toList.take i).map (·.toNat)).toArray).size > sizeLine) := by
      rw [sizeLine_eq]; simp; omega
    rw [if_neg h1]
    rw [if_neg (by show ¬ i ≥ b.size; omega)]
    have h2 : asciiDecoder.find true b i = .char (b.getD i 0).toNat (i + 1) := by
      show (if (b.getD i 0).toNat < 128 then Found.char (b.getD i 0).toNat (i + 1) else _) = _
      rw [if_pos (hb i hi)]
    show (match asciiDecoder.find true b i with | Found.text cs nx => _ | Found.refuse tag => _ | Found.bad stop reason mayGrow => _) = _
    rw [h2]
    show pure (ForInStep.yield (i + 1, _, _)) = _
    have h3 : (b.toList.take (i + 1)) = b.toList.take i ++ [b.getD i 0] := by
      rw [List.take_succ]
      simp [Array.getD, hi]
    rw [h3]
    simp
theorem road_ascii {id : String} {b : Array UInt8} : decodeRoad id b (PySem.Str.ofString "ascii") none [] = (runDecoder id asciiDecoder none true b 0 [] >>= fun r => mkStr ⟨r.1⟩) := by kernel_rfl
theorem entry_ascii {c : UInt8} {cs : List UInt8} {t u : Tok} : «bytes.decode» ⟨[.bytes (c :: cs).toArray t, .str (PySem.Str.ofString "ascii") u], []⟩ = (mkStr (PySem.Str.ofString "utf-8") >>= fun _ => mkStr (PySem.Str.ofString "ascii") >>= fun e => mkStr (PySem.Str.ofString "bytes.decode") >>= fun d =>
    call (.builtin "_codecs.decode.text") [.bytes (c :: cs).toArray t, e, .none, d] >>= fun v => ret v) := by kernel_rfl
theorem args_bytes_decode_2 (a b : Value) : argsOk "bytes.decode" ⟨[a, b], []⟩ := by
  unfold argsOk; rw [signature?_of (id := "bytes.decode") (n := ['e', 'd', 'o', 'c', 'e', 'd']) (o := ['s', 'e', 't', 'y', 'b']) (by kernel_rfl) FB.owner_bytes]; kernel_rfl
theorem meets_textA {b : Array UInt8} {t t1 t2 : Tok} {x d : PySem.Str} {n : Nat} (hd : ∀ id, _codecs.runDecoder id _codecs.asciiDecoder none true b 0 [] = pure (x.cps, n)) :
    Meets («_codecs.decode.text» ⟨[.bytes b t, .str (PySem.Str.ofString "ascii") t1, .none, .str d t2], []⟩) (fun _ R s => x.length ≤ sizeLine ∧ R (.ok (.ret (.str x s.toks))) { s with toks := s.toks + 1 }) := by
  refine .of_wp fun prog w A R s hS => ?_
  obtain ⟨hsz, h⟩ := hS
  show wpAny _ _ (Bytes.bytesLike _ (.bytes b t) >>= fun r => _) _ _ s
  refine wpAny_bind (wpAny_of_eq KBd.like_eq ?_)
  refine wpAny_bind (wpAny_of_eq KBd.held_eq ?_)
  show wpAny _ _ (_codecs.decodeRoad _ b (PySem.Str.ofString "ascii") none [] >>= fun v => _) _ _ s
  rw [road_ascii, hd]
  refine wpAny_bind (wpAny_bind (wpAny_pure ?_))
  exact wpAny_mkStr (wpAny_pure ⟨_, rfl, h⟩) hsz
theorem meets_decodeA {c : UInt8} {cs : List UInt8} {t u : Tok} {x : PySem.Str} {n : Nat} (hd : ∀ id, _codecs.runDecoder id _codecs.asciiDecoder none true (c :: cs).toArray 0 [] = pure (x.cps, n)) :
    Meets («bytes.decode» ⟨[.bytes (c :: cs).toArray t, .str (PySem.Str.ofString "ascii") u], []⟩) (fun _ R s => x.length ≤ sizeLine ∧ ∀ t' k, R (.ok (.ret (.str x t'))) { s with toks := k }) := by
  refine .of_wp fun prog w A R s hS => ?_
  obtain ⟨hsz, h⟩ := hS
  rw [entry_ascii]
  refine wpAny_bind (wpAny_mkStr ?_ (by decide))
  refine wpAny_bind (wpAny_mkStr ?_ (by decide))
  refine wpAny_bind (wpAny_mkStr ?_ (by decide))
  exact wpAny_bind (call_function_meets KBd.kind_text KBd.plain_text KBd.entry_text (KBd.args_text _ _ _ _) (meets_textA hd) ⟨hsz, wpAny_pure ⟨_, rfl, h _ _⟩⟩)
theorem decode_ascii {prog : Program} {w : World} {A : Around} {E : Value → Shared → Prop} {s : Shared} {b : Array UInt8} {t u : Tok} {Q : Value → Shared → Prop}
    (hb : ∀ i, i < b.size → (b.getD i 0).toNat < 128) (h0 : 0 < b.size) (hs : b.size ≤ 1000) (h : ∀ t' k, Q (.str ⟨(b.toList.map (·.toNat)).toArray⟩ t') { s with toks := k }) :
    wpAny (model prog w) A (call (.builtin "bytes.decode") [.bytes b t, .str (PySem.Str.ofString "ascii") u]) Q E s := by
  obtain ⟨l⟩ := b
  obtain _ | ⟨c, cs⟩ := l
  · exact absurd h0 (by simp)
  · exact call_meets FB.slot_bytes_decode (typeIs_bytes _ _ _) FB.entry_bytes_decode (args_bytes_decode_2 _ _) (meets_decodeA (x := ⟨((c :: cs).map (·.toNat)).toArray⟩) (fun id => asciiRun hb hs))
      ⟨by rw [sizeLine_eq]; simp [Str.length] at hs ⊢; omega, h⟩
theorem bInts_byteArr {l : List Int} (h : ∀ n ∈ l, 0 ≤ n ∧ n < 256) : KBw.bInts (byteArr l) = l := by
  unfold KBw.bInts byteArr
  simp only [List.map_map]
  rw [List.map_congr_left (g := fun n => n) ?_]
  · exact List.map_id' _
  · intro n hn
    have := h n hn
    simp [Function.comp]
    omega
/-- the text of the signs at these places -/
def txt (l : List Int) : PySem.Str := ⟨(l.map fun i => (b64n i).toNat).toArray⟩
theorem sexts_map (f : Int → Int) (V : Int) (nb t : Nat) : sexts f V nb t = (sexts (fun i => i) V nb t).map f := by
  unfold sexts; rw [List.map_map]; rfl
theorem txt_dec (V : Int) (nb t : Nat) : (⟨((byteArr (sexts b64n V nb t)).toList.map (·.toNat)).toArray⟩ : PySem.Str) = txt (sexts (fun i => i) V nb t) := by
  unfold txt byteArr
  rw [sexts_map]
  simp only [List.map_map]
  congr 2
  refine List.map_congr_left fun i _ => ?_
  have := b64n_byte i
  simp [Function.comp]
  omega
theorem b64n_ascii (i : Int) : (b64n i).toNat < 128 := by
  unfold b64n
  have key : ∀ c ∈ b64t, c.toNat < 128 := by decide +kernel
  by_cases h : i.toNat < b64t.length
  · have := key _ (List.getElem_mem h)
    rw [List.getD_eq_getElem?_getD, List.getElem?_eq_getElem h]
    simpa using this
  · rw [List.getD_eq_getElem?_getD, List.getElem?_eq_none (by omega)]
    decide
theorem sexts_ascii (V : Int) (nb t : Nat) : ∀ i, i < (byteArr (sexts b64n V nb t)).size → ((byteArr (sexts b64n V nb t)).getD i 0).toNat < 128 := by
  intro i hi
  have h1 : ((byteArr (sexts b64n V nb t)).toList.map (·.toNat)) = (sexts (fun i => i) V nb t).map fun i => (b64n i).toNat := by
    have := congrArg Str.cps (txt_dec V nb t)
    exact congrArg Array.toList this
  have h2 : ((byteArr (sexts b64n V nb t)).getD i 0).toNat ∈ ((byteArr (sexts b64n V nb t)).toList.map (·.toNat)) := by
    refine List.mem_map.mpr ⟨_, ?_, rfl⟩
    rw [Array.getD_eq_getD_getElem?, Array.getElem?_eq_getElem hi]
    simp
  rw [h1] at h2
  obtain ⟨j, _, e⟩ := List.mem_map.mp h2
  rw [← e]
  exact b64n_ascii j
end

section
open PySem PySem.W PyProof.Rows PySem.Builtin
end

section
def boundApp (a : Addr) : Obj := { cls := .type "builtin_function_or_method", data := .fields #[.builtin "list.append", .ref a] }
theorem slot_md_get : Slot "method_descriptor" "__get__" "method_descriptor.__get__" :=
  .of (owner := "method_descriptor") (n := "__get__") (by rw [typeLookup_type, builtinLookup_eq_fast]; kernel_rfl) (by decide +kernel) (by decide +kernel) (by decide +kernel)
    (by first | exact .inl (by decide +kernel) | exact .inr (by decide +kernel)) (by rw [isSubtype_type]; kernel_rfl)
theorem md_set : typeLookup (.type "method_descriptor") "__set__" = pure none := by rw [typeLookup_type, builtinLookup_eq_fast]; kernel_rfl
theorem md_delete : typeLookup (.type "method_descriptor") "__delete__" = pure none := by rw [typeLookup_type, builtinLookup_eq_fast]; kernel_rfl
theorem entry_md_get : entryFor table "method_descriptor.__get__" = some Builtin.«method_descriptor.__get__» := entryFor_of_tree (by kernel_rfl)
theorem args_md_get (a b c : Value) : argsOk "method_descriptor.__get__" ⟨[a, b, c], []⟩ := by unfold argsOk; kernel_rfl
theorem typeOf_list_append : typeOf (.builtin "list.append") = pure (.type "method_descriptor") := by show builtinType _ = _; rw [builtinType_eq_fast]; kernel_rfl
theorem sub_list_append : isSubtype (.type "list") (.type (".".intercalate ("list.append".cutAt '.').dropLast)) = pure true := by
  have e0 : "list.append".cutAt '.' = ["list", "append"] := by first | rfl | decide +kernel
  rw [e0]
  have e1 : (".".intercalate ["list", "append"].dropLast) = "list" := by decide +kernel
  rw [e1, isSubtype_type]; kernel_rfl
section
variable {prog : Program} {w : World} {A : Around} {E : Value → Shared → Prop} {h : Heap} {g : Array GenState} {d : Drawn} {t : Nat} {os : OsState} {a : Addr} {o : Obj} {xs : Array Value} {k : Nat}
theorem app_get {R : Result → Shared → Prop} (hx : h.get? a = some (listOf xs k)) (hq : R (.ok (.ret (.ref h.objs.size))) ⟨h.push (boundApp a), g, d, t, os⟩) :
    codeAny (model prog w) A (.call (.builtin "method_descriptor.__get__") ⟨[.builtin "list.append", .ref a, .type "list"], []⟩) R ⟨h, g, d, t, os⟩ := by
  have hT : (⟨h, g, d, t, os⟩ : Shared).TypeIs (.ref a) "list" := ⟨_, hx, rfl⟩
  have hT5 : (⟨h, g, d, t, os⟩ : Shared).TypeIs (.builtin "list.append") "method_descriptor" := typeOf_list_append
  have f8 := sub_list_append
  have f9 : Manifest.toldItsClass.contains "list.append" = false := by decide +kernel
  refine codeAny_call_builtin slot_md_get.plain entry_md_get (slot_md_get.check _ _ _ _ _ _ _ _ hT5 (args_md_get _ _ _) ?_)
  repeat (any_goals (first | assumption | wp_step))
theorem app_entry {tk : Tok} {Q : Fin → Shared → Prop} (hx : h.get? a = some (listOf xs k)) (hq : Q (.done (.ret (.ref h.objs.size))) ⟨h.push (boundApp a), g, d, t, os⟩) :
    wpAny (model prog w) A (Builtin.«object.__getattribute__» ⟨[.ref a, .str "append" tk], []⟩) Q E ⟨h, g, d, t, os⟩ := by
  have hT : (⟨h, g, d, t, os⟩ : Shared).TypeIs (.ref a) "list" := ⟨_, hx, rfl⟩
  have hT5 : (⟨h, g, d, t, os⟩ : Shared).TypeIs (.builtin "list.append") "method_descriptor" := typeOf_list_append
  have f4 := slot_list_append.lookup
  have f5 := typeOf_list_append
  have f6 := slot_md_get.lookup
  have f7 := md_set
  have f8 := md_delete
  unfold Builtin.«object.__getattribute__»
  repeat (any_goals (first | assumption | wp_step))
  refine app_get hx ?_
  repeat (any_goals (first | assumption | wp_step))
theorem app_call {tk : Tok} {R : Result → Shared → Prop} (hx : h.get? a = some (listOf xs k)) (hq : R (.ok (.ret (.ref h.objs.size))) ⟨h.push (boundApp a), g, d, t, os⟩) :
    codeAny (model prog w) A (.call (.builtin "list.__getattribute__") ⟨[.ref a, .str "append" tk], []⟩) R ⟨h, g, d, t, os⟩ :=
  codeAny_call_builtin F.slot_list_getattribute.plain F.entry_list_ga (F.slot_list_getattribute.check _ _ _ _ _ _ _ _ (show (⟨h, g, d, t, os⟩ : Shared).TypeIs (.ref a) "list" from ⟨_, hx, rfl⟩) (F.args_list_getattribute_2 _ _) (app_entry hx hq))
theorem app_by {tk : Tok} {ex : Bool} {Q : Value → Shared → Prop} (hx : h.get? a = some (listOf xs k)) (hq : Q (.ref h.objs.size) ⟨h.push (boundApp a), g, d, t, os⟩) : wpAny (model prog w) A (getAttrBy (.ref a) (.str "append" tk) true ex) Q E ⟨h, g, d, t, os⟩ := by
  have hT : (⟨h, g, d, t, os⟩ : Shared).TypeIs (.ref a) "list" := ⟨_, hx, rfl⟩
  have f2 := F.slot_list_getattribute.lookup
  have f3 := F.slot_list_getattribute.bind (.ref a)
  cases ex <;> repeat (any_goals (first | assumption | wp_step))
  all_goals (refine app_call hx ?_; repeat (any_goals (first | assumption | wp_step)))
theorem app_attr {Q : Value → Shared → Prop} (hx : h.get? a = some (listOf xs k)) (hq : Q (.ref h.objs.size) ⟨h.push (boundApp a), g, d, t + 1, os⟩) : wpAny (model prog w) A (getAttr (.ref a) "append" true) Q E ⟨h, g, d, t, os⟩ := by
  unfold getAttr
  repeat (any_goals (first | assumption | with_reducible apply app_by hx | wp_step))
end
end

section
open PySem PySem.W PyProof.Rows PySem.Calls

def StandsApp (l x : Addr) (h : Heap) : Prop := h.get? x = some (boundApp l)
theorem callWith_app0 {M : Model} {A : Around} {E : Value → Shared → Prop} {s : Shared} {l : Addr} {pos : Pos} {u : Addr} {first : List Value} {args : List (Bool × Sem Value)} {Q : Value → Shared → Prop} (hplain : args.any (·.1) = false)
    (h : wpAny M A (evalArgs (.ref u) true args []) (fun x s₁ => StandsApp l u s₁.heap ∧ wpAny M A (call (.ref u) (first ++ x.pos) x.kw) Q E s₁) E s) : wpAny M A (callWith pos (.ref u) first args []) Q E s := by
  unfold callWith
  refine wpAny_bind (wpAny_holding (wpAny_mono h (fun x s₁ h₁ => wpAny_bind (wpAny_standAt ?_)) fun _ _ x => x))
  obtain ⟨ho, hcall⟩ := h₁
  simp only [hplain, List.any_nil, Bool.or_false]
  refine wpAny_bind (m := keeperOf (.ref u)) ?_
  unfold keeperOf
  refine wpAny_bind (wpAny_load ho ?_)
  simp only [boundApp, show (Value.type "builtin_function_or_method" != Value.type "method") = true by decide, show (Value.type "builtin_function_or_method" == Value.type "builtin_function_or_method" || Value.type "builtin_function_or_method" == Value.type "method-wrapper") = true by decide, if_true]
  refine wpAny_pure ?_
  exact wpAny_bind (wpAny_mono hcall (fun r s₂ hr => wpAny_bind (wpAny_holding (wpAny_point (wpAny_pure hr)))) fun _ _ x => x)
theorem callWith_app {M : Model} {A : Around} {E : Value → Shared → Prop} {s : Shared} (l : Addr) {pos : Pos} {u : Addr} {first : List Value} {env : Env} {e : PySem.Expr} {rest : List PySem.Expr} {Q : Value → Shared → Prop}
    (h : wpAny M A (spliced (backTo pos (starEach (e :: rest) env))) (fun vs s₁ => StandsApp l u s₁.heap ∧ wpAny M A (call (.ref u) (first ++ vs)) Q E s₁) E s)
    (he : starEach (e :: rest) env = (false, eval e env) :: starEach rest env := by rfl) (hplain : (backTo pos (starEach rest env)).any (·.1) = false := by rfl) :
    wpAny M A (callWith pos (.ref u) first (backTo pos (starEach (e :: rest) env)) []) Q E s := by
  rw [he] at h ⊢
  refine callWith_app0 (l := l) (by show (false || (backTo pos (starEach rest env)).any (·.1)) = false; rw [hplain]; rfl) ?_
  exact evalArgs_plain h
theorem check_app {l : Addr} {x : Value} {M : Model} {A : Around} {E : Value → Shared → Prop} {s : Shared} {P : Unit → Shared → Prop} {xs : Array Value} {k : Nat} (hx : s.heap.get? l = some (listOf xs k)) (h : P () s) : wpAny M A (checkBoundCall "list.append" ⟨[.ref l, x], []⟩) P E s := by
  obtain ⟨hh, g, d, t, os⟩ := s
  have f1 : isSubtype (.type "list") (.type "module") = pure false := by rw [isSubtype_type]; kernel_rfl
  have f2 : isSubtype (.type "list") (.type "type") = pure false := by rw [isSubtype_type]; kernel_rfl
  have hT : (⟨hh, g, d, t, os⟩ : Shared).TypeIs (.ref l) "list" := ⟨_, hx, rfl⟩
  dsimp only at hx
  have f3 : Manifest.varargsMethods.contains "list.append" = false := by decide +kernel
  repeat (any_goals (first | assumption | wp_step))
theorem call_app {prog : Program} {w : World} {A : Around} {E : Value → Shared → Prop} {s : Shared} {l u : Addr} {x : Value} {h₀ : Heap} {L : Addr} {m : Str → Option Value} {news news' : List (Addr × Obj)} {its : Array Value} {n : Nat} {Q : Value → Shared → Prop}
    (F : Fr h₀ L s.heap m) (N : News h₀ L s.heap news) (hu : (u, boundApp l) ∈ news) (U : Upd l (listOf its n) (listOf (its.push x) (n + 1)) news news')
    (h : ∀ h', Fr h₀ L h' m → News h₀ L h' news' → Q .none { s with heap := h' }) (hsz : its.size ≤ sizeLine := by size_fits) : wpAny (model prog w) A (call (.ref u) [x]) Q E s := by
  obtain ⟨pre, post, rfl, rfl, a, b⟩ := U.split
  have z := N (l, listOf its n) (List.mem_append.mpr (.inr (.head _)))
  refine wpAny_call (codeAny_of_tree ?_)
  show wpAny _ A.in1 (callAny (.ref u) ⟨[x], []⟩) _ _ s
  simp only [callAny]
  refine wpAny_bind (wpAny_load (N _ hu).1 ?_)
  simp only [boundApp, show (Value.type "builtin_function_or_method" == Value.type "method" || Value.type "builtin_function_or_method" == Value.type "builtin_function_or_method" || Value.type "builtin_function_or_method" == Value.type "method-wrapper") = true by decide, if_true]
  refine KFB.if_so (by decide) ?_
  refine wpAny_bind (check_app z.1 ?_)
  refine wpAny_bind (wpAny_pure (wpAny_pure ?_))
  refine ⟨Code.quiet_builtin _ (by decide +kernel), codeAny_builtin entry_list_append ?_⟩
  show wpAny _ _ (updateSeq l (·.push x) >>= fun _ => ret .none) _ _ s
  refine wpAny_bind ?_
  refine wpAny_updateSeq z.1 rfl (wpAny_pure ?_)
  exact h _ (F.change (Heap.SameBut.update ..) z.2.1 z.2.2) (news_set N a b (Heap.SameBut.update ..) (by rw [Heap.get?_update_self _ z.1 (by rw [mapSeq_push]; rfl), mapSeq_push]))
end

section
open PySem PySem.W PyProof.Rows PyProof.Rows.LCg PySem.Calls

theorem compEnd_mono {h₀ : Heap} {L : Addr} {m : Str → Option Value} {s₁ : Shared} {I : Addr} {oI : Obj} {C : Addr} {oC : Obj} {D : Addr} {oD : Obj} {S : List (Addr × Obj) → Prop} {R R' : Value → List (Addr × Obj) → Prop} {y : Value} {s₂ : Shared}
    (h : ∀ y n, R y n → R' y n) (x : CompEnd h₀ L m s₁ I oI C oC D oD S R y s₂) : CompEnd h₀ L m s₁ I oI C oC D oD S R' y s₂ :=
  let ⟨h', tk, nw, e, F, N, o, hS, r⟩ := x; ⟨h', tk, nw, e, F, N, o, hS, h _ _ r⟩
/-- a comprehension of one name over n items, by an invariant over the results so far and the ledger -/
theorem compRest_inv {prog : Program} {w : World} {A : Around} {h₀ : Heap} {L : Addr} {m : Str → Option Value} {env : Env} {elt : PySem.Expr} {x : Str} {scope : Scope} {cl : List (Str × Addr)} {s : Shared} {S : List (Addr × Obj) → Prop} {P : Nat → Value → Prop}
    {Fin : List Value → List (Addr × Obj) → Prop} {n : Nat} (J : Nat → List Value → List (Addr × Obj) → Prop)
    (turn : ∀ i ys news, i < n → J i ys news → ∀ v I oI C oC D m₂ h tk (E' : Value → Shared → Prop), P i v → NsObj oC m₂ → m₂ x = some v → Fr h₀ L h m → News h₀ L h ((I, oI) :: (C, oC) :: (D, lst ys) :: news) → Off3 I C D news → ((@Ne Nat I C) ∧ (@Ne Nat I D) ∧ (@Ne Nat C D)) →
      wpAny (model prog w) A (eval elt (compEnvC scope cl C env)) (CompEnd h₀ L m { s with heap := h, toks := tk } I oI C oC D (lst ys) S (fun y news' => J (i + 1) (ys ++ [y]) news')) E' { s with heap := h, toks := tk })
    (done : ∀ ys news, J n ys news → Fin ys news) : ∀ k i ys news, i + k = n → J i ys news → CompRest prog w A h₀ L m env elt x scope cl s S P Fin k i ys news := by
  intro k
  induction k with
  | zero => intro i ys news e hJ; exact CompRest.zero (done _ _ (by rw [← e]; exact hJ))
  | succ k ih =>
    intro i ys news e hJ
    refine CompRest.succ fun v I oI C oC D m₂ h tk E' hP hN hx F N o ne => ?_
    exact wpAny_mono (turn i ys news (by omega) hJ v I oI C oC D m₂ h tk E' hP hN hx F N o ne) (fun y s₂ z => compEnd_mono (fun y nw hJ' => ih (i + 1) (ys ++ [y]) nw (by omega) hJ') z) fun _ _ z => z
end

section
open PySem PySem.W PyProof.Rows PyProof.Rows.LCg PySem.Calls

/-- the end of one turn of a comprehension over pairs: the iterators' objects (own) stand as they stood -/
inductive PEnd (h₀ : Heap) (L : Addr) (m : Str → Option Value) (s₁ : Shared) (C : Addr) (oC : Obj) (D : Addr) (oD : Obj) (own : List (Addr × Obj)) (rest : Value → List (Addr × Obj) → Prop) (y : Value) (s₂ : Shared) : Prop
  | mk (h' : _) (tk : _) (news' : _) (h1 : s₂ = { s₁ with heap := h', toks := tk }) (h2 : Fr h₀ L h' m) (h3 : News h₀ L h' ((C, oC) :: (D, oD) :: (news' ++ own))) (h4 : (∀ p ∈ news', ∀ q ∈ (C, oC) :: (D, oD) :: own, @Ne Nat p.1 q.1)) (h5 : rest y news') : PEnd h₀ L m s₁ C oC D oD own rest y s₂
theorem PEnd.intro {h₀ : Heap} {L C D : Addr} {m : Str → Option Value} {s₁ : Shared} {oC oD : Obj} {own : List (Addr × Obj)} {rest : Value → List (Addr × Obj) → Prop} {y : Value} {h' : Heap} {tk : Nat} {news' : List (Addr × Obj)}
    (F : Fr h₀ L h' m) (N : News h₀ L h' ((C, oC) :: (D, oD) :: (news' ++ own))) (off : ∀ p ∈ news', ∀ q ∈ (C, oC) :: (D, oD) :: own, @Ne Nat p.1 q.1) (r : rest y news') :
    PEnd h₀ L m s₁ C oC D oD own rest y { s₁ with heap := h', toks := tk } := ⟨h', tk, news', rfl, F, N, off, r⟩
/-- one turn, by an invariant -/
def PTurn (prog : Program) (w : World) (A : Around) (h₀ : Heap) (L : Addr) (m : Str → Option Value) (env : Env) (c : Option PySem.Expr) (elt : PySem.Expr) (a b : Str) (scope : Scope) (cl : List (Str × Addr)) (s : Shared)
    (n : Nat) (G : Nat → Value → Value → Prop) (J : Nat → List Value → List (Addr × Obj) → Prop) : Prop :=
  ∀ i ys news own x y C oC D m₂ h tk (E' : Value → Shared → Prop), i < n → J i ys news → G i x y → NsObj oC m₂ → m₂ a = some x → m₂ b = some y → Fr h₀ L h m → News h₀ L h ((C, oC) :: (D, lst ys) :: (news ++ own)) →
    (∀ p ∈ news, ∀ q ∈ (C, oC) :: (D, lst ys) :: own, @Ne Nat p.1 q.1) → (∀ q ∈ (D, lst ys) :: own, @Ne Nat q.1 C) → (∀ q ∈ own, @Ne Nat q.1 D) →
    match c with
    | none => wpAny (model prog w) A (eval elt (compEnvC scope cl C env)) (PEnd h₀ L m { s with heap := h, toks := tk } C oC D (lst ys) own (fun v news' => J (i + 1) (ys ++ [v]) news')) E' { s with heap := h, toks := tk }
    | some c => wpAny (model prog w) A (isTrue c (compEnvC scope cl C env) (eval c (compEnvC scope cl C env))) (fun okb s₃ => if okb = true then
        wpAny (model prog w) A (eval elt (compEnvC scope cl C env)) (PEnd h₀ L m { s with heap := h, toks := tk } C oC D (lst ys) own (fun v news' => J (i + 1) (ys ++ [v]) news')) E' s₃
        else PEnd h₀ L m { s with heap := h, toks := tk } C oC D (lst ys) own (fun _ news' => J (i + 1) ys news') .none s₃) E' { s with heap := h, toks := tk }
def pifs : Option PySem.Expr → List PySem.Expr
  | none => []
  | some c => [c]
section
variable {prog : Program} {w : World} {A : Around} {E : Value → Shared → Prop} {s : Shared} {h₀ : Heap} {L : Addr} {m : Str → Option Value} {env : Env}
theorem pair_loop {elt target iter : PySem.Expr} {c : Option PySem.Expr} {scope : Scope} {pos : Pos} {it acc : Value} {env : Env} {R : Result → Shared → Prop} (I : Nat → Shared → Prop)
    (turn : ∀ n s, I n s → wpAny (model prog w) A (pyNext it) (fun r s₁ => match r with
      | none => R (.ok .next) s₁
      | some v => wpAny (model prog w) A (letOwnedTupleGo target it v) (fun _ s₀ => wpAny (model prog w) A (assign target env v) (fun _ s₂ =>
          match c with
          | none => wpAny (model prog w) A (eval elt env) (fun x s₄ =>
            wpAny (model prog w) A (call (.builtin "list.append") [acc, x]) (fun _ s₅ => ∃ m, m < n ∧ I m s₅) (notedBy (model prog w) A env fun e s' => R (.error e) s') s₄) (notedBy (model prog w) A env fun e s' => R (.error e) s') s₂
          | some c => wpAny (model prog w) A (isTrue c env (eval c env)) (fun ok s₃ => if ok = true then wpAny (model prog w) A (eval elt env) (fun x s₄ =>
            wpAny (model prog w) A (call (.builtin "list.append") [acc, x]) (fun _ s₅ => ∃ m, m < n ∧ I m s₅) (notedBy (model prog w) A env fun e s' => R (.error e) s') s₄) (notedBy (model prog w) A env fun e s' => R (.error e) s') s₃
            else ∃ m, m < n ∧ I m s₃) (notedBy (model prog w) A env fun e s' => R (.error e) s') s₂)
          (notedBy (model prog w) A env fun e s' => R (.error e) s') s₀) (notedBy (model prog w) A env fun e s' => R (.error e) s') s₁) (notedBy (model prog w) A env fun e s' => R (.error e) s') s)
    (n : Nat) (h : I n s) : codeAny (model prog w) A (.compLoop (.ListComp elt [⟨target, iter, pifs c, 0⟩] scope pos) 0 it acc env) R s := by
  cases c with
  | none => exact kcp_loop I turn n h
  | some c => exact kct_loop I turn n h

theorem pair_block {elt iter : PySem.Expr} {c : Option PySem.Expr} {a b : Str} {pa pb tp : Pos} {kk : Nat} {scope : Scope} {cl : List (Str × Addr)} {pos : Pos} {s₂ : Shared} {I : Addr} {fp wr : List Addr} {n : Nat} {Pt : Nat → Array Value → Prop}
    {Md : Nat → Value → Heap → Prop} {St : Nat → Heap → Prop} {G : Nat → Value → Value → Prop} {keep news : List (Addr × Obj)} {J : Nat → List Value → List (Addr × Obj) → Prop} {RR : Value → Addr → Result → Shared → Prop}
    (W : KTurns prog w A (.Tuple [.Name a pa, .Name b pb] kk tp) I fp wr n (fun i v h => ∃ T vals, v = .ref T ∧ Pt i vals ∧ h.IsTuple T vals) Md St)
    (hself : ∀ (s : Shared) (Q : Value → Shared → Prop) (E : Value → Shared → Prop), St 0 s.heap → Q (.ref I) s → wpAny (model prog w) A (pyIter (.ref I)) Q E s)
    (hG : ∀ i vals, Pt i vals → ∃ x y, vals = #[x, y] ∧ G i x y)
    (hlive : ∀ i h, St i h → ∀ b ∈ wr, ∃ o, h.get? b = some o)
    (hfpk : ∀ b ∈ fp, b ∈ wr ∨ ∃ o, (b, o) ∈ keep) (hkeep : ∀ i ys news, J i ys news → ∀ p ∈ keep, p ∈ news)
    (hJl : ∀ i ys news, J i ys news → i ≤ n → ys.length ≤ sizeLine)
    (hh : A.handled = none) (hst : St 0 s₂.heap) (hfp : ∀ b ∈ fp, b < s₂.heap.objs.size)
    (hcell : ∀ y ∈ scope.names, y.2 ≠ .cell) (hkind : scope.kind = .function) (hxa : scope.names.lookup a = some .local) (hxb : scope.names.lookup b = some .local) (hab : ¬ a = b)
    (F : Fr h₀ L s₂.heap m) (N : News h₀ L s₂.heap news) (hLw : L ∉ wr) (hw₀ : ∀ b ∈ wr, h₀.get? b = none) (off : ∀ p ∈ news, p.1 ∉ wr) (J0 : J 0 [] news)
    (R : PTurn prog w A h₀ L m env c elt a b scope cl s₂ n G J)
    (hRR : ∀ D C h tk m' ys news', Fr h₀ L h m → News h₀ L h ((D, lst ys) :: news') → (∀ p ∈ news', @Ne Nat p.1 D) → h.Ns C m' → h₀.get? C = none → h₀.get? D = none → C ≠ L → D ≠ L → C ≠ D → (∀ p ∈ news', p.1 ≠ C) → J n ys news' → RR (.ref D) C (.ok .next) { s₂ with heap := h, toks := tk }) :
    wpAny (model prog w) A (newList []) (fun acc s₃ => wpAny (model prog w) A (newFunctionEnv scope env.globals cl [] env.qual none .none (some env)) (fun cenv s₄ =>
      codeAny (model prog w) A (.compStart (.ListComp elt [⟨.Tuple [.Name a pa, .Name b pb] kk tp, iter, pifs c, 0⟩] scope pos) 0 (.ref I) acc { cenv with scope := relabel scope env }) (RR acc cenv.locals) s₄) E s₃) E s₂ := by
  refine wpAny_newObj_type (wpAny_newFunctionEnv hcell (by intro y hy; simp at hy) (fun h₁ hns₁ hsb₁ => ?_) hkind)
  dsimp only at hns₁ hsb₁ ⊢
  generalize hH2 : s₂.heap.push { cls := .type "list", dict := none, data := .seq ([] : List Value).toArray } = H2 at hns₁ hsb₁ ⊢
  have hC : H2.objs.size = s₂.heap.objs.size + 1 := by rw [← hH2, Heap.size_push]
  have hDC : s₂.heap.objs.size ≠ H2.objs.size := by rw [hC]; exact Nat.ne_of_lt (Nat.lt_succ_self _)
  have below : ∀ b, b < s₂.heap.objs.size → b ≠ H2.objs.size ∧ b ≠ s₂.heap.objs.size := fun b hb => ⟨by rw [hC]; exact Nat.ne_of_lt (Nat.lt_succ_of_lt hb), Nat.ne_of_lt hb⟩
  have old : ∀ b o, s₂.heap.get? b = some o → h₁.get? b = some o := fun b o e => hsb₁.extBut b o (below b (Heap.lt_size e)).1 (Heap.get?_push_of_some _ (hH2 ▸ Heap.get?_push_of_some _ e))
  have hacc : h₁.get? s₂.heap.objs.size = some (lst []) := hsb₁.extBut _ _ hDC (Heap.get?_push_of_some _ (hH2 ▸ Heap.get?_push_size _ rfl))
  have hst₁ : St 0 h₁ := W.frame _ _ _ hst fun b _ o e => old b o e
  have fresh : ∀ a, s₂.heap.objs.size ≤ a → s₂.heap.get? a = none := fun a ha => by
    cases e : s₂.heap.get? a with
    | none => rfl
    | some o' => exact absurd (Heap.lt_size e) (Nat.not_lt.mpr ha)
  have fresh₀ : ∀ a, s₂.heap.objs.size ≤ a → h₀.get? a = none := fun a ha => by
    cases e : h₀.get? a with
    | none => rfl
    | some o' => have := F.keep a o' e; rw [fresh a ha] at this; cases this
  have hD₀ : h₀.get? s₂.heap.objs.size = none := fresh₀ _ (Nat.le_refl _)
  have hC₀ : h₀.get? H2.objs.size = none := fresh₀ _ (by rw [hC]; exact Nat.le_succ _)
  have hLlt : L < s₂.heap.objs.size := F.ns.lt
  have hDL : s₂.heap.objs.size ≠ L := Ne.symm (below L hLlt).2
  have hCL : H2.objs.size ≠ L := Ne.symm (below L hLlt).1
  have wrC : ∀ b ∈ wr, b ≠ H2.objs.size := fun b hb => (below b (hfp b (W.sub b hb))).1
  have wrD : ∀ b ∈ wr, b ≠ s₂.heap.objs.size := fun b hb => (below b (hfp b (W.sub b hb))).2
  have fpC : ∀ b ∈ fp, b ≠ H2.objs.size := fun b hb => (below b (hfp b hb)).1
  have fpD : ∀ b ∈ fp, b ≠ s₂.heap.objs.size := fun b hb => (below b (hfp b hb)).2
  have old₀ : ∀ b o, h₀.get? b = some o → b ∉ wr := fun b o e hb => by rw [hw₀ b hb] at e; cases e
  have loop : ∀ s₃ : Shared, s₃ = { s₂ with heap := h₁, toks := s₂.toks + ([] : List (Str × Value)).length } →
      codeAny (model prog w) A (.compLoop (.ListComp elt [⟨.Tuple [.Name a pa, .Name b pb] kk tp, iter, pifs c, 0⟩] scope pos) 0 (.ref I) (.ref s₂.heap.objs.size) (compEnvC scope cl H2.objs.size env))
        (RR (.ref s₂.heap.objs.size) H2.objs.size) s₃ := by
    rintro s₃ rfl
    refine pair_loop
      (fun k s' => ∃ h' tk i ys m' news', s' = { s₂ with heap := h', toks := tk } ∧ i ≤ n ∧ k = n + 1 - i ∧ St i h' ∧ Fr h₀ L h' m ∧ h'.Ns H2.objs.size m' ∧
        News h₀ L h' ((s₂.heap.objs.size, lst ys) :: news') ∧ (∀ p ∈ news', p.1 ∉ wr ∧ p.1 ≠ H2.objs.size ∧ p.1 ≠ s₂.heap.objs.size) ∧ J i ys news') ?_ (n + 1)
      ⟨h₁, _, 0, [], _, news, rfl, Nat.zero_le _, rfl, hst₁, F.keeps old, hns₁, fun p hp => ?_, fun p hp => ⟨off p hp, below _ (Heap.lt_size (N p hp).1)⟩, J0⟩
    · rintro k s' ⟨h', tk, i, ys, m', news', rfl, hi, rfl, hst', F', hn', N', off', hJ⟩
      by_cases hlt : i < n
      · refine W.item i _ _ _ hlt hst' fun v h₂ tk₂ hMd hk₂ => ?_
        refine W.go i v _ _ _ hMd fun h₃ hP hst₃ hk₃ => ?_
        obtain ⟨T, vals, rfl, hPt, hT⟩ := hP
        obtain ⟨x, y, rfl, hg⟩ := hG i vals hPt
        have up₃ : ∀ c o, c ∉ wr → h'.get? c = some o → h₃.get? c = some o := fun c o hc e => hk₃ c o hc (hk₂ c o hc e)
        have hCw : H2.objs.size ∉ wr := fun hm => wrC _ hm rfl
        have hDw : s₂.heap.objs.size ∉ wr := fun hm => wrD _ hm rfl
        refine kcp_assign (env := compEnvC scope cl H2.objs.size env) hh hT (lookup_relabel_local hxa) (lookup_relabel_local hxb) (by simp [compEnvC, relabel, hkind]) (hn'.at' fun o e => up₃ _ o hCw e) fun h₄ tk₄ hn₄ hs₄ => ?_
        have up : ∀ c o, c ∉ wr → c ≠ H2.objs.size → h'.get? c = some o → h₄.get? c = some o := fun c o h1 h2 e => hs₄ c o h2 (up₃ c o h1 e)
        have hst₄ : St (i + 1) h₄ := W.frame _ _ _ hst₃ fun b hb o e => hs₄ b o (fpC b hb) e
        obtain ⟨oC, heC, hoC⟩ := ns_obj hn₄
        have F₄ : Fr h₀ L h₄ m := ⟨F'.ns.at' fun o e => up _ o hLw (Ne.symm hCL) e, fun c o e => up c o (old₀ c o e) (fun q => by rw [q, hC₀] at e; cases e) (F'.keep c o e), F'.above⟩
        obtain ⟨own, hown⟩ : ∃ own, own = ownOf h₀ wr h₄ := ⟨_, rfl⟩
        have Nown : News h₀ L h₄ own := hown ▸ news_ownOf hLw
        have ownwr : ∀ q ∈ own, q.1 ∈ wr := fun q hq => ownOf_sub q (hown ▸ hq)
        have N₄ : News h₀ L h₄ ((H2.objs.size, oC) :: (s₂.heap.objs.size, lst ys) :: (news' ++ own)) := fun q hq => by
          rcases List.mem_cons.mp hq with rfl | hq
          · exact ⟨heC, hCL, hC₀⟩
          rcases List.mem_cons.mp hq with rfl | hq
          · have z := N' _ List.mem_cons_self
            exact ⟨up _ _ hDw hDC z.1, z.2⟩
          rcases List.mem_append.mp hq with hq | hq
          · have z := N' q (List.mem_cons_of_mem _ hq)
            exact ⟨up _ _ (off' q hq).1 (off' q hq).2.1 z.1, z.2⟩
          · exact Nown q hq
        have offT : ∀ p ∈ news', ∀ q ∈ (H2.objs.size, oC) :: (s₂.heap.objs.size, lst ys) :: own, @Ne Nat p.1 q.1 := fun p hp q hq => by
          rcases List.mem_cons.mp hq with rfl | hq
          · exact (off' p hp).2.1
          rcases List.mem_cons.mp hq with rfl | hq
          · exact (off' p hp).2.2
          · exact fun e => (off' p hp).1 (by have e' : p.1 = q.1 := e; rw [e']; exact ownwr q hq)
        have offC : ∀ q ∈ (s₂.heap.objs.size, lst ys) :: own, @Ne Nat q.1 H2.objs.size := fun q hq => by
          rcases List.mem_cons.mp hq with rfl | hq
          · exact hDC
          · exact wrC _ (ownwr q hq)
        have offD : ∀ q ∈ own, @Ne Nat q.1 s₂.heap.objs.size := fun q hq => wrD _ (ownwr q hq)
        have fin : ∀ (ys' : List Value) (h₅ : Heap) (tk₅ : Nat) (news₅ : List (Addr × Obj)), Fr h₀ L h₅ m → News h₀ L h₅ ((H2.objs.size, oC) :: (s₂.heap.objs.size, lst ys') :: (news₅ ++ own)) → (∀ p ∈ news₅, ∀ q ∈ (H2.objs.size, oC) :: (s₂.heap.objs.size, lst ys) :: own, @Ne Nat p.1 q.1) →
            J (i + 1) ys' news₅ →
            ∃ q', q' < n + 1 - i ∧ (∃ h' tk i ys m' news', ({ s₂ with heap := h₅, toks := tk₅ } : Shared) = { s₂ with heap := h', toks := tk } ∧ i ≤ n ∧ q' = n + 1 - i ∧ St i h' ∧ Fr h₀ L h' m ∧ h'.Ns H2.objs.size m' ∧
        News h₀ L h' ((s₂.heap.objs.size, lst ys) :: news') ∧ (∀ p ∈ news', p.1 ∉ wr ∧ p.1 ≠ H2.objs.size ∧ p.1 ≠ s₂.heap.objs.size) ∧ J i ys news') := by
          intro ys' h₅ tk₅ news₅ F₅ N₅ off₅ hJ₅
          have zC := (N₅ _ List.mem_cons_self).1
          have hst₅ : St (i + 1) h₅ := W.frame _ _ _ hst₄ fun b hb o e => by
            rcases hfpk b hb with hbw | ⟨o', ho'⟩
            · have hm : (b, o) ∈ own := hown ▸ mem_ownOf hbw (hw₀ b hbw) e
              exact (N₅ (b, o) (List.mem_cons_of_mem _ (List.mem_cons_of_mem _ (List.mem_append_right _ hm)))).1
            · have h4 := (N₄ (b, o') (List.mem_cons_of_mem _ (List.mem_cons_of_mem _ (List.mem_append_left _ (hkeep _ _ _ hJ _ ho'))))).1
              have h5 := (N₅ (b, o') (List.mem_cons_of_mem _ (List.mem_cons_of_mem _ (List.mem_append_left _ (hkeep _ _ _ hJ₅ _ ho'))))).1
              have e' : o = o' := Option.some.inj (e.symm.trans h4)
              exact e' ▸ h5
          refine ⟨n + 1 - (i + 1), by omega, h₅, tk₅, i + 1, ys', _, news₅, rfl, hlt, rfl, hst₅, F₅, hoC.ns zC, fun q hq => N₅ q ?_, fun p hp => ⟨fun hm => ?_, ?_, ?_⟩, hJ₅⟩
          · rcases List.mem_cons.mp hq with rfl | hq
            · exact List.mem_cons_of_mem _ List.mem_cons_self
            · exact List.mem_cons_of_mem _ (List.mem_cons_of_mem _ (List.mem_append_left _ hq))
          · obtain ⟨o, ho⟩ := hlive _ _ hst₄ p.1 hm
            exact off₅ p hp (p.1, o) (List.mem_cons_of_mem _ (List.mem_cons_of_mem _ (hown ▸ mem_ownOf hm (hw₀ _ hm) ho))) rfl
          · exact off₅ p hp (H2.objs.size, oC) List.mem_cons_self
          · exact off₅ p hp (s₂.heap.objs.size, lst ys) (List.mem_cons_of_mem _ List.mem_cons_self)
        have app : ∀ y s₆, PEnd h₀ L m { s₂ with heap := h₄, toks := tk₄ } H2.objs.size oC s₂.heap.objs.size (lst ys) own (fun v news' => J (i + 1) (ys ++ [v]) news') y s₆ →
            wpAny (model prog w) A (call (.builtin "list.append") [.ref s₂.heap.objs.size, y]) (fun _ s₅ => ∃ q', q' < n + 1 - i ∧ (∃ h' tk i ys m' news', s₅ = { s₂ with heap := h', toks := tk } ∧ i ≤ n ∧ q' = n + 1 - i ∧ St i h' ∧ Fr h₀ L h' m ∧ h'.Ns H2.objs.size m' ∧
        News h₀ L h' ((s₂.heap.objs.size, lst ys) :: news') ∧ (∀ p ∈ news', p.1 ∉ wr ∧ p.1 ≠ H2.objs.size ∧ p.1 ≠ s₂.heap.objs.size) ∧ J i ys news')) (notedBy (model prog w) A (compEnvC scope cl H2.objs.size env) fun e s' => RR (.ref s₂.heap.objs.size) H2.objs.size (.error e) s') s₆ := by
          rintro y s₆ ⟨h₅, tk₅, news₅, rfl, F₅, N₅, off₅, hJ₅⟩
          have zC := (N₅ (H2.objs.size, oC) List.mem_cons_self).1
          have zD := (N₅ (s₂.heap.objs.size, lst ys) (List.mem_cons_of_mem _ List.mem_cons_self)).1
          refine append_at (hsz := by show ys.toArray.size ≤ sizeLine; rw [List.size_toArray]; exact hJl _ _ _ hJ hi) zD fun h₆ hs₆ hD₆ => ?_
          refine fin (ys ++ [y]) h₆ _ news₅ (F₅.change hs₆ hDL hD₀) (fun q hq => ?_) off₅ hJ₅
          rcases List.mem_cons.mp hq with rfl | hq
          · exact ⟨hs₆.extBut _ oC (Ne.symm hDC) zC, hCL, hC₀⟩
          rcases List.mem_cons.mp hq with rfl | hq
          · exact ⟨hD₆.trans (congrArg some (lst_snoc ys y)), hDL, hD₀⟩
          have z := N₅ q (List.mem_cons_of_mem _ (List.mem_cons_of_mem _ hq))
          refine ⟨hs₆.extBut _ _ ?_ z.1, z.2⟩
          rcases List.mem_append.mp hq with hq | hq
          · exact off₅ q hq (s₂.heap.objs.size, lst ys) (List.mem_cons_of_mem _ List.mem_cons_self)
          · exact offD q hq
        have R' := R i ys news' own x y H2.objs.size oC s₂.heap.objs.size _ h₄ tk₄ (notedBy (model prog w) A (compEnvC scope cl H2.objs.size env) fun e s' => RR (.ref s₂.heap.objs.size) H2.objs.size (.error e) s') hlt hJ hg hoC (by simp [hab]) (by simp) F₄ N₄ offT offC offD
        cases c with
        | none => exact wpAny_mono R' (fun y s₆ h₆ => app y s₆ h₆) fun _ _ e => e
        | some c =>
          refine wpAny_mono R' (fun okb s₅ h₅ => ?_) fun _ _ e => e
          cases okb with
          | false =>
            simp only [Bool.false_eq_true, if_false] at h₅ ⊢
            obtain ⟨h₅, tk₅, news₅, rfl, F₅, N₅, off₅, hJ₅⟩ := h₅
            exact fin ys h₅ tk₅ news₅ F₅ N₅ off₅ hJ₅
          | true =>
            simp only [if_true] at h₅ ⊢
            exact wpAny_mono h₅ (fun y s₆ h₆ => app y s₆ h₆) fun _ _ e => e
      · have hin : i = n := Nat.le_antisymm hi (Nat.not_lt.mp hlt)
        subst hin
        refine W.done _ _ _ hst' fun h₂ tk₂ hk₂ => ?_
        refine hRR _ _ h₂ tk₂ _ ys news' ⟨F'.ns.at' fun o e => hk₂ L o hLw e, fun b o e => hk₂ b o (old₀ b o e) (F'.keep b o e), F'.above⟩ (fun p hp => ?_) (fun p hp => (off' p hp).2.2) (hn'.at' fun o e => hk₂ _ o (fun hm => wrC _ hm rfl) e) hC₀ hD₀ hCL hDL (Ne.symm hDC) (fun p hp => (off' p hp).2.1) hJ
        have z := N' p hp
        refine ⟨hk₂ _ _ ?_ z.1, z.2⟩
        rcases List.mem_cons.mp hp with rfl | hp
        · exact fun hm => wrD _ hm rfl
        · exact (off' p hp).1
    · rcases List.mem_cons.mp hp with rfl | hp
      · exact ⟨hacc, hDL, hD₀⟩
      · exact ⟨old _ _ (N p hp).1, (N p hp).2⟩
  exact codeAny_compStart_list (loop _ rfl) (hself _ _ _ hst₁ (loop _ rfl))
end
end

section
open PySem PySem.W PyProof.Rows PyProof.Rows.LCg PySem.Calls

structure ZApart (z TI TO i1 i2 : Addr) (fp1 fp2 : List Addr) : Prop where
  TIz : TI ≠ z
  TOz : TO ≠ z
  i1z : i1 ≠ z
  i2z : i2 ≠ z
  TITO : TI ≠ TO
  TIi1 : TI ≠ i1
  TIi2 : TI ≠ i2
  TOi1 : TO ≠ i1
  TOi2 : TO ≠ i2
  i12 : i1 ≠ i2
  z1 : z ∉ fp1
  z2 : z ∉ fp2
  TO1 : TO ∉ fp1
  TO2 : TO ∉ fp2
  i21 : i2 ∉ fp1
  i12f : i1 ∉ fp2
  in1 : i1 ∈ fp1
  in2 : i2 ∈ fp2
section
variable {prog : Program} {w : World} {A : Around} {E : Value → Shared → Prop} {s : Shared}
theorem stBut {fp : List Addr} {n : Nat} {P : Nat → Value → Prop} {St : Nat → Heap → Prop} {it b : Addr} {i : Nat} {h h' : Heap} (D : Draws prog w A it fp n P St) (st : St i h) (e : Heap.SameBut b h h') (hb : b ∉ fp) : St i h' :=
  D.frame _ _ _ st fun c hc o x => e.extBut c o (fun q => hb (q ▸ hc)) x
theorem zipD_item {z TI TO i1 i2 : Addr} {fp1 fp2 : List Addr} {n1 n2 k : Nat} {P1 P2 : Nat → Value → Prop} {St1 St2 : Nat → Heap → Prop} {a b : Value} {Q : Value → Shared → Prop}
    (D1 : ∀ A' : Around, A'.handled = none → Draws prog w A' i1 fp1 n1 P1 St1) (D2 : ∀ A' : Around, A'.handled = none → Draws prog w A' i2 fp2 n2 P2 St2) (hh : A.handled = none) (D : ZApart z TI TO i1 i2 fp1 fp2)
    (hz : IsZip s.heap z TI TO .none) (hTI : IsPair s.heap TI (.ref i1) (.ref i2)) (hTO : IsPair s.heap TO a b)
    (h1 : St1 k s.heap) (h2 : St2 k s.heap) (hx : k < n1) (hy : k < n2)
    (hQ : ∀ x y h' tk, P1 k x → P2 k y → IsZip h' z TI TO (rawInt s.heap.objs.size) → IsPair h' TO x y → St1 (k + 1) h' → St2 (k + 1) h' → IsPair h' s.heap.objs.size x y →
      (∀ c o, c ≠ z → c ≠ TO → c ≠ i1 → c ≠ i2 → s.heap.get? c = some o → h'.get? c = some o) → Q (.ref s.heap.objs.size) { s with heap := h', toks := tk }) :
    wpAny (model prog w) A (Builtin.«zip.__next__» ⟨[.ref z], []⟩) (fun fin s' => ∃ v, fin = .done (.ret v) ∧ Q v s') E s := by
  have E1 := D1 A hh
  have E2 := D2 A hh
  show wpAny _ _ (field (.ref z) 2 >>= _) _ _ _
  refine wpAny_bind (wpAny_field hz rfl (x := .bool false) rfl ?_)
  show wpAny _ _ (field (.ref z) 3 >>= _) _ _ _
  refine wpAny_bind (wpAny_field hz rfl (x := .ref TI) rfl ?_)
  refine wpAny_bind (wpAny_seqItems hTI rfl ?_)
  show wpAny _ _ (Builtin.SmallTypes.ownedTupleIsFree (.ref z) >>= _) _ _ _
  refine wpAny_bind ?_
  unfold Builtin.SmallTypes.ownedTupleIsFree
  refine wpAny_bind (wpAny_field hz rfl (x := .none) rfl (wpAny_pure ?_))
  simp only [if_true]
  refine wpAny_bind (wpAny_rule ?_)
  refine wpAny_bind (wpAny_field hz rfl (x := .ref TO) rfl ?_)
  refine wpAny_bind (wpAny_setField_rec hz (by simp) fun h₁ hz₁ hs₁ => ?_)
  replace hz₁ : IsZip h₁ z TI TO .ellipsis := hz₁
  refine wpAny_bind ?_
  simp only [List.zipIdx_cons, List.zipIdx_nil, List.forIn_cons, List.forIn_nil]
  refine wpAny_bind (wpAny_bind (wpAny_onRaise ?_))
  show wpAny _ _ (Builtin.SmallTypes.nextOf (.ref i1) >>= _) _ _ _
  refine wpAny_bind ((D1 _ hh).item k _ _ _ hx (stBut E1 h1 hs₁ D.z1) fun x h₂ tk₂ hP1 h1₂ hs₂ => wpAny_pure ?_)
  have hTO₂ : IsPair h₂ TO a b := hs₂.extBut _ _ D.TOi1 (hs₁.extBut _ _ D.TOz hTO)
  refine wpAny_bind (wpAny_seqItems hTO₂ rfl ?_)
  refine wpAny_bind (wpAny_updateSeq_pair hTO₂ fun h₃ hTO₃ hs₃ => ?_)
  replace hTO₃ : IsPair h₃ TO x b := hTO₃
  refine wpAny_bind (wpAny_letGo (wpAny_pure ?_))
  refine wpAny_bind (wpAny_bind (wpAny_onRaise ?_))
  show wpAny _ _ (Builtin.SmallTypes.nextOf (.ref i2) >>= _) _ _ _
  refine wpAny_bind ((D2 _ hh).item k _ _ _ hy (stBut E2 (stBut E2 (stBut E2 h2 hs₁ D.z2) hs₂ D.i12f) hs₃ D.TO2) fun y h₄ tk₄ hP2 h2₄ hs₄ => wpAny_pure ?_)
  have hTO₄ : IsPair h₄ TO x b := hs₄.extBut _ _ D.TOi2 hTO₃
  refine wpAny_bind (wpAny_seqItems hTO₄ rfl ?_)
  refine wpAny_bind (wpAny_updateSeq_pair hTO₄ fun h₅ hTO₅ hs₅ => ?_)
  replace hTO₅ : IsPair h₅ TO x y := hTO₅
  refine wpAny_bind (wpAny_letGo (wpAny_pure (wpAny_pure ?_)))
  refine wpAny_bind (wpAny_seqItems hTO₅ rfl ?_)
  refine wpAny_bind (wpAny_newTuple ?_)
  have hsz : h₅.objs.size = s.heap.objs.size := by rw [hs₅.1, hs₄.1, hs₃.1, hs₂.1, hs₁.1]
  have hz₅ : IsZip h₅ z TI TO .ellipsis := hs₅.extBut _ _ D.TOz.symm (hs₄.extBut _ _ D.i2z.symm (hs₃.extBut _ _ D.TOz.symm (hs₂.extBut _ _ D.i1z.symm hz₁)))
  have hk₅ : ∀ c o, c ≠ z → c ≠ TO → c ≠ i1 → c ≠ i2 → s.heap.get? c = some o → h₅.get? c = some o := fun c o c1 c2 c3 c4 e =>
    hs₅.extBut _ _ c2 (hs₄.extBut _ _ c4 (hs₃.extBut _ _ c2 (hs₂.extBut _ _ c3 (hs₁.extBut _ _ c1 e))))
  have h1₅ : St1 (k + 1) h₅ := stBut E1 (stBut E1 (stBut E1 h1₂ hs₃ D.TO1) hs₄ D.i21) hs₅ D.TO1
  have h2₅ : St2 (k + 1) h₅ := stBut E2 h2₄ hs₅ D.TO2
  have hzlt : z < h₅.objs.size := Heap.lt_size hz₅
  show wpAny _ _ (Builtin.SmallTypes.ownedTupleHandOut (.ref z) (.ref h₅.objs.size) >>= _) _ _ _
  refine wpAny_bind ?_
  unfold Builtin.SmallTypes.ownedTupleHandOut
  have hz₆ : IsZip (h₅.push { cls := .type "tuple", data := .seq #[x, y] }) z TI TO .ellipsis := Heap.get?_push_of_some _ hz₅
  refine wpAny_bind (wpAny_setField_rec hz₆ (by simp) fun h₇ hz₇ hs₇ => ?_)
  replace hz₇ : IsZip h₇ z TI TO (rawInt h₅.objs.size) := hz₇
  refine wpAny_setField_rec hz₇ (by simp) fun h₈ hz₈ hs₈ => ?_
  replace hz₈ : IsZip h₈ z TI TO (rawInt h₅.objs.size) := hz₈
  have up : ∀ c o, c ≠ z → h₅.get? c = some o → h₈.get? c = some o := fun c o c1 e => hs₈.extBut _ _ c1 (hs₇.extBut _ _ c1 (Heap.get?_push_of_some _ e))
  have hT₈ : IsPair h₈ h₅.objs.size x y := hs₈.extBut _ _ (Nat.ne_of_gt hzlt) (hs₇.extBut _ _ (Nat.ne_of_gt hzlt) (Heap.get?_push_size _ rfl))
  rw [hsz] at hz₈ hT₈
  refine wpAny_pure ⟨_, rfl, ?_⟩
  show Q (.ref h₅.objs.size) _
  rw [hsz]
  exact hQ x y h₈ _ hP1 hP2 hz₈ (up _ _ D.TOz hTO₅) (E1.frame _ _ _ h1₅ fun c hc o e => up c o (fun q => D.z1 (q ▸ hc)) e) (E2.frame _ _ _ h2₅ fun c hc o e => up c o (fun q => D.z2 (q ▸ hc)) e) hT₈ fun c o c1 c2 c3 c4 e => up c o c1 (hk₅ c o c1 c2 c3 c4 e)
theorem zipD_end {z TI TO i1 i2 : Addr} {fp1 fp2 : List Addr} {n1 n2 : Nat} {P1 P2 : Nat → Value → Prop} {St1 St2 : Nat → Heap → Prop} {a b : Value} {Q : Fin → Shared → Prop}
    (D1 : ∀ A' : Around, A'.handled = none → Draws prog w A' i1 fp1 n1 P1 St1) (D2 : ∀ A' : Around, A'.handled = none → Draws prog w A' i2 fp2 n2 P2 St2) (hh : A.handled = none) (D : ZApart z TI TO i1 i2 fp1 fp2)
    (hz : IsZip s.heap z TI TO .none) (hTI : IsPair s.heap TI (.ref i1) (.ref i2)) (hTO : IsPair s.heap TO a b)
    (h1 : St1 (min n1 n2) s.heap) (h2 : St2 (min n1 n2) s.heap)
    (hE : ∀ h' tk e, (∀ c o, c ≠ z → c ≠ TO → c ≠ i1 → c ≠ i2 → s.heap.get? c = some o → h'.get? c = some o) → (∃ o, h'.get? e = some o ∧ o.cls = .type "StopIteration") → E (.ref e) { s with heap := h', toks := tk }) :
    wpAny (model prog w) A (Builtin.«zip.__next__» ⟨[.ref z], []⟩) Q E s := by
  have E1 := D1 A hh
  have E2 := D2 A hh
  show wpAny _ _ (field (.ref z) 2 >>= _) _ _ _
  refine wpAny_bind (wpAny_field hz rfl (x := .bool false) rfl ?_)
  show wpAny _ _ (field (.ref z) 3 >>= _) _ _ _
  refine wpAny_bind (wpAny_field hz rfl (x := .ref TI) rfl ?_)
  refine wpAny_bind (wpAny_seqItems hTI rfl ?_)
  show wpAny _ _ (Builtin.SmallTypes.ownedTupleIsFree (.ref z) >>= _) _ _ _
  refine wpAny_bind ?_
  unfold Builtin.SmallTypes.ownedTupleIsFree
  refine wpAny_bind (wpAny_field hz rfl (x := .none) rfl (wpAny_pure ?_))
  simp only [if_true]
  refine wpAny_bind (wpAny_rule ?_)
  refine wpAny_bind (wpAny_field hz rfl (x := .ref TO) rfl ?_)
  refine wpAny_bind (wpAny_setField_rec hz (by simp) fun h₁ hz₁ hs₁ => ?_)
  replace hz₁ : IsZip h₁ z TI TO .ellipsis := hz₁
  refine wpAny_bind ?_
  simp only [List.zipIdx_cons, List.zipIdx_nil, List.forIn_cons, List.forIn_nil]
  refine wpAny_bind (wpAny_bind (wpAny_onRaise ?_))
  show wpAny _ _ (Builtin.SmallTypes.nextOf (.ref i1) >>= _) _ _ _
  by_cases hx : min n1 n2 < n1
  · have hn : min n1 n2 = n2 := by omega
    refine wpAny_bind ((D1 _ hh).item _ _ _ _ hx (stBut E1 h1 hs₁ D.z1) fun x h₂ tk₂ hP1 h1₂ hs₂ => wpAny_pure ?_)
    have hTO₂ : IsPair h₂ TO a b := hs₂.extBut _ _ D.TOi1 (hs₁.extBut _ _ D.TOz hTO)
    refine wpAny_bind (wpAny_seqItems hTO₂ rfl ?_)
    refine wpAny_bind (wpAny_updateSeq_pair hTO₂ fun h₃ hTO₃ hs₃ => ?_)
    refine wpAny_bind (wpAny_letGo (wpAny_pure ?_))
    refine wpAny_bind (wpAny_bind (wpAny_onRaise ?_))
    show wpAny _ _ (Builtin.SmallTypes.nextOf (.ref i2) >>= _) _ _ _
    refine wpAny_bind ((D2 _ hh).done _ _ _ (by rw [← hn]; exact stBut E2 (stBut E2 (stBut E2 h2 hs₁ D.z2) hs₂ D.i12f) hs₃ D.TO2) fun h₄ e hs₄ he => ?_)
    obtain ⟨oe, hoe, hce⟩ := he
    have hz₄ : IsZip h₄ z TI TO .ellipsis := hs₄ _ _ D.i2z.symm (hs₃.extBut _ _ D.TOz.symm (hs₂.extBut _ _ D.i1z.symm hz₁))
    have hez : e ≠ z := fun x => by subst x; rw [hz₄] at hoe; cases hoe; simp at hce
    refine wpAny_setField_rec hz₄ (by simp) fun h₅ _ hs₅ => hE h₅ _ e (fun c o c1 c2 c3 c4 x => hs₅.extBut _ _ c1 (hs₄ _ _ c4 (hs₃.extBut _ _ c2 (hs₂.extBut _ _ c3 (hs₁.extBut _ _ c1 x))))) ⟨oe, hs₅.extBut _ _ hez hoe, hce⟩
  · have hn : min n1 n2 = n1 := by omega
    refine wpAny_bind ((D1 _ hh).done _ _ _ (by rw [← hn]; exact stBut E1 h1 hs₁ D.z1) fun h₂ e hs₂ he => ?_)
    obtain ⟨oe, hoe, hce⟩ := he
    have hz₂ : IsZip h₂ z TI TO .ellipsis := hs₂ _ _ D.i1z.symm hz₁
    have hez : e ≠ z := fun x => by subst x; rw [hz₂] at hoe; cases hoe; simp at hce
    refine wpAny_setField_rec hz₂ (by simp) fun h₃ _ hs₃ => hE h₃ _ e (fun c o c1 _ c3 _ x => hs₃.extBut _ _ c1 (hs₂ _ _ c3 (hs₁.extBut _ _ c1 x))) ⟨oe, hs₃.extBut _ _ hez hoe, hce⟩
theorem walks_zipD {z TI TO i1 i2 : Addr} {fp1 fp2 : List Addr} {n1 n2 : Nat} {P1 P2 : Nat → Value → Prop} {St1 St2 : Nat → Heap → Prop}
    (D1 : ∀ A' : Around, A'.handled = none → Draws prog w A' i1 fp1 n1 P1 St1) (D2 : ∀ A' : Around, A'.handled = none → Draws prog w A' i2 fp2 n2 P2 St2) (hh : A.handled = none) (D : ZApart z TI TO i1 i2 fp1 fp2) :
    WalksU prog w A z (z :: TI :: TO :: (fp1 ++ fp2)) [z, TO, i1, i2] (min n1 n2)
      (fun i vals => ∃ x y, P1 i x ∧ P2 i y ∧ vals = #[x, y])
      (fun i h => IsZip h z TI TO .none ∧ IsPair h TI (.ref i1) (.ref i2) ∧ (∃ a b, IsPair h TO a b) ∧ St1 i h ∧ St2 i h)
      (fun i T h => IsZip h z TI TO (rawInt T) ∧ IsPair h TI (.ref i1) (.ref i2) ∧ (∃ a b, IsPair h TO a b) ∧ St1 (i + 1) h ∧ St2 (i + 1) h ∧ T ≠ z ∧ T ≠ TO ∧ T ≠ i1 ∧ T ≠ i2) where
  sub := fun c hc => by
    simp at hc ⊢
    rcases hc with rfl | rfl | rfl | rfl
    · simp
    · simp
    · simp [D.in1]
    · simp [D.in2]
  frame := fun i h h' hst hk => by
    refine useG ?_
    intro P9 h9
    obtain ⟨hz, hTI, ⟨a, b, hTO⟩, h1, h2⟩ := hst
    refine h9 ?_
    clear h9 P9
    exact ⟨hk z (by simp) _ hz, hk TI (by simp) _ hTI, ⟨a, b, hk TO (by simp) _ hTO⟩, (D1 _ hh).frame _ _ _ h1 fun b hb o e => hk b (by simp [hb]) o e, (D2 _ hh).frame _ _ _ h2 fun b hb o e => hk b (by simp [hb]) o e⟩
  item := fun i s Q E hi hst hQ => by
    refine useG ?_
    intro P9 h9
    obtain ⟨hz, hTI, ⟨a, b, hTO⟩, h1, h2⟩ := hst
    refine h9 ?_
    clear h9 P9
    have hT : s.TypeIs (.ref z) "zip" := ⟨_, hz, rfl⟩
    have lt : ∀ {c o}, s.heap.get? c = some o → s.heap.objs.size ≠ c := fun e => Nat.ne_of_gt (Heap.lt_size e)
    unfold pyNext
    exact wpAny_bind (wpAny_attempt (wpAny_callSpecial?_slot (name := Str.ofString "__next__") hT F.slot_zip_next
      (wpAny_call_entry F.slot_zip_next hT F.entry_zip_next
        (zipD_item D1 D2 hh D hz hTI hTO h1 h2 (by omega) (by omega) fun x y h' tk p1 p2 a1 a2 a3 a4 a5 hk => wpAny_pure (hQ s.heap.objs.size #[x, y] h' tk ⟨x, y, p1, p2, rfl⟩ ⟨_, a5, rfl, _, rfl⟩
          ⟨a1, hk _ _ D.TIz D.TITO D.TIi1 D.TIi2 hTI, ⟨_, _, a2⟩, a3, a4, lt hz, lt hTO, (by obtain ⟨_, e⟩ := (D1 _ hh).live _ _ h1; exact lt e), (by obtain ⟨_, e⟩ := (D2 _ hh).live _ _ h2; exact lt e)⟩
          fun c o hc e => hk c o (fun x => hc (by simp [x])) (fun x => hc (by simp [x])) (fun x => hc (by simp [x])) (fun x => hc (by simp [x])) e)) (F.args_zip_next_1 _))))
  go := fun elts k pos i T s Q E hm hQ => by
    refine useG ?_
    intro P9 h9
    obtain ⟨hz, hTI, ⟨a, b, hTO⟩, h1, h2, _⟩ := hm
    refine h9 ?_
    clear h9 P9
    refine wpAny_letOwnedTupleGo_zip hz fun h' hz' hs' => hQ h' ⟨hz', hs'.extBut _ _ D.TIz hTI, ⟨a, b, hs'.extBut _ _ D.TOz hTO⟩, stBut (D1 _ hh) h1 hs' D.z1, stBut (D2 _ hh) h2 hs' D.z2⟩ fun c o hc e => hs'.extBut _ _ (fun x => hc (by simp [x])) e
  apart := fun i T h hm hT => by
    refine useG ?_
    intro P9 h9
    obtain ⟨_, _, _, _, _, t1, t2, t3, t4⟩ := hm
    refine h9 ?_
    clear h9 P9
    simp at hT
    rcases hT with rfl | rfl | rfl | rfl
    · exact t1 rfl
    · exact t2 rfl
    · exact t3 rfl
    · exact t4 rfl
  done := fun s Q E hst hQ => by
    refine useG ?_
    intro P9 h9
    obtain ⟨hz, hTI, ⟨a, b, hTO⟩, h1, h2⟩ := hst
    refine h9 ?_
    clear h9 P9
    have hT : s.TypeIs (.ref z) "zip" := ⟨_, hz, rfl⟩
    unfold pyNext
    refine wpAny_bind (wpAny_attempt (wpAny_callSpecial?_slot (name := Str.ofString "__next__") hT F.slot_zip_next
      (wpAny_call_entry F.slot_zip_next hT F.entry_zip_next (zipD_end D1 D2 hh D hz hTI hTO h1 h2 fun h' tk e hk he => ?_) (F.args_zip_next_1 _))))
    obtain ⟨o, ho, hc⟩ := he
    refine wpAny_bind (wpAny_isInstance (T := "StopIteration") (b := true) ⟨o, ho, hc⟩ isSubtype_stop ?_)
    exact wpAny_pure (hQ h' tk fun c o hc e => hk c o (fun x => hc (by simp [x])) (fun x => hc (by simp [x])) (fun x => hc (by simp [x])) (fun x => hc (by simp [x])) e)
  self := fun i s Q E hst hQ => wpAny_pyIter_zip hst.1 hQ
end
end

section
open PySem PySem.W PyProof.Rows PyProof.Rows.LCg PySem.Calls

/-- what pyIter makes of an iterable: one object -/
def Makes (prog : Program) (w : World) (x : Value) (C : Heap → Prop) (o : Obj) : Prop :=
  ∀ (A : Around) (E : Value → Shared → Prop) (Q : Value → Shared → Prop) (s : Shared), C s.heap → Q (.ref s.heap.objs.size) { s with heap := s.heap.push o } → wpAny (model prog w) A (pyIter x) Q E s
theorem makes_list {prog : Program} {w : World} {l : Addr} {xs : Array Value} : Makes prog w (.ref l) (fun h => h.IsList l xs) { cls := .type "list_iterator", data := .fields #[.ref l, .int 0 0] } :=
  fun _ _ _ _ hl hq => wpAny_pyIter_list hl hq
theorem makes_ascii {prog : Program} {w : World} {x : Str} {t : Tok} (ha : x.cps.all (· < 128) = true) : Makes prog w (.str x t) (fun _ => True) { cls := .type "str_ascii_iterator", data := .fields #[.str x t, .int 0 0] } :=
  fun _ _ _ _ _ hq => wpAny_pyIter_ascii ha hq
abbrev zG2 (h : Heap) (o1 o2 : Obj) : Heap := (h.push o1).push o2
abbrev zG3 (h : Heap) (o1 o2 : Obj) : Heap := (zG2 h o1 o2).push { cls := .type "tuple", data := .seq #[.ref h.objs.size, .ref (h.push o1).objs.size] }
abbrev zG4 (h : Heap) (o1 o2 : Obj) : Heap := (zG3 h o1 o2).push { cls := .type "tuple", data := .seq #[.none, .none] }
abbrev zG5 (h : Heap) (o1 o2 : Obj) : Heap := (zG4 h o1 o2).push { cls := .type "zip", data := .fields #[.none, .bool false, .bool false, .ref (zG2 h o1 o2).objs.size, .ref (zG3 h o1 o2).objs.size] }
theorem meets_zipG {prog : Program} {w : World} {x1 x2 : Value} {o1 o2 : Obj} {C1 C2 : Heap → Prop} (M1 : Makes prog w x1 C1 o1) (M2 : Makes prog w x2 C2 o2) :
    MeetsIn prog w (Builtin.«zip.__new__» ⟨[.type "zip", x1, x2], []⟩) (fun _ R s => C1 s.heap ∧ C2 (s.heap.push o1) ∧ R (.ok (.ret (.ref (zG4 s.heap o1 o2).objs.size))) { s with heap := zG5 s.heap o1 o2 }) :=
  .of_wp fun A R s h => by
    obtain ⟨hp, g, d, tk, os⟩ := s; obtain ⟨c1, c2, h⟩ := h
    have hsub := sub_zip
    have c1' : C1 (Shared.heap ⟨hp, g, d, tk, os⟩) := c1
    have c2' : C2 (Shared.heap ⟨hp.push o1, g, d, tk, os⟩) := c2
    have r1 : ∀ {A : Around} {E Q : Value → Shared → Prop}, Q (.ref hp.objs.size) ⟨hp.push o1, g, d, tk, os⟩ → wpAny (model prog w) A (pyIter x1) Q E ⟨hp, g, d, tk, os⟩ := fun q => M1 _ _ _ _ c1' q
    have r2 : ∀ {A : Around} {E Q : Value → Shared → Prop}, Q (.ref (hp.push o1).objs.size) ⟨(hp.push o1).push o2, g, d, tk, os⟩ → wpAny (model prog w) A (pyIter x2) Q E ⟨hp.push o1, g, d, tk, os⟩ := fun q => M2 _ _ _ _ c2' q
    clear M1 M2
    wp_walk using r1, r2
    exact ⟨_, rfl, h⟩
section
variable {prog : Program} {w : World} {A : Around} {E : Value → Shared → Prop} {s : Shared}
theorem call_zipG {x1 x2 : Value} {o1 o2 : Obj} {C1 C2 : Heap → Prop} {Q : Value → Shared → Prop} (M1 : Makes prog w x1 C1 o1) (M2 : Makes prog w x2 C2 o2) (c1 : C1 s.heap) (c2 : C2 (s.heap.push o1)) (f1 : o1.isFreed = false) (f2 : o2.isFreed = false)
    (h : ∀ h', IsZip h' (s.heap.objs.size + 4) (s.heap.objs.size + 2) (s.heap.objs.size + 3) .none → IsPair h' (s.heap.objs.size + 2) (.ref s.heap.objs.size) (.ref (s.heap.objs.size + 1)) →
      IsPair h' (s.heap.objs.size + 3) .none .none → h'.get? s.heap.objs.size = some o1 → h'.get? (s.heap.objs.size + 1) = some o2 → h'.objs.size = s.heap.objs.size + 5 →
      (∀ c o, s.heap.get? c = some o → h'.get? c = some o) → Q (.ref (s.heap.objs.size + 4)) { s with heap := h' }) :
    wpAny (model prog w) A (call (.type "zip") [x1, x2]) Q E s := by
  refine callType_newIn F.called_zip (by decide) (F.typeCall_zip_2 _ _) (F.newCall_zip_2 _ _) (fun obj => F.args_object_init_3 obj _ _) F.entry_zip_new
    (meets_zipG M1 M2) ⟨c1, c2, ?_⟩
  have z1 : (s.heap.push o1).objs.size = s.heap.objs.size + 1 := Heap.size_push ..
  have z2 : (zG2 s.heap o1 o2).objs.size = s.heap.objs.size + 2 := by rw [Heap.size_push, z1]
  have z3 : (zG3 s.heap o1 o2).objs.size = s.heap.objs.size + 3 := by rw [Heap.size_push, z2]
  have z4 : (zG4 s.heap o1 o2).objs.size = s.heap.objs.size + 4 := by rw [Heap.size_push, z3]
  have z5 : (zG5 s.heap o1 o2).objs.size = s.heap.objs.size + 5 := by rw [Heap.size_push, z4]
  have g5 : (zG5 s.heap o1 o2).get? (zG4 s.heap o1 o2).objs.size = some _ := Heap.get?_push_size _ rfl
  have g4 : (zG5 s.heap o1 o2).get? (zG3 s.heap o1 o2).objs.size = some _ := Heap.get?_push_of_some _ (Heap.get?_push_size _ rfl)
  have g3 : (zG5 s.heap o1 o2).get? (zG2 s.heap o1 o2).objs.size = some _ := Heap.get?_push_of_some _ (Heap.get?_push_of_some _ (Heap.get?_push_size _ rfl))
  have g2 : (zG5 s.heap o1 o2).get? (s.heap.push o1).objs.size = some o2 := Heap.get?_push_of_some _ (Heap.get?_push_of_some _ (Heap.get?_push_of_some _ (Heap.get?_push_size _ f2)))
  have g1 : (zG5 s.heap o1 o2).get? s.heap.objs.size = some o1 := Heap.get?_push_of_some _ (Heap.get?_push_of_some _ (Heap.get?_push_of_some _ (Heap.get?_push_of_some _ (Heap.get?_push_size _ f1))))
  show _ ∧ _
  rw [z2, z3, z4] at g5
  rw [z1, z2] at g3
  rw [z3] at g4
  rw [z1] at g2
  rw [z4]
  exact ⟨⟨_, g5, rfl⟩, h _ g5 g3 g4 g1 g2 z5 fun c o x =>
    Heap.get?_push_of_some _ (Heap.get?_push_of_some _ (Heap.get?_push_of_some _ (Heap.get?_push_of_some _ (Heap.get?_push_of_some _ x))))⟩
end
end

section
open PySem PySem.W PyProof.Rows PyProof.Rows.LCg PySem.Calls

theorem kturns_wider {prog : Program} {w : World} {A : Around} {target : PySem.Expr} {I : Addr} {fp wr wr' : List Addr} {n : Nat} {P Md : Nat → Value → Heap → Prop} {St : Nat → Heap → Prop} (W : KTurns prog w A target I fp wr n P Md St)
    (h1 : ∀ b ∈ wr, b ∈ wr') (h2 : ∀ b ∈ wr', b ∈ fp) : KTurns prog w A target I fp wr' n P Md St where
  sub := h2
  frame := W.frame
  item := fun i s Q E hi st hQ => W.item i s Q E hi st fun v h' tk a hk => hQ v h' tk a fun b o hb e => hk b o (fun q => hb (h1 b q)) e
  go := fun i v s Q E a hQ => W.go i v s Q E a fun h' p st hk => hQ h' p st fun b o hb e => hk b o (fun q => hb (h1 b q)) e
  done := fun s Q E st hQ => W.done s Q E st fun h' tk hk => hQ h' tk fun b o hb e => hk b o (fun q => hb (h1 b q)) e
/-- the iterator of a comprehension over pairs, with all that its block asks -/
inductive PSrc (prog : Program) (w : World) (A : Around) (h₀ : Heap) (L : Addr) (m : Str → Option Value) (env : Env) (c : Option PySem.Expr) (elt : PySem.Expr) (a b : Str) (pa pb : Pos) (kk : Nat) (tp : Pos) (scope : Scope) (cl : List (Str × Addr))
    (Fin : Shared → List Value → List (Addr × Obj) → Prop) (it : Value) (s₂ : Shared) : Prop
  | mk (I : Addr) (fp wr : List Addr) (n : Nat) (Pt : Nat → Array Value → Prop) (Md : Nat → Value → Heap → Prop) (St : Nat → Heap → Prop) (G : Nat → Value → Value → Prop) (keep news : List (Addr × Obj)) (J : Nat → List Value → List (Addr × Obj) → Prop) (h1 : it = .ref I) (h2 : KTurns prog w A (.Tuple [.Name a pa, .Name b pb] kk tp) I fp wr n (fun i v h => ∃ T vals, v = .ref T ∧ Pt i vals ∧ h.IsTuple T vals) Md St) (h3 : (∀ (s : Shared) (Q : Value → Shared → Prop) (E : Value → Shared → Prop), St 0 s.heap → Q (.ref I) s → wpAny (model prog w) A (pyIter (.ref I)) Q E s)) (h4 : (∀ i vals, Pt i vals → ∃ x y, vals = #[x, y] ∧ G i x y)) (h5 : (∀ i h, St i h → ∀ b ∈ wr, ∃ o, h.get? b = some o)) (h6 : (∀ b ∈ fp, b ∈ wr ∨ ∃ o, (b, o) ∈ keep)) (h7 : (∀ i ys news, J i ys news → ∀ p ∈ keep, p ∈ news)) (h8 : (∀ i ys news, J i ys news → i ≤ n → ys.length ≤ sizeLine)) (h9 : A.handled = none) (h10 : St 0 s₂.heap) (h11 : (∀ b ∈ fp, b < s₂.heap.objs.size)) (h12 : Fr h₀ L s₂.heap m) (h13 : News h₀ L s₂.heap news) (h14 : L ∉ wr) (h15 : (∀ b ∈ wr, h₀.get? b = none)) (h16 : (∀ p ∈ news, p.1 ∉ wr)) (h17 : J 0 [] news) (h18 : PTurn prog w A h₀ L m env c elt a b scope cl s₂ n G J) (h19 : ∀ ys news', J n ys news' → Fin s₂ ys news') : PSrc prog w A h₀ L m env c elt a b pa pb kk tp scope cl Fin it s₂
def FinP (h₀ : Heap) (L : Addr) (m : Str → Option Value) (Q : Value → Shared → Prop) (s : Shared) (ys : List Value) (news : List (Addr × Obj)) : Prop :=
  ∀ D h tk, Fr h₀ L h m → News h₀ L h ((D, lst ys) :: news) → (∀ p ∈ news, @Ne Nat p.1 D) → Q (.ref D) { s with heap := h, toks := tk }
def FinPA (h₀ : Heap) (L : Addr) (m : Str → Option Value) (y : Str) (Q : Flow → Shared → Prop) (s : Shared) (ys : List Value) (news : List (Addr × Obj)) : Prop :=
  ∀ D h tk, Fr h₀ L h (fun z => if z = y then some (.ref D) else m z) → News h₀ L h ((D, lst ys) :: news) → (∀ p ∈ news, @Ne Nat p.1 D) → Q .next { s with heap := h, toks := tk }
section
variable {prog : Program} {w : World} {A : Around} {E : Value → Shared → Prop} {s : Shared} {h₀ : Heap} {L : Addr} {m : Str → Option Value} {env : Env}
theorem ListComp_P {elt iter : PySem.Expr} (c : Option PySem.Expr) {a b : Str} {pa pb tp : Pos} {kk : Nat} {scope : Scope} {cl : List (Str × Addr)} {pos : Pos} {Q : Value → Shared → Prop} (F₀ : Fr h₀ L s.heap m)
    (hclos : closureFor scope env = pure cl) (hcell : ∀ y ∈ scope.names, y.2 ≠ .cell) (hkind : scope.kind = .function)
    (hnames : ∀ y ∈ scope.names, y.2 = .local → scope.names.lookup y.1 = some .local) (hxa : scope.names.lookup a = some .local) (hxb : scope.names.lookup b = some .local) (hab : ¬ a = b)
    (h : wpAny (model prog w) A (eval iter env) (fun xv s₁ => wpAny (model prog w) A (pyIter xv) (PSrc prog w A h₀ L m env c elt a b pa pb kk tp scope cl (FinP h₀ L m Q)) E s₁) E s)
    (hs : ∀ x, foldedSetIterable iter env x = pure x := by intro _; rfl) :
    wpAny (model prog w) A (eval (.ListComp elt [⟨.Tuple [.Name a pa, .Name b pb] kk tp, iter, pifs c, 0⟩] scope pos) env) Q E s := by
  rw [eval_ListComp]
  refine wpAny_comprehension_free (use := none) rfl hs hclos hkind hnames (wpAny_mono h (fun xv s₁ h₁ => wpAny_mono h₁ (fun it s₂ h₂ => ?_) fun _ _ e => e) fun _ _ e => e)
  obtain ⟨I, fp, wr, n, Pt, Md, St, G, keep, news, J, rfl, W, hself, hG, hlive, hfpk, hkeep, hJl, hh, hst, hfp, F, N, hLw, hw₀, off, J0, R, fin⟩ := h₂
  refine pair_block W hself hG hlive hfpk hkeep hJl hh hst hfp hcell hkind hxa hxb hab F N hLw hw₀ off J0 R ?_
  intro D C h tk m' ys news' F' N' o1 hn hC₀ hD₀ hCL hDL hCD offC hJ
  refine ⟨m', hn, fun h'' hs'' => fin ys news' hJ D h'' tk (F'.change hs'' hCL hC₀) (fun p hp => ?_) o1⟩
  refine ⟨hs''.extBut _ _ ?_ (N' p hp).1, (N' p hp).2⟩
  rcases List.mem_cons.mp hp with rfl | hp
  · exact Ne.symm hCD
  · exact offC p hp
theorem Assign_ListComp_P {elt iter : PySem.Expr} (c : Option PySem.Expr) {a b y : Str} {pa pb tp py : Pos} {kk : Nat} {scope : Scope} {cl : List (Str × Addr)} {pos spos : Pos} {Q : Flow → Shared → Prop} (F₀ : Fr h₀ L s.heap m) (hLe : env.locals = L)
    (hsw : swapsWith (.ListComp elt [⟨.Tuple [.Name a pa, .Name b pb] kk tp, iter, pifs c, 0⟩] scope pos) (some (.Name y py)) spos.line env = pure true)
    (hclos : closureFor scope env = pure cl) (hcell : ∀ z ∈ scope.names, z.2 ≠ .cell) (hkind : scope.kind = .function)
    (hnames : ∀ z ∈ scope.names, z.2 = .local → scope.names.lookup z.1 = some .local) (hxa : scope.names.lookup a = some .local) (hxb : scope.names.lookup b = some .local) (hab : ¬ a = b)
    (hy : env.kindOf y = some .local) (hp : (env.scope.kind == .class || (env.scope.kind == .module && env.locals != env.globals)) = false)
    (h : wpAny (model prog w) A (eval iter env) (fun xv s₁ => wpAny (model prog w) A (pyIter xv) (PSrc prog w A h₀ L m env c elt a b pa pb kk tp scope cl (FinPA h₀ L m y Q)) E s₁) E s)
    (hs : ∀ x, foldedSetIterable iter env x = pure x := by intro _; rfl) :
    wpAny (model prog w) A (exec (.Assign [.Name y py] (.ListComp elt [⟨.Tuple [.Name a pa, .Name b pb] kk tp, iter, pifs c, 0⟩] scope pos) spos) env) Q E s := by
  subst hLe
  rw [exec_Assign_Name_used _ _ _ _ hsw]
  refine wpAny_bind (wpAny_standAt (wpAny_bind ?_))
  show wpAny _ A (do let _ ← comprehension (.ListComp elt [⟨.Tuple [.Name a pa, .Name b pb] kk tp, iter, pifs c, 0⟩] scope pos) scope env _ (newList []) false (eval iter env) (some (assign (.Name y py) env))) _ _ s
  refine wpAny_bind (wpAny_mono (wpAny_comprehension_free (use := some (assign (.Name y py) env)) (Q := fun _ s' => Q .next s') rfl hs hclos hkind hnames
    (wpAny_mono h (fun xv s₁ h₁ => wpAny_mono h₁ (fun it s₂ h₂ => ?_) fun _ _ e => e) fun _ _ e => e)) (fun _ s' hq => wpAny_pure (wpAny_pure hq)) fun _ _ e => e)
  obtain ⟨I, fp, wr, n, Pt, Md, St, G, keep, news, J, rfl, W, hself, hG, hlive, hfpk, hkeep, hJl, hh, hst, hfp, F, N, hLw, hw₀, off, J0, R, fin⟩ := h₂
  refine pair_block W hself hG hlive hfpk hkeep hJl hh hst hfp hcell hkind hxa hxb hab F N hLw hw₀ off J0 R ?_
  intro D C h' tk m' ys news' F' N' o1 hn hC₀ hD₀ hCL hDL hCD offC hJ
  show wpAny _ A (assign (.Name y py) env (.ref D)) _ _ _
  refine wpAny_assign_Name (wpAny_storeName_local hy F'.ns (fun h₂ hn₂ hs₂ => ?_) hp)
  have hL₀ : h₀.get? env.locals = none := Heap.get?_none_of_le F'.above
  have F₂ : Fr h₀ env.locals h₂ (fun z => if z = y then some (.ref D) else m z) := ⟨hn₂, fun b o e => hs₂.extBut b o (fun q => by rw [q, hL₀] at e; cases e) (F'.keep b o e), F'.above⟩
  refine ⟨m', hn.sameBut hs₂ hCL, fun h'' hs'' => fin ys news' hJ D h'' _ (F₂.change hs'' hCL hC₀) (fun p hp => ?_) o1⟩
  have z : h₂.get? p.1 = some p.2 := hs₂.extBut _ _ (N' p hp).2.1 (N' p hp).1
  refine ⟨hs''.extBut _ _ ?_ z, (N' p hp).2⟩
  rcases List.mem_cons.mp hp with rfl | hp
  · exact Ne.symm hCD
  · exact offC p hp
theorem zipSrc {c : Option PySem.Expr} {elt : PySem.Expr} {a b : Str} {pa pb tp : Pos} {kk : Nat} {scope : Scope} {cl : List (Str × Addr)} {Fin : Shared → List Value → List (Addr × Obj) → Prop} {x1 x2 : Value} {o1 o2 : Obj} {C1 C2 : Heap → Prop}
    {k1 k2 : List Addr} {n1 n2 : Nat} {P1 P2 : Nat → Value → Prop} {St1 St2 : Addr → Nat → Heap → Prop} {keep news : List (Addr × Obj)} {J : Nat → List Value → List (Addr × Obj) → Prop}
    (M1 : Makes prog w x1 C1 o1) (M2 : Makes prog w x2 C2 o2) (c1 : C1 s.heap) (c2 : C2 (s.heap.push o1)) (f1 : o1.isFreed = false) (f2 : o2.isFreed = false)
    (D1 : ∀ (I : Addr) (A' : Around), I ∉ k1 → A'.handled = none → Draws prog w A' I (I :: k1) n1 P1 (St1 I)) (D2 : ∀ (I : Addr) (A' : Around), I ∉ k2 → A'.handled = none → Draws prog w A' I (I :: k2) n2 P2 (St2 I))
    (S1 : ∀ h : Heap, h.get? s.heap.objs.size = some o1 → (∀ c o, s.heap.get? c = some o → h.get? c = some o) → St1 s.heap.objs.size 0 h)
    (S2 : ∀ h : Heap, h.get? (s.heap.objs.size + 1) = some o2 → (∀ c o, s.heap.get? c = some o → h.get? c = some o) → St2 (s.heap.objs.size + 1) 0 h)
    (hk1 : ∀ b ∈ k1, ∃ o, (b, o) ∈ keep) (hk2 : ∀ b ∈ k2, ∃ o, (b, o) ∈ keep) (hkn : ∀ p ∈ keep, p ∈ news)
    (hh : A.handled = none) (F : Fr h₀ L s.heap m) (N : News h₀ L s.heap news)
    (hkeep : ∀ i ys news, J i ys news → ∀ p ∈ keep, p ∈ news) (hJl : ∀ i ys news, J i ys news → i ≤ min n1 n2 → ys.length ≤ sizeLine) (J0 : J 0 [] news)
    (R : PTurn prog w A h₀ L m env c elt a b scope cl s (min n1 n2) (fun i x y => P1 i x ∧ P2 i y) J)
    (fin : ∀ h tk ys news', J (min n1 n2) ys news' → Fin { s with heap := h, toks := tk } ys news') :
    wpAny (model prog w) A (call (.type "zip") [x1, x2]) (fun xv s₁ => wpAny (model prog w) A (pyIter xv) (PSrc prog w A h₀ L m env c elt a b pa pb kk tp scope cl Fin) E s₁) E s := by
  have hLs : L < s.heap.objs.size := F.ns.lt
  have lt1 : ∀ b ∈ k1, b < s.heap.objs.size := fun b hb => by obtain ⟨o, ho⟩ := hk1 b hb; exact Heap.lt_size (N _ (hkn _ ho)).1
  have lt2 : ∀ b ∈ k2, b < s.heap.objs.size := fun b hb => by obtain ⟨o, ho⟩ := hk2 b hb; exact Heap.lt_size (N _ (hkn _ ho)).1
  generalize hz : s.heap.objs.size = Z at *
  have g1 : ∀ j : Nat, Z + j ∉ k1 := fun j hm => absurd (lt1 _ hm) (Nat.not_lt.mpr (Nat.le_add_right _ _))
  have g2 : ∀ j : Nat, Z + j ∉ k2 := fun j hm => absurd (lt2 _ hm) (Nat.not_lt.mpr (Nat.le_add_right _ _))
  have ne : ∀ i j : Nat, i ≠ j → (Z + i : Nat) ≠ Z + j := fun i j h e => h (Nat.add_left_cancel e)
  have mem1 : ∀ i j : Nat, i ≠ j → Z + i ∉ (Z + j) :: k1 := fun i j h hm => by
    rcases List.mem_cons.mp hm with e | e
    · exact ne i j h e
    · exact g1 i e
  have mem2 : ∀ i j : Nat, i ≠ j → Z + i ∉ (Z + j) :: k2 := fun i j h hm => by
    rcases List.mem_cons.mp hm with e | e
    · exact ne i j h e
    · exact g2 i e
  have DD : ZApart (Z + 4) (Z + 2) (Z + 3) Z (Z + 1) (Z :: k1) ((Z + 1) :: k2) :=
    { TIz := ne 2 4 (by decide), TOz := ne 3 4 (by decide), i1z := ne 0 4 (by decide), i2z := ne 1 4 (by decide), TITO := ne 2 3 (by decide), TIi1 := ne 2 0 (by decide), TIi2 := ne 2 1 (by decide), TOi1 := ne 3 0 (by decide), TOi2 := ne 3 1 (by decide),
      i12 := ne 0 1 (by decide), z1 := mem1 4 0 (by decide), z2 := mem2 4 1 (by decide), TO1 := mem1 3 0 (by decide), TO2 := mem2 3 1 (by decide), i21 := mem1 1 0 (by decide), i12f := mem2 0 1 (by decide), in1 := List.mem_cons_self, in2 := List.mem_cons_self }
  refine call_zipG M1 M2 c1 c2 f1 f2 fun h' hz' hTI hTO hi1 hi2 hsz hk => ?_
  rw [hz] at hz' hTI hTO hi1 hi2 hsz ⊢
  refine wpAny_pyIter_zip hz' ?_
  have W := walks_zipD (prog := prog) (w := w) (A := A) (fun A' hA => D1 Z A' (g1 0) hA) (fun A' hA => D2 (Z + 1) A' (g2 1) hA) hh DD
  have wr5 : ∀ b : Addr, b ∈ [Z + 4, Z + 2, Z + 3, Z, Z + 1] → Z ≤ b ∧ b < Z + 5 := fun b hb => by
    simp only [List.mem_cons, List.not_mem_nil, or_false] at hb
    rcases hb with e | e | e | e | e <;> rw [e]
    · exact ⟨Nat.le_add_right _ _, Nat.add_lt_add_left (by decide) _⟩
    · exact ⟨Nat.le_add_right _ _, Nat.add_lt_add_left (by decide) _⟩
    · exact ⟨Nat.le_add_right _ _, Nat.add_lt_add_left (by decide) _⟩
    · exact ⟨Nat.le_refl _, Nat.lt_add_of_pos_right (by decide)⟩
    · exact ⟨Nat.le_add_right _ _, Nat.add_lt_add_left (by decide) _⟩
  refine ⟨Z + 4, _, [Z + 4, Z + 2, Z + 3, Z, Z + 1], min n1 n2, _, _, _, _, keep, news, J, rfl, kturns_wider (KTurns.ofWalksU W) ?_ ?_, fun s Q E st hq => W.self 0 s Q E st hq, fun i vals hv => by obtain ⟨x, y, p1, p2, rfl⟩ := hv; exact ⟨x, y, rfl, p1, p2⟩, ?_, ?_, hkeep, hJl, hh, ⟨hz', hTI, ⟨_, _, hTO⟩, S1 h' hi1 hk, S2 h' hi2 hk⟩, ?_, F.keeps hk, N.grown hk, ?_, ?_, ?_, J0, R, ?_⟩
  · intro b hb
    simp only [List.mem_cons, List.not_mem_nil, or_false] at hb ⊢
    rcases hb with e | e | e | e <;> simp [e]
  · intro b hb
    simp only [List.mem_cons, List.not_mem_nil, or_false, List.mem_append] at hb ⊢
    rcases hb with e | e | e | e | e <;> simp [e]
  · rintro i h ⟨a1, a2, ⟨_, _, a3⟩, a4, a5⟩ b hb
    simp only [List.mem_cons, List.not_mem_nil, or_false] at hb
    rcases hb with e | e | e | e | e <;> rw [e]
    · exact ⟨_, a1⟩
    · exact ⟨_, a2⟩
    · exact ⟨_, a3⟩
    · exact (D1 Z A (g1 0) hh).live _ _ a4
    · exact (D2 (Z + 1) A (g2 1) hh).live _ _ a5
  · intro b hb
    simp only [List.mem_cons, List.mem_append] at hb
    rcases hb with e | e | e | (e | hb) | (e | hb)
    · exact .inl (by simp [e])
    · exact .inl (by simp [e])
    · exact .inl (by simp [e])
    · exact .inl (by simp [e])
    · exact .inr (hk1 b hb)
    · exact .inl (by simp [e])
    · exact .inr (hk2 b hb)
  · intro b hb
    rw [hsz]
    simp only [List.mem_cons, List.mem_append] at hb
    rcases hb with e | e | e | (e | hb) | (e | hb)
    · exact (wr5 _ (by simp [e])).2
    · exact (wr5 _ (by simp [e])).2
    · exact (wr5 _ (by simp [e])).2
    · exact (wr5 _ (by simp [e])).2
    · exact Nat.lt_of_lt_of_le (lt1 b hb) (Nat.le_add_right _ _)
    · exact (wr5 _ (by simp [e])).2
    · exact Nat.lt_of_lt_of_le (lt2 b hb) (Nat.le_add_right _ _)
  · exact fun hm => absurd hLs (Nat.not_lt.mpr (wr5 _ hm).1)
  · intro b hb
    cases e : h₀.get? b with
    | none => rfl
    | some o =>
      have := Heap.lt_size (F.keep b o e)
      rw [hz] at this
      exact absurd this (Nat.not_lt.mpr (wr5 _ hb).1)
  · intro p hp hm
    have := Heap.lt_size (N p hp).1
    rw [hz] at this
    exact absurd this (Nat.not_lt.mpr (wr5 _ hm).1)
  · exact fun ys news' hJ => fin _ _ ys news' hJ
theorem zipSrcLS {c : Option PySem.Expr} {elt : PySem.Expr} {a b : Str} {pa pb tp : Pos} {kk : Nat} {scope : Scope} {cl : List (Str × Addr)} {Fin : Shared → List Value → List (Addr × Obj) → Prop} {l1 : Addr} {xs : List Value} {k1 : Nat} {x : Str} {t : Tok} {news : List (Addr × Obj)} {J : Nat → List Value → List (Addr × Obj) → Prop}
    (hh : A.handled = none) (F : Fr h₀ L s.heap m) (N : News h₀ L s.heap news) (hm1 : (l1, listOf xs.toArray k1) ∈ news) (ha : x.cps.all (· < 128) = true)
    (hkeep : ∀ i ys news, J i ys news → (l1, listOf xs.toArray k1) ∈ news) (hJl : ∀ i ys news, J i ys news → i ≤ min xs.length x.cps.size → ys.length ≤ sizeLine) (J0 : J 0 [] news)
    (R : PTurn prog w A h₀ L m env c elt a b scope cl s (min xs.length x.cps.size) (fun i u v => xs[i]? = some u ∧ ∃ cp t, x.cps[i]? = some cp ∧ v = .str ⟨#[cp]⟩ t) J)
    (fin : ∀ h tk ys news', J (min xs.length x.cps.size) ys news' → Fin { s with heap := h, toks := tk } ys news') :
    wpAny (model prog w) A (call (.type "zip") [.ref l1, .str x t]) (fun xv s₁ => wpAny (model prog w) A (pyIter xv) (PSrc prog w A h₀ L m env c elt a b pa pb kk tp scope cl Fin) E s₁) E s := by
  have hl : s.heap.IsList l1 xs.toArray := ⟨_, (N _ hm1).1, rfl, _, rfl⟩
  refine zipSrc (k1 := [l1]) (k2 := []) (n1 := xs.length) (n2 := x.cps.size) (P1 := fun i v => xs[i]? = some v) (P2 := fun i v => ∃ cp t, x.cps[i]? = some cp ∧ v = .str ⟨#[cp]⟩ t) (keep := [(l1, listOf xs.toArray k1)])
    (St1 := fun I i h => h.IsListIter I l1 i ∧ h.IsList l1 xs.toArray) (St2 := fun I i h => h.IsStrIter I "str_ascii_iterator" x t i)
    makes_list (makes_ascii ha) hl trivial rfl rfl (fun I A' hI hA => ?_) (fun I A' _ hA => Draws.strAscii hA I x t) (fun h e hk => ⟨⟨_, e, rfl, rfl⟩, hl.at fun o q => hk l1 o q⟩) (fun h e hk => ⟨_, e, rfl, rfl⟩) ?_ ?_ ?_ hh F N ?_ hJl J0 R fin
  · have := Draws.list (prog := prog) (w := w) hA I l1 (fun e => hI (by simp [e])) xs.toArray
    simpa using this
  · intro b hb
    rw [List.mem_singleton.mp hb]
    exact ⟨_, List.mem_singleton.mpr rfl⟩
  · exact fun b hb => nomatch hb
  · exact fun p hp => by rw [List.mem_singleton.mp hp]; exact hm1
  · exact fun i ys news hJ p hp => by rw [List.mem_singleton.mp hp]; exact hkeep i ys news hJ
end
end

section
open PySem PySem.W PyProof.Rows PyProof.Rows.LCg PySem.Calls

section
variable {prog : Program} {w : World} {A : Around} {E : Value → Shared → Prop} {s : Shared} {h₀ : Heap} {L : Addr} {m : Str → Option Value} {news : List (Addr × Obj)}
theorem len_base {l : Addr} {vs : List Value} {ns : List Int} {Q : Value → Shared → Prop} (F : Fr h₀ L s.heap m) (hl : h₀.IsList l vs.toArray) (hi : IntsAre vs ns) (hn : ns.length ≤ 1000)
    (h : Q (.int (ns.length : Int) (s.toks + 1)) { s with toks := s.toks + 1 + 1 }) : wpAny (model prog w) A (call (.builtin "len") [.ref l]) Q E s := by
  have hl' : s.heap.IsList l vs.toArray := hl.at fun o e => F.keep l o e
  have e : vs.toArray.size = ns.length := by rw [List.size_toArray, hi.length]
  refine PyProof.Rows.len_list hl' (by rw [e]; omega) ?_
  rw [e]; exact h
abbrev nam0 : PySem.Expr := PySem.Expr.Name (PySem.Str.ofString "x") ⟨0, 0, 0, 0⟩
theorem abs_head {g h : Heap} {L l : Addr} {vs : List Value} {ns : List Int} {k : Nat} {r : List (Addr × Obj)} {P : Prop} (N : News g L h ((l, listOf vs.toArray k) :: r)) (hI : IntsAre vs ns)
    (key : ∀ ws, IntsAre ws ns → News g L h ((l, listOf (List.toArray ws) k) :: r) → P) : P := key vs hI N
end

theorem News.drop_mid4 {g h : Heap} {L : Addr} {x a b c d : Addr × Obj} {r : List (Addr × Obj)} (N : News g L h (x :: a :: b :: c :: d :: r)) : News g L h (x :: r) := fun p hp => N p (by
  rcases List.mem_cons.mp hp with rfl | hp
  · exact List.mem_cons_self
  · exact List.mem_cons_of_mem _ (List.mem_cons_of_mem _ (List.mem_cons_of_mem _ (List.mem_cons_of_mem _ (List.mem_cons_of_mem _ hp)))))

theorem News.drop1_2 {g h : Heap} {L : Addr} {x a : Addr × Obj} {r : List (Addr × Obj)} (N : News g L h (x :: a :: r)) : News g L h (x :: r) := fun p hp => N p (by
  rcases List.mem_cons.mp hp with rfl | hp
  · exact List.mem_cons_self
  · exact List.mem_cons_of_mem _ (List.mem_cons_of_mem _ hp))
end

section
open PySem PySem.W PyProof.Rows PyProof.Rows.LCg PySem.Calls

theorem map_take_snoc {α β : Type} {l : List α} {i : Nat} {x : α} (f : α → β) (h : l[i]? = some x) : (l.take (i + 1)).map f = (l.take i).map f ++ [f x] := by
  rw [List.take_add_one, h, List.map_append]; rfl
theorem led_sub {g h : Heap} {L : Addr} {a b : List (Addr × Obj)} (N : News g L h a) (s : ∀ p ∈ b, p ∈ a) : News g L h b := fun p hp => N p (s p hp)
theorem use_news {g h : Heap} {L : Addr} {Λ₀ : List (Addr × Obj)} {P : Prop} (N : News g L h Λ₀) (k : ∀ Λ, Λ = Λ₀ → News g L h Λ → P) : P := k _ rfl N

section
variable {prog : Program} {w : World} {A : Around} {E : Value → Shared → Prop} {s : Shared} {h₀ : Heap} {L : Addr} {value slice : PySem.Expr} {D : Addr} {a b : Value} {k : Nat} {u : Tok} {r : List (Addr × Obj)} {Q : Value → Shared → Prop}
theorem item_t0 (N : News h₀ L s.heap ((D, tup2 a b k) :: r)) (h : Q a s) (hs : subscripted slice false (.ref D) (.int 0 u) = operate [.ref D, .int 0 u] (getItem (.ref D) (.int 0 u))) :
    wpAny (model prog w) A (subscriptTail value slice (.ref D) (.int 0 u)) Q E s := by
  refine kba_turn (value' := nam0) (fun _ => rfl) ?_
  exact PyProof.Rows.item_tuple (items := #[a, b]) ⟨_, (N _ List.mem_cons_self).1, rfl, _, rfl⟩ (by decide) (by decide) (j := 0) rfl rfl h hs (fun _ => rfl)
theorem item_t1 (N : News h₀ L s.heap ((D, tup2 a b k) :: r)) (h : Q b s) (hs : subscripted slice false (.ref D) (.int 1 u) = operate [.ref D, .int 1 u] (getItem (.ref D) (.int 1 u))) :
    wpAny (model prog w) A (subscriptTail value slice (.ref D) (.int 1 u)) Q E s := by
  refine kba_turn (value' := nam0) (fun _ => rfl) ?_
  exact PyProof.Rows.item_tuple (items := #[a, b]) ⟨_, (N _ List.mem_cons_self).1, rfl, _, rfl⟩ (by decide) (by decide) (j := 1) rfl rfl h hs (fun _ => rfl)
end
end

section
open PySem PySem.W PyProof.Rows PyProof.Rows.LCg PySem.Calls

theorem glued_empty : ∀ (r : List Str) (acc : Array Nat), r.foldl (fun acc p => acc ++ (PySem.Str.ofString "").cps ++ p.cps) acc = acc ++ (r.flatMap fun p => p.cps.toList).toArray
  | [], acc => by simp
  | p :: r, acc => by
    rw [List.foldl_cons, glued_empty r]
    have e : (PySem.Str.ofString "").cps = #[] := by decide +kernel
    rw [e]
    apply Array.toList_inj.mp
    simp [List.flatMap_cons]
theorem join_txt (l : List Int) : Txt.join (PySem.Str.ofString "") (l.map fun p => txt [p]) = txt l := by
  unfold Txt.join Builtin.Str.glued
  rw [glued_empty]
  cases l with
  | nil => decide +kernel
  | cons a r =>
    have e : ∀ r : List Int, (r.map fun p => txt [p]).flatMap (fun p => p.cps.toList) = r.map fun i => (b64n i).toNat := by
      intro r
      induction r with
      | nil => rfl
      | cons b r ih => rw [List.map_cons, List.flatMap_cons, ih]; simp [txt]
    simp only [List.map_cons, List.drop_succ_cons, List.drop_zero, List.headD_cons]
    rw [e]
    simp [txt]
theorem sign_item {x : Int} (h0 : 0 ≤ x) (h1 : x < 64) : Txt.item (PySem.Str.ofString "ABCDEFGHIJKLMNOPQRSTUVWXYZabcdefghijklmnopqrstuvwxyz0123456789+/") x = txt [x] := by
  have key : ∀ n : Nat, n < 64 → Txt.item (PySem.Str.ofString "ABCDEFGHIJKLMNOPQRSTUVWXYZabcdefghijklmnopqrstuvwxyz0123456789+/") (n : Int) = txt [(n : Int)] := by decide +kernel
  have := key x.toNat (by omega)
  rwa [Int.toNat_of_nonneg h0] at this
theorem join_txt_ok (l : List Int) (h : l.length ≤ 1000) : ((l.map fun p => txt [p]).map (·.length)).sum + (l.map fun p => txt [p]).length * (PySem.Str.ofString "").length ≤ 16777216 := by
  have e : ((l.map fun p => txt [p]).map (·.length)).sum = l.length := by
    rw [List.map_map]
    clear h
    induction l with
    | nil => rfl
    | cons a r ih => rw [List.map_cons, List.sum_cons, ih]; simp [txt, Str.length]; omega
  have e2 : (PySem.Str.ofString "").length = 0 := by decide +kernel
  rw [e, e2, Nat.mul_zero, Nat.add_zero]
  omega

theorem sexts_down (d V : Int) (n t : Nat) (h : t ≤ n) (h0 : 0 ≤ d) (h1 : d < 64) : sexts (fun i => i) (d + V * 2 ^ 6) (6 * (n + 1)) t = sexts (fun i => i) V (6 * n) t := by
  unfold sexts
  refine List.map_congr_left fun j hj => ?_
  have hj' : j < t := List.mem_range.mp hj
  have e : 6 * (n + 1) - 6 * (j + 1) = 6 + (6 * n - 6 * (j + 1)) := by rw [Nat.mul_succ 6 n, Nat.add_comm (6 * n) 6, Nat.add_sub_assoc (Nat.mul_le_mul_left 6 (Nat.le_trans hj' h))]
  rw [e, Int.pow_add]
  have e64 : (2 : Int) ^ 6 = 64 := by decide
  rw [e64, ← Int.ediv_ediv_of_nonneg (by decide : (0 : Int) ≤ 64)]
  have e2 : (d + V * 64) / 64 = V := by omega
  rw [e2]
theorem sexts_rev : ∀ r : List Int, (∀ q ∈ r, 0 ≤ q ∧ q < 64) → sexts (fun i => i) (dval 6 r) (6 * r.length) r.length = r.reverse
  | [], _ => rfl
  | d :: r, h => by
    have hd := h d (.head _)
    have ih := sexts_rev r fun q hq => h q (.tail _ hq)
    rw [List.length_cons, sexts_succ]
    show sexts (fun i => i) (d + dval 6 r * 2 ^ 6) _ _ ++ _ = _
    rw [sexts_down d _ _ _ (Nat.le_refl _) hd.1 hd.2, ih, List.reverse_cons]
    congr 1
    have e : 6 * (r.length + 1) - 6 * (r.length + 1) = 0 := Nat.sub_self _
    rw [e]
    show [(d + dval 6 r * 2 ^ 6) / 2 ^ 0 % 64] = [d]
    have e64 : (2 : Int) ^ 6 = 64 := by decide
    rw [e64, Int.pow_zero, Int.ediv_one]
    congr 1
    omega
theorem sexts_places {places : List Int} {k n : Nat} (h : ∀ q ∈ places, 0 ≤ q ∧ q < 64) (hl : places.length = n) (hk : 8 * k = 6 * n) : sexts (fun i => i) (dval 6 places.reverse) (8 * k) (8 * k / 6) = places := by
  have := sexts_rev places.reverse fun q hq => h q (List.mem_reverse.mp hq)
  rw [List.length_reverse, hl, List.reverse_reverse] at this
  rw [hk, Nat.mul_div_cancel_left n (by decide)]
  exact this
theorem number_lt {places : List Int} {k n : Nat} (h : ∀ q ∈ places, 0 ≤ q ∧ q < 64) (hl : places.length = n) (hk : 8 * k = 6 * n) : 0 ≤ dval 6 places.reverse ∧ dval 6 places.reverse < 2 ^ (8 * k) := by
  have hr : ∀ q ∈ places.reverse, 0 ≤ q ∧ q < 2 ^ 6 := fun q hq => h q (List.mem_reverse.mp hq)
  refine ⟨dval_nonneg _ _ fun q hq => (hr q hq).1, ?_⟩
  have := dval_lt 6 _ hr
  rw [List.length_reverse, hl] at this
  rwa [hk]
end

section
open PySem PySem.W PyProof.Rows PyProof.Rows.LCg PyProof.Rows.LCt PySem.Calls

/-- a comprehension of one name with one test over n items, by an invariant -/
theorem compRestT_inv {prog : Program} {w : World} {A : Around} {h₀ : Heap} {L : Addr} {m : Str → Option Value} {env : Env} {ct elt : PySem.Expr} {x : Str} {scope : Scope} {cl : List (Str × Addr)} {s : Shared} {S : List (Addr × Obj) → Prop} {P : Nat → Value → Prop}
    {Fin : List Value → List (Addr × Obj) → Prop} {n : Nat} (J : Nat → List Value → List (Addr × Obj) → Prop)
    (turn : ∀ i ys news, i < n → J i ys news → ∀ v I oI C oC D m₂ h tk (E' : Value → Shared → Prop), P i v → NsObj oC m₂ → m₂ x = some v → Fr h₀ L h m → News h₀ L h ((I, oI) :: (C, oC) :: (D, lst ys) :: news) → Off3 I C D news → ((@Ne Nat I C) ∧ (@Ne Nat I D) ∧ (@Ne Nat C D)) →
      wpAny (model prog w) A (isTrue ct (compEnvC scope cl C env) (eval ct (compEnvC scope cl C env))) (fun ok s' => if ok = true then
        wpAny (model prog w) A (eval elt (compEnvC scope cl C env)) (CompEnd h₀ L m { s with heap := h, toks := tk } I oI C oC D (lst ys) S (fun y news' => J (i + 1) (ys ++ [y]) news')) E' s'
        else CompEnd h₀ L m { s with heap := h, toks := tk } I oI C oC D (lst ys) S (fun _ news' => J (i + 1) ys news') Value.none s') E' { s with heap := h, toks := tk })
    (done : ∀ ys news, J n ys news → Fin ys news) : ∀ k i ys news, i + k = n → J i ys news → CompRestT prog w A h₀ L m env ct elt x scope cl s S P Fin k i ys news := by
  intro k
  induction k with
  | zero => intro i ys news e hJ; exact CompRestT.zero (done _ _ (by rw [← e]; exact hJ))
  | succ k ih =>
    intro i ys news e hJ
    refine CompRestT.succ fun v I oI C oC D m₂ h tk E' hP hN hx F N o ne => ?_
    refine wpAny_mono (turn i ys news (by omega) hJ v I oI C oC D m₂ h tk E' hP hN hx F N o ne) (fun ok s₂ z => ?_) fun _ _ z => z
    cases ok with
    | true =>
      simp only [if_true] at z ⊢
      exact wpAny_mono z (fun y s₃ z => compEnd_mono (fun y nw hJ' => ih (i + 1) (ys ++ [y]) nw (by omega) hJ') z) fun _ _ z => z
    | false =>
      simp only [Bool.false_eq_true, if_false] at z ⊢
      exact compEnd_mono (fun y nw hJ' => ih (i + 1) ys nw (by omega) hJ') z

open PySem.Builtin.Str
theorem slice_gen (l : List Nat) (lo hi : Option Int) (a b : Nat) (hidx : strSliceIndices lo hi 1 l.length = (List.range (b - a)).map (a + ·)) (hb : b ≤ l.length) : Txt.slice ⟨l.toArray⟩ lo hi = ⟨((l.drop a).take (b - a)).toArray⟩ := by
  unfold Txt.slice
  have e : (⟨l.toArray⟩ : Str).length = l.length := by simp [Str.length]
  rw [e, hidx]
  split
  · rename_i h
    have h' : b - a = l.length := by simpa using h
    have hz : (l.drop a).take (b - a) = l := by
      rw [h']
      by_cases hn : l.length = 0
      · rw [List.eq_nil_of_length_eq_zero hn]; simp
      · have : a = 0 := by omega
        rw [this, List.drop_zero, List.take_of_length_le (Nat.le_refl _)]
    rw [hz]
  · show (⟨(((List.range (b - a)).map (a + ·)).filterMap (l.toArray[·]?)).toArray⟩ : Str) = _
    rw [pick_run]
section
variable {prog : Program} {w : World} {A : Around} {E : Value → Shared → Prop} {s : Shared} {value slice : PySem.Expr} {l : List Int} {t : Tok} {h₀ : Heap} {L : Addr} {m : Str → Option Value} {news : List (Addr × Obj)} {Q : Value → Shared → Prop}
end

theorem off1_mem {D : Addr} : ∀ {l : List (Addr × Obj)}, Off1 D l → ∀ p ∈ l, @Ne Nat p.1 D
  | [], _, _, h => nomatch h
  | _ :: _, x, p, h => by
    rcases List.mem_cons.mp h with rfl | h
    · exact x.1
    · exact off1_mem x.2 p h
theorem tab_mem {q : Str} {ln col : Nat} {P : Addr} {T : List (Addr × Obj)} (h : TabIs q ln col P T) : ∃ o, (P, o) ∈ T := by
  rcases h with rfl | ⟨c', oc, vs, t, rfl, _⟩
  · exact ⟨_, List.mem_singleton.mpr rfl⟩
  · exact ⟨_, List.mem_cons_self⟩

def codes (places : List Int) : List Nat := places.map fun i => (b64n i).toNat
theorem txt_codes (places : List Int) : txt places = ⟨(codes places).toArray⟩ := rfl

theorem b64n_code_lt {i : Int} (h : 0 ≤ i ∧ i < 64) : (b64n i).toNat < 128 ∧ (b64n i).toNat ≠ 63 ∧ (b64n i).toNat ≠ 46 := by
  have key : ∀ n : Nat, n < 64 → (b64n (n : Int)).toNat < 128 ∧ (b64n (n : Int)).toNat ≠ 63 ∧ (b64n (n : Int)).toNat ≠ 46 := by decide +kernel
  have := key i.toNat (by omega)
  rwa [Int.toNat_of_nonneg h.1] at this
theorem codes_ascii {places : List Int} (h : ∀ q ∈ places, 0 ≤ q ∧ q < 64) : (codes places).all (· < 128) = true := by
  rw [List.all_eq_true]
  intro c hc
  obtain ⟨q, hq, rfl⟩ := List.mem_map.mp hc
  exact decide_eq_true (b64n_code_lt (h q hq)).1
end

section
theorem endW {h₀ : Heap} {L : Addr} {its : List (Addr × Obj)} {rest : (Str → Option Value) → List (Addr × Obj) → Prop} {s₁ : Shared} {h' : Heap} {tk : Nat} {m' : Str → Option Value} {news' : List (Addr × Obj)} (F : Fr h₀ L h' m') (N : News h₀ L h' (its ++ news')) (off : ∀ p ∈ news', ∀ q ∈ its, p.1 ≠ q.1) (r : rest m' news') : UnrEndW h₀ L s₁ its rest { s₁ with heap := h', toks := tk } :=
  ⟨h', tk, m', news', rfl, F, N, off, r⟩
theorem off5 {I : Addr} {nw : List (Addr × Obj)} {o1 o2 o3 o4 o5 : Obj} (h : ∀ p ∈ nw, p.1 < I) : ∀ p ∈ nw, ∀ q ∈ [(I + 4, o1), (I + 2, o2), (I + 3, o3), (I, o4), (I + 1, o5)], p.1 ≠ q.1 := by
  intro p hp q hq
  have := h p hp
  have key : I ≤ q.1 := by
    rcases List.mem_cons.mp hq with rfl | hq
    · exact Nat.le_add_right _ _
    rcases List.mem_cons.mp hq with rfl | hq
    · exact Nat.le_add_right _ _
    rcases List.mem_cons.mp hq with rfl | hq
    · exact Nat.le_add_right _ _
    rcases List.mem_cons.mp hq with rfl | hq
    · exact Nat.le_refl _
    rcases List.mem_cons.mp hq with rfl | hq
    · exact Nat.le_add_right _ _
    cases hq
  exact Nat.ne_of_lt (Nat.lt_of_lt_of_le this key)
/-- a loop over a fixed run of items, by an invariant -/
theorem itemsRest_inv {prog : Program} {w : World} {A : Around} {E : Value → Shared → Prop} {h₀ : Heap} {env : Env} {target : Expr} {body : List Stmt} {Q : Flow → Shared → Prop} {s : Shared} {ws : List (Addr × String)} {keep : List (Addr × Obj)} {all : List Itm}
    (J : Nat → (Str → Option Value) → List (Addr × Obj) → Prop)
    (turn : ∀ (i : Nat) (a : Itm) (m : Str → Option Value) (news : List (Addr × Obj)) (rest : (Str → Option Value) → List (Addr × Obj) → Prop), all[i]? = some a → J i m news → (∀ m' n', SubL keep n' → J (i + 1) m' n' → rest m' n') → ∀ v h tk, a.Is v h → Fr h₀ env.locals h m → AllObj ws (fun its => News h₀ env.locals h (its ++ news) →
      wpAny (model prog w) A (assign target env v) (fun _ s₂ => wpAny (model prog w) A (execs body env) (UnrPostW h₀ env.locals { s with heap := h, toks := tk } its rest Q) E s₂) E { s with heap := h, toks := tk }))
    (done : ∀ m news, J all.length m news → ∀ h tk, Fr h₀ env.locals h m → News h₀ env.locals h news → Q .next { s with heap := h, toks := tk }) :
    ∀ (r : List Itm) (i : Nat) (m : Str → Option Value) (news : List (Addr × Obj)), r = all.drop i → i ≤ all.length → J i m news → ItemsRest prog w A E h₀ env target body Q s ws keep r m news
  | [], i, m, news, e, hle, hJ => by
    have : i = all.length := by
      have := congrArg List.length e
      rw [List.length_drop, List.length_nil] at this
      omega
    subst this
    exact done m news hJ
  | a :: r, i, m, news, e, hle, hJ => by
    have hi : all[i]? = some a := by rw [← List.head?_drop, ← e]; rfl
    have hr : r = all.drop (i + 1) := by rw [← List.tail_drop, ← e]; rfl
    have hlt : i < all.length := (List.getElem?_eq_some_iff.mp hi).1
    exact turn i a m news _ hi hJ fun m' n' hk hJ' => ⟨hk, itemsRest_inv J turn done r (i + 1) m' n' hr hlt hJ'⟩
theorem zipItems_at : ∀ (xs ys : List Value) (i : Nat) {a : Itm}, (zipItems xs ys)[i]? = some a → ∃ x y, xs[i]? = some x ∧ ys[i]? = some y ∧ a = .pair (fun _ => x) y
  | [], _, _, _, h => by simp [zipItems] at h
  | _ :: _, [], _, _, h => by simp [zipItems] at h
  | x :: xs, y :: ys, 0, _, h => ⟨x, y, rfl, rfl, by simpa [zipItems] using h.symm⟩
  | x :: xs, y :: ys, i + 1, _, h => by
    obtain ⟨x', y', h1, h2, h3⟩ := zipItems_at xs ys i (by simpa [zipItems] using h)
    exact ⟨x', y', by simpa using h1, by simpa using h2, h3⟩
end

section
open PySem PySem.W PyProof.Rows PySem.Builtin.Str

theorem mm_nat (i n : Nat) : max 0 (min (i : Int) (n : Int)) = ((min i n : Nat) : Int) := by
  rcases Nat.le_total i n with h | h
  · rw [Nat.min_eq_left h, Int.min_eq_left (Int.ofNat_le.mpr h), Int.max_eq_right (Int.natCast_nonneg i)]
  · rw [Nat.min_eq_right h, Int.min_eq_right (Int.ofNat_le.mpr h), Int.max_eq_right (Int.natCast_nonneg n)]
theorem slice_nn (l : List Nat) (i j : Nat) : Txt.slice ⟨l.toArray⟩ (some (i : Int)) (some (j : Int)) = ⟨((l.take j).drop i).toArray⟩ := by
  have hidx : strSliceIndices (some (i : Int)) (some (j : Int)) 1 l.length = (List.range (min j l.length - min i l.length)).map (min i l.length + ·) := by
    rw [← sliceRange_one, ← mm_nat, ← mm_nat]
    unfold strSliceIndices
    simp only [show (1 : Int) > 0 by decide, if_true, if_neg (Int.not_lt.mpr (Int.natCast_nonneg i)), if_neg (Int.not_lt.mpr (Int.natCast_nonneg j))]
  rw [slice_gen l _ _ _ _ hidx (Nat.min_le_right _ _)]
  congr 2
  rw [List.drop_take]
  rcases Nat.le_total i l.length with h | h
  · rw [Nat.min_eq_left h]
    rcases Nat.le_total j l.length with h2 | h2
    · rw [Nat.min_eq_left h2]
    · rw [Nat.min_eq_right h2, List.take_of_length_le (by rw [List.length_drop]; exact Nat.le_refl _), List.take_of_length_le (by rw [List.length_drop]; exact Nat.sub_le_sub_right h2 _)]
  · rw [List.drop_of_length_le (by rw [Nat.min_eq_right h]; exact Nat.le_refl _), List.drop_of_length_le h]; simp
theorem slice_ij (l : List Nat) {i j : Int} (hi : 0 ≤ i) (hj : 0 ≤ j) : Txt.slice ⟨l.toArray⟩ (some i) (some j) = ⟨((l.take j.toNat).drop i.toNat).toArray⟩ := by
  obtain ⟨i, rfl⟩ := Int.eq_ofNat_of_zero_le hi
  obtain ⟨j, rfl⟩ := Int.eq_ofNat_of_zero_le hj
  exact slice_nn l i j
theorem slice_inner (a b : Nat) (l : List Nat) : Txt.slice ⟨(a :: (l ++ [b])).toArray⟩ (some 1) (some (-1)) = ⟨l.toArray⟩ := by
  have hlen : (a :: (l ++ [b])).length = l.length + 2 := by simp
  have hidx : strSliceIndices (some 1) (some (-1)) 1 (a :: (l ++ [b])).length = (List.range (l.length + 1 - 1)).map (1 + ·) := by
    rw [← sliceRange_one, hlen]
    unfold strSliceIndices
    simp only [show (1 : Int) > 0 by decide, if_true, if_neg (show ¬ ((1 : Int) < 0) by decide), if_pos (show ((-1 : Int) < 0) by decide)]
    congr 1 <;> omega
  rw [slice_gen _ _ _ _ _ hidx (by omega)]
  simp
theorem item_codes {l : List Nat} {i : Int} {q : Nat} (h0 : 0 ≤ i) (hq : l[i.toNat]? = some q) : Txt.item (⟨l.toArray⟩ : Str) i = ⟨#[q]⟩ := by
  have hlt : i.toNat < l.length := (List.getElem?_eq_some_iff.mp hq).1
  have hlt2 : i < (l.length : Int) := (Int.toNat_lt h0).mp hlt
  rw [PySem.W.item_meets ⟨h0, by simpa [Str.length] using hlt2⟩]
  simp [Array.getD_eq_getD_getElem?, hq]
theorem item_last (l : List Nat) (q : Nat) : Txt.item (⟨(l ++ [q]).toArray⟩ : Str) (-1) = ⟨#[q]⟩ := by
  have e : (⟨(l ++ [q]).toArray⟩ : Str).length = l.length + 1 := by simp [Str.length]
  have hidx : seqIndex? (-1) (⟨(l ++ [q]).toArray⟩ : Str).length = some l.length := by
    rw [e]
    unfold seqIndex?
    have h1 : (-1 + ((l.length + 1 : Nat) : Int)) = (l.length : Int) := by omega
    simp only [if_pos (show ((-1 : Int) < 0) by decide), h1]
    rw [if_pos]
    · simp
    · simp only [Bool.and_eq_true, decide_eq_true_eq]; omega
  simp only [Txt.item, Txt.charAt, hidx]
  simp
theorem cod_len (l : List Nat) : (⟨l.toArray⟩ : Str).length = l.length := by simp [Str.length]
theorem cod_eq (a b : List Nat) : ((⟨a.toArray⟩ : Str) == ⟨b.toArray⟩) = decide (a = b) := by
  by_cases h : a = b
  · subst h; simp
  · rw [decide_eq_false h]
    cases hh : ((⟨a.toArray⟩ : Str) == ⟨b.toArray⟩) with
    | false => rfl
    | true =>
      have e : (⟨a.toArray⟩ : Str) = ⟨b.toArray⟩ := eq_of_beq hh
      injection e with e; injection e with e
      exact absurd e h
section
variable {prog : Program} {w : World} {A : Around} {E : Value → Shared → Prop} {s : Shared} {value slice : PySem.Expr} {l : List Nat} {t : Tok} {h₀ : Heap} {L : Addr} {m : Str → Option Value} {news : List (Addr × Obj)} {Q : Value → Shared → Prop}
theorem slice_cod_ss {i j : Int} {ui uj : Tok} (hF : Fr h₀ L s.heap m) (hN : News h₀ L s.heap news) (h0 : 0 ≤ i) (h1 : 0 ≤ j) (hl : l.length ≤ 1000) (h : ∀ h' t' k, Fr h₀ L h' m → News h₀ L h' news → Q (.str ⟨((l.take j.toNat).drop i.toNat).toArray⟩ t') { s with heap := h', toks := k })
    (hs : subscripted slice false (.str ⟨l.toArray⟩ t) (.ref s.heap.objs.size) = operate [.ref s.heap.objs.size, .str ⟨l.toArray⟩ t] (getItem (.str ⟨l.toArray⟩ t) (.ref s.heap.objs.size)))
    (ht : ∀ r, letTemporaryGo value (.str ⟨l.toArray⟩ t) r = pure ()) :
    wpAny (model prog w) A (subscriptTail value slice (.str ⟨l.toArray⟩ t) (.ref s.heap.objs.size)) Q E { s with heap := s.heap.push { cls := .type "slice", data := .fields #[.int i ui, .int j uj, .none] } } :=
  slice_strN_ss hF hN (by rw [slice_ij l h0 h1]; exact h) hs ht (by rw [cod_len, sizeLine_eq]; omega)
theorem slice_cod_in {a b : Nat} {ui uj : Tok} (hF : Fr h₀ L s.heap m) (hN : News h₀ L s.heap news) (hl : l.length ≤ 900) (h : ∀ h' t' k, Fr h₀ L h' m → News h₀ L h' news → Q (.str ⟨l.toArray⟩ t') { s with heap := h', toks := k })
    (hs : subscripted slice false (.str ⟨(a :: (l ++ [b])).toArray⟩ t) (.ref s.heap.objs.size) = operate [.ref s.heap.objs.size, .str ⟨(a :: (l ++ [b])).toArray⟩ t] (getItem (.str ⟨(a :: (l ++ [b])).toArray⟩ t) (.ref s.heap.objs.size)))
    (ht : ∀ r, letTemporaryGo value (.str ⟨(a :: (l ++ [b])).toArray⟩ t) r = pure ()) :
    wpAny (model prog w) A (subscriptTail value slice (.str ⟨(a :: (l ++ [b])).toArray⟩ t) (.ref s.heap.objs.size)) Q E { s with heap := s.heap.push { cls := .type "slice", data := .fields #[.int 1 ui, .int (-1) uj, .none] } } :=
  slice_strN_ss hF hN (by rw [slice_inner]; exact h) hs ht (by rw [cod_len, sizeLine_eq]; simp; omega)
theorem item_cod {i : Int} {u : Tok} {q : Nat} (e : Txt.item (⟨l.toArray⟩ : Str) i = ⟨#[q]⟩) (hr : fitsSsize i = true) (h1 : -(l.length : Int) ≤ i) (h2 : i < l.length) (h : Q (.str ⟨#[q]⟩ s.toks) { s with toks := s.toks + 1 })
    (hs : subscripted slice false (.str ⟨l.toArray⟩ t) (.int i u) = operate [.str ⟨l.toArray⟩ t, .int i u] (getItem (.str ⟨l.toArray⟩ t) (.int i u)))
    (ht : ∀ r, letTemporaryGo value (.str ⟨l.toArray⟩ t) r = pure ()) :
    wpAny (model prog w) A (subscriptTail value slice (.str ⟨l.toArray⟩ t) (.int i u)) Q E s :=
  item_str hr (by rw [cod_len]; exact h1) (by rw [cod_len]; exact h2) (fun _ => by rw [e]; exact h) hs ht
theorem len_txt {Q : Value → Shared → Prop} (hs : l.length ≤ 1000) (h : Q (.int (l.length : Int) (s.toks + 1)) { s with toks := s.toks + 1 + 1 }) :
    wpAny (model prog w) A (call (.builtin "len") [.str ⟨l.toArray⟩ t]) Q E s := by
  have e : (⟨l.toArray⟩ : Str).length = l.length := by simp [Str.length]
  refine P.len_str (by rw [e]; omega) ?_
  rw [e]
  exact h
end
end

section
open PySem PySem.W PyProof.Rows PySem.Calls

/-- a generator that stands ready, and what it may write -/
inductive GenW (prog : Program) (w : World) (A : Around) (L a : Addr) (n : Nat) (Fv : Nat → Value → Prop) (news : List (Addr × Obj)) (s : Shared) : Prop
  | mk (fp : _) (wr : _) (g : _) (St : _) (h1 : WalksS prog w A.in4 a fp wr (GenOnlyQ g) n Fv St) (h2 : St 0 s) (h3 : (∀ i s', St i s' → s'.TypeIs (.ref a) "generator")) (h4 : a ∈ fp) (h5 : (∀ b ∈ fp, b < s.heap.objs.size)) (h6 : (∀ b ∈ wr, L < b)) (h7 : ∀ q ∈ news, q.1 ∉ wr) : GenW prog w A L a n Fv news s
section
variable {prog : Program} {w : World} {A : Around} {E : Value → Shared → Prop} {s : Shared} {h₀ : Heap} {L l a₀ c P : Addr} {m mg mb : Str → Option Value} {cn : Str} {cs : Scope} {ccd : Value} {cl : List (Str × Addr)} {news : List (Addr × Obj)}
  {p : Program} {loose : List Str} {mean : ExcName → Option Value} {ps : Array Value}
theorem gen_core {elt iter : Expr} {x : Str} {px : Pos} {scope : Scope} {clos : List (Str × Addr)} {pos : Pos} {Q : Value → Shared → Prop} {vs : List Value} {k : Nat} {Fv : Nat → Value → Prop}
    (Λ : Addr → List (Addr × Obj) → Prop)
    (F : Fr h₀ L s.heap m) (N : News h₀ L s.heap news) (T : Top p loose mean mg mb h₀) (G : AllBare s.gens) (hP : (P, tabObj ps) ∈ news) (hl : (l, W.listOf vs.toArray k) ∈ news)
    (hstep : ∀ (s₂ : Shared) (R : Value → Shared → Prop), Fr h₀ L s₂.heap m → News h₀ L s₂.heap news → (∀ c' h₃ tk news', Fr h₀ L h₃ m → News h₀ L h₃ news' → (∀ b o, b ≠ P → s₂.heap.get? b = some o → h₃.get? b = some o) → s₂.heap.objs.size ≤ h₃.objs.size → (∀ q ∈ news', q ∈ news ∨ q.1 = P ∨ s₂.heap.objs.size ≤ q.1) → Λ c' news' → R (.ref c') { s₂ with heap := h₃, toks := tk }) →
      wpAny (model prog w) A (genexprCode (envX cn cs L a₀ ccd cl) pos ((envX cn cs L a₀ ccd cl).qual ++ "<genexpr>") scope) R E s₂)
    (hh : A.handled = none) (hco : scope.isCoroutine = false) (hclos : closureFor scope (envX cn cs L a₀ ccd cl) = pure clos) (hcell : ∀ y ∈ scope.names, y.2 ≠ .cell) (h0 : scope.names.lookup (".0" : Str) = some NameKind.local)
    (hx : scope.names.lookup x = some .local) (hkind : scope.kind = .function) (hroom : A.depth < recursionLimit)
    (hiter : ∀ Q' : Value → Shared → Prop, Q' (.ref l) s → wpAny (model prog w) A (eval iter (envX cn cs L a₀ ccd cl)) Q' E s)
    (helt : ∀ (A' : Around) E' i v (t : Shared) C' m₂ code, A'.handled = none → A'.depth ≤ A.depth + 1 → A'.units ≤ A.units + 8 → vs[i]? = some v → Fr h₀ C' t.heap m₂ → m₂ x = some v →
      wpAny (model prog w) A' (eval elt (genEnv scope clos C' code builtinsNs (envX cn cs L a₀ ccd cl))) (fun y s₃ => Fv i y ∧ Keeps t s₃) E' t)
    (hQ : ∀ a c' news' h' tk gs, Fr h₀ L h' m → News h₀ L h' news' → Λ c' news' → AllBare gs → GenW prog w A L a vs.length Fv news' { s with heap := h', toks := tk, gens := gs } → Q (.ref a) { s with heap := h', toks := tk, gens := gs })
    (hs : ∀ x, genFold iter (envX cn cs L a₀ ccd cl) x = pure x) :
    wpAny (model prog w) A (eval (.GeneratorExp elt [⟨.Name x px, iter, [], 0⟩] scope pos) (envX cn cs L a₀ ccd cl)) Q E s := by
  have hm := N _ hP
  have hml := N _ hl
  have hll : s.heap.IsList l vs.toArray := ⟨_, hml.1, rfl, _, rfl⟩
  have hLs : L < s.heap.objs.size := F.ns.lt
  have hlt : l < s.heap.objs.size := Heap.lt_size hml.1
  have hPlt : P < s.heap.objs.size := Heap.lt_size hm.1
  have hlP : l ≠ P := fun e => by
    have h1 := hml.1
    rw [show (l, W.listOf vs.toArray k).1 = l from rfl, e, hm.1] at h1
    cases h1
  have hlim : s.heap.NoLimit := T.nolimit.keeps F.keep
  refine useG ?_
  intro P9 h9
  obtain ⟨bm, ob, b1, b2, b3, b4, b5, b6⟩ := T.bmain
  refine h9 ?_
  clear h9 P9
  refine wpAny_GeneratorExp_walksQD hh hco hclos hcell h0 hx hkind hroom (hiter _ (wpAny_pyIter_list hll ?_)) hs
  refine ⟨hlim.push _, hstep _ _ ⟨F.ns.push _, fun b o e => Heap.get?_push_of_some _ (F.keep b o e), F.above⟩ (fun q hq => N.push F { cls := .type "list_iterator", data := .fields #[.ref l, .int 0 0] } rfl q (.tail _ hq)) fun c' h₃ tk₃ news' F₃ N₃ hx₃ hsz hnew hΛ => ?_⟩
  have hIp : s.heap.objs.size < (s.heap.push { cls := .type "list_iterator", data := .fields #[.ref l, .int 0 0] }).objs.size := by rw [Heap.size_push]; exact Nat.lt_succ_self _
  have hI3 : s.heap.objs.size < h₃.objs.size := Nat.lt_of_lt_of_le hIp hsz
  have hl₃ : h₃.NoLimit := T.nolimit.keeps F₃.keep
  refine wpAny_builtinsFor (T.g.keeps F₃.keep) b1 b2 (F₃.keep _ _ b3) b4 b5 b6 ?_
  have hst : Heap.IsListIter (s.heap.push { cls := .type "list_iterator", data := .fields #[.ref l, .int 0 0] }) s.heap.objs.size l 0 ∧ (s.heap.push { cls := .type "list_iterator", data := .fields #[.ref l, .int 0 0] }).IsList l vs.toArray :=
    ⟨⟨_, Heap.get?_push_size _ rfl, rfl, rfl⟩, hll.push _⟩
  have hcw : cStatics ∉ [s.heap.objs.size] := fun hm' => by
    have hc : cStatics < s.heap.objs.size := let ⟨_, hn, _⟩ := hlim; hn.lt
    rcases List.mem_cons.mp hm' with e | hb
    · exact absurd (e ▸ hc) (Nat.lt_irrefl _)
    · cases hb
  refine ⟨s.heap.objs.size, [s.heap.objs.size, l], [s.heap.objs.size], vs.toArray.size, _, _, fun _ => true, Fv, rfl, (fun A' hA => Walks.list hA _ _ (Nat.ne_of_lt hlt) vs.toArray), ?_, ?_, hl₃, hcw, ?_, ?_⟩
  · exact (Walks.list (prog := prog) (w := w) hh _ _ (Nat.ne_of_lt hlt) vs.toArray).frame _ _ _ hst fun b hb o e => hx₃ b o (fun e' => by
      subst e'
      rcases List.mem_cons.mp hb with e1 | hb
      · exact absurd (e1 ▸ hPlt) (Nat.lt_irrefl _)
      · rcases List.mem_cons.mp hb with e1 | hb
        · exact hlP e1.symm
        · cases hb) e
  · intro b hb
    rcases List.mem_cons.mp hb with rfl | hb
    · exact hI3
    · rcases List.mem_cons.mp hb with rfl | hb
      · exact Nat.lt_trans hlt hI3
      · cases hb
  · intro href hhref
    refine ⟨fun A' E' i v t m₂ hA hD hU hPi hn hm' hkp => ?_, fun A' E' i v t m₂ hA hD hU hPi hp hn hm' hkp => ?_⟩
    · exact wpAny_pure ⟨rfl, ⟨_, _, rfl, fun _ _ e => e⟩⟩
    · refine helt A' E' i v t _ m₂ _ hA hD hU (by simpa using hPi) ⟨hn, fun b o e => hkp b (List.mem_range.mpr (Heap.lt_size (F₃.keep b o e))) (fun hm => ?_) o (hhref b o (F₃.keep b o e)), Nat.le_trans F₃.above (Nat.le_of_lt (Nat.lt_trans hLs hI3))⟩ hm'
      rcases List.mem_cons.mp hm with e1 | hb
      · have h1 : b < L := Nat.lt_of_lt_of_le (Heap.lt_size e) F.above
        rw [e1] at h1
        exact Nat.lt_irrefl _ (Nat.lt_trans h1 hLs)
      · cases hb
  · intro a h₅ tk gs hgb hag hsz₅ hk₅ W hat
    have hpass : passing (fun _ => true) vs.toArray.size 0 = List.range vs.length := by simp [passing]
    have hlen : (passing (fun _ => true) vs.toArray.size 0).length = vs.length := by rw [hpass, List.length_range]
    rw [hlen] at W
    have W2 := W.imp (P' := Fv) fun j y (hy : ∃ i, (passing (fun _ => true) vs.toArray.size 0)[j]? = some i ∧ Fv i y) => by
      obtain ⟨i, hi, hF⟩ := hy
      rw [hpass] at hi
      obtain ⟨hi1, hi2⟩ := List.getElem?_eq_some_iff.mp hi
      rw [List.getElem_range] at hi2
      rw [hi2]; exact hF
    refine hQ a c' news' h₅ tk (s.gens.push gs) (F₃.keeps hk₅) (fun q hq => ⟨hk₅ _ _ (N₃ q hq).1, (N₃ q hq).2⟩) hΛ (G.push hgb) ⟨_, _, _, _, W2, hat, (fun i s' st => st.1.typeIs), List.mem_cons_self, ?_, ?_, ?_⟩
    · intro b hb
      show b < h₅.objs.size
      rw [hsz₅]
      rcases List.mem_cons.mp hb with rfl | hb
      · exact Nat.lt_succ_self _
      · rcases List.mem_cons.mp hb with rfl | hb
        · exact Nat.lt_succ_of_lt hag
        · exact Nat.lt_succ_of_lt (Nat.lt_trans (List.mem_range.mp hb) hag)
    · intro b hb
      rcases List.mem_cons.mp hb with rfl | hb
      · exact Nat.lt_trans hLs hI3
      · rcases List.mem_cons.mp hb with rfl | hb
        · exact hLs
        · cases hb
    · intro q hq hb
      have hq3 : q.1 < h₃.objs.size := Heap.lt_size (N₃ q hq).1
      rcases List.mem_cons.mp hb with e | hb
      · exact absurd (e ▸ hq3) (Nat.lt_irrefl _)
      · rcases List.mem_cons.mp hb with e | hb
        · rcases hnew q hq with h | h | h
          · exact absurd (e ▸ Heap.lt_size (N q h).1) (Nat.lt_irrefl _)
          · rw [h] at e; exact absurd (e ▸ hPlt) (Nat.lt_irrefl _)
          · have : s.heap.objs.size < q.1 := Nat.lt_of_lt_of_le hIp h
            exact absurd (e ▸ this) (Nat.lt_irrefl _)
        · cases hb
end

section
variable {prog : Program} {w : World} {A : Around} {E : Value → Shared → Prop} {s : Shared} {h₀ : Heap} {L l a₀ c P : Addr} {m mg mb : Str → Option Value} {cn : Str} {cs : Scope} {ccd : Value} {cl : List (Str × Addr)} {news : List (Addr × Obj)}
  {p : Program} {loose : List Str} {mean : ExcName → Option Value} {ps : Array Value}
theorem gcode_new {pos : Pos} {scope : Scope} {g : Obj → List (Addr × Obj)} {qual : Str} {s₂ : Shared} {R : Value → Shared → Prop} (C : CodeHd h₀ c P) (hcd : ccd = .ref c) (U : UpdF P (tabObj ps) news g) (ht : TriplesOk ps.toList) (hnf : codeAmong pos ps.toList = none)
    (F : Fr h₀ L s₂.heap m) (N : News h₀ L s₂.heap news)
    (h : ∀ c' h₃ tk news', Fr h₀ L h₃ m → News h₀ L h₃ news' → (∀ b o, b ≠ P → s₂.heap.get? b = some o → h₃.get? b = some o) → s₂.heap.objs.size ≤ h₃.objs.size → (∀ q ∈ news', q ∈ news ∨ q.1 = P ∨ s₂.heap.objs.size ≤ q.1) →
      (∃ oc vs t, news' = (c', oc) :: g (tabObj (ps ++ #[rawInt pos.line, rawInt pos.col, .ref c'])) ∧ oc.data = .fields vs ∧ vs[1]? = some (.str qual t) ∧ ∀ q ∈ news, q.1 < c') → R (.ref c') { s₂ with heap := h₃, toks := tk }) :
    wpAny (model prog w) A (genexprCode (envX cn cs L a₀ ccd cl) pos qual scope) R E s₂ := by
  refine useG ?_
  intro P9 h9
  obtain ⟨own, rest, rfl, hgr, h1, h2⟩ := U.split
  refine h9 ?_
  clear h9 P9
  have hm := N (P, tabObj ps) (List.mem_append_right _ (.head _))
  have C2 := C.keeps F.keep
  refine wpAny_genexprCodeX hcd (C2.code hm.1 ht) (C2.tab hm.1) hnf fun c' h' tk hx hge hlt _ hrec htb _ => ?_
  refine useG ?_
  intro P9 h9
  obtain ⟨c₂, oc, vs, t, e2, hoc, hd, hv⟩ := hrec
  refine h9 ?_
  clear h9 P9
  cases e2
  have hLs : L < s₂.heap.objs.size := F.ns.lt
  have hLc : L < c' := Nat.lt_of_lt_of_le hLs hge
  have old : ∀ b o, h₀.get? b = some o → h'.get? b = some o := fun b o e => hx b o (fun q => by rw [q, hm.2.2] at e; cases e) (F.keep b o e)
  have fresh : ∀ b, L < b → h₀.get? b = none := fun b hb => Heap.get?_none_of_le (Nat.le_trans F.above (Nat.le_of_lt hb))
  refine h c' h' tk _ ⟨F.ns.extBut hx hm.2.1.symm, old, F.above⟩ (fun q hq => ?_) hx (Nat.le_trans hge (Nat.le_of_lt hlt)) (fun q hq => ?_) ⟨oc, vs, t, rfl, hd, hv, fun q hq => Nat.lt_of_lt_of_le (Heap.lt_size (N q hq).1) hge⟩
  · rcases List.mem_cons.mp hq with rfl | hq
    · exact ⟨hoc, Nat.ne_of_gt hLc, fresh _ hLc⟩
    · rw [hgr] at hq
      rcases List.mem_append.mp hq with hq | hq
      · have n := N q (List.mem_append_left _ hq)
        exact ⟨hx _ _ (h1 q hq) n.1, n.2⟩
      · rcases List.mem_cons.mp hq with rfl | hq
        · exact ⟨htb.2, hm.2⟩
        · have n := N q (List.mem_append_right _ (.tail _ hq))
          exact ⟨hx _ _ (h2 q hq) n.1, n.2⟩
  · rcases List.mem_cons.mp hq with rfl | hq
    · exact .inr (.inr hge)
    · rw [hgr] at hq
      rcases List.mem_append.mp hq with hq | hq
      · exact .inl (List.mem_append_left _ hq)
      · rcases List.mem_cons.mp hq with rfl | hq
        · exact .inr (.inl rfl)
        · exact .inl (List.mem_append_right _ (.tail _ hq))
theorem gcode_hit {pos : Pos} {scope : Scope} {qual : Str} {c₁ : Addr} {s₂ : Shared} {R : Value → Shared → Prop} (C : CodeHd h₀ c P) (hcd : ccd = .ref c) (hmem : (P, tabObj ps) ∈ news) (ht : TriplesOk ps.toList) (hf : codeAmong pos ps.toList = some (.ref c₁))
    (F : Fr h₀ L s₂.heap m) (N : News h₀ L s₂.heap news)
    (h : ∀ c' h₃ tk news', Fr h₀ L h₃ m → News h₀ L h₃ news' → (∀ b o, b ≠ P → s₂.heap.get? b = some o → h₃.get? b = some o) → s₂.heap.objs.size ≤ h₃.objs.size → (∀ q ∈ news', q ∈ news ∨ q.1 = P ∨ s₂.heap.objs.size ≤ q.1) →
      news' = news → R (.ref c') { s₂ with heap := h₃, toks := tk }) :
    wpAny (model prog w) A (genexprCode (envX cn cs L a₀ ccd cl) pos qual scope) R E s₂ := by
  have hm := N _ hmem
  exact wpAny_genexprCode_hit hcd ((C.keeps F.keep).code hm.1 ht) hf (h c₁ _ _ _ F N (fun _ _ _ e => e) (Nat.le_refl _) (fun q hq => .inl hq) rfl)
/-- the text that str.join makes of a generator's texts -/
theorem join_gen {a : Addr} {n : Nat} {Fv : Nat → Value → Prop} {Q : Value → Shared → Prop} {sep : Str} {t : Tok} (F : Fr h₀ L s.heap m) (N : News h₀ L s.heap news) (G : AllBare s.gens) (X : GenW prog w A L a n Fv news s) (tx : Nat → Str) (htx : ∀ j v, Fv j v → ∃ u, v = .str (tx j) u)
    (hok : JoinOk sep ((List.range n).map tx) = true) (hsz : n ≤ sizeLine)
    (hQ : ∀ h' t' tk gs, Fr h₀ L h' m → News h₀ L h' news → AllBare gs → Q (.str (Txt.join sep ((List.range n).map tx)) t') { s with heap := h', toks := tk, gens := gs }) :
    wpAny (model prog w) A (call (.builtin "str.join") [.str sep t, .ref a]) Q E s := by
  refine useG ?_
  intro P9 h9
  obtain ⟨fp, wr, g, St, W, hst, hT, ha, hfp, hwr, hnw⟩ := X
  refine h9 ?_
  clear h9 P9
  have W := W.in4_2
  refine PySem.SC.joinGen W hT hst hfp ha (fun j v hv => let ⟨u, e⟩ := htx j v hv; ⟨_, u, e⟩) (fun s' lt hm hacc => ?_) hsz
  have hl : lt.map (·.1) = (List.range n).map tx := by
    apply List.ext_getElem?
    intro j
    have hsz : lt.length = n := by simpa [strValues] using hacc.1
    by_cases hj : j < n
    · have hj' : j < lt.length := hsz ▸ hj
      obtain ⟨u, hv⟩ := htx j _ (hacc.2 j (.str lt[j].1 lt[j].2) (by simp [strValues, List.getElem?_eq_getElem hj']))
      injection hv with h1 _
      simp [List.getElem?_eq_getElem hj', hj, h1]
    · rw [List.getElem?_eq_none (by simpa [hsz] using Nat.le_of_not_lt hj), List.getElem?_eq_none (by simpa using Nat.le_of_not_lt hj)]
  rw [hl]
  have f1 := F.moved hm hwr
  have g1 := G.movedS hm
  have o1 := hm.os
  refine ⟨hok, fun t' k => ?_⟩
  have N1 : News h₀ L s'.heap news := fun q hq => ⟨hm.heap _ _ (hnw q hq) (N q hq).1, (N q hq).2⟩
  have d1 := hm.drawn
  refine useG ?_
  intro P9 h9
  obtain ⟨hp5, gs5, dr5, tk5, os5⟩ := s'
  obtain ⟨hp, gs, dr, tk, os⟩ := s
  refine h9 ?_
  clear h9 P9
  cases d1; cases o1
  exact hQ hp5 t' k gs5 f1 N1 g1
end
end

section
open PySem PySem.W PyProof.Rows PySem.Builtin PySem.Builtin.Re

/-- the machine's turns, plainly -/
def drv : Nat → Sre.M → Sre.M
  | 0, m => m
  | k + 1, m => if (m.runFor 4).outcome.isSome then m.runFor 4 else drv k (m.runFor 4)
section
variable {M : Model} {A : Around} {E : Value → Shared → Prop} {s : Shared}
theorem wp_drive {Q : Sre.M → Shared → Prop} : ∀ (k n : Nat) (m : Sre.M), k ≤ n → 0 < k → (drv k m).outcome.isSome = true → Q (drv k m) s → wpAny M A (reDrive n m) Q E s
  | 0, _, _, _, h, _, _ => absurd h (by decide)
  | k + 1, 0, _, h, _, _, _ => absurd h (by omega)
  | k + 1, n + 1, m, h, _, ho, hq => by
    unfold reDrive
    show wpAny M A (if (m.runFor 4).outcome.isSome then pure (m.runFor 4) else _) Q E s
    by_cases e : (m.runFor 4).outcome.isSome = true
    · rw [if_pos e]
      have ed : drv (k + 1) m = m.runFor 4 := by unfold drv; rw [if_pos e]
      rw [ed] at hq
      exact wpAny_pure hq
    · rw [if_neg e]
      have ed : drv (k + 1) m = drv k (m.runFor 4) := by rw [drv]; rw [if_neg e]
      rw [ed] at ho hq
      have hk : 0 < k := by
        cases k with
        | zero => exact absurd ho (by unfold drv; exact e)
        | succ k => omega
      exact wpAny_bind (wpAny_rule (wp_drive k n _ (by omega) hk ho hq))
theorem wp_rules {Q : PUnit → Shared → Prop} (c : Nat → Bool) (f : Nat → String) : ∀ (l : List Nat), Q ⟨⟩ s → wpAny M A (forIn l PUnit.unit (fun i _ => (do
      if c i = true then rule (f i)
      pure (ForInStep.yield PUnit.unit) : Sem (ForInStep PUnit)))) Q E s
  | [], h => by rw [List.forIn_nil]; exact wpAny_pure h
  | i :: l, h => by
    rw [List.forIn_cons]
    refine wpAny_bind ?_
    by_cases e : c i = true
    · simp only [if_pos e]
      exact wpAny_bind (wpAny_rule (wpAny_pure (wp_rules c f l h)))
    · simp only [if_neg e]
      exact wpAny_pure (wp_rules c f l h)
theorem wp_end {Q : Option Sre.M → Shared → Prop} {m : Sre.M} (k : Nat) (hk : 0 < k) (hk2 : k ≤ 1000) (ho : (drv k m).outcome = some .failed) (h : Q none s) : wpAny M A (reRunToEnd m) Q E s := by
  unfold reRunToEnd
  refine wpAny_bind (wp_drive k (2 ^ 64) m (Nat.le_trans hk2 (by decide)) hk (by rw [ho]; rfl) ?_)
  refine wpAny_bind (wp_rules _ _ _ ?_)
  rw [ho]
  exact wpAny_pure h
end

section
variable {M : Model} {A : Around} {E : Value → Shared → Prop} {s : Shared}
theorem wp_target {a b : Addr} {o oc : Obj} {vs items : Array Value} {n : Nat} {x : Str} {u : Tok} {Q : ReTarget → Shared → Prop} (ho : s.heap.get? a = some o) (hd : o.data = .fields vs) (h5 : vs.getD 5 .none = .ref b) (h6 : reRawNat (vs.getD 6 .none) = 0)
    (hoc : s.heap.get? b = some oc) (hdc : oc.data = .seq items n)
    (h : Q { pattern := .ref a, string := .str x u, code := (items.map reRawOf).map (·.toNat), text := x.cps, kind := 0, groups := reRawNat (vs.getD 2 .none), pos := 0, lim := x.cps.size } s) :
    wpAny M A (reWholeTarget (.ref a) (.str x u)) Q E s := by
  unfold reWholeTarget
  refine wpAny_bind (wpAny_fieldsOf ho hd ?_)
  refine wpAny_bind ?_
  unfold reTextOf
  show wpAny M A (asStr? (.str x u) >>= _) _ _ _
  refine wpAny_bind (wpAny_pure ?_)
  refine wpAny_pure ?_
  simp only [h6]
  show wpAny M A (reNoCollectionInside _ 0 >>= _) _ _ _
  refine wpAny_bind ?_
  unfold reNoCollectionInside
  refine wpAny_pure ?_
  rw [h5]
  refine wpAny_bind ?_
  unfold reRawItems
  refine wpAny_bind (wpAny_seqItems hoc hdc ?_)
  refine wpAny_pure ?_
  exact wpAny_pure h
end

section
variable {prog : Program} {w : World} {A : Around} {E : Value → Shared → Prop} {s : Shared}
theorem plain_subloop : plainId "re.Pattern.sub.loop" = true := by decide +kernel
theorem entry_subloop : entryFor table "re.Pattern.sub.loop" = some Builtin.«re.Pattern.sub.loop» := entryFor_of_tree (by kernel_rfl)
/-- the loop of a substitution that finds nothing: the text itself -/
theorem subloop_none {a b D : Addr} {o oc : Obj} {vs items : Array Value} {n : Nat} {l : List Nat} {u u1 u2 u3 u4 u5 : Tok} {repl : Value} {k : Nat} {kk : Nat} {Q : Fin → Shared → Prop} (ho : s.heap.get? a = some o) (hd : o.data = .fields vs) (h5 : vs.getD 5 .none = .ref b) (h6 : reRawNat (vs.getD 6 .none) = 0)
    (hoc : s.heap.get? b = some oc) (hdc : oc.data = .seq items n) (hD : s.heap.get? D = some { cls := .type "list", data := .seq #[] kk })
    (hl0 : 0 < l.length) (hl : l.length ≤ 1000) (hk : 0 < k) (hk2 : k ≤ 1000)
    (hf : (drv k (Sre.forSearch ((items.map reRawOf).map (·.toNat)) l.toArray (reRawNat (vs.getD 2 .none)) 0 l.length false)).outcome = some .failed)
    (h : ∀ h' t' tk, (∀ b o, b ≠ D → s.heap.get? b = some o → h'.get? b = some o) → Q (.done (.ret (.str ⟨l.toArray⟩ t'))) { s with heap := h', toks := tk }) :
    wpAny (model prog w) A (Builtin.«re.Pattern.sub.loop» ⟨[.ref a, .str ⟨l.toArray⟩ u, repl, .int 1 u1, .int 0 u2, .int 0 u3, .int 0 u4, .int 0 u5, .bool false, .ref D, .bool false], []⟩) Q E s := by
  unfold Builtin.«re.Pattern.sub.loop»
  refine wpAny_bind (wp_target ho hd h5 h6 hoc hdc ?_)
  show wpAny _ A (reNextFound _ 0 false >>= _) Q E s
  unfold reNextFound
  refine wpAny_bind (wp_end k hk hk2 (by rw [List.size_toArray]; exact hf) ?_)
  show wpAny _ A (if (0 : Nat) < l.toArray.size then _ else _) Q E s
  rw [List.size_toArray, if_pos hl0]
  refine wpAny_bind ?_
  unfold reSlice
  rw [if_pos (show ((0 : Nat) == 0) = true by rfl)]
  refine wpAny_mkStr ?_ (by rw [sizeLine_eq]; simp [Str.length]; omega)
  refine wpAny_bind (wpAny_updateSeq (f := (·.push (Value.str ⟨l.toArray.extract (Int.toNat 0) l.length⟩ s.toks))) hD rfl ?_)
  dsimp only
  rw [if_pos (show ((0 : Nat) == 0) = true by rfl)]
  refine wpAny_bind (wpAny_mkStr ?_ (by rw [sizeLine_eq]; simp [Str.length]))
  have hD2 := Heap.get?_update_self (Obj.mapSeq (·.push (Value.str ⟨l.toArray.extract (Int.toNat 0) l.length⟩ s.toks))) hD rfl
  refine wpAny_bind (wpAny_seqItems hD2 rfl ?_)
  rw [if_neg (by simp)]
  have hjoin : (if ((0 : Nat) == 0) = true then "str.join" else "bytes.join") = "str.join" := rfl
  rw [hjoin]
  have hL2 : Heap.IsList (s.heap.update D (Obj.mapSeq (·.push (Value.str ⟨l.toArray.extract (Int.toNat 0) l.length⟩ s.toks)))) D #[Value.str ⟨l.toArray.extract (Int.toNat 0) l.length⟩ s.toks] := ⟨_, hD2, rfl, _, rfl⟩
  have hlen : (⟨l.toArray.extract (Int.toNat 0) l.length⟩ : Str) = ⟨l.toArray⟩ := by
    congr 1
    simp
  refine wpAny_bind (PyProof.Rows.join_list (ys := [⟨l.toArray⟩]) hL2 ?_ ?_ ?_)
  · rw [hlen]; exact .cons _ _ .nil
  · simp [Str.length]; omega
  · intro t' k'
    have e : Txt.join (⟨l.toArray.extract 0 0⟩ : Str) [⟨l.toArray⟩] = ⟨l.toArray⟩ := rfl
    rw [e, if_neg (by decide)]
    refine wpAny_pure ?_
    exact h _ t' k' fun b o hb e => (Heap.get?_update_other _ _ (Ne.symm hb)).trans e
end

section
variable {prog : Program} {w : World} {A : Around} {E : Value → Shared → Prop} {s : Shared}
theorem named_sub (r x : Value) : reNamed "re.Pattern.sub" "sub" ["repl", "string", "count"] 2 [r, x] [] = pure [some r, some x, none] := by kernel_rfl
theorem fn_call : typeLookup (.type "function") "__call__" = pure (some (.builtin "function.__call__")) := by rw [typeLookup_type, builtinLookup_eq_fast]; kernel_rfl
theorem slot_re_sub : Slot "re.Pattern" "sub" "re.Pattern.sub" :=
  .of (owner := "re.Pattern") (n := "sub") (by rw [typeLookup_type, builtinLookup_eq_fast]; kernel_rfl) (by decide +kernel) (by decide +kernel) (by decide +kernel)
    (by first | exact .inl (by decide +kernel) | exact .inr (by decide +kernel)) (by rw [isSubtype_type]; kernel_rfl)
theorem entry_re_sub : entryFor table "re.Pattern.sub" = some Builtin.«re.Pattern.sub» := entryFor_of_tree (by kernel_rfl)
theorem args_re_sub (a b c : Value) : argsOk "re.Pattern.sub" ⟨[a, b, c], []⟩ := by unfold argsOk; kernel_rfl
theorem str_no_ba : isSubtype (.type "str") (.type "bytearray") = pure false := by rw [isSubtype_type]; kernel_rfl
theorem sub_tree {a b f : Addr} {o oc fo : Obj} {vs items : Array Value} {n : Nat} {l : List Nat} {u : Tok} {k : Nat} {R : Result → Shared → Prop} (ho : s.heap.get? a = some o) (hd : o.data = .fields vs) (h5 : vs.getD 5 .none = .ref b) (h6 : reRawNat (vs.getD 6 .none) = 0)
    (hoc : s.heap.get? b = some oc) (hdc : oc.data = .seq items n) (hfo : s.heap.get? f = some fo) (hfc : fo.cls = .type "function")
    (hl0 : 0 < l.length) (hl : l.length ≤ 1000) (hk : 0 < k) (hk2 : k ≤ 1000)
    (hf : (drv k (Sre.forSearch ((items.map reRawOf).map (·.toNat)) l.toArray (reRawNat (vs.getD 2 .none)) 0 l.length false)).outcome = some .failed)
    (h : ∀ h' t' tk, (∀ b o, s.heap.get? b = some o → h'.get? b = some o) → R (.ok (.ret (.str ⟨l.toArray⟩ t'))) { s with heap := h', toks := tk }) :
    wpAny (model prog w) A.in1 (Builtin.«re.Pattern.sub» ⟨[.ref a, .ref f, .str ⟨l.toArray⟩ u], []⟩) (fun fin s' => match fin with | .done r => R (.ok r) s' | .again c' => c'.quiet = true ∧ codeAny (model prog w) A c' R s') (fun e s' => R (.error e) s') s := by
  show wpAny _ A.in1 (reSubstitute "re.Pattern.sub" "sub" false _) _ _ _
  unfold reSubstitute
  refine wpAny_bind (wpAny_of_eq (named_sub _ _) ?_)
  refine wpAny_bind (wpAny_pure ?_)
  refine wpAny_bind (wpAny_specialOf ⟨_, hfo, hfc⟩ fn_call ?_)
  refine wpAny_bind (wpAny_pure ?_)
  refine wpAny_bind (wpAny_pure ?_)
  refine wpAny_bind (wpAny_holding (wp_target ho hd h5 h6 hoc hdc ?_))
  refine wpAny_bind ?_
  unfold reNotHeld
  refine wpAny_bind (wpAny_isInstance_val (T := "str") rfl str_no_ba ?_)
  rw [if_neg (by decide)]
  refine wpAny_pure ?_
  refine wpAny_bind (wpAny_newList ?_)
  have hD : (s.heap.push { cls := .type "list", data := .seq ([] : List Value).toArray }).get? s.heap.objs.size = some { cls := .type "list", data := .seq #[] 0 } := Heap.get?_push_size _ rfl
  refine wpAny_pure ⟨plainId_quiet plain_subloop _, codeAny_builtin entry_subloop ?_⟩
  rw [Around.under_plainId plain_subloop _]
  refine wpAny_mono (subloop_none (Q := fun fin s'' => match fin with | .done v => R (.ok v) s'' | .again _ => False) (Heap.get?_push_of_some _ ho) hd h5 h6 (Heap.get?_push_of_some _ hoc) hdc hD hl0 hl hk hk2 hf ?_) (fun fin s' hq => ?_) fun _ _ e => e
  · intro h' t' tk hkp
    exact h h' t' tk fun b o e => hkp b o (Nat.ne_of_lt (Heap.lt_size e)) (Heap.get?_push_of_some _ e)
  · cases fin with
    | done v => exact hq
    | again c => exact hq.elim
theorem re_sub {a b f : Addr} {o oc fo : Obj} {vs items : Array Value} {n : Nat} {l : List Nat} {u : Tok} {k : Nat} {Q : Value → Shared → Prop} (ho : s.heap.get? a = some o) (hoc' : o.cls = .type "re.Pattern") (hd : o.data = .fields vs) (h5 : vs.getD 5 .none = .ref b) (h6 : reRawNat (vs.getD 6 .none) = 0)
    (hoc : s.heap.get? b = some oc) (hdc : oc.data = .seq items n) (hfo : s.heap.get? f = some fo) (hfc : fo.cls = .type "function")
    (hl0 : 0 < l.length) (hl : l.length ≤ 1000) (hk : 0 < k) (hk2 : k ≤ 1000)
    (hf : (drv k (Sre.forSearch ((items.map reRawOf).map (·.toNat)) l.toArray (reRawNat (vs.getD 2 .none)) 0 l.length false)).outcome = some .failed)
    (h : ∀ h' t' tk, (∀ b o, s.heap.get? b = some o → h'.get? b = some o) → Q (.str ⟨l.toArray⟩ t') { s with heap := h', toks := tk }) :
    wpAny (model prog w) A (call (.builtin "re.Pattern.sub") [.ref a, .ref f, .str ⟨l.toArray⟩ u]) Q E s :=
  wpAny_call (codeAny_call_builtin slot_re_sub.plain entry_re_sub (slot_re_sub.check _ _ _ _ _ _ _ _ (show s.TypeIs (.ref a) "re.Pattern" from ⟨_, ho, hoc'⟩) (args_re_sub _ _ _) (sub_tree (A := A) (R := wants Q E) ho hd h5 h6 hoc hdc hfo hfc hl0 hl hk hk2 hf fun h' t' tk hkp => h h' t' tk hkp)))
end
end

section
open PySem PySem.W PyProof.Rows PySem.Builtin PySem.Builtin.Re

theorem in114 (w : World) : ∃ items n, (ex1.heap_1 w.params).lookup 114 = some ⟨.type "tuple", none, .seq items n, #[]⟩ ∧ (items.map reRawOf).map (·.toNat) = #[14, 14, 4, 1, 1, 9, 0, 64, 0, 1342177280, 0, 0, 0, 0, 0, 17, 0, 13, 11, 9, 0, 64, 0, 1342177280, 0, 0, 0, 0, 0, 17, 1, 1] := by
  refine ⟨_, _, by with_unfolding_all rfl, by with_unfolding_all rfl⟩
theorem in115 (w : World) : ∃ vs, (ex1.heap_1 w.params).lookup 115 = some ⟨.type "re.Pattern", none, .fields vs, #[]⟩ ∧ vs.getD 5 .none = .ref 114 ∧ reRawNat (vs.getD 6 .none) = 0 ∧ reRawNat (vs.getD 2 .none) = 1 := by
  refine ⟨_, by with_unfolding_all rfl, by rfl, by rfl, by rfl⟩
def bodyC (c : Nat) : List Nat := (if c < 26 then 65 + c else 97 + (c - 26)) :: (if c < 26 then [45, 90, 97, 45, 122, 48, 45, 57, 43, 47] else [45, 122, 48, 45, 57, 43, 47])
def isFailed : Option Sre.Outcome → Bool
  | some .failed => true
  | _ => false
theorem isFailed_iff {o : Option Sre.Outcome} (h : isFailed o = true) : o = some .failed := by
  unfold isFailed at h
  split at h
  · rfl
  · cases h
theorem search_all : (List.range 43).all (fun c => isFailed (drv 100 (Sre.forSearch #[14, 14, 4, 1, 1, 9, 0, 64, 0, 1342177280, 0, 0, 0, 0, 0, 17, 0, 13, 11, 9, 0, 64, 0, 1342177280, 0, 0, 0, 0, 0, 17, 1, 1] (bodyC c).toArray 1 0 (bodyC c).length false)).outcome) = true := by
  decide +kernel
theorem search_none {c : Nat} (h : c < 43) : (drv 100 (Sre.forSearch #[14, 14, 4, 1, 1, 9, 0, 64, 0, 1342177280, 0, 0, 0, 0, 0, 17, 0, 13, 11, 9, 0, 64, 0, 1342177280, 0, 0, 0, 0, 0, 17, 1, 1] (bodyC c).toArray 1 0 (bodyC c).length false)).outcome = some .failed :=
  isFailed_iff (List.all_eq_true.mp search_all c (List.mem_range.mpr h))
end

section
open PySem PySem.W PyProof.Rows PySem.Builtin PySem.Builtin.Str

def find4 (x y : Str) (lo hi : Nat) : Int := match occurrences x y lo hi 1 with | k :: _ => (k : Int) | [] => -1
theorem gives_find4 (x y : Str) {i j : Int} (t u v v2 : Tok) (hi : 0 ≤ i) (hj : 0 ≤ j) (hl : j ≤ x.length) : Gives («str.find» ⟨[.str x t, .str y u, .int i v, .int j v2], []⟩) (.int (find4 x y i.toNat j.toNat)) := by
  have e1 : (max 0 (if i < 0 then i + x.length else i)).toNat = i.toNat := by rw [if_neg (Int.not_lt.mpr hi), Int.max_eq_right hi]
  have e2 : min (max 0 (if j < 0 then j + x.length else j)).toNat x.length = j.toNat := by rw [if_neg (Int.not_lt.mpr hj), Int.max_eq_right hj, Nat.min_eq_left (Int.toNat_le.mpr hl)]
  show Gives (match occurrences x y (max 0 (if i < 0 then i + x.length else i)).toNat (min (max 0 (if j < 0 then j + x.length else j)).toNat x.length) 1 with | k :: _ => retInt k | [] => (do rule "str.find.not-found"; retInt (-1))) _
  rw [e1, e2]
  unfold find4
  cases occurrences x y i.toNat j.toNat 1 with
  | nil => exact .rule (.of_eq rfl)
  | cons k _ => exact .of_eq rfl
theorem find4_call {prog : Program} {w : World} {A : Around} {E : Value → Shared → Prop} {s : Shared} {x y : Str} {t u v v2 : Tok} {i j : Int} {Q : Value → Shared → Prop} {r : Int} (hi : 0 ≤ i) (hj : 0 ≤ j) (hl : j ≤ x.length) (hr : find4 x y i.toNat j.toNat = r)
    (hq : Q (.int r s.toks) { s with toks := s.toks + 1 }) : wpAny (model prog w) A (call (.builtin "str.find") [.str x t, .str y u, .int i v, .int j v2]) Q E s :=
  call_gives F.slot_str_find (typeIs_str _ _ _) F.entry_str_find (F.args_str_find_4 _ _ _ _) (gives_find4 x y t u v v2 hi hj hl) (by rw [hr]; exact hq)
theorem at_one {l : List Nat} {c hi : Nat} (hh : hi ≤ l.length) (i : Nat) : PySem.StrLaws.At (⟨l.toArray⟩ : Str) ⟨#[c]⟩ hi i ↔ i < hi ∧ l[i]? = some c := by
  have e := PySem.StrLaws.subAt_one (⟨l.toArray⟩ : Str) c i
  have e1 : (⟨#[c]⟩ : Str).length = 1 := rfl
  have e2 := cod_len l
  unfold PySem.StrLaws.At
  rw [e1] at e ⊢
  rw [e2] at e
  constructor
  · rintro ⟨h1, h2⟩
    exact ⟨by omega, by simpa using e.mp ⟨by omega, h2⟩⟩
  · rintro ⟨h1, h2⟩
    exact ⟨by omega, (e.mpr (by simpa using h2)).2⟩
theorem find4_cases (l : List Nat) (c lo : Nat) {hi : Nat} (hh : hi ≤ l.length) :
    (find4 ⟨l.toArray⟩ ⟨#[c]⟩ lo hi = -1 ∧ ∀ i, lo ≤ i → i < hi → l[i]? ≠ some c) ∨ ∃ k : Nat, find4 ⟨l.toArray⟩ ⟨#[c]⟩ lo hi = (k : Int) ∧ lo ≤ k ∧ k < hi ∧ l[k]? = some c ∧ ∀ i, lo ≤ i → i < k → l[i]? ≠ some c := by
  unfold find4
  rw [PySem.StrLaws.occ_eq]
  rcases PySem.StrLaws.occ_first (⟨l.toArray⟩ : Str) ⟨#[c]⟩ hi 1 (Nat.le_refl 1) (List.range' lo (hi + 1 - lo)) lo (fun i hi => by have := List.mem_range'_1.mp hi; omega) with ⟨h0, hn⟩ | ⟨pre, a, post, e, h0, ha, hn⟩
  · rw [h0]
    exact .inl ⟨rfl, fun i h1 h2 h3 => hn i (List.mem_range'_1.mpr (by omega)) ((at_one hh i).mpr ⟨h2, h3⟩)⟩
  · have hs := PySem.StrLaws.range'_split_from e
    obtain ⟨a1, a2⟩ := (at_one hh a).mp ha
    refine .inr ⟨a, ?_, hs.1, a1, a2, fun k hk0 hk hc => hn k (hs.2 k hk0 hk) ((at_one hh k).mpr ⟨by omega, hc⟩)⟩
    generalize (forIn (List.range' lo (hi + 1 - lo)) ((#[] : Array Nat), lo) (PySem.StrLaws.occBody (⟨l.toArray⟩ : Str) ⟨#[c]⟩ hi 1)).run.fst = arr at h0
    have h1 : arr.toList[0]? = some a := by simpa using h0
    cases hL : arr.toList with
    | nil => rw [hL] at h1; cases h1
    | cons b t => rw [hL] at h1; simp at h1; rw [h1]
theorem find4_some {l : List Nat} {c lo hi k : Nat} (hh : hi ≤ l.length) (h1 : lo ≤ k) (h2 : k < hi) (hk : l[k]? = some c) (hn : ∀ i, lo ≤ i → i < k → l[i]? ≠ some c) : find4 ⟨l.toArray⟩ ⟨#[c]⟩ lo hi = (k : Int) := by
  rcases find4_cases l c lo hh with ⟨_, h⟩ | ⟨k', e, a1, a2, a3, a4⟩
  · exact absurd hk (h k h1 h2)
  · rw [e]
    by_cases h : k' < k
    · exact absurd a3 (hn k' a1 h)
    · by_cases h' : k < k'
      · exact absurd hk (a4 k h1 h')
      · omega
theorem find4_none {l : List Nat} {c lo hi : Nat} (hh : hi ≤ l.length) (hn : ∀ i, lo ≤ i → i < hi → l[i]? ≠ some c) : find4 ⟨l.toArray⟩ ⟨#[c]⟩ lo hi = -1 := by
  rcases find4_cases l c lo hh with ⟨e, _⟩ | ⟨k', e, a1, a2, a3, a4⟩
  · exact e
  · exact absurd a3 (hn k' a1 a2)
/-- find behind a part that is known: the part's first place -/
theorem find4_in {l : List Nat} {body : List Nat} {c i1 a b k : Nat} (hb : ∀ r, r < body.length → l[i1 + r]? = body[r]?) (hl : i1 + body.length ≤ l.length) (ha : a ≤ k) (hk : k < body.length) (hbk : b = body.length) (hc : body[k]? = some c)
    (hn : ((body.take k).drop a).all (fun q => q != c) = true) : find4 ⟨l.toArray⟩ ⟨#[c]⟩ (i1 + a) (i1 + b) = ((i1 + k : Nat) : Int) := by
  subst hbk
  refine find4_some hl (by omega) (by omega) (by rw [hb k hk]; exact hc) fun i h1 h2 h3 => ?_
  have e : i = i1 + (i - i1) := by omega
  rw [e, hb _ (by omega)] at h3
  have hm : c ∈ (body.take k).drop a := by
    rw [List.mem_iff_getElem?]
    refine ⟨i - i1 - a, ?_⟩
    rw [List.getElem?_drop, List.getElem?_take_of_lt (by omega), show a + (i - i1 - a) = i - i1 by omega]
    exact h3
  have := List.all_eq_true.mp hn c hm
  simp at this
theorem find4_out {l : List Nat} {body : List Nat} {c i1 a b : Nat} (hb : ∀ r, r < body.length → l[i1 + r]? = body[r]?) (hl : i1 + body.length ≤ l.length) (hbk : b = body.length)
    (hn : (body.drop a).all (fun q => q != c) = true) : find4 ⟨l.toArray⟩ ⟨#[c]⟩ (i1 + a) (i1 + b) = -1 := by
  subst hbk
  refine find4_none hl fun i h1 h2 h3 => ?_
  have e : i = i1 + (i - i1) := by omega
  rw [e, hb _ (by omega)] at h3
  have hm : c ∈ body.drop a := by
    rw [List.mem_iff_getElem?]
    refine ⟨i - i1 - a, ?_⟩
    rw [List.getElem?_drop, show a + (i - i1 - a) = i - i1 by omega]
    exact h3
  have := List.all_eq_true.mp hn c hm
  simp at this
/-- a slice of the part -/
theorem part_slice {l : List Nat} {body : List Nat} {i1 a b : Nat} (hb : ∀ r, r < body.length → l[i1 + r]? = body[r]?) (hab : b ≤ body.length) : (l.take (i1 + b)).drop (i1 + a) = (body.take b).drop a := by
  apply List.ext_getElem?
  intro r
  rw [List.getElem?_drop, List.getElem?_drop]
  by_cases h : a + r < b
  · rw [List.getElem?_take_of_lt (by omega), List.getElem?_take_of_lt h, Nat.add_assoc, hb _ (by omega)]
  · rw [List.getElem?_eq_none (by rw [List.length_take]; omega), List.getElem?_eq_none (by rw [List.length_take]; omega)]
end

section
open PySem PySem.W PyProof.Rows PySem.Builtin PySem.Builtin.Str

section
variable {prog : Program} {w : World} {A : Around} {E : Value → Shared → Prop} {s : Shared} {x y z : Str} {t u v : Tok} {Q : Value → Shared → Prop}
theorem replace_none (ho : occurrences x y 0 x.length (x.length + 1) = []) (hq : Q (.str x t) s) : wpAny (model prog w) A (call (.builtin "str.replace") [.str x t, .str y u, .str z v]) Q E s := by
  refine call_gives F.slot_str_replace (typeIs_str _ _ _) F.entry_str_replace (F.args_str_replace_3 _ _ _) (gives_str_replace x y z t u v fun hc => by rw [ho] at hc; simp at hc) ?_
  rw [ho]
  exact hq
end

theorem type_re_sub : typeOf (.builtin "re.Pattern.sub") = pure (.type "method_descriptor") := by show builtinType _ = _; rw [builtinType_eq_fast]; kernel_rfl
theorem plainAttrs_re : PlainAttrs "re.Pattern" :=
  ⟨⟨"object.__getattribute__", by rw [typeLookup_type, builtinLookup_eq_fast]; kernel_rfl, by decide +kernel⟩, by rw [typeLookup_type, builtinLookup_eq_fast]; kernel_rfl⟩
theorem meth_re {M : Model} {A : Around} {s : Shared} {a : Addr} {o : Obj} {pl : Sem Bool} {E : Value → Shared → Prop} {Q : Value × List Value → Shared → Prop} (ho : s.heap.get? a = some o) (hc : o.cls = .type "re.Pattern") (hd : o.dict = none)
    (h : Q (.builtin "re.Pattern.sub", [.ref a]) s) : wpAny M A (getMethod (.ref a) "sub" pl) Q E s :=
  getMethod_builtin ⟨_, ho, hc⟩ plainAttrs_re slot_re_sub type_re_sub (fun b e => by cases e; exact ⟨_, ho, hd⟩) h

def Mid129 (ps : Array Value) : Prop := (∃ g1, ps = #[rawInt 178, rawInt 37, .ref g1]) ∨ ∃ g1 g2, ps = #[rawInt 178, rawInt 37, .ref g1, rawInt 179, rawInt 39, .ref g2]
/-- the table of code 133: nothing, or its generator expression's code and its lambda's -/
def Tab129 (ps : Array Value) : Prop := ps = #[] ∨ ∃ g1 g2, ps = #[rawInt 178, rawInt 37, .ref g1, rawInt 179, rawInt 39, .ref g2]
theorem updF_same {d : Addr} {o : Obj} {l : List (Addr × Obj)} {g : Obj → List (Addr × Obj)} (U : UpdF d o l g) : g o = l := by
  induction U with
  | head _ => rfl
  | tail _ _ ih => simp only [ih]
section
variable {M : Model} {A : Around} {E : Value → Shared → Prop} {s : Shared} {h₀ : Heap} {L a c P : Addr} {m mg mb : Str → Option Value} {cn : Str} {cs : Scope} {ccd : Value} {cl : List (Str × Addr)} {news : List (Addr × Obj)} {g : Obj → List (Addr × Obj)}
  {p : Program} {loose : List Str} {mean : ExcName → Option Value} {name qual : Str} {params : Arguments} {body : PySem.Expr} {scope : Scope} {ps : Array Value} {pos : Pos} {firstLine : Nat} {clos : List (Str × Addr)}
theorem lam_mid {Q : Value → Shared → Prop} (F : Fr h₀ L s.heap m) (N : News h₀ L s.heap news) (T : Top p loose mean mg mb h₀) (C : CodeHd h₀ c P) (hcd : ccd = .ref c) (U : UpdF P (tabObj ps) news g) (hmid : Mid129 ps) (hp1 : pos.line = 179) (hp2 : pos.col = 39)
    (hcl : closureFor scope (envX cn cs L a ccd cl) = pure clos)
    (h : ∀ f fo ps2 h' tk, Fr h₀ L h' m → News h₀ L h' ((f, fo) :: g (tabObj ps2)) → fo.cls = .type "function" → Tab129 ps2 → (∀ q ∈ news, q.1 < f) → Q (.ref f) { s with heap := h', toks := tk }) :
    wpAny M A (makeFunction name qual params (.expr body) scope (envX cn cs L a ccd cl) [] [] [] pos firstLine) Q E s := by
  obtain ⟨pl, pc, pe1, pe2⟩ := pos
  dsimp only at hp1 hp2
  subst hp1 hp2
  rcases hmid with ⟨g1, rfl⟩ | ⟨g1, g2, rfl⟩
  · refine kla_nest F N T C hcd U (by kn_triples) (by rfl) hcl fun f c' oc vs t ctv h' tk F' N' _ _ hlt hcf => ?_
    refine h f (kla_obj name qual params body scope clos ((mg "__name__").getD .none) c' ctv) _ h' tk F' (fun q (hq : q ∈ _ :: _) => N' q ?_) rfl (.inr ⟨g1, c', rfl⟩) (fun q hq => Nat.lt_trans (hlt q hq) hcf)
    rcases List.mem_cons.mp hq with rfl | hq
    · exact .head _
    · exact .tail _ (.tail _ hq)
  · obtain ⟨own, rest, e, _, _, _⟩ := U.split
    refine kla_hit (c' := g2) F N T C hcd (e ▸ List.mem_append_right _ (.head _)) (by kn_triples) (by rfl) hcl fun f ctv h' tk F' N' hlt => ?_
    refine h f (kla_obj name qual params body scope clos ((mg "__name__").getD .none) g2 ctv) _ h' tk F' ?_ rfl (.inr ⟨g1, g2, rfl⟩) hlt
    rw [updF_same U]; exact N'
end

theorem glue_set (body : List Nat) : Str.empty ++ PySem.Str.ofString "[" ++ ⟨body.toArray⟩ ++ PySem.Str.ofString "]" = ⟨(91 :: (body ++ [93])).toArray⟩ := by
  rw [show PySem.Str.ofString "[" = ⟨#[91]⟩ by decide +kernel, show PySem.Str.ofString "]" = ⟨#[93]⟩ by decide +kernel]
  show (⟨((#[] ++ #[91]) ++ body.toArray) ++ #[93]⟩ : Str) = _
  congr 1
  simp

/-- an item of a list that stands written on the ledger -/
theorem item_lit {prog : Program} {w : World} {A : Around} {E : Value → Shared → Prop} {s : Shared} {value slice : PySem.Expr} {h₀ : Heap} {L l : Addr} {news : List (Addr × Obj)} {vs : List Value} {k : Int} {kk : Nat} {u : Tok} {v : Value} {Q : Value → Shared → Prop}
    (N : News h₀ L s.heap news) (hm : (l, W.listOf vs.toArray kk) ∈ news) (h0 : 0 ≤ k) (hhi : k < 2 ^ 63) (hx : vs[k.toNat]? = some v) (h : Q v s)
    (hs : subscripted slice false (.ref l) (.int k u) = operate [.ref l, .int k u] (getItem (.ref l) (.int k u))) :
    wpAny (model prog w) A (subscriptTail value slice (.ref l) (.int k u)) Q E s :=
  have hl : s.heap.IsList l vs.toArray := ⟨_, (N _ hm).1, rfl, _, rfl⟩
  tail_any hl.typeIs slot_list_getitem.lookup (wpAny_getItem_list hl h0 hhi (by simpa using hx) h) hs
end

section
open PySem PySem.W PyProof.Rows PyProof.Rows.LCg PySem.Calls PySem.Spec

/-- the end of a comprehension's turn whose calls may have made generators -/
inductive EndG (h₀ : Heap) (L : Addr) (m : Str → Option Value) (s₁ : Shared) (I : Addr) (oI : Obj) (C : Addr) (oC : Obj) (D : Addr) (oD : Obj) (rest : Value → List (Addr × Obj) → Prop) (y : Value) (s₂ : Shared) : Prop
  | mk (h' : _) (tk : _) (gs : _) (news' : _) (h1 : s₂ = { s₁ with heap := h', toks := tk, gens := gs }) (h2 : AllBare gs) (h3 : Fr h₀ L h' m) (h4 : News h₀ L h' ((I, oI) :: (C, oC) :: (D, oD) :: news')) (h5 : Off3 I C D news') (h6 : rest y news') : EndG h₀ L m s₁ I oI C oC D oD rest y s₂
theorem EndG.intro {h₀ : Heap} {L I C D : Addr} {m : Str → Option Value} {s₁ : Shared} {oI oC oD : Obj} {rest : Value → List (Addr × Obj) → Prop} {y : Value} {h' : Heap} {tk : Nat} {gs} {news' : List (Addr × Obj)}
    (G : AllBare gs) (F : Fr h₀ L h' m) (N : News h₀ L h' ((I, oI) :: (C, oC) :: (D, oD) :: news')) (off : Off3 I C D news') (r : rest y news') :
    EndG h₀ L m s₁ I oI C oC D oD rest y { s₁ with heap := h', toks := tk, gens := gs } := ⟨h', tk, gs, news', rfl, G, F, N, off, r⟩
section
variable {prog : Program} {w : World} {A : Around} {E : Value → Shared → Prop} {s : Shared} {h₀ : Heap} {L : Addr} {m : Str → Option Value} {env : Env}
/-- the source of a comprehension with one test over a range, by an invariant; generators may be made -/
inductive SrcG (prog : Program) (w : World) (A : Around) (h₀ : Heap) (L : Addr) (m : Str → Option Value) (env : Env) (ct elt : PySem.Expr) (x : Str) (scope : Scope) (cl : List (Str × Addr)) (Q : Value → Shared → Prop) (xv : Value) (s₁ : Shared) : Prop
  | mk (r : _) (a : _) (b : _) (t : _) (u : _) (v : _) (n : _) (news : _) (h1 : xv = .ref r) (h2 : A.handled = none) (h3 : AllBare s₁.gens) (h4 : Fr h₀ L s₁.heap m) (h5 : News h₀ L s₁.heap news) (h6 : IsRange s₁.heap r a b 1 t u v) (h7 : Builtin.Range.small a b 1 = true) (h8 : Builtin.Range.rangeSize a b 1 = ((n : Nat) : Int)) (h9 : n ≤ sizeLine) (J : Nat → List Value → List (Addr × Obj) → Prop) (h10 : J 0 [] news) (h11 : (∀ i ys news t I oI C oC D m₂ h tk gs (E' : Value → Shared → Prop), i < n → J i ys news → AllBare gs → NsObj oC m₂ → m₂ x = some (.int (a + (i : Int)) t) → Fr h₀ L h m → News h₀ L h ((I, oI) :: (C, oC) :: (D, lst ys) :: news) → Off3 I C D news → ((@Ne Nat I C) ∧ (@Ne Nat I D) ∧ (@Ne Nat C D)) → wpAny (model prog w) A (isTrue ct (compEnvC scope cl C env) (eval ct (compEnvC scope cl C env))) (fun ok s' => if ok = true then wpAny (model prog w) A (eval elt (compEnvC scope cl C env)) (EndG h₀ L m s₁ I oI C oC D (lst ys) (fun y nw => J (i + 1) (ys ++ [y]) nw)) E' s' else EndG h₀ L m s₁ I oI C oC D (lst ys) (fun _ nw => J (i + 1) ys nw) Value.none s') E' { s₁ with heap := h, toks := tk, gens := gs })) (h12 : ∀ D h tk gs ys news, J n ys news → AllBare gs → Fr h₀ L h m → News h₀ L h ((D, lst ys) :: news) → Off1 D news → Q (.ref D) { s₁ with heap := h, toks := tk, gens := gs }) : SrcG prog w A h₀ L m env ct elt x scope cl Q xv s₁
theorem compG_loop {ct elt iter : PySem.Expr} {x : Str} {px : Pos} {scope : Scope} {cl : List (Str × Addr)} {pos : Pos} {R : Result → Shared → Prop} {s₁ : Shared} {I C D : Addr} {a : Int} {n : Nat} {h₁ : Heap} {tk₁ : Nat} {m₁ : Str → Option Value} {news : List (Addr × Obj)}
    {J : Nat → List Value → List (Addr × Obj) → Prop} (hh : A.handled = none) (hsz : n ≤ sizeLine) (hkind : scope.kind = .function) (hx : scope.names.lookup x = some .local)
    (nIC : I ≠ C) (nID : I ≠ D) (nCD : C ≠ D) (nIL : I ≠ L) (nCL : C ≠ L) (nDL : D ≠ L) (zI : h₀.get? I = none) (zC : h₀.get? C = none) (zD : h₀.get? D = none)
    (G : AllBare s₁.gens) (F : Fr h₀ L h₁ m) (hns : h₁.Ns C m₁) (hit : IsRangeIter h₁ I (a + ((0 : Nat) : Int) * 1) ((n : Int) - ((0 : Nat) : Int)) 1) (N : News h₀ L h₁ ((D, lst []) :: news)) (off : Off3 I C D news) (J0 : J 0 [] news)
    (turn : ∀ i ys news t I oI C oC D m₂ h tk gs (E' : Value → Shared → Prop), i < n → J i ys news → AllBare gs → NsObj oC m₂ → m₂ x = some (.int (a + (i : Int)) t) → Fr h₀ L h m → News h₀ L h ((I, oI) :: (C, oC) :: (D, lst ys) :: news) → Off3 I C D news → ((@Ne Nat I C) ∧ (@Ne Nat I D) ∧ (@Ne Nat C D)) →
        wpAny (model prog w) A (isTrue ct (compEnvC scope cl C env) (eval ct (compEnvC scope cl C env))) (fun ok s' => if ok = true then
          wpAny (model prog w) A (eval elt (compEnvC scope cl C env)) (EndG h₀ L m s₁ I oI C oC D (lst ys) (fun y nw => J (i + 1) (ys ++ [y]) nw)) E' s'
          else EndG h₀ L m s₁ I oI C oC D (lst ys) (fun _ nw => J (i + 1) ys nw) Value.none s') E' { s₁ with heap := h, toks := tk, gens := gs })
    (fin : ∀ h tk gs m' ys news', J n ys news' → AllBare gs → Fr h₀ L h m → h.Ns C m' → News h₀ L h ((D, lst ys) :: news') → Off3 I C D news' → R (.ok .next) { s₁ with heap := h, toks := tk, gens := gs }) :
    codeAny (model prog w) A (.compLoop (.ListComp elt [⟨.Name x px, iter, [ct], 0⟩] scope pos) 0 (.ref I) (.ref D) (compEnvC scope cl C env)) R { s₁ with heap := h₁, toks := tk₁ } := by
  have W := range_walks (prog := prog) (w := w) (A := A) (I := I) hh a n
  refine codeAny_compLoop_tests
    (fun k s' => ∃ h tk gs i ys m' news', s' = { s₁ with heap := h, toks := tk, gens := gs } ∧ i ≤ n ∧ k = n - i ∧ ys.length ≤ i ∧ AllBare gs ∧ IsRangeIter h I (a + ((i : Nat) : Int) * 1) ((n : Int) - ((i : Nat) : Int)) 1 ∧ Fr h₀ L h m ∧ h.Ns C m' ∧
      News h₀ L h ((D, lst ys) :: news') ∧ Off3 I C D news' ∧ J i ys news') ?_ n ⟨h₁, tk₁, s₁.gens, 0, [], m₁, news, rfl, Nat.zero_le _, rfl, Nat.le_refl _, G, hit, F, hns, N, off, J0⟩
  intro k s' hz2
  refine useG ?_
  intro P9 h9
  obtain ⟨h, tk, gs, i, ys, m', nw, rfl, hi, rfl, hyl, hG, hst, hF, hNs, hN, hoff, hJ⟩ := hz2
  refine h9 ?_
  clear h9 P9
  have o3 := hoff.mem
  by_cases hlt : i < n
  · refine W.item i _ _ _ hlt hst fun v h₂ tk₂ hv hst₂ keep₂ => ?_
    obtain ⟨tv, rfl⟩ := hv
    have F₂ : Fr h₀ L h₂ m := fr_but hF keep₂ (Ne.symm nIL) zI
    have N₂ : News h₀ L h₂ ((D, lst ys) :: nw) := news_but hN keep₂ fun p hp => by
      rcases List.mem_cons.mp hp with rfl | hp
      · exact Ne.symm nID
      · exact (o3 p hp).1
    have Ns₂ : h₂.Ns C m' := hNs.at' fun o e => keep₂ C o (by simpa using Ne.symm nIC) e
    refine wpAny_assign_Name (wpAny_storeName_local (lookup_relabel_local hx) Ns₂ (fun h₃ Ns₃ sb₃ => ?_) (by simp [compEnvC, relabel, hkind]))
    refine wpAny_tests_one ?_
    obtain ⟨oC, eC, hoC⟩ := ns_obj Ns₃
    have eI : h₃.get? I = some { cls := .type "range_iterator", data := .fields #[rawInt (a + ((i + 1 : Nat) : Int) * 1), rawInt ((n : Int) - ((i + 1 : Nat) : Int)), rawInt 1] } := sb₃.extBut _ _ nIC hst₂
    have F₃ : Fr h₀ L h₃ m := F₂.change sb₃ nCL zC
    have N₃ : News h₀ L h₃ ((I, { cls := .type "range_iterator", data := .fields #[rawInt (a + ((i + 1 : Nat) : Int) * 1), rawInt ((n : Int) - ((i + 1 : Nat) : Int)), rawInt 1] }) :: (C, oC) :: (D, lst ys) :: nw) := by
      intro p hp
      rcases List.mem_cons.mp hp with rfl | hp
      · exact ⟨eI, nIL, zI⟩
      rcases List.mem_cons.mp hp with rfl | hp
      · exact ⟨eC, nCL, zC⟩
      refine ⟨sb₃.extBut _ _ ?_ (N₂ p hp).1, (N₂ p hp).2⟩
      rcases List.mem_cons.mp hp with rfl | hp
      · exact Ne.symm nCD
      · exact (o3 p hp).2.1
    refine wpAny_mono (turn i ys nw tv I _ C oC D _ h₃ _ gs _ hlt hJ hG hoC (by simp) F₃ N₃ hoff ⟨nIC, nID, nCD⟩) (fun ok s₄ h₄ => ?_) fun _ _ e => e
    cases ok with
    | true =>
      simp only [if_true] at h₄ ⊢
      refine wpAny_mono h₄ (fun y s₅ h₅ => ?_) fun _ _ e => e
      refine useG ?_
      intro P9 h9
      obtain ⟨h₅, tk₅, gs₅, nw₅, rfl, G₅, F₅, N₅, off₅, J₅⟩ := h₅
      refine h9 ?_
      clear h9 P9
      have kI := (N₅ _ (.head _)).1
      have kC := (N₅ _ (.tail _ (.head _))).1
      have kD := (N₅ _ (.tail _ (.tail _ (.head _)))).1
      refine append_at (hsz := by show ys.toArray.size ≤ sizeLine; rw [List.size_toArray]; omega) kD fun h₆ sb₆ eD₆ => ?_
      have o5 := off₅.mem
      refine ⟨n - (i + 1), by omega, h₆, tk₅, gs₅, i + 1, ys ++ [y], _, nw₅, rfl, hlt, rfl, by rw [List.length_append, List.length_singleton]; omega, G₅, sb₆.extBut _ _ nID kI, F₅.change sb₆ nDL zD, (hoC.ns kC).sameBut sb₆ nCD, ?_, off₅, J₅⟩
      intro p hp
      rcases List.mem_cons.mp hp with rfl | hp
      · exact ⟨eD₆.trans (congrArg some (lst_snoc ys y)), nDL, zD⟩
      · have z := N₅ p (.tail _ (.tail _ (.tail _ hp)))
        exact ⟨sb₆.extBut _ _ (o5 p hp).2.2 z.1, z.2⟩
    | false =>
      simp only [Bool.false_eq_true, if_false] at h₄ ⊢
      refine useG ?_
      intro P9 h9
      obtain ⟨h₅, tk₅, gs₅, nw₅, rfl, G₅, F₅, N₅, off₅, J₅⟩ := h₄
      refine h9 ?_
      clear h9 P9
      have kI := (N₅ _ (.head _)).1
      have kC := (N₅ _ (.tail _ (.head _))).1
      exact ⟨n - (i + 1), by omega, h₅, tk₅, gs₅, i + 1, ys, _, nw₅, rfl, hlt, rfl, by omega, G₅, kI, F₅, hoC.ns kC, fun p hp => N₅ p (.tail _ (.tail _ hp)), off₅, J₅⟩
  · have e : i = n := by omega
    subst e
    refine W.done _ _ _ hst fun h₂ tk₂ keep₂ => ?_
    refine fin h₂ tk₂ gs m' ys nw hJ hG (fr_but hF keep₂ (Ne.symm nIL) zI) (hNs.at' fun o e => keep₂ C o (by simpa using Ne.symm nIC) e) (news_but hN keep₂ fun p hp => ?_) hoff
    rcases List.mem_cons.mp hp with rfl | hp
    · exact Ne.symm nID
    · exact (o3 p hp).1
theorem ListComp_TG {ct elt iter : PySem.Expr} {x : Str} {px : Pos} {scope : Scope} {cl : List (Str × Addr)} {pos : Pos} {Q : Value → Shared → Prop} (_F₀ : Fr h₀ L s.heap m)
    (hclos : closureFor scope env = pure cl) (hcell : ∀ y ∈ scope.names, y.2 ≠ .cell) (hkind : scope.kind = .function)
    (hnames : ∀ y ∈ scope.names, y.2 = .local → scope.names.lookup y.1 = some .local) (hx : scope.names.lookup x = some .local)
    (h : wpAny (model prog w) A (eval iter env) (SrcG prog w A h₀ L m env ct elt x scope cl Q) E s)
    (hs : ∀ x, foldedSetIterable iter env x = pure x := by intro _; rfl) :
    wpAny (model prog w) A (eval (.ListComp elt [⟨.Name x px, iter, [ct], 0⟩] scope pos) env) Q E s := by
  rw [eval_ListComp]
  refine wpAny_comprehension_free (use := none) rfl hs hclos hkind hnames (wpAny_mono h (fun xv s₁ h₁ => ?_) fun _ _ e => e)
  refine useG ?_
  intro P9 h9
  obtain ⟨r, a, b, t, u, v, n, news, rfl, hh, G, F, N, hr, hsm, hn, hsz, J, J0, turn, done⟩ := h₁
  refine h9 ?_
  clear h9 P9
  refine wpAny_pyIter_range hr hsm ?_
  rw [hn]
  refine wpAny_newObj_type (wpAny_newFunctionEnv hcell (by intro y hy; simp at hy) (fun h₁ hns₁ hsb₁ => ?_) hkind)
  dsimp only at hns₁ hsb₁ ⊢
  obtain ⟨H1, hH1⟩ : ∃ H1, H1 = s₁.heap.push { cls := .type "range_iterator", data := .fields #[rawInt a, rawInt (n : Int), rawInt 1] } := ⟨_, rfl⟩
  obtain ⟨H2, hH2⟩ : ∃ H2, H2 = H1.push { cls := .type "list", data := .seq ([] : List Value).toArray } := ⟨_, rfl⟩
  have key : ∀ s₃ : Shared, s₃ = { s₁ with heap := h₁, toks := s₁.toks + ([] : List (Str × Value)).length } →
      codeAny (model prog w) A (.compLoop (.ListComp elt [⟨.Name x px, iter, [ct], 0⟩] scope pos) 0 (.ref s₁.heap.objs.size) (.ref H1.objs.size) (compEnvC scope cl H2.objs.size env))
        (compPost (model prog w) A E none Q (.ref H1.objs.size) H2.objs.size) s₃ := by
    rintro s₃ rfl
    rw [← hH1, ← hH2] at hns₁ hsb₁
    have up1 : ∀ b o, s₁.heap.get? b = some o → H1.get? b = some o := fun b o e => hH1 ▸ Heap.get?_push_of_some _ e
    have up2 : ∀ b o, H1.get? b = some o → H2.get? b = some o := fun b o e => hH2 ▸ Heap.get?_push_of_some _ e
    have e1 : H1.objs.size = s₁.heap.objs.size + 1 := by rw [hH1]; exact Heap.size_push ..
    have e2 : H2.objs.size = s₁.heap.objs.size + 1 + 1 := by rw [hH2, Heap.size_push, e1]
    have iI : H1.get? s₁.heap.objs.size = some { cls := .type "range_iterator", data := .fields #[rawInt a, rawInt (n : Int), rawInt 1] } := by rw [hH1]; exact Heap.get?_push_size _ rfl
    have iD : H2.get? H1.objs.size = some (lst []) := by rw [hH2]; exact Heap.get?_push_size _ rfl
    have lt : ∀ b o, s₁.heap.get? b = some o → @LT.lt Nat _ b s₁.heap.objs.size := fun b o e => Heap.lt_size e
    have nn : ∀ b : Addr, @LE.le Nat _ s₁.heap.objs.size b → h₀.get? b = none := fun b hb => Heap.get?_none_of_le (Nat.le_trans F.above (Nat.le_trans (Nat.le_of_lt F.ns.lt) hb))
    have lL : @LT.lt Nat _ L s₁.heap.objs.size := F.ns.lt
    have gtD : @LT.lt Nat _ s₁.heap.objs.size H1.objs.size := by rw [e1]; exact Nat.lt_succ_self _
    have gtC : @LT.lt Nat _ H1.objs.size H2.objs.size := by rw [e2, e1]; exact Nat.lt_succ_self _
    have old2 : ∀ b o, H2.get? b = some o → h₁.get? b = some o := fun b o e => hsb₁.extBut b o (Nat.ne_of_lt (Heap.lt_size e)) (Heap.get?_push_of_some _ e)
    have old : ∀ b o, s₁.heap.get? b = some o → h₁.get? b = some o := fun b o e => old2 b o (up2 b o (up1 b o e))
    refine compG_loop (J := J) (s₁ := s₁) (news := news) hh hsz hkind hx (Nat.ne_of_lt (Nat.lt_trans gtD gtC)) (Nat.ne_of_lt gtD) (Nat.ne_of_gt gtC) (Nat.ne_of_gt lL) (Nat.ne_of_gt (Nat.lt_trans lL (Nat.lt_trans gtD gtC))) (Nat.ne_of_gt (Nat.lt_trans lL gtD)) (nn _ (Nat.le_refl _)) (nn _ (Nat.le_of_lt (Nat.lt_trans gtD gtC))) (nn _ (Nat.le_of_lt gtD))
      G (F.keeps old) hns₁ ?it ?N ?off J0 turn ?fin
    case it =>
      show h₁.get? _ = _
      rw [show a + ((0 : Nat) : Int) * 1 = a by simp, show (n : Int) - ((0 : Nat) : Int) = n by simp]
      exact old2 _ _ (up2 _ _ iI)
    case N =>
      intro p hp
      rcases List.mem_cons.mp hp with rfl | hp
      · exact ⟨old2 _ _ iD, Nat.ne_of_gt (Nat.lt_trans lL gtD), nn _ (Nat.le_of_lt gtD)⟩
      · exact ⟨old _ _ (N p hp).1, (N p hp).2⟩
    case off =>
      refine Off3.of fun p hp => ?_
      have l := lt _ _ (N p hp).1
      exact ⟨Nat.ne_of_lt l, Nat.ne_of_lt (Nat.lt_trans l (Nat.lt_trans gtD gtC)), Nat.ne_of_lt (Nat.lt_trans l gtD)⟩
    case fin =>
      intro h tk gs m' ys nw hJ hG hF hNs hN hoff
      have o3 := hoff.mem
      have nCL : H2.objs.size ≠ L := Nat.ne_of_gt (Nat.lt_trans lL (Nat.lt_trans gtD gtC))
      refine ⟨m', hNs, fun h' sb => done _ h' tk gs ys nw hJ hG (hF.change sb nCL (nn _ (Nat.le_of_lt (Nat.lt_trans gtD gtC)))) (fun p hp => ⟨sb.extBut _ _ ?_ (hN p hp).1, (hN p hp).2⟩) hoff.one⟩
      rcases List.mem_cons.mp hp with rfl | hp
      · exact Nat.ne_of_lt gtC
      · exact (o3 p hp).2.1
  have hst : IsRangeIter h₁ s₁.heap.objs.size (a + ((0 : Nat) : Int) * 1) ((n : Int) - ((0 : Nat) : Int)) 1 := by
    rw [← hH1, ← hH2] at hsb₁
    show h₁.get? _ = _
    rw [show a + ((0 : Nat) : Int) * 1 = a by simp, show (n : Int) - ((0 : Nat) : Int) = n by simp]
    have iI : H1.get? s₁.heap.objs.size = some { cls := .type "range_iterator", data := .fields #[rawInt a, rawInt (n : Int), rawInt 1] } := by rw [hH1]; exact Heap.get?_push_size _ rfl
    have e2 : @LT.lt Nat _ s₁.heap.objs.size H2.objs.size := by rw [hH2, Heap.size_push, hH1, Heap.size_push]; exact Nat.lt_succ_of_lt (Nat.lt_succ_self _)
    exact hsb₁.extBut _ _ (Nat.ne_of_lt e2) (Heap.get?_push_of_some _ (hH2 ▸ Heap.get?_push_of_some _ iI))
  subst hH2 hH1
  have W := range_walks (prog := prog) (w := w) (A := A) (I := s₁.heap.objs.size) hh a n
  exact codeAny_compStart_list (key _ rfl) (W.self 0 _ _ _ hst (key _ rfl))
end
end

section
open PySem PySem.W PyProof.Rows PyProof.Rows.LCg PySem.Calls PySem.Spec

/-- the end of a loop's turn whose calls may have made generators -/
inductive EndF (h₀ : Heap) (L : Addr) (s₁ : Shared) (I : Addr) (it : Obj) (rest : (Str → Option Value) → List (Addr × Obj) → Prop) (s₂ : Shared) : Prop
  | mk (h' : _) (tk : _) (gs : _) (m' : _) (news' : _) (h1 : s₂ = { s₁ with heap := h', toks := tk, gens := gs }) (h2 : AllBare gs) (h3 : Fr h₀ L h' m') (h4 : News h₀ L h' ((I, it) :: news')) (h5 : (∀ p ∈ news', p.1 ≠ I)) (h6 : rest m' news') : EndF h₀ L s₁ I it rest s₂
def PostF (h₀ : Heap) (L : Addr) (s₁ : Shared) (I : Addr) (it : Obj) (rest : (Str → Option Value) → List (Addr × Obj) → Prop) (Q : Flow → Shared → Prop) (f : Flow) (s₂ : Shared) : Prop :=
  match f with
  | .ret v => Q (.ret v) s₂
  | .brk => Q .next s₂
  | _ => EndF h₀ L s₁ I it rest s₂
section
variable {prog : Program} {w : World} {A : Around} {E : Value → Shared → Prop} {s : Shared} {h₀ : Heap} {env : Env} {x : Str} {body : List Stmt} {Q : Flow → Shared → Prop}
/-- a loop over a range, by an invariant; generators may be made -/
inductive LoopG (prog : Program) (w : World) (A : Around) (h₀ : Heap) (env : Env) (x : Str) (body : List Stmt) (Q : Flow → Shared → Prop) (E : Value → Shared → Prop) (xv : Value) (s₁ : Shared) : Prop
  | mk (r : _) (a : _) (b : _) (t : _) (u : _) (v : _) (n : _) (m : _) (news : _) (h1 : xv = .ref r) (h2 : A.handled = none) (h3 : AllBare s₁.gens) (h4 : Fr h₀ env.locals s₁.heap m) (h5 : News h₀ env.locals s₁.heap news) (h6 : IsRange s₁.heap r a b 1 t u v) (h7 : Builtin.Range.small a b 1 = true) (h8 : Builtin.Range.rangeSize a b 1 = ((n : Nat) : Int)) (J : Nat → (Str → Option Value) → List (Addr × Obj) → Prop) (h9 : J 0 m news) (h10 : (∀ i m news t I it h tk gs, i < n → J i m news → AllBare gs → Fr h₀ env.locals h (fun y => if y = x then some (.int (a + (i : Int)) t) else m y) → News h₀ env.locals h ((I, it) :: news) → (∀ p ∈ news, p.1 ≠ I) → wpAny (model prog w) A (execs body env) (PostF h₀ env.locals s₁ I it (J (i + 1)) Q) E { s₁ with heap := h, toks := tk, gens := gs })) (h11 : ∀ h tk gs m news, J n m news → AllBare gs → Fr h₀ env.locals h m → News h₀ env.locals h news → Q .next { s₁ with heap := h, toks := tk, gens := gs }) : LoopG prog w A h₀ env x body Q E xv s₁
theorem For_G {px pos : Pos} {iter : PySem.Expr} {m : Str → Option Value} (_F₀ : Fr h₀ env.locals s.heap m) (hx : env.kindOf x = some .local)
    (hp : (env.scope.kind == .class || (env.scope.kind == .module && env.locals != env.globals)) = false)
    (h : wpAny (model prog w) A (eval iter env) (LoopG prog w A h₀ env x body Q E) E s)
    (hs : ∀ x, foldedSetIterable iter env x = pure x := by intro _; rfl)
    (hE : PassesOwn (model prog w) A env E := by passes_own) :
    wpAny (model prog w) A (exec (.For (.Name x px) iter body [] pos) env) Q E s := by
  refine wpAny_For (wpAny_mono h (fun xv s₁ h₁ => ?_) fun _ _ e => e) hs
  refine useG ?_
  intro P9 h9
  obtain ⟨r, a, b, t, u, v, n, m, news, rfl, hh, G, F, N, hr, hsm, hn, J, J0, turn, done⟩ := h₁
  refine h9 ?_
  clear h9 P9
  refine wpAny_pyIter_range hr hsm ?_
  have it0 : (s₁.heap.push ({ cls := .type "range_iterator", data := .fields #[rawInt a, rawInt (Builtin.Range.rangeSize a b 1), rawInt 1] } : Obj)).get? s₁.heap.objs.size = some ({ cls := .type "range_iterator", data := .fields #[rawInt a, rawInt (Builtin.Range.rangeSize a b 1), rawInt 1] } : Obj) := Heap.get?_push_size _ rfl
  have up : ∀ b' o, s₁.heap.get? b' = some o → (s₁.heap.push { cls := .type "range_iterator", data := .fields #[rawInt a, rawInt (Builtin.Range.rangeSize a b 1), rawInt 1] }).get? b' = some o := fun b o e => Heap.get?_push_of_some _ e
  rw [hn] at it0 up ⊢
  generalize s₁.heap.push { cls := .type "range_iterator", data := .fields #[rawInt a, rawInt ((n : Nat) : Int), rawInt 1] } = H1 at it0 up ⊢
  have zI : h₀.get? s₁.heap.objs.size = none := Heap.get?_none_of_le (Nat.le_trans F.above (Nat.le_of_lt F.ns.lt))
  have nIL : s₁.heap.objs.size ≠ env.locals := Nat.ne_of_gt F.ns.lt
  have nIn : ∀ p ∈ news, p.1 ≠ s₁.heap.objs.size := fun p hp => Nat.ne_of_lt (Heap.lt_size (N p hp).1)
  generalize s₁.heap.objs.size = I at it0 zI nIL nIn ⊢
  have W := range_walks (prog := prog) (w := w) (A := A) (I := I) hh a n
  refine codeAny_forLoop_any
    (fun k s' => ∃ h tk gs i m' news', s' = { s₁ with heap := h, toks := tk, gens := gs } ∧ i ≤ n ∧ k = n - i ∧ AllBare gs ∧ IsRangeIter h I (a + ((i : Nat) : Int) * 1) ((n : Int) - ((i : Nat) : Int)) 1 ∧ Fr h₀ env.locals h m' ∧ News h₀ env.locals h news' ∧ (∀ p ∈ news', p.1 ≠ I) ∧ J i m' news') ?_ n
    ⟨H1, s₁.toks, s₁.gens, 0, m, news, rfl, Nat.zero_le _, rfl, G, ?_, F.keeps up, fun p hp => ⟨up _ _ (N p hp).1, (N p hp).2⟩, nIn, J0⟩
  · intro k s' hz2
    refine useG ?_
    intro P9 h9
    obtain ⟨h, tk, gs, i, m', nw, rfl, hi, rfl, hG, hst, hF, hN, hoff, hJ⟩ := hz2
    refine h9 ?_
    clear h9 P9
    by_cases hlt : i < n
    · refine W.item i _ _ _ hlt hst fun v h₂ tk₂ hv hst₂ keep₂ => ?_
      obtain ⟨tv, rfl⟩ := hv
      have F₂ : Fr h₀ env.locals h₂ m' := fr_but hF keep₂ (Ne.symm nIL) zI
      have N₂ : News h₀ env.locals h₂ nw := news_but hN keep₂ hoff
      refine wpAny_of_eq (by rfl) ?_
      refine wpAny_assign_Name (wpAny_storeName_local hx F₂.ns (fun h₃ Ns₃ sb₃ => ?_) hp)
      have F₃ := F₂.set Ns₃ sb₃
      have eI : h₃.get? I = some { cls := .type "range_iterator", data := .fields #[rawInt (a + ((i + 1 : Nat) : Int) * 1), rawInt ((n : Int) - ((i + 1 : Nat) : Int)), rawInt 1] } := sb₃.extBut _ _ nIL hst₂
      have N₃ : News h₀ env.locals h₃ ((I, { cls := .type "range_iterator", data := .fields #[rawInt (a + ((i + 1 : Nat) : Int) * 1), rawInt ((n : Int) - ((i + 1 : Nat) : Int)), rawInt 1] }) :: nw) := by
        intro p hp
        rcases List.mem_cons.mp hp with rfl | hp
        · exact ⟨eI, nIL, zI⟩
        · exact N₂.set sb₃ p hp
      refine wpAny_mono (wpAny_passesOwn hE (turn i m' nw tv I _ h₃ _ gs hlt hJ hG F₃ N₃ hoff)) (fun f s₃ h₃ => ?_) fun _ _ e => e
      have go : EndF h₀ env.locals s₁ I { cls := .type "range_iterator", data := .fields #[rawInt (a + ((i + 1 : Nat) : Int) * 1), rawInt ((n : Int) - ((i + 1 : Nat) : Int)), rawInt 1] } (J (i + 1)) s₃ →
          ∃ m, m < n - i ∧ ∃ h tk gs i m' news', s₃ = { s₁ with heap := h, toks := tk, gens := gs } ∧ i ≤ n ∧ m = n - i ∧ AllBare gs ∧ IsRangeIter h I (a + ((i : Nat) : Int) * 1) ((n : Int) - ((i : Nat) : Int)) 1 ∧ Fr h₀ env.locals h m' ∧ News h₀ env.locals h news' ∧ (∀ p ∈ news', p.1 ≠ I) ∧ J i m' news' := by
        intro hz0
        obtain ⟨h₅, tk₅, gs₅, m₅, nw₅, rfl, G₅, F₅, N₅, off₅, J₅⟩ := hz0
        exact ⟨n - (i + 1), by omega, h₅, tk₅, gs₅, i + 1, m₅, nw₅, rfl, hlt, rfl, G₅, (N₅ _ (.head _)).1, F₅, fun p hp => N₅ p (.tail _ hp), off₅, J₅⟩
      cases f with
      | ret v => exact h₃
      | brk => exact h₃
      | next => exact go h₃
      | cont => exact go h₃
    · have e : i = n := by omega
      subst e
      refine W.done _ _ _ hst fun h₂ tk₂ keep₂ => wpAny_execs_nil ?_
      exact done h₂ tk₂ gs m' nw hJ hG (fr_but hF keep₂ (Ne.symm nIL) zI) (news_but hN keep₂ hoff)
  · show H1.get? _ = _
    rw [show a + ((0 : Nat) : Int) * 1 = a by simp, show (n : Int) - ((0 : Nat) : Int) = n by simp]
    exact it0
end
end

section
open PySem PySem.W PyProof.Rows PyProof.Rows.LCg PySem.Calls PySem.Spec

/-- the end of a turn of a comprehension whose name is a cell -/
inductive EndC (h₀ : Heap) (L : Addr) (m : Str → Option Value) (s₁ : Shared) (I : Addr) (oI : Obj) (C : Addr) (oC : Obj) (V : Addr) (oV : Obj) (D : Addr) (oD : Obj) (rest : Value → List (Addr × Obj) → Prop) (y : Value) (s₂ : Shared) : Prop
  | mk (h' : _) (tk : _) (news' : _) (h1 : s₂ = { s₁ with heap := h', toks := tk }) (h2 : Fr h₀ L h' m) (h3 : News h₀ L h' ((I, oI) :: (C, oC) :: (V, oV) :: (D, oD) :: news')) (h4 : (∀ p ∈ news', p.1 ≠ I ∧ p.1 ≠ C ∧ p.1 ≠ V ∧ p.1 ≠ D)) (h5 : rest y news') : EndC h₀ L m s₁ I oI C oC V oV D oD rest y s₂
section
variable {prog : Program} {w : World} {A : Around} {E : Value → Shared → Prop} {s : Shared} {h₀ : Heap} {L : Addr} {m : Str → Option Value} {env : Env}
inductive SrcC (prog : Program) (w : World) (A : Around) (h₀ : Heap) (L : Addr) (m : Str → Option Value) (env : Env) (elt : PySem.Expr) (x y : Str) (scope : Scope) (Q : Flow → Shared → Prop) (xv : Value) (s₁ : Shared) : Prop
  | mk (ax : _) (its : _) (k : _) (news : _) (h1 : xv = .ref ax) (h2 : A.handled = none) (h3 : Fr h₀ L s₁.heap m) (h4 : News h₀ L s₁.heap news) (h5 : its.size ≤ sizeLine) (h6 : (ax, ({ cls := .type "list", data := .seq its k } : Obj)) ∈ news) (J : Nat → List Value → List (Addr × Obj) → Prop) (h7 : J 0 [] news) (h8 : (∀ i ys nw, J i ys nw → (ax, ({ cls := .type "list", data := .seq its k } : Obj)) ∈ nw)) (h9 : (∀ i ys news v I oI C oC V oV D h tk (E' : Value → Shared → Prop), its[i]? = some v → J i ys news → oV.data = .cell (some v) → Fr h₀ L h m → News h₀ L h ((I, oI) :: (C, oC) :: (V, oV) :: (D, lst ys) :: news) → (∀ p ∈ news, p.1 ≠ I ∧ p.1 ≠ C ∧ p.1 ≠ V ∧ p.1 ≠ D) → wpAny (model prog w) A (eval elt (compEnvC scope [(x, V)] C env)) (EndC h₀ L m s₁ I oI C oC V oV D (lst ys) (fun y nw => J (i + 1) (ys ++ [y]) nw)) E' { s₁ with heap := h, toks := tk })) (h10 : ∀ D h tk ys news, J its.size ys news → Fr h₀ L h (fun z => if z = y then some (.ref D) else m z) → News h₀ L h ((D, lst ys) :: news) → Off1 D news → Q .next { s₁ with heap := h, toks := tk }) : SrcC prog w A h₀ L m env elt x y scope Q xv s₁
theorem compC_loop {elt iter : PySem.Expr} {x : Str} {px : Pos} {scope : Scope} {pos : Pos} {R : Result → Shared → Prop} {s₁ : Shared} {ax I C V D : Addr} {its : Array Value} {k : Nat} {h₁ : Heap} {tk₁ : Nat} {m₁ : Str → Option Value} {oV : Obj} {news : List (Addr × Obj)}
    {J : Nat → List Value → List (Addr × Obj) → Prop} (hh : A.handled = none) (hsz : its.size ≤ sizeLine) (hkind : scope.kind = .function) (hx : (relabel scope env).names.lookup x = some .cell)
    (nIC : I ≠ C) (nIV : I ≠ V) (nID : I ≠ D) (nCV : C ≠ V) (nCD : C ≠ D) (nVD : V ≠ D) (nIL : I ≠ L) (nCL : C ≠ L) (nVL : V ≠ L) (nDL : D ≠ L) (zI : h₀.get? I = none) (zC : h₀.get? C = none) (zV : h₀.get? V = none) (zD : h₀.get? D = none)
    (hJ : ∀ i ys nw, J i ys nw → (ax, ({ cls := .type "list", data := .seq its k } : Obj)) ∈ nw)
    (F : Fr h₀ L h₁ m) (hns : h₁.Ns C m₁) (hit : h₁.IsListIter I ax 0) (hV : oV.data = .cell none) (N : News h₀ L h₁ ((V, oV) :: (D, lst []) :: news)) (off : ∀ p ∈ news, p.1 ≠ I ∧ p.1 ≠ C ∧ p.1 ≠ V ∧ p.1 ≠ D) (J0 : J 0 [] news)
    (turn : ∀ i ys news v I oI C oC V oV D h tk (E' : Value → Shared → Prop), its[i]? = some v → J i ys news → oV.data = .cell (some v) → Fr h₀ L h m → News h₀ L h ((I, oI) :: (C, oC) :: (V, oV) :: (D, lst ys) :: news) → (∀ p ∈ news, p.1 ≠ I ∧ p.1 ≠ C ∧ p.1 ≠ V ∧ p.1 ≠ D) →
        wpAny (model prog w) A (eval elt (compEnvC scope [(x, V)] C env)) (EndC h₀ L m s₁ I oI C oC V oV D (lst ys) (fun y nw => J (i + 1) (ys ++ [y]) nw)) E' { s₁ with heap := h, toks := tk })
    (fin : ∀ h tk m' ys news', J its.size ys news' → Fr h₀ L h m → h.Ns C m' → News h₀ L h ((D, lst ys) :: news') → (∀ p ∈ news', p.1 ≠ I ∧ p.1 ≠ C ∧ p.1 ≠ V ∧ p.1 ≠ D) → R (.ok .next) { s₁ with heap := h, toks := tk }) :
    codeAny (model prog w) A (.compLoop (.ListComp elt [⟨.Name x px, iter, [], 0⟩] scope pos) 0 (.ref I) (.ref D) (compEnvC scope [(x, V)] C env)) R { s₁ with heap := h₁, toks := tk₁ } := by
  have W := Walks.list (prog := prog) (w := w) (A := A) hh I ax (fun e => (off _ (hJ _ _ _ J0)).1 e) its
  refine codeAny_compLoop_tests
    (fun k' s' => ∃ h tk i ys m' v₀ oV news', s' = { s₁ with heap := h, toks := tk } ∧ i ≤ its.size ∧ k' = its.size - i ∧ ys.length ≤ i ∧ h.IsListIter I ax i ∧ Fr h₀ L h m ∧ h.Ns C m' ∧ oV.data = .cell v₀ ∧
      News h₀ L h ((V, oV) :: (D, lst ys) :: news') ∧ (∀ p ∈ news', p.1 ≠ I ∧ p.1 ≠ C ∧ p.1 ≠ V ∧ p.1 ≠ D) ∧ J i ys news') ?_ its.size ⟨h₁, tk₁, 0, [], m₁, none, oV, news, rfl, Nat.zero_le _, rfl, Nat.le_refl _, hit, F, hns, hV, N, off, J0⟩
  intro k' s' hz2
  refine useG ?_
  intro P9 h9
  obtain ⟨h, tk, i, ys, m', v₀, oV, nw, rfl, hi, rfl, hyl, hst, hF, hNs, hV, hN, hoff, hJi⟩ := hz2
  refine h9 ?_
  clear h9 P9
  have hla : h.IsList ax its := ⟨_, (hN _ (.tail _ (.tail _ (hJ _ _ _ hJi)))).1, rfl, _, rfl⟩
  by_cases hlt : i < its.size
  · refine W.item i _ _ _ hlt ⟨hst, hla⟩ fun v h₂ tk₂ hv hst₂ keep₂ => ?_
    have F₂ : Fr h₀ L h₂ m := fr_but hF keep₂ (Ne.symm nIL) zI
    have N₂ : News h₀ L h₂ ((V, oV) :: (D, lst ys) :: nw) := news_but hN keep₂ fun p hp => by
      rcases List.mem_cons.mp hp with rfl | hp
      · exact Ne.symm nIV
      rcases List.mem_cons.mp hp with rfl | hp
      · exact Ne.symm nID
      · exact (hoff p hp).1
    have Ns₂ : h₂.Ns C m' := hNs.at' fun o e => keep₂ C o (by simpa using Ne.symm nIC) e
    refine wpAny_assign_Name (wpAny_storeName_cell (c := V) (by exact hkind) hx (by simp [compEnvC]) ⟨oV, (N₂ _ (.head _)).1, hV⟩ (fun h₃ hc₃ sb₃ => ?_))
    refine wpAny_tests_nil ?_
    simp only [if_true]
    refine useG ?_
    intro P9 h9
    obtain ⟨oV₃, eV₃, hV₃⟩ := hc₃
    have Ns₃ : h₃.Ns C m' := Ns₂.sameBut sb₃ nCV
    obtain ⟨oC, eC, hoC⟩ := ns_obj Ns₃
    obtain ⟨oI, eI₀, hI1, hI2⟩ := hst₂.1
    refine h9 ?_
    clear h9 P9
    have eI : h₃.get? I = some oI := sb₃.extBut _ _ nIV eI₀
    have F₃ : Fr h₀ L h₃ m := F₂.change sb₃ nVL zV
    have N₃ : News h₀ L h₃ ((I, oI) :: (C, oC) :: (V, oV₃) :: (D, lst ys) :: nw) := by
      intro p hp
      rcases List.mem_cons.mp hp with rfl | hp
      · exact ⟨eI, nIL, zI⟩
      rcases List.mem_cons.mp hp with rfl | hp
      · exact ⟨eC, nCL, zC⟩
      rcases List.mem_cons.mp hp with rfl | hp
      · exact ⟨eV₃, nVL, zV⟩
      refine ⟨sb₃.extBut _ _ ?_ (N₂ p (.tail _ hp)).1, (N₂ p (.tail _ hp)).2⟩
      rcases List.mem_cons.mp hp with rfl | hp
      · exact Ne.symm nVD
      · exact (hoff p hp).2.2.1
    refine wpAny_mono (turn i ys nw v I _ C oC V _ D h₃ _ _ hv hJi hV₃ F₃ N₃ hoff) (fun y s₅ h₅ => ?_) fun _ _ e => e
    refine useG ?_
    intro P9 h9
    obtain ⟨h₅, tk₅, nw₅, rfl, F₅, N₅, off₅, J₅⟩ := h₅
    refine h9 ?_
    clear h9 P9
    have kI := (N₅ _ (.head _)).1
    have kC := (N₅ _ (.tail _ (.head _))).1
    have kV := N₅ _ (.tail _ (.tail _ (.head _)))
    have kD := (N₅ _ (.tail _ (.tail _ (.tail _ (.head _))))).1
    refine append_at (hsz := by show ys.toArray.size ≤ sizeLine; rw [List.size_toArray]; omega) kD fun h₆ sb₆ eD₆ => ?_
    refine ⟨its.size - (i + 1), by omega, h₆, tk₅, i + 1, ys ++ [y], _, _, oV₃, nw₅, rfl, hlt, rfl, by rw [List.length_append, List.length_singleton]; omega, ⟨oI, sb₆.extBut _ _ nID kI, hI1, hI2⟩, F₅.change sb₆ nDL zD, (hoC.ns kC).sameBut sb₆ nCD, hV₃, ?_, off₅, J₅⟩
    intro p hp
    rcases List.mem_cons.mp hp with rfl | hp
    · exact ⟨sb₆.extBut _ _ nVD kV.1, kV.2⟩
    rcases List.mem_cons.mp hp with rfl | hp
    · exact ⟨eD₆.trans (congrArg some (lst_snoc ys y)), nDL, zD⟩
    · have z := N₅ p (.tail _ (.tail _ (.tail _ (.tail _ hp))))
      exact ⟨sb₆.extBut _ _ (off₅ p hp).2.2.2 z.1, z.2⟩
  · have e : i = its.size := by omega
    subst e
    refine W.done _ _ _ ⟨hst, hla⟩ fun h₂ tk₂ keep₂ => ?_
    refine fin h₂ tk₂ m' ys nw hJi (fr_but hF keep₂ (Ne.symm nIL) zI) (hNs.at' fun o e => keep₂ C o (by simpa using Ne.symm nIC) e) (news_but (fun p hp => hN p (.tail _ hp)) keep₂ fun p hp => ?_) hoff
    rcases List.mem_cons.mp hp with rfl | hp
    · exact Ne.symm nID
    · exact (hoff p hp).1
theorem newEnv_cell {scope : Scope} {x : Str} {globals : Addr} {qual : Str} {outer : Env} {Q : Env → Shared → Prop}
    (hpush : ∀ h, pushCells h scope.names = h.push { cls := .type "cell", data := .cell none }) (hcells : ∀ n acc, cellsFrom n scope.names acc = (x, n) :: acc)
    (hQ : Q { scope := scope, locals := s.heap.objs.size, globals := globals, cells := [(x, s.heap.objs.size + 1)], qual := qual, func := none, code := outer.code, frame := outer.frame, builtins := outer.builtins }
      { s with heap := (s.heap.push { cls := .type "dict", data := .dict #[] }).push { cls := .type "cell", data := .cell none } }) :
    wpAny (model prog w) A (newFunctionEnv scope globals [] [] qual none .none (some outer)) Q E s := by
  simp only [newFunctionEnv, Option.isSome_some, if_true]
  refine wpAny_bind (wpAny_alloc ?_)
  refine wpAny_bind (wpAny_layCells _ (fun name kind cells => by cases hkc : kind == NameKind.cell <;> simp [hkc]) _ _ _ _ ?_)
  rw [hcells, hpush]
  rw [show ({ s with heap := s.heap.push { cls := .type "dict", data := .dict #[] } } : Shared).heap.objs.size = s.heap.objs.size + 1 from Heap.size_push ..]
  refine wpAny_bind ?_
  rw [List.forIn_nil]
  exact wpAny_pure (wpAny_pure hQ)
theorem Assign_ListComp_C {elt iter : PySem.Expr} {x y : Str} {px py : Pos} {scope : Scope} {pos spos : Pos} {Q : Flow → Shared → Prop} (_F₀ : Fr h₀ L s.heap m) (hLe : env.locals = L)
    (hsw : swapsWith (.ListComp elt [⟨.Name x px, iter, [], 0⟩] scope pos) (some (.Name y py)) spos.line env = pure true)
    (hclos : closureFor scope env = pure []) (hpush : ∀ h, pushCells h scope.names = h.push { cls := .type "cell", data := .cell none }) (hcells : ∀ n acc, cellsFrom n scope.names acc = (x, n) :: acc) (hkind : scope.kind = .function)
    (hnames : ∀ z ∈ scope.names, z.2 = .local → scope.names.lookup z.1 = some .local) (hx : (relabel scope env).names.lookup x = some .cell)
    (hy : env.kindOf y = some .local) (hp : (env.scope.kind == .class || (env.scope.kind == .module && env.locals != env.globals)) = false)
    (h : wpAny (model prog w) A (eval iter env) (SrcC prog w A h₀ L m env elt x y scope Q) E s)
    (hs : ∀ x, foldedSetIterable iter env x = pure x := by intro _; rfl) :
    wpAny (model prog w) A (exec (.Assign [.Name y py] (.ListComp elt [⟨.Name x px, iter, [], 0⟩] scope pos) spos) env) Q E s := by
  subst hLe
  rw [exec_Assign_Name_used _ _ _ _ hsw]
  refine wpAny_bind (wpAny_standAt (wpAny_bind ?_))
  show wpAny _ A (do let _ ← comprehension (.ListComp elt [⟨.Name x px, iter, [], 0⟩] scope pos) scope env _ (newList []) false (eval iter env) (some (assign (.Name y py) env))) _ _ s
  refine wpAny_bind (wpAny_mono (wpAny_comprehension_free (use := some (assign (.Name y py) env)) (Q := fun _ s' => Q .next s') rfl hs hclos hkind hnames
    (wpAny_mono h (fun xv s₁ h₁ => ?_) fun _ _ e => e)) (fun _ s' hq => wpAny_pure (wpAny_pure hq)) fun _ _ e => e)
  refine useG ?_
  intro P9 h9
  obtain ⟨ax, its, k, news, rfl, hh, F, N, hsz, hax, J, J0, hJ, turn, done⟩ := h₁
  refine h9 ?_
  clear h9 P9
  have hla : s₁.heap.IsList ax its := ⟨_, (N _ hax).1, rfl, _, rfl⟩
  have hlt : ax < s₁.heap.objs.size := Heap.lt_size (N _ hax).1
  refine wpAny_pyIter_list hla ?_
  refine wpAny_newObj_type (newEnv_cell hpush hcells ?_)
  dsimp only
  refine useG ?_
  intro P9 h9
  obtain ⟨H1, hH1⟩ : ∃ H1, H1 = s₁.heap.push { cls := .type "list_iterator", data := .fields #[.ref ax, .int 0 0] } := ⟨_, rfl⟩
  obtain ⟨H2, hH2⟩ : ∃ H2, H2 = H1.push { cls := .type "list", data := .seq ([] : List Value).toArray } := ⟨_, rfl⟩
  obtain ⟨H3, hH3⟩ : ∃ H3, H3 = H2.push { cls := .type "dict", data := .dict #[] } := ⟨_, rfl⟩
  obtain ⟨H4, hH4⟩ : ∃ H4, H4 = H3.push { cls := .type "cell", data := .cell none } := ⟨_, rfl⟩
  refine h9 ?_
  clear h9 P9
  have e1 : H1.objs.size = s₁.heap.objs.size + 1 := by rw [hH1]; exact Heap.size_push ..
  have e2 : H2.objs.size = H1.objs.size + 1 := by rw [hH2]; exact Heap.size_push ..
  have e3 : H3.objs.size = H2.objs.size + 1 := by rw [hH3]; exact Heap.size_push ..
  have up1 : ∀ b o, s₁.heap.get? b = some o → H1.get? b = some o := fun b o e => hH1 ▸ Heap.get?_push_of_some _ e
  have up2 : ∀ b o, H1.get? b = some o → H2.get? b = some o := fun b o e => hH2 ▸ Heap.get?_push_of_some _ e
  have up3 : ∀ b o, H2.get? b = some o → H3.get? b = some o := fun b o e => hH3 ▸ Heap.get?_push_of_some _ e
  have up4 : ∀ b o, H3.get? b = some o → H4.get? b = some o := fun b o e => hH4 ▸ Heap.get?_push_of_some _ e
  have old : ∀ b o, s₁.heap.get? b = some o → H4.get? b = some o := fun b o e => up4 b o (up3 b o (up2 b o (up1 b o e)))
  have iI : H4.get? s₁.heap.objs.size = some { cls := .type "list_iterator", data := .fields #[.ref ax, .int 0 0] } := up4 _ _ (up3 _ _ (up2 _ _ (by rw [hH1]; exact Heap.get?_push_size _ rfl)))
  have iD : H4.get? H1.objs.size = some (lst []) := up4 _ _ (up3 _ _ (by rw [hH2]; exact Heap.get?_push_size _ rfl))
  have iV : H4.get? H3.objs.size = some { cls := .type "cell", data := .cell none } := by rw [hH4]; exact Heap.get?_push_size _ rfl
  have nC : H4.Ns H2.objs.size (fun _ => none) := by
    have : H3.Ns H2.objs.size (fun _ => none) := by rw [hH3]; exact Heap.Ns.new H2 (.type "dict")
    exact this.at' fun o e => up4 _ _ e
  have nn : ∀ b : Addr, @LE.le Nat _ s₁.heap.objs.size b → h₀.get? b = none := fun b hb => Heap.get?_none_of_le (Nat.le_trans F.above (Nat.le_trans (Nat.le_of_lt F.ns.lt) hb))
  have lL : @LT.lt Nat _ env.locals s₁.heap.objs.size := F.ns.lt
  have g1 : @LT.lt Nat _ s₁.heap.objs.size H1.objs.size := by rw [e1]; exact Nat.lt_succ_self _
  have g2 : @LT.lt Nat _ H1.objs.size H2.objs.size := by rw [e2]; exact Nat.lt_succ_self _
  have g3 : @LT.lt Nat _ H2.objs.size H3.objs.size := by rw [e3]; exact Nat.lt_succ_self _
  have key : ∀ s₃ : Shared, (∃ tk, s₃ = { s₁ with heap := H4, toks := tk }) →
      codeAny (model prog w) A (.compLoop (.ListComp elt [⟨.Name x px, iter, [], 0⟩] scope pos) 0 (.ref s₁.heap.objs.size) (.ref H1.objs.size) (compEnvC scope [(x, H3.objs.size)] H2.objs.size env))
        (compPost (model prog w) A E (some (assign (.Name y py) env)) (fun _ s' => Q .next s') (.ref H1.objs.size) H2.objs.size) s₃ := by
    rintro s₃ ⟨tk₃, rfl⟩
    have l02 := Nat.lt_trans g1 g2
    have l03 := Nat.lt_trans l02 g3
    refine compC_loop (J := J) (ax := ax) (k := k) (oV := { cls := .type "cell", data := .cell none }) (news := news) hh hsz hkind hx (Nat.ne_of_lt l02) (Nat.ne_of_lt l03) (Nat.ne_of_lt g1) (Nat.ne_of_lt g3) (Nat.ne_of_gt g2) (Nat.ne_of_gt (Nat.lt_trans g2 g3))
      (Nat.ne_of_gt lL) (Nat.ne_of_gt (Nat.lt_trans lL l02)) (Nat.ne_of_gt (Nat.lt_trans lL l03)) (Nat.ne_of_gt (Nat.lt_trans lL g1)) (nn _ (Nat.le_refl _)) (nn _ (Nat.le_of_lt l02)) (nn _ (Nat.le_of_lt l03)) (nn _ (Nat.le_of_lt g1)) hJ
      (F.keeps old) nC ⟨_, iI, rfl, rfl⟩ rfl ?N ?off J0 turn ?fin
    case N =>
      intro p hp
      rcases List.mem_cons.mp hp with rfl | hp
      · exact ⟨iV, Nat.ne_of_gt (Nat.lt_trans lL l03), nn _ (Nat.le_of_lt l03)⟩
      rcases List.mem_cons.mp hp with rfl | hp
      · exact ⟨iD, Nat.ne_of_gt (Nat.lt_trans lL g1), nn _ (Nat.le_of_lt g1)⟩
      · exact ⟨old _ _ (N p hp).1, (N p hp).2⟩
    case off =>
      intro p hp
      have l : @LT.lt Nat _ p.1 s₁.heap.objs.size := Heap.lt_size (N p hp).1
      exact ⟨Nat.ne_of_lt l, Nat.ne_of_lt (Nat.lt_trans l l02), Nat.ne_of_lt (Nat.lt_trans l l03), Nat.ne_of_lt (Nat.lt_trans l g1)⟩
    case fin =>
      intro h tk m' ys nw hJn hF hNs hN hoff
      have nCL : H2.objs.size ≠ env.locals := Nat.ne_of_gt (Nat.lt_trans lL l02)
      have zL : h₀.get? env.locals = none := Heap.get?_none_of_le hF.above
      show wpAny _ A (assign (.Name y py) env (.ref H1.objs.size)) _ _ _
      refine wpAny_assign_Name (wpAny_storeName_local hy hF.ns (fun h₅ hn₅ sb₅ => ?_) hp)
      have F₅ := hF.set hn₅ sb₅
      have N₅ := hN.set sb₅
      refine ⟨m', hNs.sameBut sb₅ nCL, fun h' sb => done _ h' _ ys nw hJn (F₅.change sb nCL (nn _ (Nat.le_of_lt l02))) (fun p hp => ⟨sb.extBut _ _ ?_ (N₅ p hp).1, (N₅ p hp).2⟩) ?_⟩
      · rcases List.mem_cons.mp hp with rfl | hp
        · exact Nat.ne_of_lt g2
        · exact (hoff p hp).2.1
      · clear hN N₅ hJn
        induction nw with
        | nil => trivial
        | cons a r ih => exact ⟨(hoff a (.head _)).2.2.2, ih fun p hp => hoff p (.tail _ hp)⟩
  subst hH4 hH3 hH2 hH1
  rw [e3] at key
  exact codeAny_compStart_list (key _ ⟨_, rfl⟩) (wpAny_pyIter_listiter ⟨_, iI, rfl, rfl⟩ (key _ ⟨_, rfl⟩))
end
end

section
open PySem PySem.W PyProof.Rows PyProof.Rows.LCg PySem.Calls

theorem News.drop_mid3 {g h : Heap} {L : Addr} {x a b c : Addr × Obj} {r : List (Addr × Obj)} (N : News g L h (x :: a :: b :: c :: r)) : News g L h (x :: r) := fun p hp => N p (by
  rcases List.mem_cons.mp hp with rfl | hp
  · exact List.mem_cons_self
  · exact List.mem_cons_of_mem _ (List.mem_cons_of_mem _ (List.mem_cons_of_mem _ (List.mem_cons_of_mem _ hp))))
theorem seven {l : List Int} (h : l.length = 7) : ∃ a b c d e f g, l = [a, b, c, d, e, f, g] := by
  match l, h with
  | [a, b, c, d, e, f, g], _ => exact ⟨_, _, _, _, _, _, _, rfl⟩

/-- a row of gains out of a number -/
def rowG (v : Int) : List Int := [(v.fdiv 1).fmod 5 - 2, (v.fdiv 5).fmod 5 - 2, (v.fdiv 25).fmod 5 - 2, (v.fdiv 125).fmod 5 - 2]
abbrev refs (rs : List (Addr × List Value)) : List Value := rs.map fun r => .ref r.1
abbrev rowsL (rs : List (Addr × List Value)) : List (Addr × Obj) := rs.reverse.map fun r => (r.1, lst r.2)
def RowsJ (src : List Int) (Λ : List (Addr × Obj)) (i : Nat) (ys : List Value) (nw : List (Addr × Obj)) : Prop :=
  ∃ rs : List (Addr × List Value), ys = refs rs ∧ nw = rowsL rs ++ Λ ∧ rs.length = i ∧ ∀ (j : Nat) (r : Addr × List Value), rs[j]? = some r → ∃ v, src[j]? = some v ∧ IntsAre r.2 (rowG v)
theorem RowsJ.snoc {src : List Int} {Λ : List (Addr × Obj)} {i : Nat} {rs : List (Addr × List Value)} {x : Int} {R : Addr} {zs : List Value} (hl : rs.length = i) (h : ∀ (j : Nat) (r : Addr × List Value), rs[j]? = some r → ∃ v, src[j]? = some v ∧ IntsAre r.2 (rowG v))
    (hx : src[i]? = some x) (hz : IntsAre zs (rowG x)) : RowsJ src Λ (i + 1) (refs rs ++ [.ref R]) ((R, lst zs) :: (rowsL rs ++ Λ)) := by
  refine ⟨rs ++ [(R, zs)], by simp [refs], by simp [rowsL], by simp [hl], fun j r hj => ?_⟩
  rcases Nat.lt_or_ge j rs.length with hlt | hge
  · rw [List.getElem?_append_left hlt] at hj; exact h j r hj
  · rw [List.getElem?_append_right hge] at hj
    have e : j = i := by
      have := (List.getElem?_eq_some_iff.mp hj).1
      simp at this; omega
    subst e
    rw [hl, Nat.sub_self] at hj
    have e2 : r = (R, zs) := by simpa using hj.symm
    subst e2
    exact ⟨x, hx, hz⟩
end

section
open PySem PySem.W PyProof.Rows PyProof.Rows.LCg PySem.Calls

theorem pow5_facts {q : Nat} (h : q < 4) : (5 : Int) ^ ((0 : Int) + (q : Int)).toNat ≠ 0 ∧ ((5 : Int) ^ ((0 : Int) + (q : Int)).toNat).natAbs.log2 < 9000 := by
  have : q = 0 ∨ q = 1 ∨ q = 2 ∨ q = 3 := by omega
  rcases this with rfl | rfl | rfl | rfl <;> decide +kernel
theorem row_next {x : Int} {q : Nat} {zs : List Value} {t : Tok} (h : q < 4) (hz : IntsAre zs ((rowG x).take q)) : IntsAre (zs ++ [.int ((x.fdiv (5 ^ ((0 : Int) + (q : Int)).toNat)).fmod 5 - 2) t]) ((rowG x).take (q + 1)) := by
  have : q = 0 ∨ q = 1 ∨ q = 2 ∨ q = 3 := by omega
  rcases this with rfl | rfl | rfl | rfl <;> exact ints_snoc hz

theorem endC_of {h₀ : Heap} {L : Addr} {m : Str → Option Value} {s₁ : Shared} {I C V D R : Addr} {oI oC oV oD oR : Obj} {rest : Value → List (Addr × Obj) → Prop} {y : Value} {h : Heap} {tk : Nat} {nw : List (Addr × Obj)}
    (F : Fr h₀ L h m) (N : News h₀ L h ((R, oR) :: (I, oI) :: (C, oC) :: (V, oV) :: (D, oD) :: nw)) (o : I ≠ R ∧ C ≠ R ∧ V ≠ R ∧ D ≠ R) (off : ∀ p ∈ nw, p.1 ≠ I ∧ p.1 ≠ C ∧ p.1 ≠ V ∧ p.1 ≠ D) (r : rest y ((R, oR) :: nw)) :
    EndC h₀ L m s₁ I oI C oC V oV D oD rest y { s₁ with heap := h, toks := tk } := by
  refine ⟨h, tk, (R, oR) :: nw, rfl, F, fun p hp => N p ?_, fun p hp => ?_, r⟩
  · simp only [List.mem_cons] at hp ⊢
    rcases hp with h | h | h | h | h | h <;> simp [h]
  · rcases List.mem_cons.mp hp with rfl | hp
    · exact ⟨Ne.symm o.1, Ne.symm o.2.1, Ne.symm o.2.2.1, Ne.symm o.2.2.2⟩
    · exact off p hp

theorem three {α : Type} {l : List α} (h : l.length = 3) : ∃ a b c, l = [a, b, c] := by
  match l, h with
  | [a, b, c], _ => exact ⟨_, _, _, rfl⟩

theorem fm (x : Int) {n : Int} (h : 0 < n) : 0 ≤ x.fmod n ∧ x.fmod n ≤ n - 1 := ⟨Int.fmod_nonneg_of_pos _ h, by have := Int.fmod_lt_of_pos x h; omega⟩
theorem cs_ok (n0 n1 n2 n3 : Int) : ∀ x ∈ [n0.fmod 6, n1.fmod 6, n2.fmod 6, n3.fmod 6], 0 ≤ x ∧ x ≤ 5 := by
  intro x hx
  simp only [List.mem_cons, List.not_mem_nil, or_false] at hx
  rcases hx with rfl | rfl | rfl | rfl <;> exact fm _ (by decide)
theorem ss_ok (n0 n1 n2 n3 : Int) : ∀ x ∈ [(n0.fdiv 6).fmod 41, (n1.fdiv 6).fmod 41, (n2.fdiv 6).fmod 41, (n3.fdiv 6).fmod 41], 0 ≤ x ∧ x ≤ 40 := by
  intro x hx
  simp only [List.mem_cons, List.not_mem_nil, or_false] at hx
  rcases hx with rfl | rfl | rfl | rfl <;> exact fm _ (by decide)
theorem rowG_ok (v : Int) : ∀ x ∈ rowG v, -2 ≤ x ∧ x ≤ 2 := by
  intro x hx
  unfold rowG at hx
  simp only [List.mem_cons, List.not_mem_nil, or_false] at hx
  have f1 := fm (v.fdiv 1) (n := 5) (by decide)
  have f2 := fm (v.fdiv 5) (n := 5) (by decide)
  have f3 := fm (v.fdiv 25) (n := 5) (by decide)
  have f4 := fm (v.fdiv 125) (n := 5) (by decide)
  rcases hx with rfl | rfl | rfl | rfl <;> omega
end

section
open PySem PySem.W PyProof.Rows PySem.Calls PySem.Spec

/-- the law's end where generators were made on the way: as for one that makes none, and none of them bears a name -/
def EndB (cw : ClaimW) (cl : Str → Option Addr) (mean : ExcName → Option Value) (args : List WData) (s₁ : Shared) (tabs : List (Addr × Addr)) (r : Result) (s' : Shared) : Prop :=
  GoodW cw cl mean args { s₁ with heap := ghostOf s₁.heap tabs } r { s' with gens := #[] } ∧ AllBare s'.gens ∧ GrownAll tabs s'.heap
theorem endB_good {cw : ClaimW} {cl : Str → Option Addr} {mean : ExcName → Option Value} {args : List WData} {s₁ s' : Shared} {tabs : List (Addr × Addr)} {r : Result} (hT : TabsAt tabs s₁.heap) (hr : ∀ a x, cw.raises a x = false)
    (h : EndB cw cl mean args s₁ tabs r s') : GoodWG cw cl mean args s₁ r s' := by
  refine useG ?_
  intro P9 h9
  obtain ⟨⟨hc, hk, hos, _⟩, hA, hG⟩ := h
  refine h9 ?_
  clear h9 P9
  have split : ∀ b o, s₁.heap.get? b = some o → (s'.heap.get? b = some o) ∨ (isCodeTable s₁.heap b ∧ o = tabObj #[] ∧ ∃ ps, s'.heap.get? b = some (tabObj ps)) := by
    intro b o e
    by_cases hb : b ∈ tabs.map (·.2)
    · right
      obtain ⟨q, hq, eb⟩ := List.mem_map.mp hb
      subst eb
      have t := hT q hq
      have eo : o = tabObj #[] := Option.some.inj (e.symm.trans t.2)
      exact ⟨(t.1.tab t.2).isCodeTable, eo, hG.get q hq⟩
    · exact .inl (hk b o (ghost_ne e hb))
  refine ⟨?_, ⟨fun b o e => ?_, fun b o e => ?_⟩, hos, hA⟩
  · cases hc with
    | inl hv =>
      refine useG ?_
      intro P9 h9
      obtain ⟨v, d, as, e1, e2, e3, e4, e5⟩ := hv
      refine h9 ?_
      clear h9 P9
      refine .inl ⟨v, d, as, e1, e2, e3, e4, fun hu => ⟨(e5 hu).1, fun a ha => ?_⟩⟩
      have e6 := (e5 hu).2 a ha
      cases hs : s₁.heap.get? a with
      | none => rfl
      | some o =>
        exfalso
        by_cases hb : a ∈ tabs.map (·.2)
        · obtain ⟨q, hq, eb⟩ := List.mem_map.mp hb
          subst eb
          obtain ⟨ps, hP⟩ := hG.get q hq
          exact readsW_apart hP rfl e3 ha
        · have := ghost_ne (tabs := tabs) hs hb
          rw [show (ghostOf s₁.heap tabs).get? a = none from e6] at this
          cases this
    | inr he =>
      refine useG ?_
      intro P9 h9
      obtain ⟨e, ob, x, _, _, _, hx, _⟩ := he
      refine h9 ?_
      clear h9 P9
      rw [hr] at hx; cases hx
  · rcases split b o e with h | ⟨h1, rfl, ps, h2⟩
    · exact .inl h
    · exact .inr (.inl ⟨h1, rfl, #[], ps, rfl, by rw [Array.empty_append]; exact h2⟩)
  · rcases split b o e with h | ⟨_, _, ps, h2⟩
    · exact ⟨o, h⟩
    · exact ⟨_, h2⟩
theorem kn_postB {M : Model} {A : Around} {cd : Code} {s s₁ : Shared} {cw : ClaimW} {cl : Str → Option Addr} {mean : ExcName → Option Value} {args : List WData} {tabs : List (Addr × Addr)} (hT : TabsAt tabs s₁.heap) (hr : ∀ a x, cw.raises a x = false)
    (h : codeAny M A cd (EndB cw cl mean args s₁ tabs) s) : codeAny M A cd (GoodWG cw cl mean args s₁) s :=
  codeAny_mono h fun _ _ e => endB_good hT hr e
end

section
/-- the pieces of a set's inside between the dashes -/
def pcs (c : Nat) : List (List Nat) := if c < 26 then [[65 + c], [90, 97], [122, 48], [57, 43, 47]] else [[97 + (c - 26)], [122, 48], [57, 43, 47]]
def pcN (c : Nat) : Nat := if c < 26 then 3 else 2
abbrev pcS (c : Nat) : List Str := (pcs c).map fun l => ⟨l.toArray⟩
abbrev pcAt (c t : Nat) : List Nat := (pcs c).getD t []
def pcOk (c : Nat) : Bool :=
  (pcs c).length == pcN c + 1 && (List.range (pcN c)).all (fun t => (bodyC c)[3 * t + 1]? == some 45 && decide (3 * t + 1 < (bodyC c).length) && ((bodyC c).take (3 * t + 1)).drop (3 * t - 1) == pcAt c t) &&
  decide (3 * pcN c + 1 ≤ (bodyC c).length) && ((bodyC c).drop (3 * pcN c + 1)).all (fun q => q != 45) && ((bodyC c).take (bodyC c).length).drop (3 * pcN c - 1) == pcAt c (pcN c) &&
  (List.range (pcN c)).all (fun t => match (pcAt c t).reverse, pcAt c (t + 1) with | x :: _, y :: _ => decide (x ≤ y) | _, _ => false) &&
  (pcs c).all (fun l => decide (0 < l.length) && decide (l.length ≤ 3)) &&
  (pcs c).all (fun l => Builtin.Str.occurrences ⟨l.toArray⟩ (PySem.Str.ofString "\\") 0 l.length (l.length + 1) == [] && Builtin.Str.occurrences ⟨l.toArray⟩ (PySem.Str.ofString "-") 0 l.length (l.length + 1) == []) &&
  Txt.join (PySem.Str.ofString "-") (pcS c) == ⟨(bodyC c).toArray⟩ && JoinOk (PySem.Str.ofString "-") (pcS c)
theorem pc_all : (List.range 43).all pcOk = true := by decide +kernel
structure PcFacts (c : Nat) : Prop where
  len : (pcs c).length = pcN c + 1
  cut : ∀ t, t < pcN c → (bodyC c)[3 * t + 1]? = some 45 ∧ 3 * t + 1 < (bodyC c).length ∧ ((bodyC c).take (3 * t + 1)).drop (3 * t - 1) = pcAt c t
  last : 3 * pcN c + 1 ≤ (bodyC c).length ∧ ((bodyC c).drop (3 * pcN c + 1)).all (fun q => q != 45) = true ∧ ((bodyC c).take (bodyC c).length).drop (3 * pcN c - 1) = pcAt c (pcN c)
  ord : ∀ t, t < pcN c → ∃ a x y r, pcAt c t = a ++ [x] ∧ pcAt c (t + 1) = y :: r ∧ x ≤ y
  few : ∀ l ∈ pcs c, 0 < l.length ∧ l.length ≤ 3
  occ : ∀ l ∈ pcs c, Builtin.Str.occurrences ⟨l.toArray⟩ (PySem.Str.ofString "\\") 0 l.length (l.length + 1) = [] ∧ Builtin.Str.occurrences ⟨l.toArray⟩ (PySem.Str.ofString "-") 0 l.length (l.length + 1) = []
  join : Txt.join (PySem.Str.ofString "-") (pcS c) = ⟨(bodyC c).toArray⟩
  ok : JoinOk (PySem.Str.ofString "-") (pcS c) = true
theorem pc_facts {c : Nat} (h : c < 43) : PcFacts c := by
  have k := List.all_eq_true.mp pc_all c (List.mem_range.mpr h)
  unfold pcOk at k
  simp only [Bool.and_eq_true] at k
  refine useG ?_
  intro P9 h9
  obtain ⟨⟨⟨⟨⟨⟨⟨⟨⟨k1, k2⟩, k3⟩, k4⟩, k5⟩, k6⟩, k7⟩, k8⟩, k9⟩, k10⟩ := k
  refine h9 ?_
  clear h9 P9
  refine ⟨eq_of_beq k1, fun t ht => ?_, ⟨of_decide_eq_true k3, k4, eq_of_beq k5⟩, fun t ht => ?_, fun l hl => ?_, fun l hl => ?_, eq_of_beq k9, k10⟩
  · have := List.all_eq_true.mp k2 t (List.mem_range.mpr ht)
    simp only [Bool.and_eq_true] at this
    exact ⟨eq_of_beq this.1.1, of_decide_eq_true this.1.2, eq_of_beq this.2⟩
  · have := List.all_eq_true.mp k6 t (List.mem_range.mpr ht)
    cases e1 : (pcAt c t).reverse with
    | nil => rw [e1] at this; cases this
    | cons x a =>
      cases e2 : pcAt c (t + 1) with
      | nil => rw [e1, e2] at this; cases this
      | cons y r =>
        rw [e1, e2] at this
        refine ⟨a.reverse, x, y, r, ?_, rfl, of_decide_eq_true this⟩
        have := congrArg List.reverse e1
        simpa using this
  · have := List.all_eq_true.mp k7 l hl
    simp only [Bool.and_eq_true, decide_eq_true_eq] at this
    exact this
  · have := List.all_eq_true.mp k8 l hl
    simp only [Bool.and_eq_true] at this
    exact ⟨eq_of_beq this.1, eq_of_beq this.2⟩

theorem unrPost_mono2 {h₀ : Heap} {L : Addr} {s₁ : Shared} {I : Addr} {it : Obj} {r r' : (Str → Option Value) → List (Addr × Obj) → Prop} {Q : Flow → Shared → Prop} {f : Flow} {s₂ : Shared} (h : ∀ m n, r m n → r' m n) (x : UnrPost h₀ L s₁ I it r Q f s₂) : UnrPost h₀ L s₁ I it r' Q f s₂ := by
  cases f with
  | ret v => exact x
  | brk => exact x
  | next => obtain ⟨a, b, c, d, e, F, N, o, y⟩ := x; exact ⟨a, b, c, d, e, F, N, o, h _ _ y⟩
  | cont => obtain ⟨a, b, c, d, e, F, N, o, y⟩ := x; exact ⟨a, b, c, d, e, F, N, o, h _ _ y⟩
/-- a loop downwards over a range, by an invariant over the frame and the ledger -/
theorem krsRest_inv {prog : Program} {w : World} {A : Around} {E : Value → Shared → Prop} {h₀ : Heap} {env : Env} {x : Str} {body : List Stmt} {Q : Flow → Shared → Prop} {s : Shared} {I : Addr} {a c : Int} {n : Nat}
    (J : Nat → (Str → Option Value) → List (Addr × Obj) → Prop)
    (turn : ∀ i m news t h tk it, i < n → J i m news → Fr h₀ env.locals h (fun y => if y = x then some (.int (a + (i : Int) * c) t) else m y) → News h₀ env.locals h ((I, it) :: news) →
      wpAny (model prog w) A (execs body env) (UnrPost h₀ env.locals { s with heap := h, toks := tk } I it (J (i + 1)) Q) E { s with heap := h, toks := tk })
    (done : ∀ m news h tk, J n m news → Fr h₀ env.locals h m → News h₀ env.locals h news → Q .next { s with heap := h, toks := tk }) :
    ∀ (k i : Nat) m news, i + k = n → J i m news → KrsRest prog w A E h₀ env x body Q s I a c n k i m news := by
  intro k
  induction k with
  | zero =>
    intro i m news hd hJ
    have e : i = n := by omega
    subst e
    exact KrsRest.zero fun h tk F N => done m news h tk hJ F N
  | succ k ih =>
    intro i m news hd hJ
    refine KrsRest.succ rfl fun t h tk F N => ?_
    exact wpAny_mono (turn i m news t h tk _ (by omega) hJ F N) (fun f s₂ p => unrPost_mono2 (fun m' n' y => ih (i + 1) m' n' (by omega) y) p) fun _ _ e => e
theorem pcN_range (c : Nat) : Builtin.Range.small (((pcN c + 1 : Nat) : Int) - 1) 0 (-1) = true ∧ Builtin.Range.rangeSize (((pcN c + 1 : Nat) : Int) - 1) 0 (-1) = ((pcN c : Nat) : Int) := by
  unfold pcN; split <;> decide
theorem pcN_pos (c : Nat) : 0 < pcN c ∧ pcN c ≤ 3 := by unfold pcN; split <;> decide
theorem chunk_no {x y : Nat} (h : x ≤ y) : decide ((⟨#[y]⟩ : Str).cps.toList < (⟨#[x]⟩ : Str).cps.toList) = false := by
  apply decide_eq_false
  show ¬ ([y] : List Nat) < [x]
  simp only [List.cons_lt_cons_iff, List.not_lt_nil, and_false, or_false]
  omega

theorem strs_get {vs : List Value} {xs : List Str} {j : Nat} {x : Str} (h : StrsAre vs xs) (hx : xs[j]? = some x) : ∃ t, vs[j]? = some (.str x t) := by
  induction h generalizing j with
  | nil => simp at hx
  | cons y u _ ih =>
    cases j with
    | zero => exact ⟨u, by simpa using hx⟩
    | succ j => simpa using ih (by simpa using hx)

theorem strs_at55 {vs : List Value} {xs : List Str} {j : Nat} {v : Value} (h : StrsAre vs xs) (hv : vs[j]? = some v) : ∃ x t, v = .str x t ∧ xs[j]? = some x := by
  induction h generalizing j with
  | nil => simp at hv
  | cons y u _ ih =>
    cases j with
    | zero => exact ⟨y, u, by simpa using hv.symm, rfl⟩
    | succ j => simpa using ih (by simpa using hv)
theorem pc_elt {c i : Nat} {vs : List Value} {v : Value} (h : PcFacts c) (S : StrsAre vs (pcS c)) (hv : vs[i]? = some v) :
    ∃ x u, v = .str x u ∧ x = (pcS c).getD i ⟨#[]⟩ ∧ Builtin.Str.occurrences x (PySem.Str.ofString "\\") 0 x.length (x.length + 1) = [] ∧ Builtin.Str.occurrences x (PySem.Str.ofString "-") 0 x.length (x.length + 1) = [] := by
  refine useG ?_
  intro P9 h9
  obtain ⟨x, u, e, hx⟩ := strs_at55 S hv
  obtain ⟨l, hl, rfl⟩ := List.mem_map.mp (List.mem_of_getElem? hx)
  refine h9 ?_
  clear h9 P9
  have e2 : (⟨l.toArray⟩ : Str).length = l.length := cod_len l
  have o := h.occ l hl
  rw [← e2] at o
  exact ⟨_, u, e, by rw [List.getD_eq_getElem?_getD, hx]; rfl, o.1, o.2⟩
theorem pc_list {c : Nat} (h : PcFacts c) {n : Nat} (hn : n = pcN c + 1) : (List.range n).map (fun j => (pcS c).getD j ⟨#[]⟩) = pcS c := by
  apply List.ext_getElem?
  intro j
  rw [List.getElem?_map]
  have hl : (pcS c).length = n := by rw [List.length_map, h.len, hn]
  rcases Nat.lt_or_ge j n with hj | hj
  · rw [List.getElem?_eq_getElem (by simpa using hj), List.getElem_range, List.getElem?_eq_getElem (by omega)]
    have hj2 : j < (pcs c).length := by rw [h.len]; omega
    simp [List.getD_eq_getElem?_getD, List.getElem?_eq_getElem hj2]
  · rw [List.getElem?_eq_none (by simpa using hj), List.getElem?_eq_none (by omega)]; rfl
theorem pc_hd_all : (List.range 43).all (fun c => match bodyC c with | X :: tl => X != 33 && X != 94 && X != 91 && decide (tl.length ≤ 10) | [] => false) = true := by decide +kernel
theorem pc_hd {c X : Nat} {tl : List Nat} (h : c < 43) (e : bodyC c = X :: tl) : X ≠ 33 ∧ X ≠ 94 ∧ X ≠ 91 := by
  have k := List.all_eq_true.mp pc_hd_all c (List.mem_range.mpr h)
  rw [e] at k
  simp only [Bool.and_eq_true, bne_iff_ne] at k
  exact ⟨k.1.1.1, k.1.1.2, k.1.2⟩
end
local macro_rules | `(tactic| k_mem) => `(tactic| first | exact List.mem_cons_self | ktr_member | (refine' List.mem_cons_of_mem _ ?_; k_mem))
local macro_rules | `(tactic| k_all) => `(tactic| first | with_reducible assumption | (refine' allLt_ne ?kaa ?kab; (case kaa => with_reducible assumption); (case kab => ((try dsimp only); omega))) | fail "k_all: mine")
local macro_rules | `(tactic| walk_at "my_enter") => `(tactic| first
  | (refine' code_def ?k1 ?k2 ?k3 ?k4 ?k5 ?kA ?kF ?kK ?k6 ?k7 ?k8 ?k9 ?kB ?_ ?c2 ?c3 ?c4 ?c5; (case kA => exact rfl); (case kF => exact rfl); (case kK => first | exact rfl | assumption); (case k1 => k_asm); (case k2 => k_asm); (case k3 => k_asm); (case k4 => k_asm); (case k5 => k_asm); (case k6 => k_is); (case k7 => k_is); (case k8 => ktr_room); (case k9 => first | exact BindsTo.of_eq rfl | exact binds_K (by k_in) rfl (by k_is) rfl rfl rfl | (refine' kp_binds ?kx ?ke; (case kx => k_in); (case ke => exact fun _ => rfl)) | fail "k_enter: no rule for these arguments"); (case c5 => decide); (case kB => exact locs rfl); (case c2 => exact rfl); (case c3 => exact rfl); (case c4 => exact rfl); k_whole; intro g' L' h' FG' F' N' B' X' T'; (try dsimp only); (try k_lift B'); (try k_fold))
  | (refine' code_defC ?k1 ?k2 ?k3 ?k4 ?k5 ?kA ?kF ?kK ?k6 ?k7 ?k8 ?k9 ?kB ?kD ?_ ?c2 ?c3 ?c4; (case kA => exact rfl); (case kF => exact rfl); (case kK => first | exact rfl | assumption); (case k1 => k_asm); (case k2 => k_asm); (case k3 => k_asm); (case k4 => k_asm); (case k5 => k_asm); (case k6 => k_is); (case k7 => k_is); (case k8 => ktr_room); (case k9 => first | exact BindsTo.of_eq rfl | exact binds_K (by k_in) rfl (by k_is) rfl rfl rfl | (refine' kp_binds ?kx ?ke; (case kx => k_in); (case ke => exact fun _ => rfl)) | fail "k_enter: no rule for these arguments"); (case kB => exact rfl); (case kD => decide +kernel); (case c2 => exact rfl); (case c3 => exact rfl); (case c4 => exact rfl); k_whole; intro g' L' h' tk' cells' FG' F' N' Y' B' X' T' l1; (try k_lt l1); (repeat (have q1 := And.left l1; replace l1 := And.right l1)); k_cells Y'; (try simp only [List.cons_append, List.nil_append] at N'); (try dsimp only); (try k_lift B'); (try k_fold)))
local macro_rules | `(tactic| walk_at "my_nest") => `(tactic| (refine' code_nest ?k1 ?k2 ?k3 ?k4 ?k5 ?kA ?kF ?kK ?k6 ?k7 ?k8 ?k9 ?kB ?_ ?c2 ?c3 ?c4 ?c5; (case kA => exact rfl); (case kF => exact rfl); (case kK => first | exact rfl | assumption); (case k1 => k_asm); (case k2 => k_asm); (case k3 => k_asm); (case k4 => k_asm); (case k5 => k_asm); (case k6 => k_mem); (case k7 => exact codeRec_news (by k_asm) (by k_mem) (by assumption) (by assumption)); (case k8 => ktr_room); (case k9 => exact BindsTo.of_eq rfl); (case c5 => decide); (case kB => exact locs rfl); (case c2 => exact rfl); (case c3 => exact rfl); (case c4 => exact rfl); k_whole; intro g' L' h' FG' F' N' B' X' T'; (try dsimp only); (try k_lift B'); (try k_fold)))
local macro_rules | `(tactic| walk_at "callWith ref") => `(tactic| (k_here; k_dflt (refine' callWith_K ?k1 ?k2 ?_; (case k1 => k_asm); (case k2 => k_is); k_whole)))
local macro_rules | `(tactic| walk_at "binaryOp LShift int int") => `(tactic| (refine' lshift_int ?ls1 ?ls2 ?_; (case ls1 => first | with_reducible assumption | omega); (case ls2 => omega)))
section
local macro_rules | `(tactic| walk_at "call builtin:divmod") => `(tactic| (k_here; (with_reducible show wpAny _ _ (call (Value.builtin _) [Value.int _ _, Value.int _ _]) _ _ _); k_dflt (refine' divmod_N ?F ?N ?b ?_ (Or.inl (noPy ?bits)); (case F => k_asm); (case N => k_asm); (case b => omega); (case bits => with_reducible assumption)); intro h' F' N'))
local macro_rules | `(tactic| walk_at "binaryOp Mult ref int") => `(tactic| (k_here; (with_reducible show wpAny _ _ (binaryOp Operator.Mult (Value.ref _) (Value.int _ _)) _ _ _); k_dflt (refine' mul_rep ?F ?N ?m ?lo ?hi ?_; (case F => k_asm); (case N => k_asm); (case m => k_mem); (case lo => first | with_reducible assumption | omega); (case hi => first | with_reducible assumption | omega)); intro D' ws' h' F' N' l1 hws'; (try k_lt l1)))
section
theorem woff1 : True := by
  w_top off
  trivial
inductive P45 (news : List (Addr × Obj)) (x y : Int) (v : Value) (Λ' : List (Addr × Obj)) : Prop
  | mk (D : Addr) (t1 t2 : Tok) (k : Nat) (h1 : v = .ref D) (h2 : @LT.lt Nat _ 160 D) (h3 : Λ' = (D, ({cls := .type "tuple", data := .seq #[.int (x / y) t1, .int (x % y) t2] k} : Obj)) :: news) : P45 news x y v Λ'
theorem c45 {w : World} {p : Program} {loose : List Str} {mean : ExcName → Option Value} {mg mb : Str → Option Value} {news : List (Addr × Obj)} {x y : Int} {n : Nat} {tx ty tn : Tok}
  (hx : 0 ≤ x) (hy : 0 < y) (hb : Builtin.Int.intBits x ≤ 4000) (hby : Builtin.Int.intBits y ≤ 200) :
  CallsTo w p loose mean mg mb (fun _ => True) news 45 [.int x tx, .int y ty, .int n tn] 10 100
    (P45 news x y) := by
  intro dp un gd cn cs a ccd cl outer A₀ base h₀ L m s Q E B _ F X N T hk hdp hun hret
  (revert X; k_fill; intro X)
  have hb0 : (Builtin.Int.intBits x : Int) - n ≤ 4000 := by omega
  refine wpAny_call ?_
  k_dflt (walk_at "my_enter")
  with_reducible (rename Frag.In _ _ => X9)
  with_reducible (rename Fr _ _ _ _ => F9)
  have hLhi := hi_of F9 (X9 172 _ (by k_is))
  k_steps
  with_reducible (rename News _ _ _ _ => N9)
  rw [Int.fdiv_eq_ediv_of_nonneg x (Int.le_of_lt hy), Int.fmod_eq_emod_of_nonneg x (Int.le_of_lt hy)] at N9
  exact hret _ _ _ _ (by k_asm) N9 ⟨_, _, _, _, rfl, Nat.lt_trans (Nat.lt_trans (by decide : 160 < 172) hLhi) F9.ns.lt, rfl⟩
end
section
theorem woff2 : True := by
  w_top off
  trivial
inductive P59 (T54 news : List (Addr × Obj)) (n : Nat) (x : Int) (v : Value) (Λ' : List (Addr × Obj)) : Prop
  | mk (D : Addr) (vs : List Value) (T54' : List (Addr × Obj)) (h1 : v = .ref D) (h2 : @LT.lt Nat _ 160 D) (h3 : IntsAre vs (digs n ((Builtin.Int.intBits x + n - 1) / n) x)) (h4 : To54 T54 T54') (h5 : 2 ≤ T54'.length) (h6 : Λ' = (D, W.listOf vs.toArray 0) :: T54' ++ news) : P59 T54 news n x v Λ'
inductive P54 (n : Nat) (ns : List Int) (lo hi x : Int) (D : Addr) (Λ : List (Addr × Obj)) (v : Value) (Λ' : List (Addr × Obj)) : Prop
  | mk (h1 : v = .none) (vs' : List Value) (h2 : IntsAre vs' (putD n ns lo.toNat (hi - lo).toNat x)) (h3 : Λ' = (D, W.listOf vs'.toArray 0) :: Λ) : P54 n ns lo hi x D Λ v Λ'
def At54 (w : World) (p : Program) (loose : List Str) (mean : ExcName → Option Value) (mg mb : Str → Option Value) (n : Nat) (Λ : List (Addr × Obj)) (f D : Addr) (d : Nat) : Prop :=
  ∀ (x lo hi : Int) (tx tl th : Tok) (vs : List Value) (ns : List Int), d ≤ 8 → 0 ≤ lo → lo < hi → hi ≤ ns.length → hi - lo ≤ 2 ^ d →
    0 ≤ x → x < 2 ^ (n * (hi - lo).toNat) → Builtin.Int.intBits x ≤ 200 → IntsAre vs ns → ns.length ≤ 200 →
    CallsTo w p loose mean mg mb (fun _ => True) ((D, W.listOf vs.toArray 0) :: Λ) f [.int x tx, .int lo tl, .int hi th] (d + 2) (8 * (d + 2))
      (P54 n ns lo hi x D Λ)
theorem at54_of {w : World} {p : Program} {loose : List Str} {mean : ExcName → Option Value} {mg mb : Str → Option Value} {n : Nat} {Λ : List (Addr × Obj)} {f D : Addr}
    (base : ∀ (d : Nat) (x lo hi : Int) (tx tl th : Tok) (vs : List Value) (ns : List Int), (lo + 1 == hi) = true → 0 ≤ lo → lo < ns.length → ns.length ≤ 200 → IntsAre vs ns → ns.set lo.toNat x = putD n ns lo.toNat (hi - lo).toNat x →
      CallsTo w p loose mean mg mb (fun _ => True) ((D, W.listOf vs.toArray 0) :: Λ) f [.int x tx, .int lo tl, .int hi th] (d + 2) (8 * (d + 2))
      (P54 n ns lo hi x D Λ))
    (step : ∀ (d : Nat), At54 w p loose mean mg mb n Λ f D d → ∀ (x lo hi : Int) (tx tl th : Tok) (vs : List Value) (ns : List Int), d + 1 ≤ 8 → 0 ≤ lo → lo < hi → hi ≤ ns.length → hi - lo ≤ 2 ^ (d + 1) →
    0 ≤ x → x < 2 ^ (n * (hi - lo).toNat) → Builtin.Int.intBits x ≤ 200 → IntsAre vs ns → ns.length ≤ 200 → lo + 1 ≠ hi →
      CallsTo w p loose mean mg mb (fun _ => True) ((D, W.listOf vs.toArray 0) :: Λ) f [.int x tx, .int lo tl, .int hi th] (d + 1 + 2) (8 * (d + 1 + 2))
      (P54 n ns lo hi x D Λ)) : ∀ d, At54 w p loose mean mg mb n Λ f D d := by
  intro d
  have base' : ∀ (d : Nat) (x lo hi : Int) (tx tl th : Tok) (vs : List Value) (ns : List Int), lo + 1 = hi → 0 ≤ lo → hi ≤ ns.length → 0 ≤ x → x < 2 ^ (n * (hi - lo).toNat) → IntsAre vs ns → ns.length ≤ 200 →
      CallsTo w p loose mean mg mb (fun _ => True) ((D, W.listOf vs.toArray 0) :: Λ) f [.int x tx, .int lo tl, .int hi th] (d + 2) (8 * (d + 2))
      (P54 n ns lo hi x D Λ) := by
    intro d x lo hi tx tl th vs ns e a1 a2 a3 a4 a5 a6
    have e1 : (hi - lo).toNat = 1 := by omega
    refine base d x lo hi tx tl th vs ns (by rw [e]; exact beq_self_eq_true _) a1 (by omega) a6 a5 ?_
    rw [e1, Nat.mul_one] at a4
    rw [e1]
    exact putD_one (n := n) (ns := ns) (lo := lo.toNat) (by omega) a3 a4
  induction d with
  | zero =>
    intro x lo hi tx tl th vs ns _ a1 a2 a3 a4 a5 a6 _ a7 a8
    exact base' 0 x lo hi tx tl th vs ns (by simp at a4; omega) a1 a3 a5 a6 a7 a8
  | succ d ih =>
    intro x lo hi tx tl th vs ns b0 a1 a2 a3 a4 a5 a6 b1 a7 a8
    by_cases hne : lo + 1 = hi
    · exact base' (d + 1) x lo hi tx tl th vs ns hne a1 a3 a5 a6 a7 a8
    · exact step d ih x lo hi tx tl th vs ns b0 a1 a2 a3 a4 a5 a6 b1 a7 a8 hne
theorem restA {g h : Heap} {L : Addr} {f c D l x1 x2 x3 t : Addr × Obj} {news : List (Addr × Obj)} {P : Prop} (N : News g L h (f :: c :: D :: l :: x1 :: x2 :: x3 :: t :: news)) (ne : ∀ q ∈ f :: c :: l :: x1 :: x2 :: x3 :: t :: news, q.1 ≠ D.1)
    (k : ∀ R, News g L h (D :: R) → (∀ q ∈ R, q.1 ≠ D.1) → f ∈ R → c ∈ R → x1 ∈ R → x2 ∈ R → x3 ∈ R → (∀ q ∈ [t, c] ++ news, q ∈ R) → P) : P :=
  k _ (perm3 N) ne (.head _) (.tail _ (.head _)) (.tail _ (.tail _ (.tail _ (.head _)))) (.tail _ (.tail _ (.tail _ (.tail _ (.head _))))) (.tail _ (.tail _ (.tail _ (.tail _ (.tail _ (.head _))))))
    (fmC (.tail _ (.tail _ (.tail _ (.tail _ (.tail _ (.tail _ (.head _))))))) (fmC (.tail _ (.head _)) (fun _ hq => .tail _ (.tail _ (.tail _ (.tail _ (.tail _ (.tail _ (.tail _ hq)))))))))
theorem restB {g h : Heap} {L : Addr} {f c D l x1 x2 x3 t : Addr × Obj} {news : List (Addr × Obj)} {P : Prop} (N : News g L h (f :: D :: l :: x1 :: x2 :: x3 :: t :: c :: news)) (ne : ∀ q ∈ f :: l :: x1 :: x2 :: x3 :: t :: c :: news, q.1 ≠ D.1)
    (k : ∀ R, News g L h (D :: R) → (∀ q ∈ R, q.1 ≠ D.1) → f ∈ R → c ∈ R → x1 ∈ R → x2 ∈ R → x3 ∈ R → (∀ q ∈ [t, c] ++ news, q ∈ R) → P) : P :=
  k _ (perm2 N) ne (.head _) (.tail _ (.tail _ (.tail _ (.tail _ (.tail _ (.tail _ (.head _))))))) (.tail _ (.tail _ (.head _))) (.tail _ (.tail _ (.tail _ (.head _)))) (.tail _ (.tail _ (.tail _ (.tail _ (.head _)))))
    (fmC (.tail _ (.tail _ (.tail _ (.tail _ (.tail _ (.head _)))))) (fun _ hq => .tail _ (.tail _ (.tail _ (.tail _ (.tail _ (.tail _ hq)))))))
theorem news_rest {g h : Heap} {L : Addr} {d : Addr × Obj} {l R : List (Addr × Obj)} (N : News g L h (d :: R)) (hs : ∀ q ∈ l, q ∈ R) : News g L h (d :: l) := by
  intro p hp; apply N
  exact (List.mem_cons.mp hp).elim (fun h => h ▸ .head _) (fun h => .tail _ (hs _ h))
noncomputable def h59 {w : World} {p : Program} {loose : List Str} {mean : ExcName → Option Value} {mg mb : Str → Option Value} {n : Nat} (hn0 : 0 < n) (hn1 : n < 100) : (K : Prop) ×' (Nonempty K → ∀ (T54 : List (Addr × Obj)) (news : List (Addr × Obj)) (x : Int) (tx tn : Tok)
  (_ : TabIs "_int2digits.<locals>.inner" 36 4 54 T54) (_ : ∀ q ∈ news, q.1 ≠ 54)
  (_ : 0 ≤ x) (_ : Builtin.Int.intBits x ≤ 200),
  CallsTo w p loose mean mg mb (fun base => CodeHd base 58 54) (T54 ++ news) 59 [.int x tx, .int n tn] 20 200
    (P59 T54 news n x)) := by
  refine' ⟨_, fun KEY => ?main⟩
  case main =>
  intro T54 news x tx tn hT hn54 hx hb dp un gd cn cs a ccd cl outer A₀ base h₀ L m s Q E B C54 F X N T hk hdp hun hret
  (revert X; k_fill; intro X)
  refine useG ?_
  intro P9 h9
  obtain ⟨z1, z2, z3, z4, z5⟩ := nd_facts hx hb hn0 hn1
  refine h9 ?_
  clear h9 P9
  generalize hW : T54 ++ news = W0 at N
  refine wpAny_call ?_
  k_dflt (walk_at "my_enter")
  with_reducible (rename Frag.In _ _ => X9)
  with_reducible (rename Fr _ _ _ _ => F9)
  have hLhi := hi_of F9 (X9 172 _ (by k_is))
  have lW : AllLt _ W0 := allLt_of (by assumption)
  iterate 26 walk1
  rename_i g' L' hA tkA FG' B' T' lL oA1 oA2 oA3 dA1 dA2 dA3 l' hB la D' ws' hC hws lb hD' oB F' N' dB
  replace dA3 : oA3.data = .cell (some (.int n tn)) := dA3
  clear z2 z3 z4 z5
  have hD9 : @LT.lt Nat _ 160 D' := Nat.lt_trans (Nat.lt_trans (by decide) (Nat.lt_trans hLhi (Nat.lt_succ_self _))) lb.2.2.2.1
  rcases hT with e | ⟨c', oc, vs', t', e, hc9, hoc, hvs⟩
  case inl =>
    rw [e] at hW
    subst hW
    simp only [List.cons_append, List.nil_append] at N'
    replace lb : @LT.lt Nat _ (l') (D') ∧ @LT.lt Nat _ (L' + 1 + 1 + 1) (D') ∧ @LT.lt Nat _ (L' + 1 + 1) (D') ∧ @LT.lt Nat _ (L' + 1) (D') ∧ @LT.lt Nat _ (54) (D') ∧ AllLt D' news := lb
    replace la : _ ∧ _ ∧ _ ∧ @LT.lt Nat _ (54) (l') ∧ AllLt l' news := la
    replace lW : @LT.lt Nat _ (54) (L') ∧ AllLt L' news := lW
    refine useG ?_
    intro P9 h9
    obtain ⟨lb1, lb2, lb3, lb4, lb5, lb6⟩ := lb
    obtain ⟨la1, la2, la3, la4, la5⟩ := la
    obtain ⟨lw1, lw2⟩ := lW
    refine h9 ?_
    clear h9 P9
    iterate 2 walk1
    with_reducible (rename News _ _ _ _ => N1)
    rename_i f' c' oc vs' t' ct' dc' hE tkE hoc hvs lc ld hF oC F'' dD
    rw [Array.empty_append] at N1
    have hc9 : @LT.lt Nat _ 160 c' := Nat.lt_trans hD9 lc.1
    refine restA N1 (fmC (Nat.ne_of_gt (Nat.lt_trans lc.1 ld)) (fmC (Nat.ne_of_gt lc.1) (fmC (Nat.ne_of_lt lb1) (fmC (Nat.ne_of_lt lb2) (fmC (Nat.ne_of_lt lb3) (fmC (Nat.ne_of_lt lb4) (fmC (Nat.ne_of_lt lb5) (tbn_neAll lb6)))))))) (fun R NR hR hm1 hmC hmi hma hmn hsub => ?_)
    replace hR : ∀ q ∈ R, q.1 ≠ D' := hR
    have hTo : To54 T54 [(54, tabObj #[rawInt 36, rawInt 4, .ref c']), (c', oc)] := ⟨.inr ⟨_, _, _, _, rfl, hc9, hoc, hvs⟩, fun h => absurd (e ▸ h) (by decide)⟩
    replace hsub : ∀ q ∈ [(54, tabObj #[rawInt 36, rawInt 4, .ref c']), (c', oc)] ++ news, q ∈ R := hsub
    clear dA1 dA2 F N B N1 la1 la2 la3 la4 la5 lw1 lw2 lL lc ld lb1 lb2 lb3 lb4 lb5 lb6 e z1 hn54 hc9
    dsimp only
    revert T54 news x tx tn dp un gd cn cs a ccd cl outer A₀ base h₀ L m s Q E g' L' D' ws' f' c' oc vs' t' ct' dc' hF oA3 oB oC R tkE
    obtain ⟨K⟩ := KEY
    exact K
  case inr =>
    rw [e] at hW
    subst hW
    simp only [List.cons_append, List.nil_append] at N'
    replace lb : @LT.lt Nat _ (l') (D') ∧ @LT.lt Nat _ (L' + 1 + 1 + 1) (D') ∧ @LT.lt Nat _ (L' + 1 + 1) (D') ∧ @LT.lt Nat _ (L' + 1) (D') ∧ @LT.lt Nat _ (54) (D') ∧ @LT.lt Nat _ (c') (D') ∧ AllLt D' news := lb
    replace la : _ ∧ _ ∧ _ ∧ @LT.lt Nat _ (54) (l') ∧ @LT.lt Nat _ (c') (l') ∧ AllLt l' news := la
    replace lW : @LT.lt Nat _ (54) (L') ∧ @LT.lt Nat _ (c') (L') ∧ AllLt L' news := lW
    refine useG ?_
    intro P9 h9
    obtain ⟨lb1, lb2, lb3, lb4, lb5, lb7, lb6⟩ := lb
    obtain ⟨la1, la2, la3, la4, la6, la5⟩ := la
    obtain ⟨lw1, lw3, lw2⟩ := lW
    refine h9 ?_
    clear h9 P9
    iterate 2 walk1
    with_reducible (rename News _ _ _ _ => N1)
    rename_i f' ct' dc' hE tkE lc hF oC F'' dD
    refine restB N1 (fmC (Nat.ne_of_gt lc.1) (fmC (Nat.ne_of_lt lb1) (fmC (Nat.ne_of_lt lb2) (fmC (Nat.ne_of_lt lb3) (fmC (Nat.ne_of_lt lb4) (fmC (Nat.ne_of_lt lb5) (fmC (Nat.ne_of_lt lb7) (tbn_neAll lb6)))))))) (fun R NR hR hm1 hmC hmi hma hmn hsub => ?_)
    replace hR : ∀ q ∈ R, q.1 ≠ D' := hR
    have hTo : To54 T54 [(54, tabObj #[rawInt 36, rawInt 4, .ref c']), (c', oc)] := ⟨.inr ⟨_, _, _, _, rfl, hc9, hoc, hvs⟩, fun _ => e.symm⟩
    replace hsub : ∀ q ∈ [(54, tabObj #[rawInt 36, rawInt 4, .ref c']), (c', oc)] ++ news, q ∈ R := hsub
    clear dA1 dA2 F N B N1 la1 la2 la3 la4 la5 la6 lw1 lw2 lw3 lL lc lb1 lb2 lb3 lb4 lb5 lb6 lb7 e z1 hn54
    dsimp only
    obtain ⟨K⟩ := KEY
    apply K (D' := D') (oA3 := oA3) (oB := oB) (oC := oC) (R := R) <;> assumption
theorem k59 {w : World} {p : Program} {loose : List Str} {mean : ExcName → Option Value} {mg mb : Str → Option Value} {n : Nat} (hn0 : 0 < n) (hn1 : n < 100) : (h59 (w := w) (p := p) (loose := loose) (mean := mean) (mg := mg) (mb := mb) hn0 hn1).1 := by
  conv => whnf
  intro T54 news x tx tn hx hb dp un gd cn cs a ccd cl outer A₀ base h₀ L m s Q E C54 T hk hdp hun hret X g' L' FG' B' X9 T' oA3 hLhi D' ws' hws oB dB dA3 hD9 f' c' oc vs' t' ct' dc' tkE hoc hvs hF oC F'' dD R NR hm1 hmC hmi hma hmn hR hTo hsub
  refine useG ?_
  intro P9 h9
  obtain ⟨z1, z2, z3, z4, z5⟩ := nd_facts hx hb hn0 hn1
  refine h9 ?_
  clear h9 P9
  have key : ∀ d, At54 w p loose mean mg mb n R f' D' d := by
    clear NR F'' FG' B' T' X9 T X hret hTo hsub hws z1 z2 z3 z4 z5 hk hdp hun hx hb
    refine at54_of ?base ?step
    case base =>
      intro d x lo hi tx tl th vs ns hb h0 h1 h8 hi' hst dp un gd cn cs a ccd cl outer A₀ base h₀ L m s Q E B _ F X N T hk hdp hun hret
      refine wpAny_call ?_
      k_dflt (walk_at "my_nest")
      k_steps
      exact hret _ _ _ _ (by k_asm) (by k_asm) ⟨rfl, _, by rw [← hst]; assumption, rfl⟩
    case step =>
      intro d ih x lo hi tx tl th vs ns _ h0 h1 h2 h3 h5 h6 h7 hi' h8 hne dp un gd cn cs a ccd cl outer A₀ base h₀ L m s Q E B _ F X N T hk hdp hun hret
      have hb : (lo + 1 == hi) = false := beq_eq_false_iff_ne.mpr hne
      obtain ⟨hlen1, hlen2⟩ : lo.toNat < ns.length ∧ (hi : Int) ≤ 200 := by omega
      obtain ⟨f1, f2, f3, f4⟩ := mid_facts h1 hne h0 h3
      obtain ⟨g1, g2⟩ := shift_facts2 h0 f1 f2 (by omega) hn1
      obtain ⟨y1, y2, y3, y4, y5, y6, y7, y8⟩ := low_facts h5 h7 f1 f2 h6
      have y9 := y8; rw [← y5] at y9
      refine wpAny_call ?_
      k_dflt (walk_at "my_nest")
      k_steps
      k_dflt (refine' ih _ _ _ _ _ _ _ _ (by omega) h0 f1 (by omega) f4 (by rw [y1]; exact y2) (by rw [y1]; exact y3) (by rw [y1]; exact y4) hi' h8 _ _ _ _ _ _ _ _ _ _ _ _ _ _ _ _ _ ?k1 trivial ?k2 ?k3 ?k4 ?k5 ?k6 ?k7 ?k8 ?_; (case k1 => k_asm); (case k2 => k_asm); (case k3 => k_asm); (case k4 => k_asm); (case k5 => k_asm); (case k6 => first | exact rfl | assumption); (case k7 => ktr_room); (case k8 => ktr_units))
      intro v Λ' h' tk' F' N' hr
      obtain ⟨e, vs1, hi1, e2⟩ := hr
      subst e e2
      rw [y1] at hi1
      (try dsimp only)
      have hl1 := putD_length (n := n) (ns := ns) (lo := lo.toNat) (k := ((lo + hi).fdiv (2 ^ Int.toNat 1) - lo).toNat) (x := x % 2 ^ (n * ((lo + hi).fdiv (2 ^ Int.toNat 1) - lo).toNat)) (by omega)
      k_steps
      k_dflt (refine' ih _ _ _ _ _ _ _ _ (by omega) (by omega) f2 (by rw [hl1]; exact h2) f3 (by rw [y5]; exact y6) (by rw [y5]; exact y7) y9 hi1 (by rw [hl1]; exact h8) _ _ _ _ _ _ _ _ _ _ _ _ _ _ _ _ _ ?k1 trivial ?k2 ?k3 ?k4 ?k5 ?k6 ?k7 ?k8 ?_; (case k1 => k_asm); (case k2 => k_asm); (case k3 => k_asm); (case k4 => k_asm); (case k5 => k_asm); (case k6 => first | exact rfl | assumption); (case k7 => ktr_room); (case k8 => ktr_units))
      intro v Λ'' h' tk' F' N' hr
      obtain ⟨e, vs2, hi2, e2⟩ := hr
      subst e e2
      rw [y5, putD_mid h0 f1 f2 h2] at hi2
      (try dsimp only)
      k_steps
      exact hret _ _ _ _ (by k_asm) (by k_asm) ⟨rfl, _, hi2, rfl⟩
  rw [z1, Int.toNat_natCast] at hws
  generalize hns0 : List.replicate ((Builtin.Int.intBits x + n - 1) / n) (0 : Int) = ns0 at hws
  have hl0 : ns0.length = (Builtin.Int.intBits x + n - 1) / n := by rw [← hns0, List.length_replicate]
  have e1 : ((ns0.length : Int) - 0).toNat = (Builtin.Int.intBits x + n - 1) / n := by rw [Int.sub_zero, Int.toNat_natCast, hl0]
  refine use_let F'' ?_
  intro m0 F0
  clear F''
  (try k_fold)
  k_steps
  · have z6 := z4 (by assumption)
    k_dflt (refine' key 8 _ _ _ _ _ _ _ _ (by decide) (by decide) (by omega) (by omega) (by omega) hx (by rw [e1]; exact z3) hb hws (by omega) _ _ _ _ _ _ _ _ _ _ _ _ _ _ _ _ _ ?k1 trivial ?k2 ?k3 ?k4 ?k5 ?k6 ?k7 ?k8 ?_; (case k1 => k_asm); (case k2 => k_asm); (case k3 => k_asm); (case k4 => exact NR); (case k5 => k_asm); (case k6 => first | exact rfl | assumption); (case k7 => ktr_room); (case k8 => ktr_units))
    intro v Λ'' h' tk' F' N' hr
    obtain ⟨e, vs2, hi2, e2⟩ := hr
    subst e e2
    rw [e1, ← hns0, Int.toNat_zero, putD_all] at hi2
    (try dsimp only)
    k_steps
    (try dsimp only)
    k_steps
    exact hret _ _ _ _ (by k_asm) (news_rest (by k_asm) hsub) ⟨_, _, _, rfl, hD9, hi2, hTo, Nat.le_refl _, rfl⟩
  · have z6 := z5 (by assumption)
    rw [← hns0, z6] at hws
    (try dsimp only)
    k_steps
    exact hret _ _ _ _ (by k_asm) (news_rest (by k_asm) hsub) ⟨_, _, _, rfl, hD9, by rw [z6]; exact hws, hTo, Nat.le_refl _, rfl⟩

theorem c59 {w : World} {p : Program} {loose : List Str} {mean : ExcName → Option Value} {mg mb : Str → Option Value} {T54 : List (Addr × Obj)} {news : List (Addr × Obj)} {x : Int} {n : Nat} {tx tn : Tok}
  (hT : TabIs "_int2digits.<locals>.inner" 36 4 54 T54) (hn54 : ∀ q ∈ news, q.1 ≠ 54)
  (hx : 0 ≤ x) (hb : Builtin.Int.intBits x ≤ 200) (hn0 : 0 < n) (hn1 : n < 100) :
  CallsTo w p loose mean mg mb (fun base => CodeHd base 58 54) (T54 ++ news) 59 [.int x tx, .int n tn] 20 200
    (P59 T54 news n x) :=
  (h59 hn0 hn1).2 ⟨k59 hn0 hn1⟩ _ _ _ _ _ hT hn54 hx hb
end
section
theorem woff3 : True := by
  w_top off
  trivial
def At61 (w : World) (p : Program) (loose : List Str) (mean : ExcName → Option Value) (mg mb : Str → Option Value) (ns : List Int) (n : Nat) (Λ : List (Addr × Obj)) (f : Addr) (d : Nat) : Prop :=
  ∀ (lo hi : Int) (tl th : Tok), d ≤ 8 → 0 ≤ lo → lo < hi → hi ≤ ns.length → hi - lo ≤ 2 ^ d →
    CallsTo w p loose mean mg mb (fun _ => True) Λ f [.int lo tl, .int hi th] (d + 2) (8 * (d + 2)) (fun v Λ' => Λ' = Λ ∧ ∃ t, v = .int (dval n ((ns.drop lo.toNat).take (hi - lo).toNat)) t)
theorem at61_of {w : World} {p : Program} {loose : List Str} {mean : ExcName → Option Value} {mg mb : Str → Option Value} {ns : List Int} {n : Nat} {Λ : List (Addr × Obj)} {f : Addr}
    (base : ∀ (d : Nat) (lo hi : Int) (tl th : Tok), (lo + 1 == hi) = true → 0 ≤ lo → lo < ns.length → ns.getD lo.toNat 0 = dval n ((ns.drop lo.toNat).take (hi - lo).toNat) →
      CallsTo w p loose mean mg mb (fun _ => True) Λ f [.int lo tl, .int hi th] (d + 2) (8 * (d + 2)) (fun v Λ' => Λ' = Λ ∧ ∃ t, v = .int (dval n ((ns.drop lo.toNat).take (hi - lo).toNat)) t))
    (step : ∀ (d : Nat), At61 w p loose mean mg mb ns n Λ f d → ∀ (lo hi : Int) (tl th : Tok), d + 1 ≤ 8 → 0 ≤ lo → lo < hi → hi ≤ ns.length → hi - lo ≤ 2 ^ (d + 1) → lo + 1 ≠ hi →
      CallsTo w p loose mean mg mb (fun _ => True) Λ f [.int lo tl, .int hi th] (d + 1 + 2) (8 * (d + 1 + 2)) (fun v Λ' => Λ' = Λ ∧ ∃ t, v = .int (dval n ((ns.drop lo.toNat).take (hi - lo).toNat)) t)) : ∀ d, At61 w p loose mean mg mb ns n Λ f d := by
  intro d
  induction d with
  | zero =>
    intro lo hi tl th _ a1 a2 a3 a4
    have e : lo + 1 = hi := by simp at a4; omega
    exact base 0 lo hi tl th (by rw [e]; exact beq_self_eq_true _) a1 (by omega) (dval_one a1 e a3)
  | succ d ih =>
    intro lo hi tl th b0 a1 a2 a3 a4
    by_cases e : lo + 1 = hi
    · exact base (d + 1) lo hi tl th (by rw [e]; exact beq_self_eq_true _) a1 (by omega) (dval_one a1 e a3)
    · exact step d ih lo hi tl th b0 a1 a2 a3 a4 e
inductive P66 (T61 news : List (Addr × Obj)) (l : Addr) (vs : List Value) (ns : List Int) (nl n : Nat) (v : Value) (Λ' : List (Addr × Obj)) : Prop
  | mk (h1 : ∃ t, v = .int (dval n ns) t) (T61' : List (Addr × Obj)) (h2 : To61 T61 T61') (h3 : 2 ≤ T61'.length) (h4 : Λ' = T61' ++ (l, W.listOf vs.toArray nl) :: news) : P66 T61 news l vs ns nl n v Λ'
theorem rest66A {g h : Heap} {L : Addr} {f c x1 x2 x3 t e : Addr × Obj} {news : List (Addr × Obj)} {P : Prop} (N : News g L h (f :: c :: x1 :: x2 :: x3 :: t :: e :: news))
    (k : ∀ R, News g L h R → f ∈ R → c ∈ R → x1 ∈ R → x2 ∈ R → x3 ∈ R → e ∈ R → (∀ q ∈ [t, c] ++ e :: news, q ∈ R) → P) : P :=
  k _ N (.head _) (.tail _ (.head _)) (.tail _ (.tail _ (.head _))) (.tail _ (.tail _ (.tail _ (.head _)))) (.tail _ (.tail _ (.tail _ (.tail _ (.head _))))) (.tail _ (.tail _ (.tail _ (.tail _ (.tail _ (.tail _ (.head _)))))))
    (fmC (.tail _ (.tail _ (.tail _ (.tail _ (.tail _ (.head _)))))) (fmC (.tail _ (.head _)) (fun _ hq => .tail _ (.tail _ (.tail _ (.tail _ (.tail _ (.tail _ hq))))))))
theorem rest66B {g h : Heap} {L : Addr} {f c x1 x2 x3 t e : Addr × Obj} {news : List (Addr × Obj)} {P : Prop} (N : News g L h (f :: x1 :: x2 :: x3 :: t :: c :: e :: news))
    (k : ∀ R, News g L h R → f ∈ R → c ∈ R → x1 ∈ R → x2 ∈ R → x3 ∈ R → e ∈ R → (∀ q ∈ [t, c] ++ e :: news, q ∈ R) → P) : P :=
  k _ N (.head _) (.tail _ (.tail _ (.tail _ (.tail _ (.tail _ (.head _)))))) (.tail _ (.head _)) (.tail _ (.tail _ (.head _))) (.tail _ (.tail _ (.tail _ (.head _)))) (.tail _ (.tail _ (.tail _ (.tail _ (.tail _ (.tail _ (.head _)))))))
    (fun _ hq => .tail _ (.tail _ (.tail _ (.tail _ hq))))
theorem news_sub66 {g h : Heap} {L : Addr} {l R : List (Addr × Obj)} (N : News g L h R) (hs : ∀ q ∈ l, q ∈ R) : News g L h l := fun p hp => N p (hs p hp)
noncomputable def h66 {w : World} {p : Program} {loose : List Str} {mean : ExcName → Option Value} {mg mb : Str → Option Value} {n : Nat} (hn0 : 0 < n) (hn1 : n < 100) : (K : Prop) ×' (Nonempty K → ∀ (T61 : List (Addr × Obj)) (news : List (Addr × Obj)) (l : Addr) (vs : List Value) (ns : List Int) (nl : Nat) (tn : Tok)
  (_ : TabIs "_digits2int.<locals>.inner" 51 4 61 T61) (_ : ∀ q ∈ news, q.1 ≠ 61) (_ : l ≠ 61)
  (_ : IntsAre vs ns) (_ : ns.length < 100) (_ : ∀ x ∈ ns, 0 ≤ x ∧ x < 2 ^ n),
  CallsTo w p loose mean mg mb (fun base => CodeHd base 65 61) (T61 ++ (l, W.listOf vs.toArray nl) :: news) 66 [.ref l, .int n tn] 20 200
    (P66 T61 news l vs ns nl n)) := by
  refine' ⟨_, fun KEY => ?main⟩
  case main =>
  intro T61 news l vs ns nl tn hT hn61 hl61 hi hln2 hns dp un gd cn cs a ccd cl outer A₀ base h₀ L m s Q E B C61 F X N T hk hdp hun hret
  (revert X; k_fill; intro X)
  generalize hW : T61 ++ (l, W.listOf vs.toArray nl) :: news = W0 at N
  refine wpAny_call ?_
  k_dflt (walk_at "my_enter")
  with_reducible (rename Frag.In _ _ => X9)
  with_reducible (rename Fr _ _ _ _ => F9)
  have hLhi := hi_of F9 (X9 172 _ (by k_is))
  have lW : AllLt _ W0 := allLt_of (by assumption)
  iterate 1 walk1
  rename_i g' L' hA tkA FG' B' T' lL oA1 oA2 oA3 dA1 dA2 dA3 N'
  replace dA2 : oA2.data = .cell (some (.int n tn)) := dA2
  replace dA3 : oA3.data = .cell (some (.ref l)) := dA3
  rcases hT with e | ⟨c', oc, vs', t', e, hc9, hoc, hvs⟩
  case inl =>
    rw [e] at hW
    subst hW
    simp only [List.cons_append, List.nil_append] at N'
    replace lW : @LT.lt Nat _ 61 L' ∧ @LT.lt Nat _ l L' ∧ AllLt L' news := lW
    obtain ⟨lw1, lw3, lw2⟩ := lW
    iterate 3 walk1
    with_reducible (rename News _ _ _ _ => N1)
    rename_i f' c' oc vs' t' ct' dc' hE tkE hoc hvs lc ld hF oC F'' dD
    rw [Array.empty_append] at N1
    have hc9 : @LT.lt Nat _ 160 c' := Nat.lt_trans (Nat.lt_trans (by decide) (Nat.lt_trans hLhi (Nat.lt_succ_self _))) lc.2.2.1
    refine rest66A N1 (fun R NR hm1 hmC hmi hma hmn hml hsub => ?_)
    have hTo : To61 T61 [(61, tabObj #[rawInt 51, rawInt 4, .ref c']), (c', oc)] := ⟨.inr ⟨_, _, _, _, rfl, hc9, hoc, hvs⟩, fun h => absurd (e ▸ h) (by decide)⟩
    replace hsub : ∀ q ∈ [(61, tabObj #[rawInt 51, rawInt 4, .ref c']), (c', oc)] ++ (l, W.listOf vs.toArray nl) :: news, q ∈ R := hsub
    clear dA1 F N B N1 lw1 lw2 lw3 lL lc ld e hn61 hl61 hc9
    revert T61 news l vs ns nl tn dp un gd cn cs a ccd cl outer A₀ base h₀ L m s Q E g' L' f' c' oc vs' t' ct' dc' hF oA2 oA3 oC R tkE
    obtain ⟨K⟩ := KEY
    exact K
  case inr =>
    rw [e] at hW
    subst hW
    simp only [List.cons_append, List.nil_append] at N'
    replace lW : @LT.lt Nat _ 61 L' ∧ @LT.lt Nat _ c' L' ∧ @LT.lt Nat _ l L' ∧ AllLt L' news := lW
    obtain ⟨lw1, lw4, lw3, lw2⟩ := lW
    iterate 3 walk1
    with_reducible (rename News _ _ _ _ => N1)
    rename_i f' ct' dc' hE tkE lc hF oC F'' dD
    refine rest66B N1 (fun R NR hm1 hmC hmi hma hmn hml hsub => ?_)
    have hTo : To61 T61 [(61, tabObj #[rawInt 51, rawInt 4, .ref c']), (c', oc)] := ⟨.inr ⟨_, _, _, _, rfl, hc9, hoc, hvs⟩, fun _ => e.symm⟩
    replace hsub : ∀ q ∈ [(61, tabObj #[rawInt 51, rawInt 4, .ref c']), (c', oc)] ++ (l, W.listOf vs.toArray nl) :: news, q ∈ R := hsub
    clear dA1 F N B N1 lw1 lw2 lw3 lw4 lL lc e hn61 hl61
    obtain ⟨K⟩ := KEY
    apply K (oA2 := oA2) (oA3 := oA3) (oC := oC) (R := R) <;> assumption
theorem k66 {w : World} {p : Program} {loose : List Str} {mean : ExcName → Option Value} {mg mb : Str → Option Value} {n : Nat} (hn0 : 0 < n) (hn1 : n < 100) : (h66 (w := w) (p := p) (loose := loose) (mean := mean) (mg := mg) (mb := mb) hn0 hn1).1 := by
  conv => whnf
  intro T61 news l vs ns nl tn hi hln2 hns dp un gd cn cs a ccd cl outer A₀ base h₀ L m s Q E C61 T hk hdp hun hret X g' L' FG' B' X9 T' oA2 oA3 hLhi dA2 dA3 f' c' oc vs' t' ct' dc' tkE hoc hvs hF oC F'' dD R NR hm1 hmC hmi hma hmn hml hTo hsub
  have key : ∀ d, At61 w p loose mean mg mb ns n R f' d := by
    clear NR F'' FG' B' T' X9 T X hret hTo hsub hk hdp hun
    refine at61_of ?base ?step
    case base =>
      intro d lo hi tl th hb h0 h1 hv dp un gd cn cs a ccd cl outer A₀ base h₀ L m s Q E B _ F X N T hk hdp hun hret
      refine wpAny_call ?_
      k_dflt (walk_at "my_nest")
      k_steps
      exact hret _ _ _ _ (by k_asm) (by k_asm) ⟨rfl, _, by rw [← hv]⟩
    case step =>
      intro d ih lo hi tl th _ h0 h1 h2 h3 hne dp un gd cn cs a ccd cl outer A₀ base h₀ L m s Q E B _ F X N T hk hdp hun hret
      refine useG ?_
      intro P9 h9
      have hb : (lo + 1 == hi) = false := beq_eq_false_iff_ne.mpr hne
      obtain ⟨f1, f2, f3, f4⟩ := mid_facts h1 hne h0 h3
      obtain ⟨g1, g2⟩ := shift_facts h0 f1 f2 (by omega) hn1
      refine h9 ?_
      clear h9 P9
      have g3 := dval_bits hns hn1 hln2 ((lo + hi).fdiv (2 ^ Int.toNat 1)).toNat (hi - (lo + hi).fdiv (2 ^ Int.toNat 1)).toNat
      refine wpAny_call ?_
      k_dflt (walk_at "my_nest")
      k_steps
      k_dflt (refine' ih _ _ _ _ (by omega) (by omega) f2 h2 f3 _ _ _ _ _ _ _ _ _ _ _ _ _ _ _ _ _ ?k1 trivial ?k2 ?k3 ?k4 ?k5 ?k6 ?k7 ?k8 ?_; (case k1 => k_asm); (case k2 => k_asm); (case k3 => k_asm); (case k4 => k_asm); (case k5 => k_asm); (case k6 => first | exact rfl | assumption); (case k7 => ktr_room); (case k8 => ktr_units))
      intro v Λ' h' tk' F' N' hr
      obtain ⟨e, t, e2⟩ := hr
      subst e e2
      (try dsimp only)
      k_steps
      k_dflt (refine' ih _ _ _ _ (by omega) h0 f1 (by omega) f4 _ _ _ _ _ _ _ _ _ _ _ _ _ _ _ _ _ ?k1 trivial ?k2 ?k3 ?k4 ?k5 ?k6 ?k7 ?k8 ?_; (case k1 => k_asm); (case k2 => k_asm); (case k3 => k_asm); (case k4 => k_asm); (case k5 => k_asm); (case k6 => first | exact rfl | assumption); (case k7 => ktr_room); (case k8 => ktr_units))
      intro v Λ'' h' tk' F' N' hr
      obtain ⟨e, t, e2⟩ := hr
      subst e e2
      (try dsimp only)
      k_steps
      exact hret _ _ _ _ (by k_asm) (by k_asm) ⟨rfl, _, by rw [dval_mid h0 f1 f2 h2]⟩
  refine use_let F'' ?_
  intro m0 F0
  clear F''
  (try k_fold)
  k_steps
  have NR2 : News g' L' hF ((l, W.listOf vs.toArray nl) :: R) := fun p hp => (List.mem_cons.mp hp).elim (fun h => h ▸ NR _ hml) (NR p)
  iterate 1 walk1
  clear NR2
  k_steps
  · have NR2 : News g' L' hF ((l, W.listOf vs.toArray nl) :: R) := fun p hp => (List.mem_cons.mp hp).elim (fun h => h ▸ NR _ hml) (NR p)
    iterate 1 walk1
    clear NR2
    k_steps
    have hlen := IntsAre.length hi
    k_dflt (refine' key 7 _ _ _ _ (by omega) (by omega) (by omega) (by omega) (by omega) _ _ _ _ _ _ _ _ _ _ _ _ _ _ _ _ _ ?k1 trivial ?k2 ?k3 ?k4 ?k5 ?k6 ?k7 ?k8 ?_; (case k1 => k_asm); (case k2 => k_asm); (case k3 => k_asm); (case k4 => exact NR); (case k5 => k_asm); (case k6 => first | exact rfl | assumption); (case k7 => ktr_room); (case k8 => ktr_units))
    intro v Λ'' h' tk' F' N' hr
    obtain ⟨e, t, e2⟩ := hr
    subst e e2
    (try dsimp only)
    k_steps
    (try dsimp only)
    k_steps
    exact hret _ _ _ _ (by k_asm) (news_sub66 (by k_asm) hsub) ⟨⟨t, by simp⟩, _, hTo, Nat.le_refl _, rfl⟩
  · have hlen := IntsAre.length hi
    have h0 : ns = [] := List.length_eq_zero_iff.mp (by omega)
    (try dsimp only)
    k_steps
    exact hret _ _ _ _ (by k_asm) (news_sub66 (by k_asm) hsub) ⟨⟨_, by rw [h0]; rfl⟩, _, hTo, Nat.le_refl _, rfl⟩
theorem c66 {w : World} {p : Program} {loose : List Str} {mean : ExcName → Option Value} {mg mb : Str → Option Value} {T61 : List (Addr × Obj)} {news : List (Addr × Obj)} {l : Addr} {vs : List Value} {ns : List Int} {nl : Nat} {n : Nat} {tn : Tok}
  (hT : TabIs "_digits2int.<locals>.inner" 51 4 61 T61) (hn61 : ∀ q ∈ news, q.1 ≠ 61) (hl61 : l ≠ 61)
  (hi : IntsAre vs ns) (hn0 : 0 < n) (hn1 : n < 100) (hln2 : ns.length < 100) (hns : ∀ x ∈ ns, 0 ≤ x ∧ x < 2 ^ n) :
  CallsTo w p loose mean mg mb (fun base => CodeHd base 65 61) (T61 ++ (l, W.listOf vs.toArray nl) :: news) 66 [.ref l, .int n tn] 20 200
    (P66 T61 news l vs ns nl n) :=
  (h66 hn0 hn1).2 ⟨k66 hn0 hn1⟩ _ _ _ _ _ _ _ hT hn61 hl61 hi hln2 hns
end
section
theorem woff4 : True := by
  w_top off
  trivial
inductive I73 (m0 : Str → Option Value) (lq D : Addr) (vs : List Value) (R : List (Addr × Obj)) (Dn : Nat) (x y : Int) (i : Nat) (m : Str → Option Value) (nw : List (Addr × Obj)) : Prop
  | mk (r : Int) (t : Tok) (qs : List Int) (qv : List Value) (k : Nat) (h1 : m "r" = some (.int r t)) (h2 : (∀ z : Str, z ≠ "a_digit" → z ≠ "q_digit" → z ≠ "r" → m z = m0 z)) (h3 : nw = (lq, W.listOf (List.toArray qv) k) :: (D, W.listOf vs.toArray 0) :: R) (h4 : IntsAre qv qs) (h5 : DivInv (Builtin.Int.intBits y) Dn x y i r qs) : I73 m0 lq D vs R Dn x y i m nw
inductive P73 (T54 T61 news : List (Addr × Obj)) (x y : Int) (v : Value) (Λ' : List (Addr × Obj)) : Prop
  | mk (D : Addr) (t1 t2 : Tok) (k : Nat) (T54' T61' : List (Addr × Obj)) (h1 : v = .ref D) (h2 : @LT.lt Nat _ 160 D) (h3 : ∀ p ∈ news, @LT.lt Nat _ p.1 D) (h4 : To54 T54 T54') (h5 : To61 T61 T61') (h6 : Λ' = (D, tup2 (.int (x / y) t1) (.int (x % y) t2) k) :: (T54' ++ (T61' ++ news))) : P73 T54 T61 news x y v Λ'
theorem c73 {w : World} {p : Program} {loose : List Str} {mean : ExcName → Option Value} {mg mb : Str → Option Value} {T54 T61 news : List (Addr × Obj)} {x y : Int} {tx ty : Tok}
  (hT : Tab54 T54) (hT' : Tab61 T61) (hH : Hi news)
  (hx : 0 ≤ x) (hb : Builtin.Int.intBits x ≤ 200) (hy : 0 < y) (hby : Builtin.Int.intBits y < 100) (hDn : (Builtin.Int.intBits x + Builtin.Int.intBits y - 1) / Builtin.Int.intBits y < 100) :
  CallsTo w p loose mean mg mb (fun base => CodeHd base 58 54 ∧ CodeHd base 65 61) (T54 ++ (T61 ++ news)) 73 [.int x tx, .int y ty] 40 600
    (P73 T54 T61 news x y) := by
  intro dp un gd cn cs a ccd cl outer A₀ base h₀ L m s Q E B hC F X N T hk hdp hun hret
  obtain ⟨C54, C61⟩ := hC
  (revert X; k_fill; intro X)
  have hby0 : 0 < Builtin.Int.intBits y := by
    rcases Nat.eq_zero_or_pos (Builtin.Int.intBits y) with h | h
    · have := intBits_le_iff.mp (Nat.le_of_eq h); omega
    · exact h
  refine wpAny_call ?_
  k_dflt (walk_at "my_enter")
  k_steps
  k_dflt (refine' c59 hT (ne_app (hT'.ne (by decide) (by decide)) (hH.ne (by decide))) hx hb hby0 hby _ _ _ _ _ _ _ _ _ _ _ _ _ _ _ _ _ ?k1 ?kB ?k2 ?k3 ?k4 ?k5 ?k6 ?k7 ?k8 ?_; (case k1 => k_asm); (case kB => assumption); (case k2 => k_asm); (case k3 => k_asm); (case k4 => k_asm); (case k5 => k_asm); (case k6 => first | exact rfl | assumption); (case k7 => ktr_room); (case k8 => ktr_units))
  intro v Λ' h' tk' F' N' hr
  refine useG ?_
  intro P9 h9
  obtain ⟨D, vs, T54', e, hD1, hvs, hT2q, hf54, e2⟩ := hr
  have hT2 := hT2q.1
  subst e e2
  simp only [List.cons_append] at N'
  obtain ⟨R, hR⟩ : ∃ R, R = T54' ++ (T61 ++ news) := ⟨_, rfl⟩
  refine h9 ?_
  clear h9 P9
  rw [← hR] at N'
  (try dsimp only)
  have hlen := hvs.length
  rw [digs_length] at hlen
  k_steps
  with_reducible (rename News _ _ _ _ => N1)
  refine led_name2 N1 ?_
  intro lq hlq
  subst hlq
  with_reducible (rename D < lq ∧ AllLt lq R => lA)
  have hlqR : ∀ p ∈ R, p.1 ≠ lq := allLt_ne lA.2 (Nat.le_refl _)
  with_reducible (rename Fr _ _ _ _ => F1)
  (try k_fold)
  (try dsimp only at F1)
  refine use_let F1 ?_
  intro m0 F2
  clear F1
  have hD3 := (nd_facts hx hb hby0 hby).2.2.1
  have hD2 := (nd_facts hx hb hby0 hby).2.1
  generalize hDnn : (Builtin.Int.intBits x + Builtin.Int.intBits y - 1) / Builtin.Int.intBits y = Dn at hvs hlen hD3 hD2 hDn
  k_dflt (refine' iter_revUnr (lo := W.listOf vs.toArray 0) (vs := vs) (n := 0) rfl F2 N1 (offI_of ?ha) ?hb rfl rfl ?_)
  case ha => first | k_all | fail "ha"
  case hb => k_mem
  refine revRest_inv vs.reverse (I73 m0 lq D vs R Dn x y) ?turn ?done vs.reverse 0 _ _ rfl (Nat.zero_le _) ?init ?mem
  case mem => k_mem
  case init => exact ⟨0, _, [], [], _, by rfl, fun _ _ _ _ => rfl, rfl, .nil, .start hx hD3 hy⟩
  case turn =>
    intro i v m nw it h tk hv hlp hJ hc F N
    refine useG ?_
    intro P9 h9
    obtain ⟨r, t, qs, qv, k, hr, hm, hnw, hqv, hinv⟩ := hJ
    subst hnw
    obtain ⟨hil, d, td, hd, rfl⟩ := rev_item hvs hv
    rw [digs_length] at hil hd
    rw [digs_get _ _ _ _ (by omega)] at hd
    obtain ⟨hinv', d0, d1, hrd⟩ := hinv.turn hil d (Option.some.inj hd).symm
    obtain ⟨b1, b2⟩ := step_bits hinv.1 hinv.2.1 hby hby d0 d1
    refine h9 ?_
    clear h9 P9
    have em := frame3 hm
    rw [hr] at em
    generalize m "a_digit" = u1 at em
    generalize m "q_digit" = u2 at em
    clear hr hm
    subst em
    (try k_fold)
    (try dsimp only at F)
    k_steps
    (try simp only [Int.toNat_natCast])
    k_dflt (refine' c45 hrd hy b1 (by omega) _ _ _ _ _ _ _ _ _ _ _ _ _ _ _ _ _ ?k1 ?kB ?k2 ?k3 ?k4 ?k5 ?k6 ?k7 ?k8 ?_; (case k1 => k_asm); (case kB => exact trivial); (case k2 => k_asm); (case k3 => k_asm); (case k4 => k_asm); (case k5 => k_asm); (case k6 => first | exact rfl | assumption); (case k7 => ktr_room); (case k8 => ktr_units))
    intro v' Λ' h' tk' F' N' hr'
    refine useG ?_
    intro P9 h9
    obtain ⟨Dt, t1, t2, k2, e, _, e2⟩ := hr'
    subst e e2
    refine h9 ?_
    clear h9 P9
    (try dsimp only)
    k_steps
    with_reducible (rename News _ _ _ _ => N8)
    replace N8 := News.drop1 N8
    have hql : qv.toArray.size ≤ 1000 := by
      have := hqv.length; have := hinv.2.2.1; simp only [List.size_toArray]; omega
    k_steps
    with_reducible (rename News _ _ _ _ => N9)
    rw [List.push_toArray] at N9
    refine' UnrEnd.intro ?oF N9 _ (fun p hp => hp) ?off ⟨?om, _, _, _, _, _, ?or, ?oz, rfl, ints_snoc hqv, hinv'⟩
    case oF => k_asm
    case or => rfl
    case off => first | k_all | fail "off"
    case om => k_mem
    case oz => intro z h1 h2 h3; repeat (first | (with_reducible rfl) | (refine frN (by assumption) ?_))
  case done =>
    intro m nw h tk hJ hlp F N
    refine useG ?_
    intro P9 h9
    obtain ⟨r, t, qs, qv, k, hr, hm, hnw, hqv, hinv⟩ := hJ
    subst hnw
    refine h9 ?_
    clear h9 P9
    have em := frame3 hm
    rw [hr] at em
    generalize m "a_digit" = u1 at em
    generalize m "q_digit" = u2 at em
    clear hr hm
    subst em
    (try k_fold)
    rw [List.length_reverse, hlen] at hinv
    have hql := hinv.2.2.1
    have hql2 := hqv.length
    obtain ⟨v1, v2⟩ := hinv.fin hy
    subst v2
    k_steps
    dsimp only
    k_dflt (refine' kl_reverse (l := qv.reverse) ?F ?N rfl ?U ?z ?_; (case F => k_asm); (case N => k_asm); (case U => k_upd); (case z => (show qv.length ≤ sizeLine; rw [sizeLine_eq]; omega)))
    intro h' F' N'
    (try dsimp only)
    k_steps
    k_dflt (refine' c66 (T61 := T61) (news := (D, W.listOf vs.toArray 0) :: (T54' ++ news)) (l := lq) (vs := qv.reverse) (ns := qs.reverse) (nl := k) hT' ?u1 ?u2 (ints_rev hqv) hby0 hby ?u3 ?u4 _ _ _ _ _ _ _ _ _ _ _ _ _ _ _ _ _ ?k1 ?kB ?k2 ?k3 ?k4 ?k5 ?k6 ?k7 ?k8 ?_; (case k1 => k_asm); (case kB => exact C61); (case k2 => k_asm); (case k3 => k_asm); (case k4 => exact cb_drop (by k_asm) (by rw [hR]; intro p hp; simp only [List.mem_append, List.mem_cons] at hp ⊢; grind)); (case k5 => k_asm); (case k6 => first | exact rfl | assumption); (case k7 => ktr_room); (case k8 => ktr_units))
    case u1 => exact ne_cons (neN (by omega)) (ne_app (hT2.ne (by decide) (by decide)) (hH.ne (by decide)))
    case u2 => exact neN (by have h1 := lA.1; omega)
    case u3 => rw [List.length_reverse]; omega
    case u4 => exact fun q hq => hinv.2.2.2.1 q (List.mem_reverse.mp hq)
    intro v' Λ' h' tk' F' N' hr'
    refine useG ?_
    intro P9 h9
    obtain ⟨⟨t9, e⟩, T61', hT3q, hf61, e2⟩ := hr'
    refine h9 ?_
    clear h9 P9
    have hT3 := hT3q.1
    subst e e2
    rw [v1]
    (try dsimp only)
    k_steps
    with_reducible (rename ∀ p : Addr × Obj, p ∈ _ → _ => l9)
    have h8 := l9 (lq, W.listOf qv.reverse.toArray k) (by simp)
    have h7 := lA.1
    with_reducible (rename News _ _ _ _ => N5)
    refine led_name1 N5 ?_
    intro D9 h9
    subst h9
    exact hret _ ((D9, tup2 (.int (x / y) t9) (.int (x % y) t) 0) :: (T54' ++ (T61' ++ news))) _ _ (by k_asm) (cb_drop N5 (by intro p hp; simp only [List.mem_append, List.mem_cons] at hp ⊢; grind)) ⟨_, _, _, _, _, _, rfl, Nat.lt_trans hD1 (Nat.lt_trans h7 h8), fun p hp => l9 p (by simp [hp]), hT2q, hT3q, rfl⟩
end
section
theorem woff5 : True := by
  w_top off
  trivial
theorem c80 {w : World} {p : Program} {loose : List Str} {mean : ExcName → Option Value} {mg mb : Str → Option Value} {T54 T61 news : List (Addr × Obj)} {x y : Int} {tx ty : Tok}
  (hT : Tab54 T54) (hT' : Tab61 T61) (hH : Hi news)
  (hx : 0 ≤ x) (hb : Builtin.Int.intBits x ≤ 200) (hy : 0 < y) (hby : Builtin.Int.intBits y < 100) (hDn : (Builtin.Int.intBits x + Builtin.Int.intBits y - 1) / Builtin.Int.intBits y < 100) :
  CallsTo w p loose mean mg mb (fun base => CodeHd base 58 54 ∧ CodeHd base 65 61) (T54 ++ (T61 ++ news)) 80 [.int x tx, .int y ty] 60 900
    (P73 T54 T61 news x y) := by
  intro dp un gd cn cs a ccd cl outer A₀ base h₀ L m s Q E B hC F X N T hk hdp hun hret
  (revert X; k_fill; intro X)
  have q1 : ¬ y = 0 := by omega
  have q2 : ¬ y < 0 := by omega
  have q3 : ¬ x < 0 := by omega
  refine wpAny_call ?_
  k_dflt (walk_at "my_enter")
  k_steps
  case' _ => (exfalso; omega)
  k_dflt (refine' c73 hT hT' hH hx hb hy hby hDn _ _ _ _ _ _ _ _ _ _ _ _ _ _ _ _ _ ?k1 ?kB ?k2 ?k3 ?k4 ?k5 ?k6 ?k7 ?k8 ?_; (case k1 => k_asm); (case kB => exact hC); (case k2 => k_asm); (case k3 => k_asm); (case k4 => k_asm); (case k5 => k_asm); (case k6 => first | exact rfl | assumption); (case k7 => ktr_room); (case k8 => ktr_units))
  intro v Λ' h' tk' F' N' hr
  refine useG ?_
  intro P9 h9
  obtain ⟨D, t1, t2, k, T54', T61', e, h1, h1n, h2, h3, e2⟩ := hr
  subst e e2
  refine h9 ?_
  clear h9 P9
  (try dsimp only)
  k_steps
  exact hret _ _ _ _ (by k_asm) (by k_asm) ⟨_, _, _, _, _, _, rfl, h1, h1n, h2, h3, rfl⟩
end
end
section
local macro_rules | `(tactic| walk_at "call type:type") => `(tactic| ((with_reducible show wpAny _ _ (call _ [Value.bytes _ _]) _ _ _); refine call_type_of (Tx := "bytes") rfl (by decide +kernel) ?_))
local macro_rules | `(tactic| walk_at "exec For") => `(tactic| (k_here; (with_reducible (rename Fr _ _ _ _ => lF')); (with_unfolding_all refine' For_invVF lF' ?k1 ?k2 ?_; (case k1 => exact rfl); (case k2 => exact rfl); k_whole)))
local macro_rules | `(tactic| walk_at "exec For Name Name cons nil") => `(tactic| (k_here; (with_reducible (rename Fr _ _ _ _ => lF')); (with_unfolding_all refine' For_invVF lF' ?k1 ?k2 ?_; (case k1 => exact rfl); (case k2 => exact rfl); k_whole)))
local macro_rules | `(tactic| walk_at "exec For Name Call cons nil") => `(tactic| (k_here; (with_reducible (rename Fr _ _ _ _ => lF')); (with_unfolding_all refine' For_invVF lF' ?k1 ?k2 ?_; (case k1 => exact rfl); (case k2 => exact rfl); k_whole)))
section
theorem woff6 : True := by
  w_top off
  trivial
theorem c87 {w : World} {p : Program} {loose : List Str} {mean : ExcName → Option Value} {mg mb : Str → Option Value} {news : List (Addr × Obj)} {b : Array UInt8} {tb : Tok} :
  CallsTo w p loose mean mg mb (fun base => True) news 87 [.bytes b tb] 20 300
    (fun v Λ' => v = .bytes b tb ∧ Λ' = news) := by
  intro dp un gd cn cs a ccd cl outer A₀ base h₀ L m s Q E B hC F X N T hk hdp hun hret
  (revert X; k_fill; intro X)
  refine wpAny_call ?_
  k_dflt (walk_at "my_enter")
  k_steps
  exact hret _ _ _ _ (by k_asm) (by k_asm) ⟨rfl, rfl⟩
theorem c94 {w : World} {p : Program} {loose : List Str} {mean : ExcName → Option Value} {mg mb : Str → Option Value} {news : List (Addr × Obj)} :
  CallsTo w p loose mean mg mb (fun base => True) news 94 [.bool false] 20 300
    (fun v Λ' => v = .bool false ∧ Λ' = news) := by
  intro dp un gd cn cs a ccd cl outer A₀ base h₀ L m s Q E B hC F X N T hk hdp hun hret
  (revert X; k_fill; intro X)
  refine wpAny_call ?_
  k_dflt (walk_at "my_enter")
  k_steps
  exact hret _ _ _ _ (by k_asm) (by k_asm) ⟨rfl, rfl⟩
end
section
theorem woff7 : True := by
  w_top off
  trivial
inductive I102 (lq : Addr) (news : List (Addr × Obj)) (b : Array UInt8) (m0 : Str → Option Value) (i : Nat) (m : Str → Option Value) (nw : List (Addr × Obj)) : Prop
  | mk (lc lb : Int) (tc tl : Tok) (ov : List Value) (os : List Int) (k : Nat) (h1 : m "leftchar" = some (.int lc tc)) (h2 : m "leftbits" = some (.int lb tl)) (h3 : (∀ z : Str, z ≠ "b" → z ≠ "leftchar" → z ≠ "leftbits" → m z = m0 z)) (h4 : nw = (lq, W.listOf (List.toArray ov) k) :: news) (h5 : IntsAre ov os) (h6 : 0 ≤ lc) (h7 : lc < 65536) (h8 : lb = ((8 * i) % 6 : Nat)) (h9 : lc % 2 ^ (8 * i % 6) = bval ((KBw.bInts b).take i) % 2 ^ (8 * i % 6)) (h10 : os = sexts b64n (bval ((KBw.bInts b).take i)) (8 * i) (8 * i / 6)) : I102 lq news b m0 i m nw
inductive W102 (s : Shared) (g0 : Heap) (L0 : Addr) (m4 : Str → Option Value) (I lq : Addr) (it : Obj) (news : List (Addr × Obj)) (i : Nat) (V2 : Int) (n : Nat) (s' : Shared) : Prop
  | mk (h : Heap) (tk : Nat) (m' : Str → Option Value) (lbk : Int) (t : Nat) (tl : Tok) (ov : List Value) (os : List Int) (k : Nat) (h1 : s' = { s with heap := h, toks := tk }) (h2 : Fr g0 L0 h m') (h3 : m' "leftbits" = some (.int lbk tl)) (h4 : (∀ z : Str, z ≠ "leftbits" → m' z = m4 z)) (h5 : News g0 L0 h ((I, it) :: (lq, W.listOf (List.toArray ov) k) :: news)) (h6 : IntsAre ov os) (h7 : 0 ≤ lbk) (h8 : lbk ≤ ((8 * i % 6 + 8 : Nat) : Int)) (h9 : lbk + 6 * (t : Int) = 8 * i + 8) (h10 : os = sexts b64n V2 (8 * i + 8) t) (h11 : n = lbk.toNat) : W102 s g0 L0 m4 I lq it news i V2 n s'
theorem c102 {w : World} {p : Program} {loose : List Str} {mean : ExcName → Option Value} {mg mb : Str → Option Value} {news : List (Addr × Obj)} {b : Array UInt8} {tb : Tok} (hbs : b.size ≤ 30) (hb3 : b.size % 3 = 0) :
  CallsToK w p loose mean mg mb (fun base => True) news 102 [.bytes b tb] [(Str.ofString "newline", .bool false)] 60 900
    (fun v Λ' => (∃ t, v = .bytes (byteArr (sexts b64n (bval (KBw.bInts b)) (8 * b.size) (8 * b.size / 6))) t) ∧ Λ' = news) := by
  intro dp un gd cn cs a ccd cl outer A₀ base h₀ L m s Q E B hC F X N T hk hdp hun hret
  (revert X; k_fill; intro X)
  refine wpAny_call ?_
  k_dflt (walk_at "my_enter")
  k_steps
  k_dflt (refine' c87 _ _ _ _ _ _ _ _ _ _ _ _ _ _ _ _ _ ?k1 ?kB ?k2 ?k3 ?k4 ?k5 ?k6 ?k7 ?k8 ?_; (case k1 => k_asm); (case kB => exact trivial); (case k2 => k_asm); (case k3 => k_asm); (case k4 => k_asm); (case k5 => k_asm); (case k6 => first | exact rfl | assumption); (case k7 => ktr_room); (case k8 => ktr_units))
  intro v Λ' h' tk' F' N' hr
  obtain ⟨e, e2⟩ := hr
  subst e
  rw [e2] at N'
  clear e2
  (try dsimp only)
  k_steps
  k_dflt (refine' c94 _ _ _ _ _ _ _ _ _ _ _ _ _ _ _ _ _ ?k1 ?kB ?k2 ?k3 ?k4 ?k5 ?k6 ?k7 ?k8 ?_; (case k1 => k_asm); (case kB => exact trivial); (case k2 => k_asm); (case k3 => k_asm); (case k4 => k_asm); (case k5 => k_asm); (case k6 => first | exact rfl | assumption); (case k7 => ktr_room); (case k8 => ktr_units))
  intro v Λ' h' tk' F' N' hr
  obtain ⟨e, e2⟩ := hr
  subst e
  rw [e2] at N'
  clear e2
  (try dsimp only)
  iterate 20 walk1
  with_reducible (rename Fr _ _ _ _ => F1)
  with_reducible (rename News _ _ _ _ => N1)
  refine led_name1 N1 ?_
  intro lq hlq
  subst hlq
  with_reducible (rename ∀ p : Addr × Obj, p ∈ news → _ => lA)
  have hlqn : ∀ p ∈ news, p.1 ≠ lq := fun p hp => Nat.ne_of_lt (lA p hp)
  refine use_frN F1 ?_
  intro g0 L0 m00 hg0 hL0 hm0 F20
  clear F1
  (try k_fold)
  subst hg0 hL0 hm0
  (try dsimp only at F20)
  refine use_let F20 ?_
  intro m0 F2
  clear F20
  k_dflt (refine' iter_bytesUnr rfl F2 N1 rfl (fun I hI => ?_))
  refine bytesRest_inv (KBw.bInts b) (I102 lq news b m0) ?turn ?done _ 0 _ _ rfl (Nat.zero_le _) ?init
  case init => exact ⟨0, 0, _, _, [], [], _, by rfl, by rfl, fun _ _ _ _ => rfl, rfl, .nil, by omega, by omega, rfl, rfl, rfl⟩
  case done =>
    intro m nw h tk hJ F N
    refine useG ?_
    intro P9 h9
    obtain ⟨lc, lb, tc, tl, ov, os, k, e1, e2, hm, hnw, hov, q1, q2, q3, q4, q5⟩ := hJ
    subst hnw
    refine h9 ?_
    clear h9 P9
    have em := frame3 hm
    rw [e1, e2] at em
    generalize m "b" = u1 at em
    clear hm e1 e2
    subst em
    have hbl : (KBw.bInts b).length = b.size := KBw.ints_length b
    rw [hbl] at q3 q5
    have hlb0 : lb = 0 := by omega
    subst hlb0
    have hql : os.length ≤ 100 := by rw [q5, sexts_length]; omega
    (try dsimp only at F)
    have hob : ∀ n ∈ os, 0 ≤ n ∧ n < 256 := by rw [q5]; exact sexts_byte _ _ _
    k_steps
    have htk : List.take b.size (KBw.bInts b) = KBw.bInts b := List.take_of_length_le (by omega)
    rw [htk] at q5
    exact hret _ _ _ _ (by k_asm) (News.drop1 (by k_asm)) ⟨⟨_, by rw [q5]⟩, rfl⟩
  case turn =>
    intro i c m nw it u h tk hc c0 c1 hJ F N
    refine useG ?_
    intro P9 h9
    obtain ⟨lc, lb, tc, tl, ov, os, k, e1, e2, hm, hnw, hov, q1, q2, q3, q4, q5⟩ := hJ
    subst hnw
    refine h9 ?_
    clear h9 P9
    have em := frame3 hm
    rw [e1, e2] at em
    generalize m "b" = u1 at em
    clear hm e1 e2
    subst em
    (try k_fold)
    (try dsimp only at F)
    have hbits : Builtin.Int.intBits lc ≤ 16 := intBits_lt q1 (by omega)
    have hil : i < (KBw.bInts b).length := (List.getElem?_eq_some_iff.mp hc).1
    iterate 21 walk1
    rw [or_shift q1 c0 c1, and_low16, q3] at *
    have hilb : i < 30 := by rw [KBw.ints_length] at hil; omega
    have hV : bval ((KBw.bInts b).take (i + 1)) = bval ((KBw.bInts b).take i) * 256 + c := by rw [List.take_add_one, hc]; exact bval_snoc _ _
    have hlow := b64_turn (lc := lc) (V := bval ((KBw.bInts b).take i)) c0 c1 (lb := 8 * i % 6) (by omega) q4
    rw [← hV] at hlow
    have hsx := sexts_ext b64n (V := bval ((KBw.bInts b).take i)) (c := c) (nb := 8 * i) (t := 8 * i / 6) (by omega) c0 c1
    rw [← hV] at hsx
    have hlc0 : 0 ≤ (lc * 256 + c) % 65536 := Int.emod_nonneg _ (by decide)
    have hlc1 : (lc * 256 + c) % 65536 < 65536 := Int.emod_lt_of_pos _ (by decide)
    generalize hlc : (lc * 256 + c) % 65536 = lc2 at *
    generalize hVV : bval ((KBw.bInts b).take (i + 1)) = V2 at *
    with_reducible (rename Fr _ _ _ _ => F3)
    (try k_fold)
    (try dsimp only at F3)
    refine use_let F3 ?_
    intro m4 F4
    clear F3
    k_dflt (refine whl_start 1 ?_)
    refine whl_inv (by first | passes_own | with_unfolding_all passes_own) (W102 s g0 L0 m4 I lq it news i V2) ?wturn (8 * i % 6 + 8) _ ?winit
    case winit => exact ⟨_, _, _, (((8 * i % 6 : Nat) : Int) + 8), 8 * i / 6, _, ov, os, _, rfl, F4, by rfl, fun _ _ => rfl, by k_asm, hov, Int.add_nonneg (Int.natCast_nonneg _) (by decide), Int.le_refl _, by omega, by rw [hsx]; exact q5, rfl⟩
    case wturn =>
      intro n s' hz2
      refine useG ?_
      intro P9 h9
      obtain ⟨h, tk, m', lbk, t, tl, ov, os, k, rfl, F, e1, hm, N, hov, b1, b2, b3, hos, rfl⟩ := hz2
      refine h9 ?_
      clear h9 P9
      have em := frame1 hm
      rw [e1] at em
      clear hm e1
      subst em
      (try k_fold)
      k_steps
      by_cases hge : 6 ≤ lbk
      · refine WhlIf.yes (by simp [hge]) ?_
        obtain ⟨kk, hkk⟩ := Int.eq_ofNat_of_zero_le b1
        subst hkk
        obtain ⟨ek, e9, elt⟩ := w_turn b3 hge
        replace e9 := hid e9
        replace elt := hid elt
        have hidx := b64_idx (lc := lc2) (V := V2) (lb := 8 * i % 6 + 8) (k := kk) hlow (Int.ofNat_le.mp hge) (Int.ofNat_le.mp b2)
        rw [← ek] at hidx
        replace ek := hid ek
        have hix0 : 0 ≤ Builtin.bitAnd (lc2.fdiv (2 ^ ((kk : Int) - 6).toNat)) 63 ∧ Builtin.bitAnd (lc2.fdiv (2 ^ ((kk : Int) - 6).toNat)) 63 < 64 := by
          rw [hidx]; exact ⟨Int.emod_nonneg _ (by decide), Int.emod_lt_of_pos _ (by decide)⟩
        replace hidx := hid hidx
        have dI : @LT.lt Nat _ lq I := hI _ List.mem_cons_self
        have hql : ov.toArray.size ≤ 1000 := by
          have h1 := hov.length
          rw [hos, sexts_length] at h1
          simp only [List.size_toArray]; omega
        have b6 : 0 ≤ (kk : Int) - 6 := Int.sub_nonneg_of_le hge
        replace b3 := hid b3
        replace hos := hid hos
        k_steps
        replace b3 := b3.out
        replace hos := hos.out
        with_reducible (rename News _ _ _ _ => N9)
        rw [List.push_toArray] at N9
        refine ⟨((kk : Int) - 6).toNat, elt.out, _, _, _, (kk : Int) - 6, t + 1, _, _, _, _, rfl, by k_asm, rfl, ?oz, N9, ints_snoc hov, b6, Int.le_trans (Int.sub_le_self _ (by decide)) b2, by omega, ?oh, rfl⟩
        case oz => intro z h1; repeat (first | (with_reducible rfl) | (refine frN (by assumption) ?_))
        case oh =>
          rw [sexts_succ, ← hos]
          rw [e9.out, ← hidx.out]
          rfl
      · refine WhlIf.no (by simp [hge]) ?_
        have hq : t = 8 * (i + 1) / 6 ∧ lbk = ((8 * (i + 1)) % 6 : Nat) := by omega
        obtain ⟨hq1, hq2⟩ := hq
        k_steps
        refine' UnrEnd.intro ?oF N _ (fun p hp => hp) ?off ⟨lc2, lbk, _, _, _, _, _, ?o1, ?o2, ?oz, rfl, hov, hlc0, hlc1, hq2, ?o3, ?o4⟩
        case oF => k_asm
        case off => exact off_map hI rfl
        case o1 => rfl
        case o2 => rfl
        case oz => intro z h1 h2 h3; repeat (first | (with_reducible rfl) | (refine frN (by assumption) ?_))
        case o3 => rw [hVV]; exact low_of_low hlow (by omega)
        case o4 => rw [hVV]; rw [hos, hq1]; rfl
theorem c110 {w : World} {p : Program} {loose : List Str} {mean : ExcName → Option Value} {mg mb : Str → Option Value} {news : List (Addr × Obj)} {b : Array UInt8} {tb : Tok} (hbs : b.size ≤ 30) (hb3 : b.size % 3 = 0) :
  CallsTo w p loose mean mg mb (fun base => True) news 110 [.bytes b tb] 80 1200
    (fun v Λ' => (∃ t, v = .bytes (byteArr (sexts b64n (bval (KBw.bInts b)) (8 * b.size) (8 * b.size / 6))) t) ∧ Λ' = news) := by
  intro dp un gd cn cs a ccd cl outer A₀ base h₀ L m s Q E B hC F X N T hk hdp hun hret
  (revert X; k_fill; intro X)
  refine wpAny_call ?_
  k_dflt (walk_at "my_enter")
  k_steps
  k_dflt (refine' c102 hbs hb3 _ _ _ _ _ _ _ _ _ _ _ _ _ _ _ _ _ ?k1 ?kB ?k2 ?k3 ?k4 ?k5 ?k6 ?k7 ?k8 ?_; (case k1 => k_asm); (case kB => exact trivial); (case k2 => k_asm); (case k3 => k_asm); (case k4 => k_asm); (case k5 => k_asm); (case k6 => first | exact rfl | assumption); (case k7 => ktr_room); (case k8 => ktr_units))
  intro v Λ' h' tk' F' N' hr
  obtain ⟨⟨t9, e⟩, e2⟩ := hr
  subst e
  rw [e2] at N'
  clear e2
  (try dsimp only)
  k_steps
  exact hret _ _ _ _ (by k_asm) (by k_asm) ⟨⟨_, rfl⟩, rfl⟩
end
section
theorem woff8 : True := by
  w_top off
  trivial
theorem led_a {d p : Addr × Obj} {T T' r : List (Addr × Obj)} : ∀ q ∈ T' ++ d :: p :: (T ++ r), q ∈ d :: p :: (T ++ (T' ++ r)) := by
  intro q hq; simp only [List.mem_append, List.mem_cons] at hq ⊢; grind
theorem led_b {d p : Addr × Obj} {T T' r : List (Addr × Obj)} : ∀ q ∈ T ++ p :: (T' ++ r), q ∈ T' ++ d :: p :: (T ++ r) := by
  intro q hq; simp only [List.mem_append, List.mem_cons] at hq ⊢; grind
theorem led_c {p : Addr × Obj} {T T' r : List (Addr × Obj)} : ∀ q ∈ p :: (T ++ (T' ++ r)), q ∈ T ++ p :: (T' ++ r) := by
  intro q hq; simp only [List.mem_append, List.mem_cons] at hq ⊢; grind
inductive P148 (T54 T61 news : List (Addr × Obj)) (P : Addr) (vs : List Value) (pl : List Int) (k : Nat) (v : Value) (Λ' : List (Addr × Obj)) : Prop
  | mk (t : Tok) (T54' T61' : List (Addr × Obj)) (h1 : v = .str (txt pl) t) (h2 : To54 T54 T54') (h3 : To61 T61 T61') (h4 : 2 ≤ T54'.length) (h5 : 2 ≤ T61'.length) (h6 : Λ' = (P, W.listOf vs.toArray k) :: (T54' ++ (T61' ++ news))) : P148 T54 T61 news P vs pl k v Λ'
theorem c148 {w : World} {p : Program} {loose : List Str} {mean : ExcName → Option Value} {mg mb : Str → Option Value} {T54 T61 news : List (Addr × Obj)} {P : Addr} {vs : List Value} {pl : List Int} {k : Nat}
  (hT : Tab54 T54) (hT' : Tab61 T61) (hH : Hi news) (hP : P ≠ 54 ∧ P ≠ 61) (hvs : IntsAre vs pl) (hp : ∀ q ∈ pl, 0 ≤ q ∧ q < 64) (hl : pl.length = 4) :
  CallsTo w p loose mean mg mb (fun base => CodeHd base 58 54 ∧ CodeHd base 65 61) ((P, W.listOf vs.toArray k) :: (T54 ++ (T61 ++ news))) 148 [.ref P] 120 1800
    (P148 T54 T61 news P vs pl k) := by
  intro dp un gd cn cs a ccd cl outer A₀ base h₀ L m s Q E B hC F X N T hk hdp hun hret
  (revert X; k_fill; intro X)
  have hvl := hvs.length
  obtain ⟨num0, num1⟩ := number_lt (k := 3) hp hl (by decide)
  have hsx := sexts_places (k := 3) hp hl (by decide)
  refine wpAny_call ?_
  k_dflt (walk_at "my_enter")
  k_steps
  with_reducible (rename News _ _ _ _ => N1)
  with_reducible (rename _ ∧ AllLt _ _ => l1)
  obtain ⟨o61, m61⟩ := tab_mem hT'
  have hD1 := allLt_ne l1.2 (Nat.le_refl _) _ (List.mem_append_right _ (List.mem_append_left _ m61))
  have n61 : ∀ q ∈ (P, W.listOf vs.toArray k) :: (T54 ++ news), q.1 ≠ 61 := by
    intro q hq
    rcases List.mem_cons.mp hq with rfl | hq
    · exact hP.2
    rcases List.mem_append.mp hq with hq | hq
    · exact hT.ne (by decide) (by decide) q hq
    · exact (hH q hq).2
  k_dflt (refine' c66 (n := 6) hT' (news := (P, W.listOf vs.toArray k) :: (T54 ++ news)) n61 (Ne.symm hD1) (by assumption) (by decide) (by decide) (by rw [List.length_reverse]; omega) (fun q hq => hp q (List.mem_reverse.mp hq)) _ _ _ _ _ _ _ _ _ _ _ _ _ _ _ _ _ ?k1 ?kB ?k2 ?k3 ?k4 ?k5 ?k6 ?k7 ?k8 ?_; (case k1 => k_asm); (case kB => exact hC.2); (case k2 => k_asm); (case k3 => k_asm); (case k4 => exact led_sub N1 led_a); (case k5 => k_asm); (case k6 => first | exact rfl | assumption); (case k7 => ktr_room); (case k8 => ktr_units))
  intro v Λ' h' tk' F' N' hr
  refine useG ?_
  intro P9 h9
  obtain ⟨⟨t6, e⟩, T61', hT61, hf61, e2⟩ := hr
  subst e
  refine h9 ?_
  clear h9 P9
  rw [e2] at N'
  clear e2
  replace N' := led_sub N' (led_b (T := T54))
  clear N1 l1 hD1
  (try dsimp only)
  k_steps
  have n54 : ∀ q ∈ (P, W.listOf vs.toArray k) :: (T61' ++ news), q.1 ≠ 54 := by
    intro q hq
    rcases List.mem_cons.mp hq with rfl | hq
    · exact hP.1
    rcases List.mem_append.mp hq with hq | hq
    · exact hT61.1.ne (by decide) (by decide) q hq
    · exact (hH q hq).1
  have hb := intBits_lt num0 num1
  k_dflt (refine' c59 (n := 8) hT n54 num0 (by omega) (by decide) (by decide) _ _ _ _ _ _ _ _ _ _ _ _ _ _ _ _ _ ?k1 ?kB ?k2 ?k3 ?k4 ?k5 ?k6 ?k7 ?k8 ?_; (case k1 => k_asm); (case kB => exact hC.1); (case k2 => k_asm); (case k3 => k_asm); (case k4 => k_asm); (case k5 => k_asm); (case k6 => first | exact rfl | assumption); (case k7 => ktr_room); (case k8 => ktr_units))
  intro v Λ' h' tk' F' N' hr
  refine useG ?_
  intro P9 h9
  obtain ⟨D, ws, T54', e, hD1, hws, hT2, hf54, e2⟩ := hr
  subst e e2
  simp only [List.cons_append] at N'
  obtain ⟨R, hR⟩ : ∃ R, R = T54' ++ (P, W.listOf vs.toArray k) :: (T61' ++ news) := ⟨_, rfl⟩
  refine h9 ?_
  clear h9 P9
  rw [← hR] at N'
  (try dsimp only)
  have hlen := hws.length
  rw [digs_length] at hlen
  have hDk : (Builtin.Int.intBits (dval 6 pl.reverse) + 8 - 1) / 8 ≤ 3 := by omega
  generalize hDn : (Builtin.Int.intBits (dval 6 pl.reverse) + 8 - 1) / 8 = Dn at hws hlen hDk
  have hdl : (digs 8 Dn (dval 6 pl.reverse)).length = Dn := digs_length _ _ _
  have hdm := digs_mem 8 Dn (dval 6 pl.reverse)
  generalize hds : digs 8 Dn (dval 6 pl.reverse) = ds at hws hdl hdm
  k_steps
  have htk : List.take 3 (ds ++ [0, 0, 0]) = ds ++ List.replicate (3 - ds.length) 0 := by
    rcases ds with _ | ⟨d1, _ | ⟨d2, _ | ⟨d3, _ | ⟨d4, r⟩⟩⟩⟩
    · rfl
    · rfl
    · rfl
    · rfl
    · simp only [List.length_cons] at hdl; omega
  with_reducible (rename IntsAre _ (List.reverse (List.take _ _)) => hI9)
  rw [htk] at hI9
  have hos1 : bval (ds ++ List.replicate (3 - ds.length) 0).reverse = dval 6 pl.reverse := by
    rw [bval_rev, dval_zeros, ← hds, dval_digs 8 Dn _ num0 (by rw [← hDn]; exact (nd_facts (n := 8) num0 (by omega) (by decide) (by decide)).2.2.1)]
  have hos2 : (ds ++ List.replicate (3 - ds.length) 0).reverse.length = 3 := by
    rw [List.length_reverse, List.length_append, List.length_replicate]; exact Nat.add_sub_cancel' (by rw [hdl]; exact hDk)
  have hos3 : ∀ n ∈ (ds ++ List.replicate (3 - ds.length) 0).reverse, 0 ≤ n ∧ n < 256 := by
    intro n hn
    rcases List.mem_append.mp (List.mem_reverse.mp hn) with h | h
    · exact hdm n h
    · rw [(List.mem_replicate.mp h).2]; omega
  generalize (ds ++ List.replicate (3 - ds.length) 0).reverse = os at hI9 hos1 hos2 hos3
  k_steps
  k_dflt (refine' c110 (by rw [byteArr_size, hos2]; decide) (by rw [byteArr_size, hos2]) _ _ _ _ _ _ _ _ _ _ _ _ _ _ _ _ _ ?k1 ?kB ?k2 ?k3 ?k4 ?k5 ?k6 ?k7 ?k8 ?_; (case k1 => k_asm); (case kB => exact trivial); (case k2 => k_asm); (case k3 => k_asm); (case k4 => k_asm); (case k5 => k_asm); (case k6 => first | exact rfl | assumption); (case k7 => ktr_room); (case k8 => ktr_units))
  intro v Λ' h' tk' F' N' hr
  obtain ⟨⟨t9, e⟩, e2⟩ := hr
  subst e
  rw [e2] at N'
  clear e2
  (try dsimp only)
  k_steps
  refine decode_ascii (sexts_ascii _ _ _) (by rw [byteArr_size, sexts_length, byteArr_size, hos2]; decide) (by rw [byteArr_size, sexts_length, byteArr_size, hos2]; decide) ?_
  intro t8 k8
  rw [txt_dec, bInts_byteArr hos3, hos1, byteArr_size, hos2]
  k_steps
  rw [hsx]
  refine hret _ ((P, W.listOf vs.toArray k) :: (T54' ++ (T61' ++ news))) _ _ (by k_asm) ?nw ⟨_, _, _, rfl, hT2, hT61, hf54, hf61, rfl⟩
  case nw =>
    refine led_sub (a := T54' ++ (P, W.listOf vs.toArray k) :: (T61' ++ news)) ?_ led_c
    exact hR ▸ News.drop1 (News.drop1 (News.drop1 (News.drop1 (News.drop1 (by k_asm)))))
end
section
theorem woff9 : True := by
  w_top off
  trivial

end
end
section
local macro_rules | `(tactic| walk_at "exec For Tuple Call cons nil") => `(tactic| (k_here; (with_reducible (rename Fr _ _ _ _ => lF')); (with_unfolding_all refine' For_turns lF' ?_; k_whole)))
section
theorem woff10 : True := by
  w_top off
  trivial
theorem mulOk_nat {a b : Int} (x y : Nat) (ha : a = x) (hb : b = y) (hx : x < 2 ^ 1000) (hy : y < 2 ^ 1000) : IntMulOk a b := by
  subst ha hb
  have h1 : Builtin.Int.intBits (x : Int) ≤ 1000 := intBits_lt (Int.natCast_nonneg _) (by exact_mod_cast hx)
  have h2 : Builtin.Int.intBits (y : Int) ≤ 1000 := intBits_lt (Int.natCast_nonneg _) (by exact_mod_cast hy)
  exact .of_bits (Nat.le_trans h1 (by decide)) (Nat.le_trans h2 (by decide))
def prodTo (ps cs : List Int) : Nat → Int
  | 0 => 1
  | i + 1 => prodTo ps cs i * (ps.getD i 0) ^ (cs.getD i 0).toNat
theorem prodTo_nat {ps cs : List Int} (hp : ∀ x ∈ ps, 0 ≤ x ∧ x ≤ 7) (hc : ∀ x ∈ cs, 0 ≤ x ∧ x ≤ 50) {x c : Int} (hx : x ∈ ps) (hcx : c ∈ cs) : ∃ n : Nat, x ^ c.toNat = n ∧ n ≤ 7 ^ 50 := by
  refine useG ?_
  intro P9 h9
  obtain ⟨n, rfl⟩ := Int.eq_ofNat_of_zero_le (hp x hx).1
  obtain ⟨m, rfl⟩ := Int.eq_ofNat_of_zero_le (hc c hcx).1
  refine h9 ?_
  clear h9 P9
  exact ⟨n ^ m, rfl, Nat.le_trans (Nat.pow_le_pow_left (Int.ofNat_le.mp (hp _ hx).2) m) (Nat.pow_le_pow_right (by decide) (Int.ofNat_le.mp (hc _ hcx).2))⟩
theorem prodTo_le {ps cs : List Int} (hp : ∀ x ∈ ps, 0 ≤ x ∧ x ≤ 7) (hc : ∀ x ∈ cs, 0 ≤ x ∧ x ≤ 50) : ∀ i, i ≤ ps.length → i ≤ cs.length → ∃ n : Nat, prodTo ps cs i = n ∧ n ≤ (7 ^ 50) ^ i
  | 0, _, _ => ⟨1, rfl, Nat.le_refl _⟩
  | i + 1, h, h' => by
    refine useG ?_
    intro P9 h9
    obtain ⟨n, e, hn⟩ := prodTo_le hp hc i (Nat.le_of_succ_le h) (Nat.le_of_succ_le h')
    have m1 : ps.getD i 0 ∈ ps := by rw [List.getD_eq_getElem?_getD, List.getElem?_eq_getElem h]; exact List.getElem_mem _
    have m2 : cs.getD i 0 ∈ cs := by rw [List.getD_eq_getElem?_getD, List.getElem?_eq_getElem h']; exact List.getElem_mem _
    obtain ⟨q, e2, hq⟩ := prodTo_nat hp hc m1 m2
    refine h9 ?_
    clear h9 P9
    exact ⟨n * q, by unfold prodTo; rw [e, e2]; rfl, Nat.mul_le_mul hn hq⟩
theorem prodTo_ok {ps cs : List Int} (hp : ∀ x ∈ ps, 0 ≤ x ∧ x ≤ 7) (hc : ∀ x ∈ cs, 0 ≤ x ∧ x ≤ 50) {i : Nat} (h4 : ps.length = 4) {x c : Int} (hx : ps[i]? = some x) (hcx : cs[i]? = some c) : prodTo ps cs (i + 1) = prodTo ps cs i * x ^ c.toNat ∧ IntMulOk (prodTo ps cs i) (x ^ c.toNat) := by
  have h1 := (List.getElem?_eq_some_iff.mp hx).1
  have h2 := (List.getElem?_eq_some_iff.mp hcx).1
  refine useG ?_
  intro P9 h9
  obtain ⟨n, e, hn⟩ := prodTo_le hp hc i (Nat.le_of_lt h1) (Nat.le_of_lt h2)
  obtain ⟨q, e2, hq⟩ := prodTo_nat hp hc (List.mem_of_getElem? hx) (List.mem_of_getElem? hcx)
  refine h9 ?_
  clear h9 P9
  have hi : i ≤ 3 := Nat.le_of_lt_succ (Nat.lt_of_lt_of_eq h1 h4)
  exact ⟨by show _ * (ps.getD i 0) ^ (cs.getD i 0).toNat = _; rw [List.getD_eq_getElem?_getD, List.getD_eq_getElem?_getD, hx, hcx]; rfl, mulOk_nat n q e e2 (Nat.lt_of_le_of_lt (Nat.le_trans hn (Nat.pow_le_pow_right (by decide) hi)) (by decide)) (Nat.lt_of_le_of_lt hq (by decide))⟩
theorem c141 {w : World} {p : Program} {loose : List Str} {mean : ExcName → Option Value} {mg mb : Str → Option Value} {news : List (Addr × Obj)} {D : Addr} {a b c d : Int} {ta tb tc td : Tok} {k : Nat}
  (ha : 0 ≤ a ∧ a ≤ 50) (hb : 0 ≤ b ∧ b ≤ 50) (hc : 0 ≤ c ∧ c ≤ 50) (hd : 0 ≤ d ∧ d ≤ 50) :
  CallsTo w p loose mean mg mb (fun base => True) ((D, W.listOf #[.int a ta, .int b tb, .int c tc, .int d td] k) :: news) 141 [.ref D] 80 1200
    (fun v Λ' => ∃ t, v = .int (2 ^ a.toNat * 3 ^ b.toNat * 5 ^ c.toNat * 7 ^ d.toNat) t ∧ Λ' = (D, W.listOf #[.int a ta, .int b tb, .int c tc, .int d td] k) :: news) := by
  intro dp un gd cn cs aa ccd cl outer A₀ base h₀ L m s Q EE B hC F X N T hk hdp hun hret
  have hb1 : ∀ x ∈ [a, b, c, d], 0 ≤ x ∧ x ≤ 50 := fmC ha (fmC hb (fmC hc (fmC hd fm0)))
  have hb0 : ∀ x ∈ [(2 : Int), 3, 5, 7], 0 ≤ x ∧ x ≤ 7 := by decide
  (revert X; k_fill; intro X)
  refine wpAny_call ?_
  k_dflt (walk_at "my_enter")
  iterate 25 walk1
  with_reducible (rename Fr _ _ _ _ => F1)
  with_reducible (rename News _ _ _ _ => N1)
  rename_i lp hq lq
  (try k_fold)
  (try dsimp only at F1)
  refine use_let F1 ?_
  intro m0 F2
  clear F1
  with_unfolding_all refine ktu_zip (by rfl) F2 N1 (by k_mem) (by rfl) (by rfl) (by k_mem) (by rfl) (by rfl) ?_
  intro I lI
  refine itemsRest_inv (all := zipItems [.int 2 (tk + 1 + 1), .int 3 (tk + 1 + 1 + 1), .int 5 (tk + 1 + 1 + 1 + 1), .int 7 (tk + 1 + 1 + 1 + 1 + 1)] [.int a ta, .int b tb, .int c tc, .int d td]) (fun i m nw => nw = (lp, W.listOf #[.int 2 (tk + 1 + 1), .int 3 (tk + 1 + 1 + 1), .int 5 (tk + 1 + 1 + 1 + 1), .int 7 (tk + 1 + 1 + 1 + 1 + 1)] 0) :: (D, W.listOf #[.int a ta, .int b tb, .int c tc, .int d td] k) :: news ∧ (∃ t, m "told" = some (.int (prodTo [2, 3, 5, 7] [a, b, c, d] i) t)) ∧ (∀ z : Str, z ≠ "told" → z ≠ "prime" → z ≠ "many" → m z = m0 z)) ?turn ?done _ 0 _ _ rfl (Nat.zero_le _) ?init
  case init => exact ⟨rfl, ⟨_, by rfl⟩, fun _ _ _ _ => rfl⟩
  case done =>
    intro m nw hz2 h tk F N
    refine useG ?_
    intro P9 h9
    obtain ⟨rfl, ⟨t, hp⟩, hm⟩ := hz2
    refine h9 ?_
    clear h9 P9
    have em := frame3 hm
    rw [hp] at em
    generalize m "prime" = u1 at em
    generalize m "many" = u2 at em
    clear hp hm
    subst em
    (try k_fold)
    (try dsimp only)
    k_steps
    exact hret _ _ _ _ (by k_asm) (News.drop1 (by k_asm)) ⟨_, by rw [← Int.one_mul (2 ^ a.toNat)]; rfl, rfl⟩
  case turn =>
    intro i it m nw rest hi hz6 hrest v h tk hv F
    refine useG ?_
    intro P9 h9
    obtain ⟨rfl, ⟨t, hp⟩, hm⟩ := hz6
    obtain ⟨x, y, hx, hy, rfl⟩ := zipItems_at _ _ _ hi
    obtain ⟨T1, t1, rfl, hT1⟩ := hv
    obtain ⟨st, tx, hx2, rfl⟩ := ints_item (ns := [2, 3, 5, 7]) (.cons _ _ (.cons _ _ (.cons _ _ (.cons _ _ .nil)))) hx
    obtain ⟨ga, ty, hy2, rfl⟩ := ints_item (ns := [a, b, c, d]) (.cons _ _ (.cons _ _ (.cons _ _ (.cons _ _ .nil)))) hy
    have b1 := hb0 st (List.mem_of_getElem? hx2)
    have b2 := hb1 ga (List.mem_of_getElem? hy2)
    have b3 : st.natAbs < 2 ^ 64 := Int.ofNat_lt.mp (by rw [Int.natAbs_of_nonneg b1.1]; exact Int.lt_of_le_of_lt b1.2 (by decide))
    have b4 : ga ≤ 1000000 := Int.le_trans b2.2 (by decide)
    have b5 := b2.1
    obtain ⟨e1, okm⟩ := prodTo_ok hb0 hb1 rfl hx2 hy2
    refine h9 ?_
    clear h9 P9
    have em := frame3 hm
    rw [hp] at em
    generalize m "prime" = u1 at em
    generalize m "many" = u2 at em
    clear hp hm
    subst em
    (try k_fold)
    ktu_objs
    (try dsimp only)
    iterate 20 walk1
    with_reducible (rename Fr _ _ _ _ => F3)
    with_reducible (rename News _ _ _ _ => N3)
    refine' endW F3 N3 (off5 lI) (hrest _ _ ⟨by k_mem, by k_mem, trivial⟩ ⟨rfl, ⟨_, ?pp⟩, ?zz⟩)
    case zz => intro z h1 h2 h3; repeat (first | (with_reducible rfl) | (refine frN (by assumption) ?_))
    case pp => rw [e1]; rfl
end
section
theorem woff11 : True := by
  w_top off
  trivial
theorem str_len_add (x y : PySem.Str) : (x ++ y).length = x.length + y.length := by
  show (x.cps ++ y.cps).size = _
  rw [Array.size_append]; rfl
theorem l_q : (PySem.Str.ofString "?").length = 1 := by decide +kernel
theorem l_b : (PySem.Str.ofString "[").length = 1 := by decide +kernel
theorem l_u : (PySem.Str.ofString "-Za-z0-9+/]").length = 11 := by decide +kernel
theorem l_l : (PySem.Str.ofString "-z0-9+/]").length = 8 := by decide +kernel
local macro_rules | `(tactic| walk_at "inplaceOp Add str str") => `(tactic| ((refine iadd_str (hsz := ?hsz) ?_); (case hsz => simp only [str_len_add, l_q, l_b, l_u, l_l, sizeLine_eq]; omega); intro _ _))
local macro_rules | `(tactic| walk_at "binaryOp Add str str") => `(tactic| ((refine add_str (hsz := ?hsz) ?_); (case hsz => simp only [str_len_add, l_q, l_b, l_u, l_l, sizeLine_eq]; omega); intro _ _))
/-- the signs of an item of a glob -/
def setC (least : Int) : List Nat := 91 :: (b64n least).toNat :: (if least < 26 then [45, 90, 97, 45, 122, 48, 45, 57, 43, 47, 93] else [45, 122, 48, 45, 57, 43, 47, 93])
def itemC (start gain : Int) : List Nat := if 0 ≤ gain then [63] else setC (start - gain)
def globC (starts gains : List Int) : List Nat := (List.zipWith itemC starts gains).flatten
theorem str_app (a b : List Nat) : (⟨a.toArray⟩ : PySem.Str) ++ ⟨b.toArray⟩ = ⟨(a ++ b).toArray⟩ := by
  show (⟨a.toArray ++ b.toArray⟩ : PySem.Str) = _
  rw [List.append_toArray]
theorem s_q : PySem.Str.ofString "?" = ⟨[63].toArray⟩ := by decide +kernel
theorem s_b : PySem.Str.ofString "[" = ⟨[91].toArray⟩ := by decide +kernel
theorem s_u : PySem.Str.ofString "-Za-z0-9+/]" = ⟨[45, 90, 97, 45, 122, 48, 45, 57, 43, 47, 93].toArray⟩ := by decide +kernel
theorem s_l : PySem.Str.ofString "-z0-9+/]" = ⟨[45, 122, 48, 45, 57, 43, 47, 93].toArray⟩ := by decide +kernel
theorem glob_snoc {ss gs : List Int} {i : Nat} {st ga : Int} (h : ss[i]? = some st) (h' : gs[i]? = some ga) : globC (ss.take (i + 1)) (gs.take (i + 1)) = globC (ss.take i) (gs.take i) ++ itemC st ga := by
  unfold globC
  have e1 : i < ss.length := (List.getElem?_eq_some_iff.mp h).1
  have e2 : i < gs.length := (List.getElem?_eq_some_iff.mp h').1
  have e3 : ss[i] = st := (List.getElem?_eq_some_iff.mp h).2
  have e4 : gs[i] = ga := (List.getElem?_eq_some_iff.mp h').2
  rw [List.take_succ_eq_append_getElem e1, List.take_succ_eq_append_getElem e2, List.zipWith_append (by rw [List.length_take, List.length_take]; omega), List.flatten_append, e3, e4]
  simp
theorem set_lo {st ga : Int} (h : ¬ 0 ≤ ga) (h' : st - ga < 26) : itemC st ga = ([91] ++ [(b64n (st - ga)).toNat]) ++ [45, 90, 97, 45, 122, 48, 45, 57, 43, 47, 93] := by
  unfold itemC setC; rw [if_neg h, if_pos h']; rfl
theorem set_hi {st ga : Int} (h : ¬ 0 ≤ ga) (h' : ¬ st - ga < 26) : itemC st ga = ([91] ++ [(b64n (st - ga)).toNat]) ++ [45, 122, 48, 45, 57, 43, 47, 93] := by
  unfold itemC setC; rw [if_neg h, if_neg h']; rfl
theorem item_le (st ga : Int) : (itemC st ga).length ≤ 13 := by
  unfold itemC setC
  split
  · simp
  · split <;> simp
theorem glob_le : ∀ {ss gs : List Int}, ss.length ≤ 4 → (⟨(globC ss gs).toArray⟩ : PySem.Str).length ≤ 60 := by
  have key : ∀ (ss gs : List Int), (globC ss gs).length ≤ 13 * ss.length := by
    intro ss
    induction ss with
    | nil => intro gs; simp [globC]
    | cons s r ih =>
      intro gs
      cases gs with
      | nil => simp [globC]
      | cons g q =>
        have h1 := ih q
        have h2 := item_le s g
        unfold globC at h1 ⊢
        simp only [List.zipWith_cons_cons, List.flatten_cons, List.length_append, List.length_cons]
        omega
  intro ss gs h
  have h1 := key ss gs
  have h2 : (⟨(globC ss gs).toArray⟩ : PySem.Str).length = (globC ss gs).length := by simp [Str.length]
  rw [h2]; omega
theorem c155 {w : World} {p : Program} {loose : List Str} {mean : ExcName → Option Value} {mg mb : Str → Option Value} {news : List (Addr × Obj)} {S M : Addr} {vs ws : List Value} {ss gs : List Int} {k1 k2 : Nat} {ts : Tok}
  (hs : IntsAre vs ss) (hg : IntsAre ws gs) (hs4 : ss.length = 4) (hg4 : gs.length = 4) (hsb : ∀ x ∈ ss, 0 ≤ x ∧ x ≤ 40) (hgb : ∀ x ∈ gs, -2 ≤ x ∧ x ≤ 2) (hS : (S, W.listOf vs.toArray k1) ∈ news) (hM : (M, W.listOf ws.toArray k2) ∈ news) :
  CallsTo w p loose mean mg mb (fun base => True) news 155 [.str (PySem.Str.ofString "ABCDEFGHIJKLMNOPQRSTUVWXYZabcdefghijklmnopqrstuvwxyz0123456789+/") ts, .ref S, .ref M] 80 1200
    (fun v Λ' => ∃ t, v = .str ⟨(globC ss gs).toArray⟩ t ∧ Λ' = news) := by
  intro dp un gd cn cs aa ccd cl outer A₀ base h₀ L m s Q EE B hC F X N T hk hdp hun hret
  (revert X; k_fill; intro X)
  refine wpAny_call ?_
  k_dflt (walk_at "my_enter")
  iterate 15 walk1
  with_reducible (rename Fr _ _ _ _ => F1)
  with_reducible (rename News _ _ _ _ => N1)
  refine use_frN F1 ?_
  intro g0 L0 m00 hg0 hL0 hm0 F20
  clear F1
  (try k_fold)
  subst hg0 hL0 hm0
  (try dsimp only at F20)
  refine use_let F20 ?_
  intro m0 F2
  clear F20
  refine ktu_zip (lo1 := W.listOf vs.toArray k1) (lo2 := W.listOf ws.toArray k2) (xs := vs) (ys := ws) (by rfl) F2 N1 (by k_mem) (by rfl) (by rfl) (by k_mem) (by rfl) (by rfl) ?_
  intro I lI
  refine itemsRest_inv (all := zipItems vs ws) (fun i m nw => nw = news ∧ (∃ t, m "pattern" = some (.str ⟨(globC (ss.take i) (gs.take i)).toArray⟩ t)) ∧ (∀ z : Str, z ≠ "start" → z ≠ "gain" → z ≠ "least" → z ≠ "pattern" → m z = m0 z)) ?turn ?done _ 0 _ _ rfl (Nat.zero_le _) ?init
  case init => exact ⟨rfl, ⟨_, by rfl⟩, fun _ _ _ _ _ => rfl⟩
  case done =>
    intro m nw hz2 h tk F N
    refine useG ?_
    intro P9 h9
    obtain ⟨rfl, ⟨t, hp⟩, hm⟩ := hz2
    refine h9 ?_
    clear h9 P9
    have e0 : (zipItems vs ws).length = 4 := by rw [zipItems_length, hs.length, hg.length, hs4, hg4]; rfl
    rw [e0, List.take_of_length_le (Nat.le_of_eq hs4), List.take_of_length_le (Nat.le_of_eq hg4)] at hp
    have em := frame4 hm
    rw [hp] at em
    generalize m "start" = u1 at em
    generalize m "gain" = u2 at em
    generalize m "least" = u3 at em
    clear hp hm
    subst em
    (try k_fold)
    (try dsimp only)
    k_steps
    exact hret _ _ _ _ (by k_asm) (by k_asm) ⟨_, rfl, rfl⟩
  case turn =>
    intro i a m nw rest hi hz6 hrest v h tk hv F
    refine useG ?_
    intro P9 h9
    obtain ⟨rfl, ⟨t, hp⟩, hm⟩ := hz6
    obtain ⟨x, y, hx, hy, rfl⟩ := zipItems_at _ _ _ hi
    obtain ⟨T1, t1, rfl, hT1⟩ := hv
    obtain ⟨st, tx, hx2, rfl⟩ := ints_item hs hx
    obtain ⟨ga, ty, hy2, rfl⟩ := ints_item hg hy
    refine h9 ?_
    clear h9 P9
    have b1 := hsb st (List.mem_of_getElem? hx2)
    have b2 := hgb ga (List.mem_of_getElem? hy2)
    have em := frame4 hm
    rw [hp] at em
    generalize m "start" = u1 at em
    generalize m "gain" = u2 at em
    generalize m "least" = u3 at em
    clear hp hm
    subst em
    (try k_fold)
    have hpl : (⟨(globC (ss.take i) (gs.take i)).toArray⟩ : PySem.Str).length ≤ 60 := glob_le (by rw [List.length_take]; omega)
    ktu_objs
    (try dsimp only)
    iterate 25 walk1
    by_cases hga : 0 ≤ ga
    · rw [if_pos (by simpa using hga)]
      iterate 5 walk1
      with_reducible (rename Fr _ _ _ _ => F3)
      with_reducible (rename News _ _ _ _ => N3)
      refine' endW F3 N3 (off5 lI) (hrest _ _ ⟨hS, hM, trivial⟩ ⟨rfl, ⟨_, ?pp⟩, ?zz⟩)
      case zz => intro z h1 h2 h3 h4; repeat (first | (with_reducible rfl) | (refine frN (by assumption) ?_))
      case pp =>
        rw [glob_snoc hx2 hy2]
        unfold itemC
        rw [if_pos hga, ← str_app, ← s_q]
        rfl
    · rw [if_neg (by simpa using hga)]
      have hb1 : 0 ≤ st - ga := by omega
      have hb2 : st - ga < 64 := by omega
      have hs64 : (PySem.Str.ofString "ABCDEFGHIJKLMNOPQRSTUVWXYZabcdefghijklmnopqrstuvwxyz0123456789+/").length = 64 := by decide +kernel
      have hsi := sign_item hb1 hb2
      have hit : (Txt.item (PySem.Str.ofString "ABCDEFGHIJKLMNOPQRSTUVWXYZabcdefghijklmnopqrstuvwxyz0123456789+/") (st - ga)).length = 1 := by rw [hsi]; rfl
      iterate 14 walk1
      by_cases hle : st - ga < 26
      · rw [if_pos (by simpa using hle)]
        iterate 6 walk1
        with_reducible (rename Fr _ _ _ _ => F3)
        with_reducible (rename News _ _ _ _ => N3)
        refine' endW F3 N3 (off5 lI) (hrest _ _ ⟨hS, hM, trivial⟩ ⟨rfl, ⟨_, ?pp⟩, ?zz⟩)
        case zz => intro z h1 h2 h3 h4; repeat (first | (with_reducible rfl) | (refine frN (by assumption) ?_))
        case pp =>
          rw [hsi, glob_snoc hx2 hy2, set_lo hga hle, ← str_app, ← str_app, ← str_app, ← s_b, ← s_u]
          rfl
      · rw [if_neg (by simpa using hle)]
        iterate 6 walk1
        with_reducible (rename Fr _ _ _ _ => F3)
        with_reducible (rename News _ _ _ _ => N3)
        refine' endW F3 N3 (off5 lI) (hrest _ _ ⟨hS, hM, trivial⟩ ⟨rfl, ⟨_, ?pp⟩, ?zz⟩)
        case zz => intro z h1 h2 h3 h4; repeat (first | (with_reducible rfl) | (refine frN (by assumption) ?_))
        case pp =>
          rw [hsi, glob_snoc hx2 hy2, set_hi hga hle, ← str_app, ← str_app, ← str_app, ← s_b, ← s_l]
          rfl
end
end
section
local macro_rules | `(tactic| walk_at "call builtin:len") => `(tactic| ((with_reducible show wpAny _ _ (call (Value.builtin "len") [Value.str _ _]) _ _ _); refine len_txt (by omega) ?_))
local macro_rules | `(tactic| walk_at "subscriptTail Name Name str int") => `(tactic| (k_dflt (refine' item_cod ?ie ?ix ?il ?ih ?_ ?is ?it; (case ie => assumption); (case ix => first | decide | exact fitsSsize_of (N := 9223372036854775808) (by omega) (by omega) (Int.le_refl _)); (case il => (first | omega | (simp; omega))); (case ih => (first | omega | (simp; omega))); (case is => with_unfolding_all rfl); (case it => (intro _; with_unfolding_all rfl)))))
local macro_rules | `(tactic| walk_at "subscriptTail Name BinOp str int") => `(tactic| (k_dflt (refine' item_cod ?ie ?ix ?il ?ih ?_ ?is ?it; (case ie => assumption); (case ix => first | decide | exact fitsSsize_of (N := 9223372036854775808) (by omega) (by omega) (Int.le_refl _)); (case il => (first | omega | (simp; omega))); (case ih => (first | omega | (simp; omega))); (case is => with_unfolding_all rfl); (case it => (intro _; with_unfolding_all rfl)))))
local macro_rules | `(tactic| walk_at "subscriptTail Name Constant str int") => `(tactic| (k_dflt (refine' item_cod ?ie ?ix ?il ?ih ?_ ?is ?it; (case ie => assumption); (case ix => decide); (case il => (first | omega | (simp; omega))); (case ih => (first | omega | (simp; omega))); (case is => with_unfolding_all rfl); (case it => (intro _; with_unfolding_all rfl)))))
local macro_rules | `(tactic| walk_at "subscriptTail Name UnaryOp str int") => `(tactic| (k_dflt (refine' item_cod ?ie ?ix ?il ?ih ?_ ?is ?it; (case ie => assumption); (case ix => decide); (case il => (first | omega | (simp; omega))); (case ih => (first | omega | (simp; omega))); (case is => with_unfolding_all rfl); (case it => (intro _; with_unfolding_all rfl)))))
local macro_rules | `(tactic| walk_at "subscriptTail Name Slice str ref") => `(tactic| (k_here; (with_reducible rename Fr _ _ _ _ => F'); (with_reducible rename News _ _ _ _ => N'); (first
  | (k_dflt (refine' slice_cod_in (s := ⟨_, _, _, _, _⟩) F' N' ?gl ?_ ?gs ?gt; (case gl => omega); (case gs => with_unfolding_all rfl); (case gt => (intro _; with_unfolding_all rfl))))
  | (k_dflt (refine' slice_cod_ss (s := ⟨_, _, _, _, _⟩) F' N' ?g0 ?g1 ?gl ?_ ?gs ?gt; (case g0 => omega); (case g1 => omega); (case gl => omega); (case gs => with_unfolding_all rfl); (case gt => (intro _; with_unfolding_all rfl))))); intro h' t' k' F' N'))
section
theorem woff12 : True := by
  w_top off
  trivial
/-- does a set's inside hold a sign -/
def scan (q : Nat) : List Nat → Bool
  | x :: 45 :: y :: r => (decide (x ≤ q) && decide (q ≤ y)) || scan q r
  | x :: r => x == q || scan q r
  | [] => false
def setOk : List Nat → Bool
  | _ :: 45 :: _ :: r => setOk r
  | [_, 45] => false
  | _ :: r => setOk r
  | [] => true
theorem scan_facts {l : List Nat} {x : Nat} {rest : List Nat} {k : Nat} (h : l.drop k = x :: rest) : l[k]? = some x ∧ (∀ j, l[k + 1 + j]? = rest[j]?) ∧ (l.take (k + 2)).drop (k + 1) = rest.take 1 ∧ ∀ j, l.drop (k + 1 + j) = rest.drop j := by
  have h1 : ∀ j, l.drop (k + 1 + j) = rest.drop j := by
    intro j
    rw [Nat.add_assoc, ← List.drop_drop, h, Nat.add_comm 1 j, List.drop_succ_cons]
  refine ⟨by rw [← List.head?_drop, h]; rfl, fun j => by rw [← List.head?_drop, h1, List.head?_drop], ?_, h1⟩
  rw [List.drop_take, show k + 2 - (k + 1) = 1 by omega, show k + 1 = k + 1 + 0 by omega, h1, List.drop_zero]
theorem one_le (a b : Nat) : (!decide ((⟨#[a]⟩ : Str).cps.toList < (⟨#[b]⟩ : Str).cps.toList)) = decide (b ≤ a) := by
  have h : ((⟨#[a]⟩ : Str).cps.toList < (⟨#[b]⟩ : Str).cps.toList) ↔ a < b := by
    show ([a] : List Nat) < [b] ↔ a < b
    simp only [List.cons_lt_cons_iff, List.not_lt_nil, and_false, or_false]
  by_cases hab : b ≤ a
  · rw [decide_eq_true hab, decide_eq_false (by rw [h]; omega)]; rfl
  · rw [decide_eq_false hab, decide_eq_true (by rw [h]; omega)]; rfl
theorem one_eq (a b : Nat) : ((⟨#[a]⟩ : Str) == ⟨#[b]⟩) = decide (a = b) := by
  have := cod_eq [a] [b]
  rw [show ([a].toArray = #[a]) from rfl, show ([b].toArray = #[b]) from rfl] at this
  rw [this]
  simp
theorem scan_set {q x y : Nat} {r : List Nat} : scan q (x :: 45 :: y :: r) = ((decide (x ≤ q) && decide (q ≤ y)) || scan q r) := rfl
theorem scan_one {q x : Nat} {rest : List Nat} (h : rest.take 1 ≠ [45]) : scan q (x :: rest) = (x == q || scan q rest) := by
  cases rest with
  | nil => rfl
  | cons a r =>
    have ha : a ≠ 45 := by simpa using h
    cases r with
    | nil => rw [scan]; intro y r' e; cases e
    | cons b r => rw [scan]; intro y r' e; injection e with e1 e2; exact absurd e1 ha
theorem setOk_one {x : Nat} {rest : List Nat} (h : rest.take 1 ≠ [45]) (h' : setOk (x :: rest) = true) : setOk rest = true := by
  cases rest with
  | nil => rfl
  | cons a r =>
    have ha : a ≠ 45 := by simpa using h
    cases r with
    | nil => unfold setOk at h'; simpa [ha] using h'
    | cons b r => rw [setOk] at h'; exact h'; intro y r' e; injection e with e1 e2; exact absurd e1 ha; simp [ha]
theorem c162d {w : World} {p : Program} {loose : List Str} {mean : ExcName → Option Value} {mg mb : Str → Option Value} {news : List (Addr × Obj)} {q : Nat} {tp ts : Tok} :
  CallsTo w p loose mean mg mb (fun base => True) news 162 [.str (PySem.Str.ofString ".") tp, .str ⟨#[q]⟩ ts] 80 1200
    (fun v Λ' => v = .bool true ∧ Λ' = news) := by
  intro dp un gd cn cs aa ccd cl outer A₀ base h₀ L m s Q EE B hC F X N T hk hdp hun hret
  (revert X; k_fill; intro X)
  refine wpAny_call ?_
  k_dflt (walk_at "my_enter")
  iterate 14 walk1
  exact hret _ _ _ _ (by k_asm) (by k_asm) ⟨rfl, rfl⟩
inductive W162 (s : Shared) (g0 : Heap) (L0 : Addr) (m0 : Str → Option Value) (news : List (Addr × Obj)) (q : Nat) (body : List Nat) (n : Nat) (s' : Shared) : Prop
  | mk (h : Heap) (tk : Nat) (m' : Str → Option Value) (k : Int) (tn : Tok) (h1 : s' = { s with heap := h, toks := tk }) (h2 : Fr g0 L0 h m') (h3 : m' "k" = some (.int k tn)) (h4 : (∀ z : Str, z ≠ "k" → m' z = m0 z)) (h5 : News g0 L0 h news) (h6 : scan q body = scan q (body.drop k.toNat)) (h7 : setOk (body.drop k.toNat) = true) (h8 : 0 ≤ k) (h9 : k ≤ body.length) (h10 : n = (body.length - k).toNat) : W162 s g0 L0 m0 news q body n s'
theorem c162 {w : World} {p : Program} {loose : List Str} {mean : ExcName → Option Value} {mg mb : Str → Option Value} {news : List (Addr × Obj)} {q : Nat} {body : List Nat} {tp ts : Tok} (hb : setOk body = true) (hl : body.length ≤ 20) (h1 : ∃ x r, body = x :: r ∧ x ≠ 94) :
  CallsTo w p loose mean mg mb (fun base => True) news 162 [.str ⟨(91 :: (body ++ [93])).toArray⟩ tp, .str ⟨#[q]⟩ ts] 80 1200
    (fun v Λ' => v = .bool (scan q body) ∧ Λ' = news) := by
  intro dp un gd cn cs aa ccd cl outer A₀ base h₀ L m s Q EE B hC F X N T hk hdp hun hret
  (revert X; k_fill; intro X)
  obtain ⟨x0, r0, hxr, hx94⟩ := h1
  have hpl : (⟨(91 :: (body ++ [93])).toArray⟩ : Str).length = body.length + 2 := by simp [Str.length]
  have e46 : ((⟨(91 :: (body ++ [93])).toArray⟩ : Str) == PySem.Str.ofString ".") = false := by
    cases hh : ((⟨(91 :: (body ++ [93])).toArray⟩ : Str) == PySem.Str.ofString ".") with
    | false => rfl
    | true =>
      have e : (⟨(91 :: (body ++ [93])).toArray⟩ : Str) = ⟨[46].toArray⟩ := eq_of_beq hh
      injection e with e; injection e with e; injection e with e _
      exact absurd e (by decide)
  refine wpAny_call ?_
  k_dflt (walk_at "my_enter")
  have i0 : Txt.item (⟨(91 :: (body ++ [93])).toArray⟩ : Str) 0 = ⟨#[91]⟩ := item_codes (by decide) rfl
  have i1 : Txt.item (⟨(91 :: (body ++ [93])).toArray⟩ : Str) 1 = ⟨#[x0]⟩ := item_codes (by decide) (by rw [hxr]; rfl)
  have im : Txt.item (⟨(91 :: (body ++ [93])).toArray⟩ : Str) (-1) = ⟨#[93]⟩ := item_last (91 :: body) 93
  have e91 : ((⟨#[91]⟩ : Str) != PySem.Str.ofString "[") = false := by decide +kernel
  have e93 : ((⟨#[93]⟩ : Str) != PySem.Str.ofString "]") = false := by decide +kernel
  have e94 : ((⟨#[x0]⟩ : Str) == PySem.Str.ofString "^") = false := by
    have : PySem.Str.ofString "^" = ⟨[94].toArray⟩ := by decide +kernel
    rw [this]
    exact (cod_eq [x0] [94]).trans (decide_eq_false (by simpa using hx94))
  iterate 7 walk1
  rw [e46]
  iterate 14 walk1
  rw [e91]
  dsimp only
  iterate 10 walk1
  rw [e94]
  dsimp only
  iterate 12 walk1
  dsimp only
  rw [e93]
  clear e46 e91 e93 e94 i0 i1 im hpl
  iterate 18 walk1
  iterate 6 walk1
  with_reducible (rename Fr _ _ _ _ => F3)
  refine use_frN F3 ?_
  intro g0 L0 m00 hg0 hL0 hm0 F40
  clear F3
  (try k_fold)
  subst hg0 hL0 hm0
  (try dsimp only at F40)
  refine use_let F40 ?_
  intro m0 F4
  clear F40
  with_reducible (rename News _ _ _ _ => N3)
  k_dflt (refine whl_start 1 ?_)
  refine whl_inv (by first | passes_own | with_unfolding_all passes_own) (W162 s g0 L0 m0 news q body) ?turn body.length _ ?init
  case init => exact ⟨_, _, m0, 0, _, rfl, F4, by rfl, fun _ _ => rfl, N3, rfl, hb, by omega, by omega, by omega⟩
  case turn =>
    intro n s' hz2
    refine useG ?_
    intro P9 h9
    obtain ⟨h, tk, m', k, tn, rfl, F, e1, hm, N, hsc, hok, b1, b2, rfl⟩ := hz2
    refine h9 ?_
    clear h9 P9
    have em := frame1 hm
    rw [e1] at em
    clear e1 hm
    subst em
    (try k_fold)
    k_steps
    by_cases hin : k = body.length
    · refine WhlIf.no (by simp [hin]) ?_
      k_steps
      · refine hret _ _ _ _ (by k_asm) (by k_asm) ⟨?_, rfl⟩
        rw [hsc, List.drop_of_length_le (by omega)]; rfl
    · refine WhlIf.yes (by simp; omega) ?_
      have hkL : k < (body.length : Int) := by omega
      have hlt : Hid (k.toNat < body.length) := hid (tn_body b1 hkL)
      refine useG ?_
      intro P9 h9
      obtain ⟨x, rest, hxr2⟩ : ∃ x rest, body.drop k.toNat = x :: rest := ⟨_, _, List.drop_eq_getElem_cons hlt.out⟩
      obtain ⟨f1, f2, f3, f4⟩ := scan_facts hxr2
      refine h9 ?_
      clear h9 P9
      have ik : Txt.item (⟨body.toArray⟩ : Str) k = ⟨#[x]⟩ := item_codes b1 f1
      have hk1 : Hid ((k + 1).toNat = k.toNat + 1) := hid (tn_add b1 1 rfl)
      have hk2 : Hid ((k + 2).toNat = k.toNat + 2) := hid (tn_add b1 2 rfl)
      have hsl : List.drop (k + 1).toNat (List.take (k + 2).toNat body) = rest.take 1 := by rw [hk1.out, hk2.out]; exact f3
      iterate 20 walk1
      rw [hsl]
      by_cases h45 : rest.take 1 = [45]
      · have ee : ((⟨(rest.take 1).toArray⟩ : Str) == PySem.Str.ofString "-") = true := by rw [h45]; decide +kernel
        rw [ee]
        obtain ⟨y, r, hr⟩ : ∃ y r, rest = 45 :: y :: r := by
          cases rest with
          | nil => simp at h45
          | cons a r =>
            have : a = 45 := by simpa using h45
            subst this
            cases r with
            | nil => rw [hxr2] at hok; exact absurd hok (by simp [setOk])
            | cons y r => exact ⟨y, r, rfl⟩
        have iy : Txt.item (⟨body.toArray⟩ : Str) (k + 2) = ⟨#[y]⟩ := item_codes (by omega) (by rw [hk2.out, show k.toNat + 2 = k.toNat + 1 + 1 from rfl, f2 1, hr]; rfl)
        have ilt : k.toNat + 2 < body.length := by
          have := f2 1
          rw [hr] at this
          exact (List.getElem?_eq_some_iff.mp (show body[k.toNat + 1 + 1]? = some y from this)).1
        iterate 14 walk1
        rw [one_le]
        have hn3 : Hid ((k + 3).toNat = k.toNat + 1 + 2) := hid (tn_add b1 3 rfl)
        have hk2L : k + 2 < (body.length : Int) := tn_body' b1 ilt
        replace ilt := hid ilt
        have hd3 : body.drop (k + 3).toNat = r := by rw [hn3.out, f4 2, hr]; rfl
        have hs3 : scan q body = ((decide (x ≤ q) && decide (q ≤ y)) || scan q r) := by rw [hsc, hxr2, hr, scan_set]
        have ho3 : setOk r = true := by rw [hxr2, hr] at hok; exact hok
        by_cases hxq : x ≤ q
        · rw [if_pos (decide_eq_true hxq)]
          iterate 10 walk1
          rw [one_le]
          by_cases hqy : q ≤ y
          · rw [if_pos (decide_eq_true hqy)]
            iterate 4 walk1
            (repeat (k_unfold; (try dsimp only)))
            (try dsimp only [WPost])
            k_steps
            refine hret _ _ _ _ (by k_asm) (by k_asm) ⟨?_, rfl⟩
            rw [hs3, decide_eq_true hxq, decide_eq_true hqy]; rfl
          · rw [if_neg (by simpa using hqy)]
            k_steps
            refine ⟨(body.length - (k + 3)).toNat, tn_lt (by decide) hkL, _, _, _, k + 3, _, rfl, by k_asm, rfl, ?_, by k_asm, ?_, ?_, by omega, by omega, rfl⟩
            · intro z h1
              repeat (first | (with_reducible rfl) | (refine frN (by assumption) ?_))
            · rw [hd3, hs3, decide_eq_false hqy, Bool.and_false]; rfl
            · rw [hd3]; exact ho3
        · rw [if_neg (by simpa using hxq)]
          k_steps
          refine ⟨(body.length - (k + 3)).toNat, tn_lt (by decide) hkL, _, _, _, k + 3, _, rfl, by k_asm, rfl, ?_, by k_asm, ?_, ?_, by omega, by omega, rfl⟩
          · intro z h1
            repeat (first | (with_reducible rfl) | (refine frN (by assumption) ?_))
          · rw [hd3, hs3, decide_eq_false hxq]; rfl
          · rw [hd3]; exact ho3
      · have ee : ((⟨(rest.take 1).toArray⟩ : Str) == PySem.Str.ofString "-") = false := by
          have : PySem.Str.ofString "-" = ⟨[45].toArray⟩ := by decide +kernel
          rw [this, cod_eq, decide_eq_false h45]
        rw [ee]
        iterate 13 walk1
        rw [one_eq]
        have hn1 : (k + 1).toNat = k.toNat + 1 + 0 := by omega
        have hd1 : body.drop (k + 1).toNat = rest := by rw [hn1, f4 0]; rfl
        have hs1 : scan q body = (x == q || scan q rest) := by rw [hsc, hxr2, scan_one h45]
        have ho1 : setOk rest = true := setOk_one h45 (by rw [← hxr2]; exact hok)
        by_cases hxq : x = q
        · rw [if_pos (decide_eq_true hxq)]
          iterate 4 walk1
          (repeat (k_unfold; (try dsimp only)))
          (try dsimp only [WPost])
          k_steps
          refine hret _ _ _ _ (by k_asm) (by k_asm) ⟨?_, rfl⟩
          rw [hs1, show (x == q) = true by simpa using hxq]; rfl
        · rw [if_neg (by simpa using hxq)]
          k_steps
          refine ⟨(body.length - (k + 1)).toNat, tn_lt (by decide) hkL, _, _, _, k + 1, _, rfl, by k_asm, rfl, ?_, by k_asm, ?_, ?_, by omega, by omega, rfl⟩
          · intro z h1
            repeat (first | (with_reducible rfl) | (refine frN (by assumption) ?_))
          · rw [hd1, hs1, show (x == q) = false by simpa using hxq]; rfl
          · rw [hd1]; exact ho1
end
end
section
local macro_rules | `(tactic| walk_at "subscriptTail Name Constant str int") => `(tactic| (k_dflt (refine' item_cod ?ie ?ix ?il ?ih ?_ ?is ?it; (case ie => assumption); (case ix => first | decide | exact fitsSsize_of (N := 9223372036854775808) (by omega) (by omega) (Int.le_refl _)); (case il => (first | omega | (simp; omega))); (case ih => (first | omega | (simp; omega))); (case is => with_unfolding_all rfl); (case it => (intro _; with_unfolding_all rfl)))))
local macro_rules | `(tactic| walk_at "subscriptTail Name Name str int") => `(tactic| (k_dflt (refine' item_cod ?ie ?ix ?il ?ih ?_ ?is ?it; (case ie => assumption); (case ix => first | decide | exact fitsSsize_of (N := 9223372036854775808) (by omega) (by omega) (Int.le_refl _)); (case il => (first | omega | (simp; omega))); (case ih => (first | omega | (simp; omega))); (case is => with_unfolding_all rfl); (case it => (intro _; with_unfolding_all rfl)))))
local macro_rules | `(tactic| walk_at "subscriptTail Name BinOp ref int") => `(tactic| (k_here; (with_reducible rename News _ _ _ _ => N'); (k_dflt (refine' item_lit N' ?im ?i0 ?ih ?ix ?_ ?is; (case im => exact List.mem_cons_of_mem _ List.mem_cons_self); (case i0 => decide); (case ih => decide); (case ix => exact rfl); (case is => with_unfolding_all rfl)))))
local macro_rules | `(tactic| walk_at "subscriptTail Name Name ref int") => `(tactic| (k_here; (with_reducible rename News _ _ _ _ => N'); (k_dflt (refine' item_lit N' ?im ?i0 ?ih ?ix ?_ ?is; (case im => exact List.mem_cons_of_mem _ List.mem_cons_self); (case i0 => decide); (case ih => decide); (case ix => exact rfl); (case is => with_unfolding_all rfl)))))
local macro_rules | `(tactic| walk_at "subscriptTail Name Slice str ref") => `(tactic| (k_here; (with_reducible rename Fr _ _ _ _ => F'); (with_reducible rename News _ _ _ _ => N'); (first
  | (k_dflt (refine' slice_cod_ss (s := ⟨_, _, _, _, _⟩) F' N' ?g0 ?g1 ?gl ?_ ?gs ?gt; (case g0 => omega); (case g1 => omega); (case gl => omega); (case gs => with_unfolding_all rfl); (case gt => (intro _; with_unfolding_all rfl))))); intro h' t' k' F' N'))
local macro_rules | `(tactic| walk_at "call builtin:len") => `(tactic| ((with_reducible show wpAny _ _ (call (Value.builtin "len") [Value.str _ _]) _ _ _); refine len_txt (by omega) ?_))
theorem woff13 : True := by
  w_top off
  trivial
/-- a def's contract that may make generators -/
def CallsToG (w : World) (p : Program) (loose : List Str) (mean : ExcName → Option Value) (mg mb : Str → Option Value) (base₀ : Heap → Prop) (Λ : List (Addr × Obj)) (f : Addr) (args : List Value) (D U : Nat) (R : Value → List (Addr × Obj) → Prop) : Prop :=
  ∀ (dp un : Nat) (gd : Option (List Code)) (cn : Str) (cs : Scope) (a : Addr) (ccd : Value) (cl : List (Str × Addr)) (outer : List Env) (A₀ : Around) (base h₀ : Heap) (L : Addr) (m : Str → Option Value) (s : Shared) (Q E : Value → Shared → Prop),
    Below A₀ base outer h₀ → base₀ base → Fr h₀ L s.heap m → (ex1.heap_1 w.params).In h₀ → News h₀ L s.heap Λ → Top p loose mean mg mb h₀ → AllBare s.gens → cs.kind = .function → dp + D < recursionLimit → un + U < cLine →
    (∀ v Λ' h' tk' gs, Fr h₀ L h' m → News h₀ L h' Λ' → AllBare gs → R v Λ' → Q v { s with heap := h', toks := tk', gens := gs }) →
    wpAny (model PySem.Challenge.rw_ku0024_01.row.prog w) (ktrTop dp un gd cn cs L a ccd cl outer) (call (.ref f) args) Q E s
theorem frame7 {m m₀ : Str → Option Value} {x1 x2 x3 x4 x5 x6 x7 : Str} (h : ∀ z, z ≠ x1 → z ≠ x2 → z ≠ x3 → z ≠ x4 → z ≠ x5 → z ≠ x6 → z ≠ x7 → m z = m₀ z) : m = fun z => if z = x1 then m x1 else if z = x2 then m x2 else if z = x3 then m x3 else if z = x4 then m x4 else if z = x5 then m x5 else if z = x6 then m x6 else if z = x7 then m x7 else m₀ z := by
  funext z
  by_cases h1 : z = x1
  · subst h1; simp
  by_cases h2 : z = x2
  · subst h2; simp [h1]
  by_cases h3 : z = x3
  · subst h3; simp [h1, h2]
  by_cases h4 : z = x4
  · subst h4; simp [h1, h2, h3]
  by_cases h5 : z = x5
  · subst h5; simp [h1, h2, h3, h4]
  by_cases h6 : z = x6
  · subst h6; simp [h1, h2, h3, h4, h5]
  by_cases h7 : z = x7
  · subst h7; simp [h1, h2, h3, h4, h5, h6]
  simp only [if_neg h1, if_neg h2, if_neg h3, if_neg h4, if_neg h5, if_neg h6, if_neg h7]
  exact h z h1 h2 h3 h4 h5 h6 h7
theorem app_attrK {prog : Program} {w : World} {A : Around} {E : Value → Shared → Prop} {s : Shared} {h₀ : Heap} {L l : Addr} {m : Str → Option Value} {news : List (Addr × Obj)} {xs : Array Value} {k : Nat} {Q : Value → Shared → Prop}
    (F : Fr h₀ L s.heap m) (N : News h₀ L s.heap ((l, listOf xs k) :: news))
    (h : ∀ b h', Fr h₀ L h' m → News h₀ L h' ((b, boundApp l) :: (l, listOf xs k) :: news) → (∀ p ∈ (l, listOf xs k) :: news, p.1 < b) → Q (.ref b) { s with heap := h', toks := s.toks + 1 }) :
    wpAny (model prog w) A (getAttr (.ref l) "append" true) Q E s := by
  refine useG ?_
  intro P9 h9
  obtain ⟨hh, g, d, t, os⟩ := s
  refine h9 ?_
  clear h9 P9
  exact app_attr (N _ List.mem_cons_self).1 (h _ _ (F.push _) (N.push F _) fun p hp => Heap.lt_size (N p hp).1)
theorem strs_snoc {vs : List Value} {xs : List Str} {x : Str} {t : Tok} (h : StrsAre vs xs) : StrsAre (vs ++ [.str x t]) (xs ++ [x]) := by
  induction h with
  | nil => exact .cons x t .nil
  | cons y u _ ih => exact .cons y u ih
theorem strs_len {vs : List Value} {xs : List Str} (h : StrsAre vs xs) : vs.length = xs.length := by
  induction h with
  | nil => rfl
  | cons y u _ ih => simp [ih]
theorem allLt_mem {d : Addr} : ∀ {l : List (Addr × Obj)}, AllLt d l → ∀ p ∈ l, @LT.lt Nat _ p.1 d := by
  intro l
  induction l with
  | nil => intro _ p hp; cases hp
  | cons x r ih =>
    intro h p hp
    rcases List.mem_cons.mp hp with rfl | hp
    · exact h.1
    · exact ih h.2 p hp
def isSet (it : List Nat) : Prop := ∃ c, c < 43 ∧ it = 91 :: (bodyC c ++ [93])
def partC (it : List Nat) : Str := if it = [63] then PySem.Str.ofString "." else ⟨it.toArray⟩
theorem flat_split {its : List (List Nat)} {t : Nat} {it : List Nat} (h : its[t]? = some it) : its.flatten = (its.take t).flatten ++ (it ++ (its.drop (t + 1)).flatten) ∧ (its.take (t + 1)).flatten = (its.take t).flatten ++ it := by
  have hlt : t < its.length := (List.getElem?_eq_some_iff.mp h).1
  have hg : its[t] = it := (List.getElem?_eq_some_iff.mp h).2
  constructor
  · conv => lhs; rw [← List.take_append_drop t its, List.drop_eq_getElem_cons hlt, hg]
    simp
  · rw [List.take_succ_eq_append_getElem hlt, hg]; simp
theorem at_part {a b c : List Nat} {r : Nat} (h : r < b.length) : (a ++ (b ++ c))[a.length + r]? = b[r]? := by
  rw [List.getElem?_append_right (by omega), show a.length + r - a.length = r by omega, List.getElem?_append_left h]
theorem parts_next {vs : List Value} {its : List (List Nat)} {t : Nat} {it : List Nat} {x : Str} {u : Tok} (h : StrsAre vs ((its.take t).map partC)) (hi : its[t]? = some it) (hx : x = partC it) : StrsAre (vs ++ [.str x u]) ((its.take (t + 1)).map partC) := by
  have hlt : t < its.length := (List.getElem?_eq_some_iff.mp hi).1
  have hg : its[t] = it := (List.getElem?_eq_some_iff.mp hi).2
  rw [List.take_succ_eq_append_getElem hlt, hg, hx, List.map_append]
  exact strs_snoc h
theorem its_len : ∀ {its : List (List Nat)}, (∀ it ∈ its, 0 < it.length) → its.length ≤ its.flatten.length
  | [], _ => Nat.zero_le _
  | x :: r, h => by
    have h1 := h x (.head _)
    have h2 := its_len (its := r) fun y hy => h y (.tail _ hy)
    simp only [List.flatten_cons, List.length_append, List.length_cons]
    omega
def tlU : List Nat := [45, 90, 97, 45, 122, 48, 45, 57, 43, 47]
def tlL : List Nat := [45, 122, 48, 45, 57, 43, 47]
theorem body_shape {c : Nat} {body : List Nat} (hc : c < 43) (h : bodyC c = body) : ∃ X tl, body = X :: tl ∧ (tl = tlU ∧ 65 ≤ X ∧ X ≤ 90 ∨ tl = tlL ∧ 97 ≤ X ∧ X ≤ 122) := by
  subst h
  unfold bodyC
  by_cases h : c < 26
  · rw [if_pos h, if_pos h]; exact ⟨_, _, rfl, .inl ⟨rfl, by omega, by omega⟩⟩
  · rw [if_neg h, if_neg h]; exact ⟨_, _, rfl, .inr ⟨rfl, by omega, by omega⟩⟩
theorem body_no93 {c : Nat} {body : List Nat} (hc : c < 43) (h : bodyC c = body) {q : Nat} (hq : q ∈ body) : q ≠ 93 := by
  have key : (List.range 43).all (fun c => (bodyC c).all (fun q => q != 93)) = true := by decide +kernel
  have := List.all_eq_true.mp (List.all_eq_true.mp key c (List.mem_range.mpr hc)) q (h ▸ hq)
  simpa using this
theorem dash_in {c : Nat} {body : List Nat} (hc : c < 43) (h : bodyC c = body) : 45 ∈ body := by
  have key : (List.range 43).all (fun c => (bodyC c).contains 45) = true := by decide +kernel
  have := List.all_eq_true.mp key c (List.mem_range.mpr hc)
  rw [← h]; simpa using this
theorem notIn_dash {prog : Program} {w : World} {A : Around} {E : Value → Shared → Prop} {s : Shared} {body : List Nat} {t u : Tok} {Q : Value → Shared → Prop} (hm : 45 ∈ body) (h : Q (.bool false) s) : wpAny (model prog w) A (compareOp .NotIn (.str (PySem.Str.ofString "-") u) (.str ⟨body.toArray⟩ t)) Q E s := by
  refine PySem.P.notIn_str ?_
  rw [show PySem.Str.ofString "-" = ⟨#[45]⟩ by decide +kernel, PySem.StrLaws.found_one, decide_eq_true (by simpa using hm)]
  exact h
theorem find4_at {l body : List Nat} {p a k : Nat} {i : Int} {r : Int} (hb : ∀ r, r < body.length → l[p + 1 + r]? = body[r]?) (hl : p + 1 + body.length ≤ l.length) (ha : a ≤ k) (hk : k < body.length) (hi : i = (p : Int) + 1 + a) (hc : body[k]? = some 45) (hn : ((body.take k).drop a).all (fun q => q != 45) = true) (hr : r = (p : Int) + 1 + k) :
    find4 ⟨l.toArray⟩ (PySem.Str.ofString "-") i.toNat ((p : Int) + 1 + (body.length : Nat)).toNat = r := by
  rw [show PySem.Str.ofString "-" = ⟨#[45]⟩ by decide +kernel, hi, show ((p : Int) + 1 + (a : Nat)).toNat = p + 1 + a from rfl, show ((p : Int) + 1 + (body.length : Nat)).toNat = p + 1 + body.length from rfl, find4_in hb hl ha hk rfl hc hn, hr]; omega
theorem find4_no {l body : List Nat} {p a : Nat} {i : Int} (hb : ∀ r, r < body.length → l[p + 1 + r]? = body[r]?) (hl : p + 1 + body.length ≤ l.length) (hi : i = (p : Int) + 1 + a) (hn : (body.drop a).all (fun q => q != 45) = true) :
    find4 ⟨l.toArray⟩ (PySem.Str.ofString "-") i.toNat ((p : Int) + 1 + (body.length : Nat)).toNat = -1 := by
  rw [show PySem.Str.ofString "-" = ⟨#[45]⟩ by decide +kernel, hi, show ((p : Int) + 1 + (a : Nat)).toNat = p + 1 + a from rfl, show ((p : Int) + 1 + (body.length : Nat)).toNat = p + 1 + body.length from rfl, find4_out hb hl rfl hn]
theorem slice_cod_eq {prog : Program} {w : World} {A : Around} {E : Value → Shared → Prop} {s : Shared} {value slice : PySem.Expr} {l r : List Nat} {t : Tok} {h₀ : Heap} {L : Addr} {m : Str → Option Value} {news : List (Addr × Obj)} {Q : Value → Shared → Prop} {i j : Int} {ui uj : Tok} (e : (l.take j.toNat).drop i.toNat = r) (hF : Fr h₀ L s.heap m) (hN : News h₀ L s.heap news) (h0 : 0 ≤ i) (h1 : 0 ≤ j) (hl : l.length ≤ 1000) (h : ∀ h' t' k, Fr h₀ L h' m → News h₀ L h' news → Q (.str ⟨r.toArray⟩ t') { s with heap := h', toks := k })
    (hs : subscripted slice false (.str ⟨l.toArray⟩ t) (.ref s.heap.objs.size) = operate [.ref s.heap.objs.size, .str ⟨l.toArray⟩ t] (getItem (.str ⟨l.toArray⟩ t) (.ref s.heap.objs.size)))
    (ht : ∀ r, letTemporaryGo value (.str ⟨l.toArray⟩ t) r = pure ()) :
    wpAny (model prog w) A (subscriptTail value slice (.str ⟨l.toArray⟩ t) (.ref s.heap.objs.size)) Q E { s with heap := s.heap.push { cls := .type "slice", data := .fields #[.int i ui, .int j uj, .none] } } :=
  slice_cod_ss hF hN h0 h1 hl (by rw [e]; exact h) hs ht
theorem rev_idx {i n q : Nat} (h : i < n) (e : q = n - 1 - i) : q < n ∧ ((n + 1 : Nat) : Int) - 1 + (i : Int) * (-1) = (q : Int) + 1 := by omega
inductive P134 (news : List (Addr × Obj)) (its : List (List Nat)) (v : Value) (Λ' : List (Addr × Obj)) : Prop
  | mk (D : Addr) (vs : List Value) (k : Nat) (ps' : Array Value) (h1 : v = .ref D) (h2 : ∀ p ∈ news, @LT.lt Nat _ p.1 D) (h3 : @LT.lt Nat _ 129 D) (h4 : StrsAre vs (its.map partC)) (h5 : Tab129 ps') (h6 : Λ' = (D, listOf (List.toArray vs) k) :: (129, tabObj ps') :: news) : P134 news its v Λ'
inductive W134a (s : Shared) (g0 : Heap) (L0 : Addr) (m0 : Str → Option Value) (lb l9 : Addr) (its : List (List Nat)) (news : List (Addr × Obj)) (n : Nat) (s' : Shared) : Prop
  | mk (h : Heap) (tk : Nat) (gs : Array GenState) (m' : Str → Option Value) (t : Nat) (ti : Tok) (vs : List Value) (k : Nat) (ps' : Array Value) (h1 : s' = { s with heap := h, toks := tk, gens := gs }) (h2 : AllBare gs) (h3 : Fr g0 L0 h m') (h4 : m' "i" = some (.int ((its.take t).flatten.length : Int) ti)) (h5 : (∀ z : Str, z ≠ "i" → z ≠ "c" → z ≠ "j" → z ≠ "stuff" → z ≠ "chunks" → z ≠ "k" → z ≠ "chunk" → m' z = m0 z)) (h6 : News g0 L0 h ((lb, boundApp l9) :: (l9, listOf (List.toArray vs) k) :: (129, tabObj ps') :: news)) (h7 : Tab129 ps') (h8 : StrsAre vs ((its.take t).map partC)) (h9 : t ≤ its.length) (h10 : n = its.length - t) : W134a s g0 L0 m0 lb l9 its news n s'
inductive W134b (s : Shared) (gs : Array GenState) (g0 : Heap) (L0 : Addr) (m1 : Str → Option Value) (pre body : List Nat) (lb l9 : Addr) (vs : List Value) (k : Nat) (ps' : Array Value) (news : List (Addr × Obj)) (n : Nat) (s' : Shared) : Prop
  | mk (h : Heap) (tk : Nat) (m' : Str → Option Value) (r : Nat) (tj : Tok) (h1 : s' = { s with heap := h, toks := tk, gens := gs }) (h2 : Fr g0 L0 h m') (h3 : m' "j" = some (.int ((pre.length : Int) + 1 + (r : Nat)) tj)) (h4 : (∀ z : Str, z ≠ "j" → m' z = m1 z)) (h5 : News g0 L0 h ((lb, boundApp l9) :: (l9, listOf (List.toArray vs) k) :: (129, tabObj ps') :: news)) (h6 : r ≤ body.length) (h7 : n = body.length - r) : W134b s gs g0 L0 m1 pre body lb l9 vs k ps' news n s'
inductive W134c (s : Shared) (gs : Array GenState) (g0 : Heap) (L0 : Addr) (m2 : Str → Option Value) (pre : List Nat) (c : Nat) (l5 lb l9 : Addr) (vs : List Value) (k : Nat) (ps' : Array Value) (news : List (Addr × Obj)) (n : Nat) (s' : Shared) : Prop
  | mk (h : Heap) (tk : Nat) (m' : Str → Option Value) (t5 : Nat) (ti tkk : Tok) (vs5 : List Value) (k5 : Nat) (h1 : s' = { s with heap := h, toks := tk, gens := gs }) (h2 : Fr g0 L0 h m') (h3 : m' "i" = some (.int ((pre.length : Int) + 1 + ((3 * t5 - 1 : Nat) : Int)) ti)) (h4 : m' "k" = some (.int ((pre.length : Int) + 2 + 3 * (t5 : Int)) tkk)) (h5 : (∀ z : Str, z ≠ "i" → z ≠ "k" → m' z = m2 z)) (h6 : News g0 L0 h ((l5, W.listOf (List.toArray vs5) k5) :: (lb, boundApp l9) :: (l9, W.listOf vs.toArray k) :: (129, tabObj ps') :: news)) (h7 : StrsAre vs5 ((pcS c).take t5)) (h8 : t5 ≤ pcN c) (h9 : n = pcN c - t5) : W134c s gs g0 L0 m2 pre c l5 lb l9 vs k ps' news n s'
local macro_rules | `(tactic| walk_at "subscriptTail Name Slice str ref") => `(tactic| (k_here; (with_reducible rename Fr _ _ _ _ => F'); (with_reducible rename News _ _ _ _ => N'); (k_dflt (refine' slice_cod_eq (s := ⟨_, _, _, _, _⟩) ?ge F' N' ?g0 ?g1 ?gl ?_ ?gs ?gt; (case ge => with_reducible assumption); (case g0 => omega); (case g1 => omega); (case gl => omega); (case gs => with_unfolding_all rfl); (case gt => (intro _; with_unfolding_all rfl)))); intro h' t' k' F' N'))
local macro_rules | `(tactic| walk_at "call builtin:str.find") => `(tactic| (refine' find4_call ?fi ?fj ?fl ?fr ?_; (case fr => first | with_reducible assumption | exact Hid.out (by with_reducible assumption)); (case fi => omega); (case fj => omega); (case fl => (rw [cod_len]; omega))))
theorem c134 {w : World} {p : Program} {loose : List Str} {mean : ExcName → Option Value} {mg mb : Str → Option Value} {news : List (Addr × Obj)} {its : List (List Nat)} {ps : Array Value} {tb tq : Tok} (hits : ∀ it ∈ its, it = [63] ∨ isSet it) (hs : its.flatten.length ≤ 100) (hps : Tab129 ps) (hn129 : ∀ q ∈ news, q.1 ≠ 129) :
  CallsToG w p loose mean mg mb (fun base => CodeHd base 133 129) ((129, tabObj ps) :: news) 134 [.str ⟨its.flatten.toArray⟩ tb, .none, .str (PySem.Str.ofString ".") tq] 120 1800
    (P134 news its) := by
  intro dp un gd cn cs a ccd cl outer A₀ base h₀ L m s Q E B hC F X N T hG hk hdp hun hret
  (revert X; k_fill; intro X)
  refine wpAny_call ?_
  k_dflt (walk_at "my_enter")
  k_steps
  with_reducible (rename News _ _ _ _ => N1)
  with_reducible (rename Fr _ _ _ _ => F1)
  refine led_name1 N1 ?_
  intro l9 hl9
  subst hl9
  have hA9 : ∀ p ∈ news, @LT.lt Nat _ p.1 l9 := by
    with_reducible (rename _ ∧ AllLt _ news => lA)
    exact fun p hp => allLt_mem lA.2 p hp
  have hA129 : @LT.lt Nat _ 129 l9 := by
    with_reducible (rename _ ∧ AllLt _ news => lA)
    exact lA.1
  refine app_attrK (xs := #[]) (k := 0) F1 N1 ?_
  intro lb hb5 F2 N2 lB
  have hlb9 : @LT.lt Nat _ l9 lb := lB _ List.mem_cons_self
  have hszl : (⟨its.flatten.toArray⟩ : Str).length = its.flatten.length := cod_len _
  iterate 24 walk1
  (first | ((with_reducible (rename Fr _ _ _ _ => kF)); (try dsimp only at kF); (refine use_let kF ?_); intro km kF2; clear kF) | skip)
  (try k_fold)
  iterate 2 walk1
  with_reducible (rename Fr _ _ _ _ => F3)
  refine use_frN F3 ?_
  intro g0 L0 m00 hg0 hL0 hm0 F40
  clear F3
  subst hg0 hL0 hm0
  refine use_let F40 ?_
  intro m0 F4
  clear F40
  with_reducible (rename News _ _ _ _ => N3)
  k_dflt (refine whl_start 1 ?_)
  refine whl_inv (by first | passes_own | with_unfolding_all passes_own) (W134a s g0 L0 m0 lb l9 its news) ?turn its.length _ ?init
  case init => exact ⟨_, _, _, m0, 0, _, [], 0, ps, rfl, hG, F4, by rfl, fun _ _ _ _ _ _ _ _ => rfl, News.drop1 N3, hps, .nil, by omega, rfl⟩
  case turn =>
    intro n s' hz2
    refine useG ?_
    intro P9 h9
    obtain ⟨h, tk, gs, m', t, ti, vs, k, ps', rfl, hgs, F, e1, hm, N, hps', hvs, b1, rfl⟩ := hz2
    refine h9 ?_
    clear h9 P9
    have em := frame7 hm
    rw [e1] at em
    generalize m' "c" = u1 at em
    generalize m' "j" = u2 at em
    generalize m' "stuff" = u3 at em
    generalize m' "chunks" = u4 at em
    generalize m' "k" = u5 at em
    generalize m' "chunk" = u6 at em
    clear e1 hm
    subst em
    generalize hQz : WPost _ _ _ = Qz
    have hpl : (its.take t).flatten.length ≤ its.flatten.length := by
      have := congrArg List.length (show its.flatten = (its.take t).flatten ++ (its.drop t).flatten by rw [← List.flatten_append, List.take_append_drop])
      rw [List.length_append] at this; omega
    k_steps
    by_cases hin : t = its.length
    · have hfl : (its.take t).flatten.length = its.flatten.length := by rw [hin, List.take_length]
      refine WhlIf.no (by rw [hfl]; simp) ?_
      rw [hin, List.take_length] at hvs
      k_steps
      · refine hret _ ((l9, listOf (List.toArray vs) k) :: (129, tabObj ps') :: news) _ _ _ (by k_asm) (News.drop1 (by k_asm)) hgs ⟨_, _, _, _, rfl, hA9, hA129, hvs, hps', rfl⟩
      · exact absurd hfl (by omega)
    · have htl : t < its.length := by omega
      obtain ⟨it, hit⟩ : ∃ it, its[t]? = some it := ⟨_, List.getElem?_eq_getElem htl⟩
      obtain ⟨hsp, hnx⟩ := flat_split hit
      have hmem := List.mem_of_getElem? hit
      generalize hpre : (its.take t).flatten = pre at *
      generalize hpost : (its.drop (t + 1)).flatten = post at *
      have hlen : its.flatten.length = pre.length + (it.length + post.length) := by rw [hsp]; simp
      have hit0 : 0 < it.length := by
        rcases hits it hmem with rfl | ⟨c, _, rfl⟩ <;> simp
      refine WhlIf.yes (decide_eq_true (by omega)) ?_
      have hnl : (its.take (t + 1)).flatten.length = pre.length + it.length := by rw [hnx, List.length_append]
      have hvl : vs.toArray.size ≤ 1000 := by
        rw [List.size_toArray, strs_len hvs, List.length_map, List.length_take]
        have := its_len fun it hm => (by rcases hits it hm with rfl | ⟨c, _, rfl⟩ <;> simp : 0 < it.length)
        omega
      rcases hits it hmem with rfl | hset
      · have hP1 : pre.length + 1 ≤ its.flatten.length := by rw [hlen]; simp
        replace hnl := hid hnl
        have hA1 : (⟨its.flatten.toArray⟩ : Str).length ≤ 100 := by rw [cod_len]; exact hs
        clear hlen hpl hit0
        have ik : Txt.item (⟨its.flatten.toArray⟩ : Str) (pre.length : Int) = ⟨#[63]⟩ := item_codes (by omega) (by
          have := at_part (a := pre) (b := [63]) (c := post) (r := 0) (by decide)
          rw [← hsp] at this
          simpa using this)
        (first | ((with_reducible (rename Fr _ _ _ _ => kF)); (try dsimp only at kF); (refine use_let kF ?_); intro km kF2; clear kF) | skip)
        (try k_fold)
        iterate 8 walk1
        (first | ((with_reducible (rename Fr _ _ _ _ => kF)); (try dsimp only at kF); (refine use_let kF ?_); intro km kF2; clear kF) | skip)
        (try k_fold)
        iterate 7 walk1
        (first | ((with_reducible (rename Fr _ _ _ _ => kF)); (try dsimp only at kF); (refine use_let kF ?_); intro km kF2; clear kF) | skip)
        (try k_fold)
        iterate 8 walk1
        (first | ((with_reducible (rename Fr _ _ _ _ => kF)); (try dsimp only at kF); (refine use_let kF ?_); intro km kF2; clear kF) | skip)
        (try k_fold)
        iterate 9 walk1
        (first | ((with_reducible (rename Fr _ _ _ _ => kF)); (try dsimp only at kF); (refine use_let kF ?_); intro km kF2; clear kF) | skip)
        (try k_fold)
        iterate 5 walk1
        k_dflt (refine callWith_app l9 ?_)
        iterate 3 walk1
        with_reducible (rename News _ _ _ _ => N5)
        with_reducible (rename Fr _ _ _ _ => F5)
        refine ⟨(N5 _ List.mem_cons_self).1, ?_⟩
        refine call_app F5 N5 List.mem_cons_self (by k_upd) ?_ (by rw [sizeLine_eq]; omega)
        intro h6 F6 N6
        rw [List.push_toArray] at N6
        k_steps
        subst hQz
        refine ⟨its.length - (t + 1), Nat.sub_lt_sub_left htl (Nat.lt_succ_self _), _, _, _, _, t + 1, _, _, _, ps', rfl, hgs, by k_asm, by rw [hnl.out]; rfl, ?_, N6, hps', parts_next hvs hit (by unfold partC; rw [if_pos rfl]), by omega, rfl⟩
        · intro z h1 h2 h3 h4 h5 h6 h7
          repeat (first | (with_reducible rfl) | (refine frN (by assumption) ?_))
      · obtain ⟨c, hc, rfl⟩ := hset
        have hse := search_none hc
        generalize hbd : bodyC c = body at *
        have hpart : ∀ r, r < body.length + 2 → its.flatten[pre.length + r]? = (91 :: (body ++ [93]))[r]? := fun r hr => by
          rw [hsp]; exact at_part (by simpa using hr)
        have hbody : ∀ r, r < body.length → its.flatten[pre.length + 1 + r]? = body[r]? := fun r hr => by
          rw [show pre.length + 1 + r = pre.length + (r + 1) by omega, hpart _ (by omega), List.getElem?_cons_succ, List.getElem?_append_left hr]
        have hclose : its.flatten[pre.length + 1 + body.length]? = some 93 := by
          rw [show pre.length + 1 + body.length = pre.length + (body.length + 1) by omega, hpart _ (by omega), List.getElem?_cons_succ, List.getElem?_append_right (Nat.le_refl _)]; simp
        have hil : (91 :: (body ++ [93])).length = body.length + 2 := by simp
        rw [hil] at hlen hnl
        obtain ⟨X, tl, hXt, hX⟩ := body_shape hc hbd
        have hbl : body.length = tl.length + 1 := by rw [hXt]; rfl
        have hP1 : pre.length + body.length + 2 ≤ its.flatten.length := by omega
        have hB1 : 0 < body.length := by omega
        replace hnl := hid hnl
        have hA1 : (⟨its.flatten.toArray⟩ : Str).length ≤ 100 := by rw [cod_len]; exact hs
        clear hlen hil hbl hpl hit0
        have ik : Txt.item (⟨its.flatten.toArray⟩ : Str) (pre.length : Int) = ⟨#[91]⟩ := item_codes (by omega) (hpart 0 (by omega))
        have iX : Txt.item (⟨its.flatten.toArray⟩ : Str) ((pre.length : Int) + 1) = ⟨#[X]⟩ := item_codes (by omega) (by
          rw [show ((pre.length : Int) + 1).toNat = pre.length + 1 + 0 from rfl, hbody 0 (by omega), hXt]; rfl)
        have eX33 : ((⟨#[X]⟩ : Str) == PySem.Str.ofString "!") = false := by
          rw [show PySem.Str.ofString "!" = ⟨#[33]⟩ by decide +kernel, one_eq]; exact decide_eq_false (by omega)
        have eX93 : ((⟨#[X]⟩ : Str) == PySem.Str.ofString "]") = false := by
          rw [show PySem.Str.ofString "]" = ⟨#[93]⟩ by decide +kernel, one_eq]; exact decide_eq_false (by omega)
        (first | ((with_reducible (rename Fr _ _ _ _ => kF)); (try dsimp only at kF); (refine use_let kF ?_); intro km kF2; clear kF) | skip)
        (try k_fold)
        iterate 8 walk1
        (first | ((with_reducible (rename Fr _ _ _ _ => kF)); (try dsimp only at kF); (refine use_let kF ?_); intro km kF2; clear kF) | skip)
        (try k_fold)
        iterate 7 walk1
        (first | ((with_reducible (rename Fr _ _ _ _ => kF)); (try dsimp only at kF); (refine use_let kF ?_); intro km kF2; clear kF) | skip)
        (try k_fold)
        iterate 8 walk1
        (first | ((with_reducible (rename Fr _ _ _ _ => kF)); (try dsimp only at kF); (refine use_let kF ?_); intro km kF2; clear kF) | skip)
        (try k_fold)
        iterate 9 walk1
        (first | ((with_reducible (rename Fr _ _ _ _ => kF)); (try dsimp only at kF); (refine use_let kF ?_); intro km kF2; clear kF) | skip)
        (try k_fold)
        iterate 9 walk1
        (first | ((with_reducible (rename Fr _ _ _ _ => kF)); (try dsimp only at kF); (refine use_let kF ?_); intro km kF2; clear kF) | skip)
        (try k_fold)
        iterate 27 walk1
        (first | ((with_reducible (rename Fr _ _ _ _ => kF)); (try dsimp only at kF); (refine use_let kF ?_); intro km kF2; clear kF) | skip)
        (try k_fold)
        iterate 22 walk1
        (first | ((with_reducible (rename Fr _ _ _ _ => kF)); (try dsimp only at kF); (refine use_let kF ?_); intro km kF2; clear kF) | skip)
        (try k_fold)
        iterate 1 walk1
        clear eX93
        with_reducible (rename Fr _ _ _ _ => F3)
        (try dsimp only at F3)
        refine use_let F3 ?_
        intro m1 F4
        clear F3
        with_reducible (rename News _ _ _ _ => N3)
        k_dflt (refine whl_start 1 ?_)
        refine whl_inv (by first | passes_own | with_unfolding_all passes_own) (W134b s gs g0 L0 m1 pre body lb l9 vs k ps' news) ?turnj body.length _ ?initj
        case initj => exact ⟨_, _, m1, 0, _, rfl, F4, by rfl, fun _ _ => rfl, by k_asm, by omega, rfl⟩
        case turnj =>
          intro n s' hz2
          refine useG ?_
          intro P9 h9
          obtain ⟨h, tk, m', r, tj, rfl, F, e1, hm, N, b2, rfl⟩ := hz2
          refine h9 ?_
          clear h9 P9
          have em := frame1 hm
          rw [e1] at em
          clear e1 hm
          subst em
          generalize hQj : WPost _ _ _ = Qj
          obtain ⟨qq, hqq⟩ : ∃ qq, (body ++ [93])[r]? = some qq := ⟨_, List.getElem?_eq_getElem (by simp; omega)⟩
          have iq : Txt.item (⟨its.flatten.toArray⟩ : Str) ((pre.length : Int) + 1 + (r : Nat)) = ⟨#[qq]⟩ := item_codes (by omega) (by
            rw [show ((pre.length : Int) + 1 + (r : Nat)).toNat = pre.length + (r + 1) from Nat.add_right_comm pre.length 1 r, hpart _ (by omega), List.getElem?_cons_succ]; exact hqq)
          by_cases hr : r = body.length
          · have hq93 : qq = 93 := by
              rw [hr, List.getElem?_append_right (Nat.le_refl _)] at hqq
              simpa using hqq.symm
            subst hq93
            iterate 20 walk1
            subst hQj
            (repeat (k_unfold; (try dsimp only)))
            (try dsimp only [WPost])
            clear iq hqq
            subst hr
            have hst : ((its.flatten.take ((pre.length : Int) + 1 + (body.length : Nat)).toNat).drop ((pre.length : Int) + 1).toNat) = body := by
              rw [show ((pre.length : Int) + 1 + (body.length : Nat)).toNat = (pre.length + 1) + body.length from rfl, show ((pre.length : Int) + 1).toNat = (pre.length + 1) + 0 from rfl, part_slice hbody (Nat.le_refl _), List.take_length]; rfl
            (first | ((with_reducible (rename Fr _ _ _ _ => kF)); (try dsimp only at kF); (refine use_let kF ?_); intro km kF2; clear kF) | skip)
            (try k_fold)
            iterate 8 walk1
            (first | ((with_reducible (rename Fr _ _ _ _ => kF)); (try dsimp only at kF); (refine use_let kF ?_); intro km kF2; clear kF) | skip)
            (try k_fold)
            iterate 11 walk1
            iterate 6 walk1
            refine notIn_dash (dash_in hc hbd) ?_
            iterate 9 walk1
            (first | ((with_reducible (rename Fr _ _ _ _ => kF)); (try dsimp only at kF); (refine use_let kF ?_); intro km kF2; clear kF) | skip)
            (try k_fold)
            iterate 18 walk1
            (first | ((with_reducible (rename Fr _ _ _ _ => kF)); (try dsimp only at kF); (refine use_let kF ?_); intro km kF2; clear kF) | skip)
            (try k_fold)
            iterate 1 walk1
            clear eX33 iX ik hX
            with_reducible (rename News _ _ _ _ => N3)
            with_reducible (rename Fr _ _ _ _ => F3)
            refine led_name1 N3 ?_
            intro l5 hl5
            subst hl5
            have hl5b : @LT.lt Nat _ lb l5 := by
              with_reducible (rename @LT.lt Nat _ lb l5 ∧ _ => lA)
              exact lA.1
            with_reducible (rename _ ∧ _ ∧ _ ∧ AllLt l5 news => lA5)
            (try dsimp only at F3)
            refine use_let F3 ?_
            intro m2 F4
            clear F3
            refine useG ?_
            intro P9 h9
            obtain ⟨pl, pcut, plast, pord, pfew, pocc, pjoin, pok⟩ := pc_facts hc
            refine h9 ?_
            clear h9 P9
            replace pl := hid pl
            rw [hbd] at pcut plast pjoin
            k_dflt (refine whl_start 1 ?_)
            refine whl_inv (by first | passes_own | with_unfolding_all passes_own) (W134c s gs g0 L0 m2 pre c l5 lb l9 vs k ps' news) ?turnw (pcN c) _ ?initw
            case initw =>
              obtain ⟨ti0, hi0⟩ : ∃ ti, m2 "i" = some (.int ((pre.length : Int) + 1) ti) := ⟨_, by rfl⟩
              obtain ⟨tk0, hk0⟩ : ∃ tk, m2 "k" = some (.int ((pre.length : Int) + 1 + 1) tk) := ⟨_, by rfl⟩
              have z1 : (pre.length : Int) + 1 = (pre.length : Int) + 1 + ((3 * 0 - 1 : Nat) : Int) := by omega
              have z2 : (pre.length : Int) + 1 + 1 = (pre.length : Int) + 2 + 3 * ((0 : Nat) : Int) := by omega
              exact ⟨_, _, m2, 0, ti0, tk0, [], 0, rfl, F4, z1 ▸ hi0, z2 ▸ hk0, fun _ _ _ => rfl, N3, .nil, Nat.zero_le _, rfl⟩
            case turnw =>
              intro n s' hz2
              refine useG ?_
              intro P9 h9
              obtain ⟨h, tk, m', t5, ti, tkk, vs5, k5, rfl, F, e1, e2, hm, N, hvs5, ht5, rfl⟩ := hz2
              refine h9 ?_
              clear h9 P9
              have em := frame2 hm
              rw [e1, e2] at em
              clear e1 e2 hm
              subst em
              (try dsimp only at F)
              generalize hQw : WPost _ _ _ = Qw
              obtain ⟨rr, hfr, hcase⟩ : ∃ rr, find4 (⟨its.flatten.toArray⟩ : Str) (PySem.Str.ofString "-") ((pre.length : Int) + 2 + 3 * (t5 : Int)).toNat ((pre.length : Int) + 1 + (body.length : Nat)).toNat = rr ∧ ((t5 < pcN c ∧ rr = (pre.length : Int) + 2 + 3 * (t5 : Int)) ∨ (t5 = pcN c ∧ rr = -1)) := by
                rcases Nat.lt_or_ge t5 (pcN c) with hlt | hge
                · obtain ⟨q1, q2, _⟩ := pcut t5 hlt
                  exact ⟨_, find4_at hbody (by omega) (a := 3 * t5 + 1) (k := 3 * t5 + 1) (Nat.le_refl _) q2 (by omega) q1 (by rw [List.drop_take, Nat.sub_self]; rfl) rfl, .inl ⟨hlt, by omega⟩⟩
                · have e : t5 = pcN c := by omega
                  exact ⟨_, find4_no hbody (by omega) (a := 3 * t5 + 1) (by omega) (by rw [e]; exact plast.2.1), .inr ⟨e, rfl⟩⟩
              replace hfr := hid hfr
              have plast1 := plast.1
              iterate 19 walk1
              (first | ((with_reducible (rename Fr _ _ _ _ => kF)); (try dsimp only at kF); (refine use_let kF ?_); intro km kF2; clear kF) | skip)
              (try k_fold)
              iterate 7 walk1
              rcases hcase with ⟨hlt, rfl⟩ | ⟨heq, rfl⟩
              · have hsl : ((its.flatten.take ((pre.length : Int) + 2 + 3 * (t5 : Int)).toNat).drop ((pre.length : Int) + 1 + ((3 * t5 - 1 : Nat) : Int)).toNat) = pcAt c t5 := by
                  obtain ⟨q1, q2, q3⟩ := pcut t5 hlt
                  rw [show ((pre.length : Int) + 2 + 3 * (t5 : Int)).toNat = (pre.length + 1) + (3 * t5 + 1) from (by rw [Nat.add_assoc pre.length 1, Nat.add_comm 1, Nat.add_assoc (3 * t5), Nat.add_comm (3 * t5), ← Nat.add_assoc] : pre.length + 2 + 3 * t5 = (pre.length + 1) + (3 * t5 + 1)), show ((pre.length : Int) + 1 + ((3 * t5 - 1 : Nat) : Int)).toNat = (pre.length + 1) + (3 * t5 - 1) from rfl, part_slice hbody (by omega)]
                  exact q3
                have hv5 : vs5.toArray.size ≤ 1000 := by
                  rw [List.size_toArray, strs_len hvs5, List.length_take]; omega
                iterate 22 walk1
                (first | ((with_reducible (rename Fr _ _ _ _ => kF)); (try dsimp only at kF); (refine use_let kF ?_); intro km kF2; clear kF) | skip)
                (try k_fold)
                iterate 8 walk1
                (first | ((with_reducible (rename Fr _ _ _ _ => kF)); (try dsimp only at kF); (refine use_let kF ?_); intro km kF2; clear kF) | skip)
                (try k_fold)
                iterate 8 walk1
                with_reducible (rename News _ _ _ _ => N9)
                rw [List.push_toArray] at N9
                have z1 : (pre.length : Int) + 2 + 3 * (t5 : Int) + 1 = (pre.length : Int) + 1 + ((3 * (t5 + 1) - 1 : Nat) : Int) := by omega
                have z2 : (pre.length : Int) + 2 + 3 * (t5 : Int) + 3 = (pre.length : Int) + 2 + 3 * ((t5 + 1 : Nat) : Int) := by omega
                have hps : (pcS c)[t5]? = some ⟨(pcAt c t5).toArray⟩ := by
                  rw [List.getElem?_map, pcAt, List.getD_eq_getElem?_getD, List.getElem?_eq_getElem (show t5 < (pcs c).length by rw [pl.out]; omega)]; rfl
                subst hQw
                refine ⟨pcN c - (t5 + 1), Nat.sub_lt_sub_left (by assumption) (Nat.lt_succ_self _), _, _, _, t5 + 1, _, _, _, _, rfl, by k_asm, by rw [← z1]; rfl, by rw [← z2]; rfl, ?_, N9, ?_, by omega, rfl⟩
                · intro z h1 h2
                  repeat (first | (with_reducible rfl) | (refine frN (by assumption) ?_))
                · rw [List.take_add_one, hps]
                  exact strs_snoc hvs5
              · iterate 5 walk1
                subst heq
                subst hQw
                (repeat (k_unfold; (try dsimp only)))
                (try dsimp only [WPost])
                have hsl : ((its.flatten.take ((pre.length : Int) + 1 + (body.length : Nat)).toNat).drop ((pre.length : Int) + 1 + ((3 * pcN c - 1 : Nat) : Int)).toNat) = pcAt c (pcN c) := by
                  rw [show ((pre.length : Int) + 1 + (body.length : Nat)).toNat = (pre.length + 1) + body.length from rfl, show ((pre.length : Int) + 1 + ((3 * pcN c - 1 : Nat) : Int)).toNat = (pre.length + 1) + (3 * pcN c - 1) from rfl, part_slice hbody (Nat.le_refl _)]
                  exact plast.2.2
                have hmN : pcAt c (pcN c) ∈ pcs c := by
                  rw [pcAt, List.getD_eq_getElem?_getD, List.getElem?_eq_getElem (show pcN c < (pcs c).length by rw [pl.out]; omega)]; exact List.getElem_mem _
                have hcl0 := (pfew _ hmN).1
                have hclN : (⟨(pcAt c (pcN c)).toArray⟩ : Str).length = (pcAt c (pcN c)).length := cod_len _
                have hv5 : vs5.toArray.size ≤ 1000 := by
                  rw [List.size_toArray, strs_len hvs5, List.length_take, List.length_map, pl.out]; omega
                iterate 14 walk1
                clear hsl
                have hcl3 := (pfew _ hmN).2
                (first | ((with_reducible (rename Fr _ _ _ _ => kF)); (try dsimp only at kF); (refine use_let kF ?_); intro km kF2; clear kF) | skip)
                (try k_fold)
                iterate 3 walk1
                rw [show ((((⟨(pcAt c (pcN c)).toArray⟩ : Str).length : Int) != 0)) = true by rw [hclN]; exact bne_iff_ne.mpr (by omega)]
                iterate 12 walk1
                with_reducible (rename News _ _ _ _ => N9)
                rw [List.push_toArray] at N9
                have hall : (pcS c).take (pcN c) ++ [⟨(pcAt c (pcN c)).toArray⟩] = pcS c := by
                  have e : (pcS c)[pcN c]? = some ⟨(pcAt c (pcN c)).toArray⟩ := by
                    rw [List.getElem?_map, pcAt, List.getD_eq_getElem?_getD, List.getElem?_eq_getElem (show pcN c < (pcs c).length by rw [pl.out]; omega)]; rfl
                  have e2 := List.take_add_one (l := pcS c) (i := pcN c)
                  rw [e, List.take_of_length_le (by rw [List.length_map, pl.out]; omega)] at e2
                  exact e2.symm
                obtain ⟨vs6, k6, N10, hst6⟩ : ∃ vs6 k6, News g0 L0 _ ((l5, W.listOf (List.toArray vs6) k6) :: (lb, boundApp l9) :: (l9, W.listOf vs.toArray k) :: (129, tabObj ps') :: news) ∧ StrsAre vs6 (pcS c) := ⟨_, _, N9, by rw [← hall]; exact strs_snoc hvs5⟩
                clear N9 hvs5 hv5 hcl0 hclN hcl3 hmN hall
                have hl6 : vs6.length = pcN c + 1 := by rw [strs_len hst6, List.length_map, pl.out]
                have hl6a : vs6.toArray.size = pcN c + 1 := by rw [List.size_toArray]; exact hl6
                iterate 14 walk1
                k_dflt (refine PyProof.Rows.len_list ⟨_, (N10 _ (.head _)).1, rfl, _, rfl⟩ (by rw [hl6a]; have := (pcN_pos c).2; omega) ?_)
                rw [hl6a]
                replace hl6 := hid hl6
                clear hl6a
                iterate 10 walk1
                with_reducible (rename IsRange _ _ _ _ _ _ _ _ => rgX)
                with_reducible (rename Fr _ _ _ _ => F9)
                with_reducible (rename News _ _ _ _ => N9)
                (try dsimp only at F9)
                refine use_let F9 ?_
                intro m3 F10
                clear F9
                k_dflt (refine krs_iter (n := pcN c) (by rfl) rgX (pcN_range c).1 (pcN_range c).2 F10 N9 ?_)
                intro I5 lI5
                refine krsRest_inv (fun i m nw => (∀ z : Str, z ≠ "k" → m z = m3 z) ∧ nw = (l5, W.listOf (List.toArray vs6) k6) :: (lb, boundApp l9) :: (l9, W.listOf vs.toArray k) :: (129, tabObj ps') :: news) ?turnk ?donek _ 0 _ _ (Nat.zero_add _) ⟨fun _ _ => rfl, rfl⟩
                case turnk =>
                  rintro i m nw t1 h1 tk1 it hi ⟨hm, rfl⟩ F N
                  have em := frame1 hm
                  generalize m "k" = v1 at em
                  clear hm
                  subst em
                  (try dsimp only at F)
                  refine useG ?_
                  intro P9 h9
                  obtain ⟨q, hq⟩ : ∃ q, q = pcN c - 1 - i := ⟨_, rfl⟩
                  obtain ⟨zq, zi⟩ := rev_idx (by assumption) hq
                  clear hq
                  obtain ⟨ca, cx, cy, cr, ec1, ec2, hxy⟩ := pord q zq
                  obtain ⟨tq1, hv1⟩ : ∃ t, vs6[q]? = some (.str ⟨(ca ++ [cx]).toArray⟩ t) := by
                    refine strs_get hst6 ?_
                    rw [← ec1, List.getElem?_map, pcAt, List.getD_eq_getElem?_getD, List.getElem?_eq_getElem (show q < (pcs c).length by rw [pl.out]; exact Nat.lt_succ_of_lt zq)]; rfl
                  obtain ⟨tq2, hv2⟩ : ∃ t, vs6[q + 1]? = some (.str ⟨(cy :: cr).toArray⟩ t) := by
                    refine strs_get hst6 ?_
                    rw [← ec2, List.getElem?_map, pcAt, List.getD_eq_getElem?_getD, List.getElem?_eq_getElem (show q + 1 < (pcs c).length by rw [pl.out]; exact Nat.succ_lt_succ zq)]; rfl
                  refine h9 ?_
                  clear h9 P9
                  have z1 : (((pcN c + 1 : Nat) : Int) - 1 + (i : Int) * (-1) - 1).toNat = q := by rw [zi, Int.add_sub_cancel]; rfl
                  have z2 : (((pcN c + 1 : Nat) : Int) - 1 + (i : Int) * (-1)).toNat = q + 1 := by rw [zi]; rfl
                  iterate 10 walk1
                  k_dflt (refine item_lit (l := l5) (vs := vs6) (kk := k6) N (.tail _ (.head _)) (by omega) (by omega) (by rw [z1]; exact hv1) ?_ (by with_unfolding_all rfl))
                  (first | ((with_reducible (rename Fr _ _ _ _ => kF)); (try dsimp only at kF); (refine use_let kF ?_); intro km kF2; clear kF) | skip)
                  (try k_fold)
                  iterate 3 walk1
                  k_dflt (refine item_cod (item_last ca cx) (by decide) (by simp only [List.length_append, List.length_cons, List.length_nil]; omega) (by simp only [List.length_append, List.length_cons, List.length_nil]; omega) ?_ (by with_unfolding_all rfl) (by intro _; with_unfolding_all rfl))
                  iterate 4 walk1
                  k_dflt (refine item_lit (l := l5) (vs := vs6) (kk := k6) N (.tail _ (.head _)) (by omega) (by omega) (by rw [z2]; exact hv2) ?_ (by with_unfolding_all rfl))
                  iterate 1 walk1
                  k_dflt (refine item_cod (l := cy :: cr) (q := cy) (item_codes (by decide) rfl) (by decide) (by simp only [List.length_cons]; omega) (by simp only [List.length_cons]; omega) ?_ (by with_unfolding_all rfl) (by intro _; with_unfolding_all rfl))
                  iterate 1 walk1
                  rw [chunk_no hxy]
                  iterate 6 walk1
                  with_reducible (rename News _ _ _ _ => N4)
                  with_reducible (rename Fr _ _ _ _ => F4)
                  refine UnrEnd.intro F4 N4 ((l5, W.listOf (List.toArray vs6) k6) :: (lb, boundApp l9) :: (l9, W.listOf vs.toArray k) :: (129, tabObj ps') :: news) (fun p hp => hp) (fun p hp => Nat.ne_of_lt (lI5 p hp)) ?_
                  refine ⟨?_, rfl⟩
                  intro z h1
                  repeat (first | (with_reducible rfl) | (refine frN (by assumption) ?_))
                case donek =>
                  rintro m nw h1 tk1 ⟨hm, rfl⟩ F N
                  have em := frame1 hm
                  generalize m "k" = v1 at em
                  clear hm
                  subst em
                  (try dsimp only at F)
                  iterate 7 walk1
                  clear lI5 rgX
                  with_reducible (rename Below _ _ _ g0 => B')
                  with_reducible (rename Top _ _ _ _ _ g0 => T')
                  with_reducible (rename Frag.In _ g0 => X')
                  with_reducible (rename News _ _ _ _ => N4)
                  with_reducible (rename Fr _ _ _ _ => F4)
                  have hC1 : CodeHd g0 133 129 := CodeHd.keeps hC (Below.stays B')
                  have o129 : @LT.lt Nat _ 129 l5 := Nat.lt_trans hA129 (Nat.lt_trans hlb9 hl5b)
                  show wpAny _ _ (eval (.GeneratorExp _ [⟨.Name (PySem.Str.ofString "s") _, _, [], 0⟩] _ _) (envX (PySem.Str.ofString "_translate") _ L0 134 (.ref 133) [])) _ _ _
                  refine gen_core (clos := []) (P := 129) (ps := ps') (l := l5) (news := (l5, W.listOf (List.toArray vs6) k6) :: (lb, boundApp l9) :: (l9, W.listOf vs.toArray k) :: (129, tabObj ps') :: news)
                    (Fv := fun i y => ∃ u, y = .str ((pcS c).getD i ⟨#[]⟩) u)
                    (vs := vs6) (k := k6)
                    (fun c' nw => ∃ ps1, Mid129 ps1 ∧ nw = (l5, W.listOf (List.toArray vs6) k6) :: (lb, boundApp l9) :: (l9, W.listOf vs.toArray k) :: (129, tabObj ps1) :: news)
                    F4 N4 T' ?hG ?hP ?hl ?hstep ?hh ?hco ?hclos ?hcell ?h0 ?hx ?hkind ?hroom ?hiter ?helt ?hQ ?hs
                  case hG => exact hgs
                  case hP => exact .tail _ (.tail _ (.tail _ (.head _)))
                  case hl => exact .head _
                  case hh => rfl
                  case hco => rfl
                  case hclos => rfl
                  case hcell => decide
                  case h0 => rfl
                  case hx => rfl
                  case hkind => rfl
                  case hroom => ktr_room
                  case hs => intro _; with_unfolding_all rfl
                  case hiter =>
                    intro Q' hq
                    (first | ((with_reducible (rename Fr _ _ _ _ => kF)); (try dsimp only at kF); (refine use_let kF ?_); intro km kF2; clear kF) | skip)
                    (try k_fold)
                    iterate 1 walk1
                    exact hq
                  case hstep =>
                    intro s₂ R F2 N2 hR
                    rcases hps' with rfl | ⟨g1', g2', rfl⟩
                    · exact gcode_new (g := fun o => (l5, W.listOf (List.toArray vs6) k6) :: (lb, boundApp l9) :: (l9, W.listOf vs.toArray k) :: (129, o) :: news) hC1 rfl
                        (.tail (Nat.ne_of_gt o129) (.tail (Nat.ne_of_gt (Nat.lt_trans hA129 hlb9)) (.tail (Nat.ne_of_gt hA129) (.head hn129)))) (by kn_triples) rfl F2 N2 fun c' h₃ tk₃ nw F3 N3 hx hsz hsub hΛ => by
                          refine useG ?_
                          intro P9 h9
                          obtain ⟨oc, vs', t', rfl, _, _, _⟩ := hΛ
                          refine h9 ?_
                          clear h9 P9
                          exact hR c' h₃ tk₃ _ F3 (News.drop1 N3) hx hsz (fun q hq => hsub q (.tail _ hq)) ⟨_, .inl ⟨c', rfl⟩, rfl⟩
                    · exact gcode_hit (c₁ := g1') hC1 rfl (.tail _ (.tail _ (.tail _ (.head _)))) (by kn_triples) rfl F2 N2 fun c' h₃ tk₃ nw F3 N3 hx hsz hsub hΛ => by
                          subst hΛ
                          exact hR c' h₃ tk₃ _ F3 N3 hx hsz hsub ⟨_, .inr ⟨g1', g2', rfl⟩, rfl⟩
                  case helt =>
                    intro A' E' i v t C' m₂ code hA hD hU hv F hm
                    have key := pc_elt (pc_facts hc) hst6 hv
                    refine useG ?_
                    intro P9 h9
                    obtain ⟨x, u, rfl, hx, o1, o2⟩ := key
                    refine h9 ?_
                    clear h9 P9
                    refine MethodCall_ (MethodCall_ (ldVarG F hm ?_))
                    iterate 7 walk1
                    refine replace_none o1 ?_
                    iterate 7 walk1
                    refine replace_none o2 ?_
                    exact ⟨⟨_, by rw [hx]⟩, ⟨_, _, rfl, fun _ _ e => e⟩⟩
                  case hQ =>
                    intro a9 c9 nw h9 tk9 gs9 F5 N5 hΛ hg9 X9
                    obtain ⟨ps1, hps1, rfl⟩ := hΛ
                    clear F4 N4 hgs
                    iterate 1 walk1
                    refine join_gen F5 N5 hg9 X9 (fun j => (pcS c).getD j ⟨#[]⟩) (fun j v h => h) (by rw [pc_list (pc_facts hc) hl6.out]; exact pok) (by rw [hl6.out, sizeLine_eq]; exact Nat.le_trans (Nat.succ_le_succ (pcN_pos c).2) (by decide)) ?_
                    clear X9 hg9 N5 F5
                    intro h8 t8 tk8 gs8 F6 N6 hg8
                    rw [pc_list (pc_facts hc) hl6, pjoin]
                    iterate 7 walk1
                    with_reducible (rename Fr _ _ _ _ => F7)
                    refine useG ?_
                    intro P9 h9
                    obtain ⟨pvs, p1, p2, p3, p4⟩ := in115 w
                    refine h9 ?_
                    clear h9 P9
                    have e115 := F7.keep _ _ (X' 115 _ p1)
                    refine meth_re e115 rfl rfl ?_
                    clear e115
                    iterate 2 walk1
                    with_reducible (rename Fr _ _ _ _ => F7)
                    with_reducible (rename News _ _ _ _ => N7)
                    k_dflt (refine kla_eval rfl ?_)
                    refine lam_mid (g := fun o => (l5, W.listOf (List.toArray vs6) k6) :: (lb, boundApp l9) :: (l9, W.listOf vs.toArray k) :: (129, o) :: news) F7 N7 T' hC1 rfl
                      (.tail (Nat.ne_of_gt o129) (.tail (Nat.ne_of_gt (Nat.lt_trans hA129 hlb9)) (.tail (Nat.ne_of_gt hA129) (.head hn129)))) hps1 rfl rfl rfl ?_
                    clear N7 F7
                    intro f9 fo9 ps2 h7 tk7 F8 N8 hfo9 hps2 hlf
                    have lf1 : @LT.lt Nat _ l9 f9 := hlf _ (.tail _ (.tail _ (.head _)))
                    have lf2 : @LT.lt Nat _ l5 f9 := hlf _ (.head _)
                    have lf3 : @LT.lt Nat _ lb f9 := hlf _ (.tail _ (.head _))
                    clear hlf
                    iterate 3 walk1
                    obtain ⟨its114, n114, q1, q2⟩ := in114 w
                    refine re_sub (F8.keep _ _ (X' 115 _ p1)) rfl rfl p2 p3 (F8.keep _ _ (X' 114 _ q1)) rfl (N8 _ (.head _)).1 hfo9 (by omega) (by omega) (k := 100) (by decide) (by decide) (by rw [q2, p4]; exact hse) ?_
                    clear hse
                    obtain ⟨hd33, hd94, hd91⟩ := pc_hd hc (hbd.trans hXt)
                    intro h5 t5 tk5 hk5
                    have F9 := F8.keptAll hk5
                    have N9 := N8.keepsAll hk5
                    clear F8 N8 hk5
                    have iX : Txt.item (⟨body.toArray⟩ : Str) 0 = ⟨#[X]⟩ := item_codes (by decide) (by rw [hXt]; rfl)
                    have eX33 : ((⟨#[X]⟩ : Str) == PySem.Str.ofString "!") = false := by
                      rw [show PySem.Str.ofString "!" = ⟨#[33]⟩ by decide +kernel, one_eq]; exact decide_eq_false (by omega)
                    have eB33 : ((⟨body.toArray⟩ : Str) == PySem.Str.ofString "!") = false := by
                      rw [show PySem.Str.ofString "!" = ⟨[33].toArray⟩ by decide +kernel, cod_eq, hXt]; exact decide_eq_false (fun e => hd33 (List.cons.inj e).1)
                    have hbt : Hid ((⟨body.toArray⟩ : Str).length = body.length) := hid (cod_len body)
                    have hbt1 : (⟨body.toArray⟩ : Str).length ≤ 98 := by rw [hbt.out]; omega
                    iterate 15 walk1
                    rw [show (!(((⟨body.toArray⟩ : Str).length : Int) != 0)) = false by rw [hbt.out, bne_iff_ne.mpr (by omega)]; rfl]
                    iterate 9 walk1
                    (first | ((with_reducible (rename Fr _ _ _ _ => kF)); (try dsimp only at kF); (refine use_let kF ?_); intro km kF2; clear kF) | skip)
                    (try k_fold)
                    iterate 30 walk1
                    have hany : ([PySem.Str.ofString "^", PySem.Str.ofString "["].any fun x => x == (⟨#[X]⟩ : Str)) = false := by
                      rw [show PySem.Str.ofString "^" = ⟨#[94]⟩ by decide +kernel, show PySem.Str.ofString "[" = ⟨#[91]⟩ by decide +kernel]
                      simp only [List.any_cons, List.any_nil, one_eq, Bool.or_false, Bool.or_eq_false_iff, decide_eq_false_iff_not]
                      omega
                    rw [hany]
                    clear hany
                    iterate 8 walk1
                    k_dflt (refine callWith_app l9 ?_)
                    iterate 15 walk1
                    with_reducible (rename Fr _ _ _ _ => F10)
                    with_reducible (rename News _ _ _ _ => N10)
                    refine ⟨(N10 _ (.tail _ (.tail _ (.tail _ (.head _))))).1, ?_⟩
                    refine call_app (its := vs.toArray) F10 N10 (.tail _ (.tail _ (.tail _ (.head _)))) (by k_upd) ?_ (Nat.le_trans hvl (by rw [sizeLine_eq]; decide))
                    clear F10 N10
                    intro h6 F11 N11
                    rw [List.push_toArray] at N11
                    k_steps
                    subst hQz
                    refine ⟨its.length - (t + 1), Nat.sub_lt_sub_left htl (Nat.lt_succ_self _), _, _, _, _, t + 1, _, _, _, ps2, rfl, hg8, by k_asm, by rw [hnl.out, show ((pre.length + (body.length + 2) : Nat) : Int) = (pre.length : Int) + 1 + (body.length : Nat) + 1 by omega]; rfl, ?_, News.drop1 (News.drop1 (News.drop1 N11)), hps2, parts_next hvs hit (by rw [glue_set]; unfold partC; rw [if_neg (by simp)]), by omega, rfl⟩
                    intro z h1 h2 h3 h4 h5 h6 h7
                    repeat (first | (with_reducible rfl) | (refine frN (by assumption) ?_))
          · have hq93 : ((⟨#[qq]⟩ : Str) != PySem.Str.ofString "]") = true := by
              rw [List.getElem?_append_left (by omega)] at hqq
              have := body_no93 hc hbd (List.mem_of_getElem? hqq)
              have e : ((⟨#[qq]⟩ : Str) == PySem.Str.ofString "]") = false := by
                rw [show PySem.Str.ofString "]" = ⟨#[93]⟩ by decide +kernel, one_eq]; exact decide_eq_false this
              unfold bne; rw [e]; rfl
            k_steps
            subst hQj
            refine ⟨body.length - (r + 1), Nat.sub_lt_sub_left (Nat.lt_of_le_of_ne (by assumption) hr) (Nat.lt_succ_self _), _, _, _, r + 1, _, rfl, by k_asm, by rw [show (pre.length : Int) + 1 + ((r + 1 : Nat) : Int) = (pre.length : Int) + 1 + (r : Nat) + 1 by omega]; rfl, ?_, by k_asm, by omega, rfl⟩
            intro z h1
            repeat (first | (with_reducible rfl) | (refine frN (by assumption) ?_))
end
section
local macro_rules | `(tactic| walk_at "mine_pad0") => `(tactic| fail)
local macro_rules | `(tactic| walk_at "mine_pad1") => `(tactic| fail)
local macro_rules | `(tactic| walk_at "mine_pad2") => `(tactic| fail)
local macro_rules | `(tactic| walk_at "mine_pad3") => `(tactic| fail)
local macro_rules | `(tactic| walk_at "call builtin:len") => `(tactic| ((with_reducible show wpAny _ _ (call (Value.builtin "len") [Value.str _ _]) _ _ _); refine len_txt (by omega) ?_))
section
theorem woff14 : True := by
  w_top off
  trivial
/-- a part of a glob takes a sign -/
def partS (it : List Nat) (q : Nat) : Bool := it == [63] || scan q (it.drop 1).dropLast
def takesS (its : List (List Nat)) (l : List Nat) : Bool := (its.zip l).all fun q => partS q.1 q.2
theorem strs_item {vs : List Value} {xs : List Str} {i : Nat} {v : Value} (h : StrsAre vs xs) (hv : vs[i]? = some v) : ∃ t, v = .str (xs.getD i ⟨#[]⟩) t := by
  induction h generalizing i with
  | nil => simp at hv
  | cons x u _ ih =>
    cases i with
    | zero => exact ⟨u, by simpa using hv.symm⟩
    | succ i => simpa using ih (by simpa using hv)
theorem part_snoc {its : List (List Nat)} {l : List Nat} {i cp : Nat} {it : List Nat} {b : Bool} (hi : its[i]? = some it) (hcp : l[i]? = some cp) (hb : b = partS it cp) :
    ((its.zip l).take i).map (fun q => Value.bool (partS q.1 q.2)) ++ [Value.bool b] = ((its.zip l).take (i + 1)).map (fun q => Value.bool (partS q.1 q.2)) := by
  have hz : (its.zip l)[i]? = some (it, cp) := by rw [List.getElem?_zip_eq_some]; exact ⟨hi, hcp⟩
  rw [List.take_add_one, hz, List.map_append, hb]
  rfl
theorem boolsAre_map {α : Type} (f : α → Bool) : ∀ l : List α, LSm.BoolsAre (l.map fun a => Value.bool (f a)) (l.map f)
  | [] => .nil
  | a :: r => .cons _ (boolsAre_map f r)
theorem setOk_all : (List.range 43).all (fun c => setOk (bodyC c) && decide ((bodyC c).length ≤ 20) && (match bodyC c with | x :: _ => x != 94 | [] => false)) = true := by decide +kernel
theorem set_facts {c : Nat} (h : c < 43) : setOk (bodyC c) = true ∧ (bodyC c).length ≤ 20 ∧ ∃ x r, bodyC c = x :: r ∧ x ≠ 94 := by
  have := List.all_eq_true.mp setOk_all c (List.mem_range.mpr h)
  simp only [Bool.and_eq_true, decide_eq_true_eq] at this
  refine ⟨this.1.1, this.1.2, ?_⟩
  have h2 := this.2
  cases hb : bodyC c with
  | nil => rw [hb] at h2; cases h2
  | cons x r => rw [hb] at h2; exact ⟨x, r, rfl, by simpa using h2⟩
theorem part_set (body : List Nat) (q : Nat) : partS (91 :: (body ++ [93])) q = scan q body := by
  unfold partS
  rw [show ((91 :: (body ++ [93])) == [63]) = false by simp, Bool.false_or]
  simp
theorem c167 {w : World} {p : Program} {loose : List Str} {mean : ExcName → Option Value} {mg mb : Str → Option Value} {news : List (Addr × Obj)} {its : List (List Nat)} {l : List Nat} {ps : Array Value} {tb tt : Tok} (hits : ∀ it ∈ its, it = [63] ∨ isSet it) (hs : its.flatten.length ≤ 100) (hl : its.length = l.length) (hl2 : l.length ≤ 20) (ha : l.all (· < 128) = true)
  (hps : Tab129 ps) (hn129 : ∀ q ∈ news, q.1 ≠ 129) :
  CallsToG w p loose mean mg mb (fun base => CodeHd base 133 129) ((129, tabObj ps) :: news) 167 [.str ⟨its.flatten.toArray⟩ tb, .str ⟨l.toArray⟩ tt] 300 3600
    (fun v Λ' => ∃ ps', v = .bool (takesS its l) ∧ Tab129 ps' ∧ Λ' = (129, tabObj ps') :: news) := by
  intro dp un gd cn cs a ccd cl outer A₀ base h₀ L m s Q E B hC F X N T hG hk hdp hun hret
  (revert X; k_fill; intro X)
  refine wpAny_call ?_
  k_dflt (walk_at "my_enter")
  iterate 14 walk1
  k_dflt (refine' c134 hits hs hps hn129 _ _ _ _ _ _ _ _ _ _ _ _ _ _ _ _ _ ?k1 ?kB ?k2 ?k3 ?k4 ?k5 ?kG ?k6 ?k7 ?k8 ?_; (case k1 => k_asm); (case kB => exact hC); (case k2 => k_asm); (case k3 => k_asm); (case k4 => k_asm); (case k5 => k_asm); (case kG => exact hG); (case k6 => first | exact rfl | assumption); (case k7 => ktr_room); (case k8 => ktr_units))
  intro v Λ' h' tk' gs N0 N' hgs hr
  refine useG ?_
  intro P9 h9
  obtain ⟨D, vs, k, ps', e, hDn, hD129, hvs, hps', e2⟩ := hr
  subst e e2
  refine h9 ?_
  clear h9 P9
  (try dsimp only)
  have hvl : vs.toArray.size ≤ 1000 := by rw [List.size_toArray, strs_len hvs, List.length_map]; omega
  have hvl2 : vs.length = l.length := by rw [strs_len hvs, List.length_map]; omega
  have hvl3 : vs.toArray.size = l.length := by rw [List.size_toArray]; exact hvl2
  iterate 26 walk1
  rotate_left
  · exfalso; omega
  iterate 1 walk1
  k_dflt (refine spliced_more ?_)
  k_dflt (refine ListComp_P none (F₀ := by k_asm) (by rfl) (by decide) (by rfl) (by decide) (by rfl) (by rfl) (by decide) ?_)
  iterate 8 walk1
  k_dflt (refine zipSrcLS (J := fun i ys nw => nw = (D, listOf (List.toArray vs) k) :: (129, tabObj ps') :: news ∧ ys = ((its.zip l).take i).map (fun q => Value.bool (partS q.1 q.2))) (by rfl) (by k_asm) (by k_asm) (by k_mem) ?ha ?hkeep ?hJl ?J0 ?turn ?fin)
  case ha => simpa using ha
  case hkeep => rintro i ys nw ⟨rfl, -⟩; exact List.mem_cons_self
  case hJl =>
    rintro i ys nw ⟨-, rfl⟩ hi
    rw [List.length_map, List.length_take, sizeLine_eq]
    simp only [List.size_toArray] at hi
    omega
  case J0 => exact ⟨rfl, rfl⟩
  case turn =>
    intro i ys nw own x y C oC D' m₂ h tk' E' hlt hJ hg hC' hx' hy' F' N' off offC offD
    refine useG ?_
    intro P9 h9
    obtain ⟨rfl, rfl⟩ := hJ
    obtain ⟨hg1, cp, t9, hg2, rfl⟩ := hg
    refine h9 ?_
    clear h9 P9
    with_reducible (rename StrsAre _ _ => hvs)
    obtain ⟨t8, rfl⟩ := strs_item hvs hg1
    (try dsimp only)
    have hcp : l[i]? = some cp := by simpa using hg2
    have hil : i < its.length := by
      have := (List.getElem?_eq_some_iff.mp hcp).1
      omega
    obtain ⟨it, hit⟩ : ∃ it, its[i]? = some it := ⟨_, List.getElem?_eq_getElem hil⟩
    have epart : (its.map partC).getD i ⟨#[]⟩ = partC it := by
      rw [List.getD_eq_getElem?_getD, List.getElem?_map, hit]; rfl
    rw [epart] at hx'
    simp only [List.cons_append] at N'
    obtain ⟨nw, hnw⟩ : ∃ nw, nw = news ++ own := ⟨_, rfl⟩
    rw [← hnw] at N'
    iterate 10 walk1
    rcases hits it (List.mem_of_getElem? hit) with rfl | ⟨c, hc, rfl⟩
    · rw [show partC [63] = PySem.Str.ofString "." from by unfold partC; rw [if_pos rfl]]
      k_dflt (refine' c162d _ _ _ _ _ _ _ _ _ _ _ _ _ _ _ _ _ ?k1 ?kB ?k2 ?k3 ?k4 ?k5 ?k6 ?k7 ?k8 ?_; (case k1 => k_asm); (case kB => exact trivial); (case k2 => k_asm); (case k3 => k_asm); (case k4 => k_asm); (case k5 => k_asm); (case k6 => first | exact rfl | assumption); (case k7 => ktr_room); (case k8 => ktr_units))
      intro v Λ' h' tk' F' N' hr
      obtain ⟨e, e2⟩ := hr
      subst e e2
      (try dsimp only)
      subst hnw
      exact PEnd.intro (news' := (D, listOf (List.toArray vs) k) :: (129, tabObj ps') :: news) (by k_asm) (by k_asm) off ⟨rfl, part_snoc hit hcp rfl⟩
    · obtain ⟨sf1, sf2, sf3⟩ := set_facts hc
      rw [show partC (91 :: (bodyC c ++ [93])) = ⟨(91 :: (bodyC c ++ [93])).toArray⟩ from by unfold partC; rw [if_neg (by simp)]]
      k_dflt (refine' c162 sf1 sf2 sf3 _ _ _ _ _ _ _ _ _ _ _ _ _ _ _ _ _ ?k1 ?kB ?k2 ?k3 ?k4 ?k5 ?k6 ?k7 ?k8 ?_; (case k1 => k_asm); (case kB => exact trivial); (case k2 => k_asm); (case k3 => k_asm); (case k4 => k_asm); (case k5 => k_asm); (case k6 => first | exact rfl | assumption); (case k7 => ktr_room); (case k8 => ktr_units))
      intro v Λ' h' tk' F' N' hr
      obtain ⟨e, e2⟩ := hr
      subst e e2
      (try dsimp only)
      subst hnw
      exact PEnd.intro (news' := (D, listOf (List.toArray vs) k) :: (129, tabObj ps') :: news) (by k_asm) (by k_asm) off ⟨rfl, part_snoc hit hcp (part_set _ _).symm⟩
  case fin =>
    intro h tk' ys news' hz4
    obtain ⟨rfl, rfl⟩ := hz4
    intro D' h' tk'' F' N' o1'
    (try dsimp only)
    rw [List.take_of_length_le (by rw [List.length_zip, List.size_toArray]; omega)] at N'
    iterate 1 walk1
    k_dflt (refine' LSm.all_bools (bs := (its.zip l).map fun q => partS q.1 q.2) (vs := (its.zip l).map fun q => Value.bool (partS q.1 q.2)) ?F ?N ?hh ?hl (boolsAre_map _ _) ?_)
    case F => exact F'
    case N => exact N'
    case hh => rfl
    case hl => exact ⟨_, (N' _ List.mem_cons_self).1, rfl, _, rfl⟩
    intro h5 tk5 F5 N5
    have ev : ((its.zip l).map fun q => partS q.1 q.2).all id = takesS its l := by rw [List.all_map]; rfl
    rw [ev]
    k_steps
    exact hret _ _ _ _ _ (by k_asm) (News.drop1 (News.drop1 (by k_asm))) hgs ⟨_, rfl, hps', rfl⟩
end
end
section
open PySem PySem.W PyProof.Rows PyProof.Rows.LCg PySem.Calls

theorem ints_un {vs : List Value} {l : List Int} {n : Nat} (h : IntsAre vs l) (hl : l.length = n + 1) : ∃ a t us m, vs = .int a t :: us ∧ l = a :: m ∧ IntsAre us m ∧ m.length = n := by
  cases h with
  | nil => cases hl
  | cons a t h => exact ⟨a, t, _, _, rfl, rfl, h, Nat.succ.inj hl⟩
theorem ints4 {vs : List Value} {l : List Int} (h : IntsAre vs l) (hl : l.length = 4) : ∃ a b c d ta tb tc td, vs = [.int a ta, .int b tb, .int c tc, .int d td] ∧ l = [a, b, c, d] := by
  refine useG ?_
  intro P9 h9
  obtain ⟨a, ta, u1, m1, e1, f1, h1, l1⟩ := ints_un h hl
  obtain ⟨b, tb, u2, m2, e2, f2, h2, l2⟩ := ints_un h1 l1
  obtain ⟨c, tc, u3, m3, e3, f3, h3, l3⟩ := ints_un h2 l2
  obtain ⟨d, td, u4, m4, e4, f4, h4, l4⟩ := ints_un h3 l3
  refine h9 ?_
  clear h9 P9
  have q1 := List.eq_nil_of_length_eq_zero l4
  have q2 := List.eq_nil_of_length_eq_zero (h4.length.trans l4)
  exact ⟨a, b, c, d, ta, tb, tc, td, by rw [e1, e2, e3, e4, q2], by rw [f1, f2, f3, f4, q1]⟩
/-- the number whose counts of 2, 3, 5 and 7 a list tells -/
def prodP (l : List Int) : Int := 2 ^ (l.getD 0 0).toNat * 3 ^ (l.getD 1 0).toNat * 5 ^ (l.getD 2 0).toNat * 7 ^ (l.getD 3 0).toNat
/-- rows of ints in a ledger -/
def RowIn (Λ : List (Addr × Obj)) (Gs : List (List Int)) (vs : List Value) : Prop := vs.length = Gs.length ∧ ∀ (i : Nat) (v : Value), vs[i]? = some v → ∃ R z G, v = .ref R ∧ (R, lst z) ∈ Λ ∧ IntsAre z G ∧ Gs[i]? = some G ∧ G.length = 4 ∧ ∀ x ∈ G, -2 ≤ x ∧ x ≤ 2
theorem RowIn.mk3 {Λ : List (Addr × Obj)} {R0 R1 R2 : Addr} {z0 z1 z2 : List Value} {G0 G1 G2 : List Int} (m0 : (R0, lst z0) ∈ Λ) (m1 : (R1, lst z1) ∈ Λ) (m2 : (R2, lst z2) ∈ Λ) (i0 : IntsAre z0 G0) (i1 : IntsAre z1 G1) (i2 : IntsAre z2 G2)
    (l0 : G0.length = 4) (l1 : G1.length = 4) (l2 : G2.length = 4) (b0 : ∀ x ∈ G0, -2 ≤ x ∧ x ≤ 2) (b1 : ∀ x ∈ G1, -2 ≤ x ∧ x ≤ 2) (b2 : ∀ x ∈ G2, -2 ≤ x ∧ x ≤ 2) : RowIn Λ [G0, G1, G2] [.ref R0, .ref R1, .ref R2] := by
  refine ⟨rfl, fun i v h => ?_⟩
  match i, h with
  | 0, h => exact ⟨R0, z0, G0, (Option.some.inj h).symm, m0, i0, rfl, l0, b0⟩
  | 1, h => exact ⟨R1, z1, G1, (Option.some.inj h).symm, m1, i1, rfl, l1, b1⟩
  | 2, h => exact ⟨R2, z2, G2, (Option.some.inj h).symm, m2, i2, rfl, l2, b2⟩

def posG (G : List Int) : List Int := G.map fun x => if 0 > x then 0 else x
def negG (G : List Int) : List Int := G.map fun x => if 0 > -x then 0 else -x
theorem posG_ok {G : List Int} (hl : G.length = 4) (h : ∀ x ∈ G, -2 ≤ x ∧ x ≤ 2) : (posG G).length = 4 ∧ ∀ x ∈ posG G, 0 ≤ x ∧ x ≤ 2 := by
  refine ⟨by rw [posG, List.length_map, hl], fun x hx => ?_⟩
  obtain ⟨y, hy, rfl⟩ := List.mem_map.mp hx
  have := h y hy
  split <;> omega
theorem negG_ok {G : List Int} (hl : G.length = 4) (h : ∀ x ∈ G, -2 ≤ x ∧ x ≤ 2) : (negG G).length = 4 ∧ ∀ x ∈ negG G, 0 ≤ x ∧ x ≤ 2 := by
  refine ⟨by rw [negG, List.length_map, hl], fun x hx => ?_⟩
  obtain ⟨y, hy, rfl⟩ := List.mem_map.mp hx
  have := h y hy
  split <;> omega
end

section
open PySem PySem.W PyProof.Rows PyProof.Rows.LCg PySem.Calls

def NotCell (o : Obj) : Prop := ∀ v, o.data ≠ .cell v
def NotTab (o : Obj) : Prop := ∀ vs, o.data ≠ .fields vs
theorem notCell_lst (ys : List Value) : NotCell (lst ys) := fun v h => by cases h
theorem notTab_lst (ys : List Value) : NotTab (lst ys) := fun v h => by cases h
theorem notCell_tab (ps : Array Value) : NotCell (tabObj ps) := fun v h => by cases h
section
variable {g h : Heap} {L P a c : Addr} {Λ B : List (Addr × Obj)} {o oc : Obj} {v : Option Value} {ps : Array Value}
theorem sepAll (N : News g L h Λ) (hs : ∀ q ∈ B, q ∈ Λ) (hn : ∀ q ∈ B, NotCell q.2) (hc : (c, oc) ∈ Λ) (hd : oc.data = .cell v) : ∀ q ∈ B, @Ne Nat q.1 c := by
  intro q hq e
  have h1 := (N _ hc).1
  have h2 := (N _ (hs q hq)).1
  rw [show q.1 = c from e, h1] at h2
  exact hn q hq v ((Option.some.inj h2) ▸ hd)
theorem sepTab (N : News g L h Λ) (hP : (P, tabObj ps) ∈ Λ) (hs : ∀ q ∈ B, q ∈ Λ) (hn : ∀ q ∈ B, NotTab q.2) : ∀ q ∈ B, @Ne Nat q.1 P := by
  intro q hq e
  have h1 := (N _ hP).1
  have h2 := (N _ (hs q hq)).1
  rw [show q.1 = P from e, h1] at h2
  exact hn q hq ps ((Option.some.inj h2) ▸ rfl)
theorem News.dup (N : News g L h Λ) (ha : (a, o) ∈ Λ) : News g L h ((a, o) :: Λ) := fun p hp => by
  rcases List.mem_cons.mp hp with rfl | hp
  · exact N _ ha
  · exact N p hp
theorem TabIs.notCell {q : Str} {ln col : Nat} {T : List (Addr × Obj)} (h : TabIs q ln col P T) : ∀ p ∈ T, NotCell p.2 := by
  rcases h with rfl | ⟨c', oc, vs, t, rfl, _, hd, _⟩
  · intro p hp; rw [List.mem_singleton.mp hp]; exact notCell_tab _
  · intro p hp
    rcases List.mem_cons.mp hp with rfl | hp
    · exact notCell_tab _
    · rw [List.mem_singleton.mp hp]; intro v e; rw [hd] at e; cases e
theorem TabIs.tab {q : Str} {ln col : Nat} {T : List (Addr × Obj)} (h : TabIs q ln col P T) : ∃ ps, (P, tabObj ps) ∈ T := by
  rcases h with rfl | ⟨c', oc, vs, t, rfl, _, _, _⟩
  · exact ⟨_, .head _⟩
  · exact ⟨_, .head _⟩
/-- lists and cells lie off both tables -/
theorem hi_of_news {T54 T61 : List (Addr × Obj)} (h54 : Tab54 T54) (h61 : Tab61 T61) (N : News g L h Λ) (s54 : ∀ q ∈ T54, q ∈ Λ) (s61 : ∀ q ∈ T61, q ∈ Λ) (hs : ∀ q ∈ B, q ∈ Λ) (hn : ∀ q ∈ B, NotTab q.2) : Hi B := by
  obtain ⟨p1, m1⟩ := h54.tab
  obtain ⟨p2, m2⟩ := h61.tab
  exact fun q hq => ⟨sepTab N (s54 _ m1) hs hn q hq, sepTab N (s61 _ m2) hs hn q hq⟩
end
end

section
open PySem PySem.W PyProof.Rows PyProof.Rows.LCg PySem.Calls

section
variable {prog : Program} {w : World} {A : Around} {E : Value → Shared → Prop} {s : Shared} {h₀ : Heap} {L : Addr} {m : Str → Option Value} {env : Env}
theorem zipSrcLL {c : Option PySem.Expr} {elt : PySem.Expr} {a b : Str} {pa pb tp : Pos} {kk : Nat} {scope : Scope} {cl : List (Str × Addr)} {Fin : Shared → List Value → List (Addr × Obj) → Prop} {l1 l2 : Addr} {xs zs : List Value} {k1 k2 : Nat} {news : List (Addr × Obj)} {J : Nat → List Value → List (Addr × Obj) → Prop}
    (hh : A.handled = none) (F : Fr h₀ L s.heap m) (N : News h₀ L s.heap news) (hm1 : (l1, listOf xs.toArray k1) ∈ news) (hm2 : (l2, listOf zs.toArray k2) ∈ news)
    (hkeep : ∀ i ys news, J i ys news → (l1, listOf xs.toArray k1) ∈ news ∧ (l2, listOf zs.toArray k2) ∈ news) (hJl : ∀ i ys news, J i ys news → i ≤ min xs.length zs.length → ys.length ≤ sizeLine) (J0 : J 0 [] news)
    (R : PTurn prog w A h₀ L m env c elt a b scope cl s (min xs.length zs.length) (fun i u v => xs[i]? = some u ∧ zs[i]? = some v) J)
    (fin : ∀ h tk ys news', J (min xs.length zs.length) ys news' → Fin { s with heap := h, toks := tk } ys news') :
    wpAny (model prog w) A (call (.type "zip") [.ref l1, .ref l2]) (fun xv s₁ => wpAny (model prog w) A (pyIter xv) (PSrc prog w A h₀ L m env c elt a b pa pb kk tp scope cl Fin) E s₁) E s := by
  have hl : s.heap.IsList l1 xs.toArray := ⟨_, (N _ hm1).1, rfl, _, rfl⟩
  have hl2 : s.heap.IsList l2 zs.toArray := ⟨_, (N _ hm2).1, rfl, _, rfl⟩
  refine zipSrc (k1 := [l1]) (k2 := [l2]) (n1 := xs.length) (n2 := zs.length) (P1 := fun i v => xs[i]? = some v) (P2 := fun i v => zs[i]? = some v) (keep := [(l1, listOf xs.toArray k1), (l2, listOf zs.toArray k2)])
    (St1 := fun I i h => h.IsListIter I l1 i ∧ h.IsList l1 xs.toArray) (St2 := fun I i h => h.IsListIter I l2 i ∧ h.IsList l2 zs.toArray)
    makes_list makes_list hl (hl2.push _) rfl rfl (fun I A' hI hA => ?_) (fun I A' hI hA => ?_) (fun h e hk => ⟨⟨_, e, rfl, rfl⟩, hl.at fun o q => hk l1 o q⟩) (fun h e hk => ⟨⟨_, e, rfl, rfl⟩, hl2.at fun o q => hk l2 o q⟩) ?_ ?_ ?_ hh F N ?_ hJl J0 R fin
  · have := Draws.list (prog := prog) (w := w) hA I l1 (fun e => hI (by simp [e])) xs.toArray
    simpa using this
  · have := Draws.list (prog := prog) (w := w) hA I l2 (fun e => hI (by simp [e])) zs.toArray
    simpa using this
  · intro b hb
    rw [List.mem_singleton.mp hb]
    exact ⟨_, .head _⟩
  · intro b hb
    rw [List.mem_singleton.mp hb]
    exact ⟨_, .tail _ (.head _)⟩
  · intro p hp
    simp only [List.mem_cons, List.not_mem_nil, or_false] at hp
    rcases hp with rfl | rfl
    · exact hm1
    · exact hm2
  · intro i ys news hJ p hp
    simp only [List.mem_cons, List.not_mem_nil, or_false] at hp
    rcases hp with rfl | rfl
    · exact (hkeep i ys news hJ).1
    · exact (hkeep i ys news hJ).2
theorem zipSrcSL {c : Option PySem.Expr} {elt : PySem.Expr} {a b : Str} {pa pb tp : Pos} {kk : Nat} {scope : Scope} {cl : List (Str × Addr)} {Fin : Shared → List Value → List (Addr × Obj) → Prop} {l2 : Addr} {zs : List Value} {k2 : Nat} {x : Str} {t : Tok} {news : List (Addr × Obj)} {J : Nat → List Value → List (Addr × Obj) → Prop}
    (hh : A.handled = none) (F : Fr h₀ L s.heap m) (N : News h₀ L s.heap news) (ha : x.cps.all (· < 128) = true) (hm2 : (l2, listOf zs.toArray k2) ∈ news)
    (hkeep : ∀ i ys news, J i ys news → (l2, listOf zs.toArray k2) ∈ news) (hJl : ∀ i ys news, J i ys news → i ≤ min x.cps.size zs.length → ys.length ≤ sizeLine) (J0 : J 0 [] news)
    (R : PTurn prog w A h₀ L m env c elt a b scope cl s (min x.cps.size zs.length) (fun i u v => (∃ cp t, x.cps[i]? = some cp ∧ u = .str ⟨#[cp]⟩ t) ∧ zs[i]? = some v) J)
    (fin : ∀ h tk ys news', J (min x.cps.size zs.length) ys news' → Fin { s with heap := h, toks := tk } ys news') :
    wpAny (model prog w) A (call (.type "zip") [.str x t, .ref l2]) (fun xv s₁ => wpAny (model prog w) A (pyIter xv) (PSrc prog w A h₀ L m env c elt a b pa pb kk tp scope cl Fin) E s₁) E s := by
  have hl2 : s.heap.IsList l2 zs.toArray := ⟨_, (N _ hm2).1, rfl, _, rfl⟩
  refine zipSrc (k1 := []) (k2 := [l2]) (n1 := x.cps.size) (n2 := zs.length) (P1 := fun i v => ∃ cp t, x.cps[i]? = some cp ∧ v = .str ⟨#[cp]⟩ t) (P2 := fun i v => zs[i]? = some v) (keep := [(l2, listOf zs.toArray k2)])
    (St1 := fun I i h => h.IsStrIter I "str_ascii_iterator" x t i) (St2 := fun I i h => h.IsListIter I l2 i ∧ h.IsList l2 zs.toArray)
    (makes_ascii ha) makes_list trivial (hl2.push _) rfl rfl (fun I A' _ hA => Draws.strAscii hA I x t) (fun I A' hI hA => ?_) (fun h e hk => ⟨_, e, rfl, rfl⟩) (fun h e hk => ⟨⟨_, e, rfl, rfl⟩, hl2.at fun o q => hk l2 o q⟩) ?_ ?_ ?_ hh F N ?_ hJl J0 R fin
  · have := Draws.list (prog := prog) (w := w) hA I l2 (fun e => hI (by simp [e])) zs.toArray
    simpa using this
  · exact fun b hb => nomatch hb
  · intro b hb
    rw [List.mem_singleton.mp hb]
    exact ⟨_, .head _⟩
  · exact fun p hp => by rw [List.mem_singleton.mp hp]; exact hm2
  · exact fun i ys news hJ p hp => by rw [List.mem_singleton.mp hp]; exact hkeep i ys news hJ
end

theorem zip_snoc {ss cs : List Int} {i : Nat} {a b : Int} (h : ss[i]? = some a) (h' : cs[i]? = some b) : List.zipWith (· + ·) (ss.take (i + 1)) (cs.take (i + 1)) = List.zipWith (· + ·) (ss.take i) (cs.take i) ++ [a + b] := by
  have e1 : i < ss.length := (List.getElem?_eq_some_iff.mp h).1
  have e2 : i < cs.length := (List.getElem?_eq_some_iff.mp h').1
  have e3 : ss[i] = a := (List.getElem?_eq_some_iff.mp h).2
  have e4 : cs[i] = b := (List.getElem?_eq_some_iff.mp h').2
  rw [List.take_succ_eq_append_getElem e1, List.take_succ_eq_append_getElem e2, List.zipWith_append (by rw [List.length_take, List.length_take]; omega), e3, e4]
  rfl
/-- the places: each start and its count -/
def placesL (ss cs : List Int) : List Int := List.zipWith (· + ·) ss cs
theorem places_ok {ss cs : List Int} {m : Int} (hs : ss.length = 4) (hc : cs.length = 4) (bs : ∀ x ∈ ss, 0 ≤ x ∧ x ≤ 40) (bc : ∀ x ∈ cs, 0 ≤ x ∧ x ≤ m) (hm : m ≤ 23) : (placesL ss cs).length = 4 ∧ ∀ q ∈ placesL ss cs, 0 ≤ q ∧ q < 64 := by
  match ss, hs, cs, hc with
  | [a, b, c, d], _, [x, y, z, u], _ =>
    refine ⟨rfl, fun q hq => ?_⟩
    have h1 := bs a (by simp)
    have h2 := bs b (by simp)
    have h3 := bs c (by simp)
    have h4 := bs d (by simp)
    have k1 := bc x (by simp)
    have k2 := bc y (by simp)
    have k3 := bc z (by simp)
    have k4 := bc u (by simp)
    unfold placesL at hq
    simp only [List.zipWith_cons_cons, List.zipWith_nil_left, List.mem_cons, List.not_mem_nil, or_false] at hq
    rcases hq with rfl | rfl | rfl | rfl <;> omega

section
variable {x c1 c2 c3 c4 c5 c6 c7 : Addr × Obj} {B T54 T61 : List (Addr × Obj)}
theorem led_in : ∀ q ∈ x :: (T54 ++ (T61 ++ (c1 :: c2 :: c3 :: c4 :: c5 :: c6 :: c7 :: B))), q ∈ x :: c1 :: c2 :: c3 :: c4 :: c5 :: c6 :: c7 :: (B ++ (T54 ++ T61)) := by
  intro q hq; simp only [List.mem_append, List.mem_cons] at hq ⊢; grind
theorem led_out : ∀ q ∈ c1 :: c2 :: c3 :: c4 :: c5 :: c6 :: c7 :: (B ++ (T54 ++ T61)), q ∈ x :: (T54 ++ (T61 ++ (c1 :: c2 :: c3 :: c4 :: c5 :: c6 :: c7 :: B))) := by
  intro q hq; simp only [List.mem_append, List.mem_cons] at hq ⊢; grind
end
theorem hi_cells {L : Addr} {o1 o2 o3 o4 o5 o6 o7 : Obj} {B : List (Addr × Obj)} (l0 : @LT.lt Nat _ 129 L ∧ @LT.lt Nat _ 61 L ∧ @LT.lt Nat _ 54 L) (h : Hi B) : Hi ((L + 1 + 1 + 1 + 1 + 1 + 1, o1) :: (L + 1 + 1 + 1 + 1 + 1, o2) :: (L + 1 + 1 + 1 + 1, o3) :: (L + 1 + 1 + 1, o4) :: (L + 1 + 1, o5) :: (L + 1, o6) :: (129, o7) :: B) := by
  intro q hq
  have key : ∀ k : Nat, @Ne Nat (L + k) 54 ∧ @Ne Nat (L + k) 61 := fun k => ⟨Nat.ne_of_gt (Nat.lt_of_lt_of_le l0.2.2 (Nat.le_add_right _ _)), Nat.ne_of_gt (Nat.lt_of_lt_of_le l0.2.1 (Nat.le_add_right _ _))⟩
  rcases List.mem_cons.mp hq with rfl | hq
  · exact key 6
  rcases List.mem_cons.mp hq with rfl | hq
  · exact key 5
  rcases List.mem_cons.mp hq with rfl | hq
  · exact key 4
  rcases List.mem_cons.mp hq with rfl | hq
  · exact key 3
  rcases List.mem_cons.mp hq with rfl | hq
  · exact key 2
  rcases List.mem_cons.mp hq with rfl | hq
  · exact key 1
  rcases List.mem_cons.mp hq with rfl | hq
  · exact ⟨(by decide : @Ne Nat 129 54), (by decide : @Ne Nat 129 61)⟩
  · exact h q hq
end

section
open PySem PySem.W PyProof.Rows PyProof.Rows.LCg PySem.Calls

/-- what a turn of the law's loop finds: counts, their list, the text and the number of these counts -/
inductive LoopJ (L : Addr) (oG oT oS : Obj) (B TT : List (Addr × Obj)) (ss : List Int) (m0 : Str → Option Value) (i : Nat) (m : Str → Option Value) (nw : List (Addr × Obj)) : Prop
  | mk (cs : List Int) (yc : List Value) (Cc : Addr) (oTl oTx oNm : Obj) (ps : Array Value) (tN tX : Tok) (vTl : Option Value) (B' : List (Addr × Obj)) (h1 : m "counts" = some (.ref Cc)) (h2 : (∀ z : Str, z ≠ "step" → z ≠ "useful" → z ≠ "first" → z ≠ "counts" → m z = m0 z)) (h3 : cs.length = 4) (h4 : (∀ x ∈ cs, 0 ≤ x ∧ x ≤ 5 + 2 * (i : Int))) (h5 : IntsAre yc cs) (h6 : (Cc, lst yc) ∈ B') (h7 : (∀ q ∈ B, q ∈ B')) (h8 : (∀ q ∈ B', NotCell q.2 ∧ NotTab q.2)) (h9 : oTl.data = .cell vTl) (h10 : oTx.data = .cell (some (.str (txt (placesL ss cs)) tX))) (h11 : oNm.data = .cell (some (.int (prodP cs) tN))) (h12 : Tab129 ps) (h13 : nw = (L + 1 + 1 + 1 + 1 + 1 + 1, oTl) :: (L + 1 + 1 + 1 + 1 + 1, oTx) :: (L + 1 + 1 + 1 + 1, oNm) :: (L + 1 + 1 + 1, oG) :: (L + 1 + 1, oT) :: (L + 1, oS) :: (129, tabObj ps) :: (B' ++ TT)) : LoopJ L oG oT oS B TT ss m0 i m nw
theorem tab_at {q : Str} {ln col : Nat} {P : Addr} {T : List (Addr × Obj)} {g h : Heap} {L : Addr} {Λ : List (Addr × Obj)} (hT : TabIs q ln col P T) (N : News g L h Λ) (hs : ∀ p ∈ T, p ∈ Λ) : GrownAt P h := by
  obtain ⟨ps, hm⟩ := hT.tab
  exact GrownAt.of N (hs _ hm)
end

section
theorem pw_pos (b : Nat) (hb : 0 < b) (x : Int) : (0 : Int) < (b : Int) ^ x.toNat := Int.pow_pos (by exact_mod_cast hb)
theorem pw_le (b : Nat) (hb : 0 < b) {x m : Int} (h : x ≤ m) : (b : Int) ^ x.toNat ≤ (b : Int) ^ m.toNat := by
  have : (b ^ x.toNat : Nat) ≤ b ^ m.toNat := Nat.pow_le_pow_right hb (by omega)
  exact_mod_cast this
theorem prodP_pos (l : List Int) : 0 < prodP l := by
  unfold prodP
  exact Int.mul_pos (Int.mul_pos (Int.mul_pos (pw_pos 2 (by decide) _) (pw_pos 3 (by decide) _)) (pw_pos 5 (by decide) _)) (pw_pos 7 (by decide) _)
theorem getD_le {l : List Int} {m : Int} (hm : 0 ≤ m) (h : ∀ x ∈ l, 0 ≤ x ∧ x ≤ m) (i : Nat) : l.getD i 0 ≤ m := by
  rw [List.getD_eq_getElem?_getD]
  cases e : l[i]? with
  | none => exact hm
  | some x => exact (h x (List.mem_of_getElem? e)).2
theorem prodP_le {l : List Int} {m : Int} (hm : 0 ≤ m) (h : ∀ x ∈ l, 0 ≤ x ∧ x ≤ m) : prodP l ≤ 2 ^ m.toNat * 3 ^ m.toNat * 5 ^ m.toNat * 7 ^ m.toNat := by
  unfold prodP
  have a := pw_le 2 (by decide) (getD_le hm h 0)
  have b := pw_le 3 (by decide) (getD_le hm h 1)
  have c := pw_le 5 (by decide) (getD_le hm h 2)
  have d := pw_le 7 (by decide) (getD_le hm h 3)
  have p2 := pw_pos 2 (by decide) m
  have p3 := pw_pos 3 (by decide) m
  have p5 := pw_pos 5 (by decide) m
  have p7 := pw_pos 7 (by decide) (l.getD 3 0)
  have q3 := pw_pos 3 (by decide) (l.getD 1 0)
  have q5 := pw_pos 5 (by decide) (l.getD 2 0)
  refine Int.mul_le_mul (Int.mul_le_mul (Int.mul_le_mul a b (Int.le_of_lt q3) (Int.le_of_lt p2)) c (Int.le_of_lt q5) (Int.le_of_lt (Int.mul_pos p2 p3))) d (Int.le_of_lt p7) (Int.le_of_lt (Int.mul_pos (Int.mul_pos p2 p3) p5))
/-- what int_divmod and the products ask of a number, an over and an under -/
theorem told_facts {cs o u : List Int} (hc : ∀ x ∈ cs, 0 ≤ x ∧ x ≤ 19) (ho : ∀ x ∈ o, 0 ≤ x ∧ x ≤ 2) (hu : ∀ x ∈ u, 0 ≤ x ∧ x ≤ 2) :
    IntMulOk (prodP cs) (prodP o) ∧ IntMulOk (prodP cs * prodP o) 64 ∧ IntMulOk (prodP u) 64 ∧ 0 ≤ prodP cs * prodP o * 64 ∧ Builtin.Int.intBits (prodP cs * prodP o * 64) ≤ 200 ∧ 0 < prodP u * 64 ∧ Builtin.Int.intBits (prodP u * 64) < 100 ∧
      (Builtin.Int.intBits (prodP cs * prodP o * 64) + Builtin.Int.intBits (prodP u * 64) - 1) / Builtin.Int.intBits (prodP u * 64) < 100 := by
  have c0 := prodP_pos cs
  have o0 := prodP_pos o
  have u0 := prodP_pos u
  have c1 := prodP_le (by decide) hc
  have o1 := prodP_le (by decide) ho
  have u1 := prodP_le (by decide) hu
  generalize prodP cs = N at *
  generalize prodP o = a at *
  generalize prodP u = b at *
  have c2 : N ≤ 2 ^ 147 := Int.le_trans c1 (by decide +kernel)
  have o2 : a ≤ 44100 := Int.le_trans o1 (by decide +kernel)
  have u2 : b ≤ 44100 := Int.le_trans u1 (by decide +kernel)
  have hp : N * a ≤ 2 ^ 147 * 44100 := Int.mul_le_mul c2 o2 (Int.le_of_lt o0) (by decide)
  have hp0 : 0 < N * a := Int.mul_pos c0 o0
  have eN : N = (N.toNat : Int) := (Int.toNat_of_nonneg (Int.le_of_lt c0)).symm
  have ea : a = (a.toNat : Int) := (Int.toNat_of_nonneg (Int.le_of_lt o0)).symm
  have eb : b = (b.toNat : Int) := (Int.toNat_of_nonneg (Int.le_of_lt u0)).symm
  have eP : N * a = ((N * a).toNat : Int) := (Int.toNat_of_nonneg (Int.le_of_lt hp0)).symm
  generalize hP : N * a = P at *
  have big : (2 : Int) ^ 147 * 44100 < 2 ^ 170 := by decide +kernel
  have l1 : N.toNat < 2 ^ 1000 := Nat.lt_of_le_of_lt (m := 2 ^ 147) (by have : (N.toNat : Int) ≤ ((2 ^ 147 : Nat) : Int) := by rw [← eN]; exact c2
                                                                        exact_mod_cast this) (by decide +kernel)
  have l2 : a.toNat < 2 ^ 1000 := Nat.lt_of_le_of_lt (m := 44100) (Int.toNat_le.mpr o2) (by decide +kernel)
  have l3 : b.toNat < 2 ^ 1000 := Nat.lt_of_le_of_lt (m := 44100) (Int.toNat_le.mpr u2) (by decide +kernel)
  have l4 : P.toNat < 2 ^ 1000 := Nat.lt_of_le_of_lt (m := 2 ^ 147 * 44100) (by have : (P.toNat : Int) ≤ ((2 ^ 147 * 44100 : Nat) : Int) := by rw [← eP]; exact hp
                                                                                exact_mod_cast this) (by decide +kernel)
  have b1 : Builtin.Int.intBits (P * 64) ≤ 200 := intBits_lt (by omega) (by
    have : (2 : Int) ^ 147 * 44100 * 64 < 2 ^ 200 := by decide +kernel
    omega)
  have b2 : Builtin.Int.intBits (b * 64) ≤ 30 := intBits_lt (by omega) (by
    have : (44100 : Int) * 64 < 2 ^ 30 := by decide +kernel
    omega)
  have b3 : 7 ≤ Builtin.Int.intBits (b * 64) := by
    refine Nat.le_of_not_lt fun hlt => ?_
    have h1 : (b * 64).natAbs < 2 ^ 6 := PySem.intBits_le_iff.mp (by omega)
    omega
  refine ⟨mulOk_nat _ _ eN ea l1 l2, mulOk_nat _ 64 eP rfl l4 (by decide), mulOk_nat _ 64 eb rfl l3 (by decide), by omega, b1, by omega, by omega, Nat.div_lt_of_lt_mul (by omega)⟩
end

section
open PySem PySem.W PyProof.Rows PyProof.Rows.LCg

/-- the pairs that int_divmod has told so far -/
def TupOk (cs : List Int) (Gs : List (List Int)) (ts : List (Addr × Obj)) : Prop :=
  ∀ (j : Nat) (p : Addr × Obj), ts[j]? = some p → ∃ G q r t1 t2 k, Gs[j]? = some G ∧ p.2 = tup2 (.int q t1) (.int r t2) k ∧ q = prodP cs * prodP (posG G) * 64 / (prodP (negG G) * 64) ∧ r = prodP cs * prodP (posG G) * 64 % (prodP (negG G) * 64)
theorem TupOk.nil {cs : List Int} {Gs : List (List Int)} : TupOk cs Gs [] := fun j p h => by simp at h
theorem TupOk.snoc {cs : List Int} {Gs : List (List Int)} {ts : List (Addr × Obj)} {G : List Int} {D : Addr} {q r : Int} {t1 t2 : Tok} {k : Nat} (h : TupOk cs Gs ts) (hG : Gs[ts.length]? = some G)
    (hq : q = prodP cs * prodP (posG G) * 64 / (prodP (negG G) * 64)) (hr : r = prodP cs * prodP (posG G) * 64 % (prodP (negG G) * 64)) : TupOk cs Gs (ts ++ [(D, tup2 (.int q t1) (.int r t2) k)]) := by
  intro j p hj
  rcases Nat.lt_or_ge j ts.length with hlt | hge
  · rw [List.getElem?_append_left hlt] at hj; exact h j p hj
  · rw [List.getElem?_append_right hge] at hj
    have e : j = ts.length := by
      have := (List.getElem?_eq_some_iff.mp hj).1
      simp at this; omega
    subst e
    rw [Nat.sub_self] at hj
    have e2 : p = (D, tup2 (.int q t1) (.int r t2) k) := by simpa using hj.symm
    subst e2
    exact ⟨G, q, r, t1, t2, k, hG, rfl, hq, hr⟩
theorem TupOk.plain {cs : List Int} {Gs : List (List Int)} {ts : List (Addr × Obj)} (h : TupOk cs Gs ts) : ∀ q ∈ ts, NotCell q.2 ∧ NotTab q.2 := by
  intro q hq
  refine useG ?_
  intro P9 h9
  obtain ⟨j, hj⟩ := List.mem_iff_getElem?.mp hq
  obtain ⟨G, a, b, t1, t2, k, _, e, _, _⟩ := h j q hj
  refine h9 ?_
  clear h9 P9
  rw [e]
  exact ⟨fun v h => (by cases h), fun v h => (by cases h)⟩
abbrev refT (ts : List (Addr × Obj)) : List Value := ts.map fun p => .ref p.1
theorem map_at {α β : Type} {f : α → β} {l : List α} {i : Nat} {b : β} (h : (l.map f)[i]? = some b) : ∃ a, l[i]? = some a ∧ f a = b := by
  rw [List.getElem?_map] at h
  cases e : l[i]? with
  | none => rw [e] at h; cases h
  | some a => rw [e] at h; exact ⟨a, rfl, Option.some.inj h⟩
section
variable {x1 x2 x3 c1 c2 c3 c4 c5 c6 c7 : Addr × Obj} {ts B' own T54 T61 : List (Addr × Obj)}
theorem led_in2 : ∀ q ∈ T54 ++ (T61 ++ (x1 :: x2 :: x3 :: c1 :: c2 :: c3 :: c4 :: c5 :: c6 :: c7 :: (ts ++ (B' ++ own)))), q ∈ x1 :: x2 :: (x3 :: c1 :: c2 :: c3 :: c4 :: c5 :: c6 :: c7 :: ((ts ++ (B' ++ (T54 ++ T61))) ++ own)) := by
  intro q hq; simp only [List.mem_append, List.mem_cons] at hq ⊢; grind
theorem led_out2 {d : Addr × Obj} : ∀ q ∈ x1 :: x2 :: (x3 :: c1 :: c2 :: c3 :: c4 :: c5 :: c6 :: c7 :: (((ts ++ [d]) ++ (B' ++ (T54 ++ T61))) ++ own)), q ∈ d :: (T54 ++ (T61 ++ (x1 :: x2 :: x3 :: c1 :: c2 :: c3 :: c4 :: c5 :: c6 :: c7 :: (ts ++ (B' ++ own))))) := by
  intro q hq; simp only [List.mem_append, List.mem_cons] at hq ⊢; grind
end
end

section
open PySem PySem.W PyProof.Rows PyProof.Rows.LCg

section
variable {prog : Program} {w : World} {A : Around} {E : Value → Shared → Prop} {s : Shared} {value slice : PySem.Expr} {h₀ : Heap} {L D : Addr} {news : List (Addr × Obj)} {a b : Value} {k : Nat} {u : Tok} {Q : Value → Shared → Prop}
theorem tup_at0 (N : News h₀ L s.heap news) (hm : (D, tup2 a b k) ∈ news) (h : Q a s) (hs : subscripted slice false (.ref D) (.int 0 u) = operate [.ref D, .int 0 u] (getItem (.ref D) (.int 0 u))) :
    wpAny (model prog w) A (subscriptTail value slice (.ref D) (.int 0 u)) Q E s := item_t0 (News.dup N hm) h hs
theorem tup_at1 (N : News h₀ L s.heap news) (hm : (D, tup2 a b k) ∈ news) (h : Q b s) (hs : subscripted slice false (.ref D) (.int 1 u) = operate [.ref D, .int 1 u] (getItem (.ref D) (.int 1 u))) :
    wpAny (model prog w) A (subscriptTail value slice (.ref D) (.int 1 u)) Q E s := item_t1 (News.dup N hm) h hs
end
/-- does the division of a fraction leave no rest -/
def div0 (cs G : List Int) : Bool := prodP cs * prodP (posG G) * 64 % (prodP (negG G) * 64) == 0
def usf (b : Nat → Bool) (i : Nat) : List Int := ((List.range i).filter b).map fun k : Nat => (0 : Int) + (k : Int)
theorem usf_f {b : Nat → Bool} {i : Nat} (h : b i = false) : usf b (i + 1) = usf b i := by
  unfold usf; rw [List.range_succ, List.filter_append]; simp [h]
theorem usf_t {b : Nat → Bool} {i : Nat} (h : b i = true) : usf b (i + 1) = usf b i ++ [(0 : Int) + (i : Int)] := by
  unfold usf; rw [List.range_succ, List.filter_append]; simp [h]
theorem TupOk.at {cs : List Int} {Gs : List (List Int)} {ts : List (Addr × Obj)} {j : Nat} {G : List Int} (h : TupOk cs Gs ts) (hl : ts.length = Gs.length) (hG : Gs[j]? = some G) :
    ∃ D t1 t2 k, (refT ts)[j]? = some (.ref D) ∧ (D, tup2 (.int (prodP cs * prodP (posG G) * 64 / (prodP (negG G) * 64)) t1) (.int (prodP cs * prodP (posG G) * 64 % (prodP (negG G) * 64)) t2) k) ∈ ts := by
  have hj : j < ts.length := by rw [hl]; exact (List.getElem?_eq_some_iff.mp hG).1
  refine useG ?_
  intro P9 h9
  obtain ⟨p, hp⟩ : ∃ p, ts[j]? = some p := ⟨_, List.getElem?_eq_getElem hj⟩
  obtain ⟨G', q, r, t1, t2, k, hG', e, hq, hr⟩ := h j p hp
  rw [hG] at hG'
  have eG := Option.some.inj hG'
  subst eG hq hr
  obtain ⟨D, o⟩ := p
  subst e
  refine h9 ?_
  clear h9 P9
  exact ⟨D, t1, t2, k, by rw [List.getElem?_map, hp]; rfl, List.mem_of_getElem? hp⟩
end

section
def PN (a b c d : Nat) : Nat := 2 ^ a * 3 ^ b * 5 ^ c * 7 ^ d
theorem PN_mul (a b c d a' b' c' d' : Nat) : PN a b c d * PN a' b' c' d' = PN (a + a') (b + b') (c + c') (d + d') := by
  unfold PN
  simp only [Nat.pow_add]
  ac_rfl
theorem PN_pos (a b c d : Nat) : 0 < PN a b c d := Nat.mul_pos (Nat.mul_pos (Nat.mul_pos (Nat.pow_pos (by decide)) (Nat.pow_pos (by decide))) (Nat.pow_pos (by decide))) (Nat.pow_pos (by decide))
theorem le_of_part {p m e R : Nat} (hp : 1 < p) (h : p ^ m ∣ p ^ e * R) (hR : Nat.Coprime p R) : m ≤ e := by
  have hc : Nat.Coprime (p ^ m) R := by simpa using Nat.Coprime.pow m 1 hR
  have : p ^ m ∣ p ^ e := Nat.Coprime.dvd_of_dvd_mul_right hc h
  exact (Nat.pow_dvd_pow_iff_le_right hp).mp this
theorem cop3 {p q r s : Nat} (b c d : Nat) (h1 : Nat.Coprime p q) (h2 : Nat.Coprime p r) (h3 : Nat.Coprime p s) : Nat.Coprime p (q ^ b * (r ^ c * s ^ d)) :=
  Nat.Coprime.mul_right (Nat.Coprime.pow_right b h1) (Nat.Coprime.mul_right (Nat.Coprime.pow_right c h2) (Nat.Coprime.pow_right d h3))
theorem PN_dvd {a b c d a' b' c' d' : Nat} : PN a b c d ∣ PN a' b' c' d' ↔ a ≤ a' ∧ b ≤ b' ∧ c ≤ c' ∧ d ≤ d' := by
  constructor
  · intro h
    refine ⟨?_, ?_, ?_, ?_⟩
    · refine le_of_part (p := 2) (R := 3 ^ b' * (5 ^ c' * 7 ^ d')) (by decide) ?_ (cop3 _ _ _ (by decide) (by decide) (by decide))
      have e : 2 ^ a' * (3 ^ b' * (5 ^ c' * 7 ^ d')) = PN a' b' c' d' := by unfold PN; ac_rfl
      rw [e]
      refine Nat.dvd_trans ?_ h
      exact ⟨3 ^ b * (5 ^ c * 7 ^ d), by unfold PN; ac_rfl⟩
    · refine le_of_part (p := 3) (R := 2 ^ a' * (5 ^ c' * 7 ^ d')) (by decide) ?_ (cop3 _ _ _ (by decide) (by decide) (by decide))
      have e : 3 ^ b' * (2 ^ a' * (5 ^ c' * 7 ^ d')) = PN a' b' c' d' := by unfold PN; ac_rfl
      rw [e]
      refine Nat.dvd_trans ?_ h
      exact ⟨2 ^ a * (5 ^ c * 7 ^ d), by unfold PN; ac_rfl⟩
    · refine le_of_part (p := 5) (R := 2 ^ a' * (3 ^ b' * 7 ^ d')) (by decide) ?_ (cop3 _ _ _ (by decide) (by decide) (by decide))
      have e : 5 ^ c' * (2 ^ a' * (3 ^ b' * 7 ^ d')) = PN a' b' c' d' := by unfold PN; ac_rfl
      rw [e]
      refine Nat.dvd_trans ?_ h
      exact ⟨2 ^ a * (3 ^ b * 7 ^ d), by unfold PN; ac_rfl⟩
    · refine le_of_part (p := 7) (R := 2 ^ a' * (3 ^ b' * 5 ^ c')) (by decide) ?_ (cop3 _ _ _ (by decide) (by decide) (by decide))
      have e : 7 ^ d' * (2 ^ a' * (3 ^ b' * 5 ^ c')) = PN a' b' c' d' := by unfold PN; ac_rfl
      rw [e]
      refine Nat.dvd_trans ?_ h
      exact ⟨2 ^ a * (3 ^ b * 5 ^ c), by unfold PN; ac_rfl⟩
  · rintro ⟨h1, h2, h3, h4⟩
    exact Nat.mul_dvd_mul (Nat.mul_dvd_mul (Nat.mul_dvd_mul (Nat.pow_dvd_pow 2 h1) (Nat.pow_dvd_pow 3 h2)) (Nat.pow_dvd_pow 5 h3)) (Nat.pow_dvd_pow 7 h4)
theorem prodP_PN (a b c d : Int) : prodP [a, b, c, d] = (PN a.toNat b.toNat c.toNat d.toNat : Nat) := by
  unfold prodP PN
  simp
/-- can a fraction be used -/
def fits (cs G : List Int) : Bool := (List.zipWith (fun c g => decide (0 ≤ c + g)) cs G).all id
def addL (cs G : List Int) : List Int := List.zipWith (· + ·) cs G
theorem pt_eq (q : Int) : (if 0 > q then 0 else q : Int).toNat = q.toNat := by
  by_cases h : 0 > q
  · rw [if_pos h, Int.toNat_of_nonpos (Int.le_of_lt h)]; rfl
  · rw [if_neg h]
theorem tkey {p q : Int} (hp : 0 ≤ p) : ((if 0 > -q then 0 else -q : Int).toNat ≤ p.toNat + (if 0 > q then 0 else q : Int).toNat ↔ 0 ≤ p + q) ∧ (0 ≤ p + q → p.toNat + (if 0 > q then 0 else q : Int).toNat = (if 0 > -q then 0 else -q : Int).toNat + (p + q).toNat) := by
  rw [pt_eq, pt_eq]
  obtain ⟨a, rfl⟩ := Int.eq_ofNat_of_zero_le hp
  clear hp
  obtain ⟨k, rfl | rfl⟩ := Int.eq_nat_or_neg q
  · have e : (-(k : Int)).toNat = 0 := Int.toNat_of_nonpos (Int.neg_nonpos_of_nonneg (Int.natCast_nonneg k))
    rw [e]
    exact ⟨⟨fun _ => Int.natCast_nonneg (a + k), fun _ => Nat.zero_le _⟩, fun _ => (Nat.zero_add _).symm⟩
  · have e : (-(k : Int)).toNat = 0 := Int.toNat_of_nonpos (Int.neg_nonpos_of_nonneg (Int.natCast_nonneg k))
    rw [e, Int.neg_neg, ← Int.sub_eq_add_neg]
    refine ⟨⟨fun h => Int.sub_nonneg_of_le (Int.ofNat_le.mpr h), fun h => Int.ofNat_le.mp (Int.le_of_sub_nonneg h)⟩, fun h => ?_⟩
    have h2 : k ≤ a := Int.ofNat_le.mp (Int.le_of_sub_nonneg h)
    rw [← Int.ofNat_sub h2]
    exact (Nat.add_sub_cancel' h2).symm
theorem told_plain {cs G : List Int} (hc : cs.length = 4) (hG : G.length = 4) (hb : ∀ x ∈ cs, 0 ≤ x) :
    div0 cs G = fits cs G ∧ (fits cs G = true → prodP cs * prodP (posG G) * 64 / (prodP (negG G) * 64) = prodP (addL cs G) ∧ ∀ x ∈ addL cs G, 0 ≤ x) := by
  match cs, hc, G, hG with
  | [a, b, c, d], _, [x, y, z, u], _ =>
    have ha := hb a (by simp)
    have hbb := hb b (by simp)
    have hcc := hb c (by simp)
    have hd := hb d (by simp)
    unfold div0
    have e1 : posG [x, y, z, u] = [if 0 > x then 0 else x, if 0 > y then 0 else y, if 0 > z then 0 else z, if 0 > u then 0 else u] := rfl
    have e2 : negG [x, y, z, u] = [if 0 > -x then 0 else -x, if 0 > -y then 0 else -y, if 0 > -z then 0 else -z, if 0 > -u then 0 else -u] := rfl
    rw [e1, e2, prodP_PN, prodP_PN, prodP_PN]
    have e3 : addL [a, b, c, d] [x, y, z, u] = [a + x, b + y, c + z, d + u] := rfl
    have e4 : fits [a, b, c, d] [x, y, z, u] = (decide (0 ≤ a + x) && (decide (0 ≤ b + y) && (decide (0 ≤ c + z) && decide (0 ≤ d + u)))) := by simp [fits]
    rw [e3, prodP_PN]
    -- the exponents, one by one
    obtain ⟨k1, m1⟩ := tkey (q := x) ha
    obtain ⟨k2, m2⟩ := tkey (q := y) hbb
    obtain ⟨k3, m3⟩ := tkey (q := z) hcc
    obtain ⟨k4, m4⟩ := tkey (q := u) hd
    generalize (if 0 > x then 0 else x : Int).toNat = px at *
    generalize (if 0 > y then 0 else y : Int).toNat = py at *
    generalize (if 0 > z then 0 else z : Int).toNat = pz at *
    generalize (if 0 > u then 0 else u : Int).toNat = pu at *
    generalize (if 0 > -x then 0 else -x : Int).toNat = nx at *
    generalize (if 0 > -y then 0 else -y : Int).toNat = ny at *
    generalize (if 0 > -z then 0 else -z : Int).toNat = nz at *
    generalize (if 0 > -u then 0 else -u : Int).toNat = nu at *
    have hnum : ((PN a.toNat b.toNat c.toNat d.toNat : Nat) : Int) * (PN px py pz pu : Nat) = (PN (a.toNat + px) (b.toNat + py) (c.toNat + pz) (d.toNat + pu) : Nat) := by
      rw [← PN_mul]; push_cast; rfl
    rw [hnum]
    have hu0 := PN_pos nx ny nz nu
    have hdv : (((PN (a.toNat + px) (b.toNat + py) (c.toNat + pz) (d.toNat + pu) : Nat) : Int) * 64 % ((PN nx ny nz nu : Nat) * 64) == 0) = fits [a, b, c, d] [x, y, z, u] := by
      rw [e4, Bool.eq_iff_iff]
      simp only [beq_iff_eq, Bool.and_eq_true, decide_eq_true_eq]
      rw [← k1, ← k2, ← k3, ← k4, ← PN_dvd]
      generalize PN (a.toNat + px) (b.toNat + py) (c.toNat + pz) (d.toNat + pu) = M at *
      generalize PN nx ny nz nu = K at *
      constructor
      · intro h
        have h2 : ((K : Int) * 64) ∣ (M : Int) * 64 := Int.dvd_of_emod_eq_zero h
        have h3 : (K * 64 : Nat) ∣ M * 64 := by exact_mod_cast h2
        exact Nat.dvd_of_mul_dvd_mul_right (by decide) h3
      · intro h
        have h3 : (K * 64 : Nat) ∣ M * 64 := Nat.mul_dvd_mul h (Nat.dvd_refl _)
        have h2 : ((K : Int) * 64) ∣ (M : Int) * 64 := by exact_mod_cast h3
        exact Int.emod_eq_zero_of_dvd h2
    refine ⟨hdv, fun hf => ?_⟩
    rw [e4] at hf
    simp only [Bool.and_eq_true, decide_eq_true_eq] at hf
    obtain ⟨f1, f2, f3, f4⟩ := hf
    refine ⟨?_, ?_⟩
    · rw [m1 f1, m2 f2, m3 f3, m4 f4, ← PN_mul]
      generalize PN (a + x).toNat (b + y).toNat (c + z).toNat (d + u).toNat = W at *
      generalize PN nx ny nz nu = K at *
      have : (((K * W : Nat) : Int) * 64) = (W : Int) * ((K : Int) * 64) := by push_cast; ac_rfl
      rw [this]
      exact Int.mul_ediv_cancel _ (by omega)
    · intro v hv
      simp only [List.mem_cons, List.not_mem_nil, or_false] at hv
      rcases hv with rfl | rfl | rfl | rfl <;> assumption
end

section
theorem sign_all : (List.range 43).all (fun c => setC (c : Int) == 91 :: (bodyC c ++ [93]) && (List.range 64).all fun p => scan (b64n (p : Int)).toNat (bodyC c) == decide (c ≤ p)) = true := by decide +kernel
theorem sign_facts {c p : Nat} (hc : c < 43) (hp : p < 64) : setC (c : Int) = 91 :: (bodyC c ++ [93]) ∧ scan (b64n (p : Int)).toNat (bodyC c) = decide (c ≤ p) := by
  have := List.all_eq_true.mp sign_all c (List.mem_range.mpr hc)
  rw [Bool.and_eq_true] at this
  refine ⟨eq_of_beq this.1, ?_⟩
  exact eq_of_beq (List.all_eq_true.mp this.2 p (List.mem_range.mpr hp))
theorem item_facts {s g : Int} (hs : 0 ≤ s ∧ s ≤ 40) (hg : -2 ≤ g ∧ g ≤ 2) :
    (itemC s g = [63] ∨ isSet (itemC s g)) ∧ ∀ c : Int, 0 ≤ c → s + c < 64 → partS (itemC s g) (b64n (s + c)).toNat = decide (0 ≤ c + g) := by
  by_cases h : 0 ≤ g
  · have e : itemC s g = [63] := by unfold itemC; rw [if_pos h]
    rw [e]
    refine ⟨.inl rfl, fun c hc _ => ?_⟩
    rw [decide_eq_true (by omega)]; rfl
  · have e : itemC s g = setC (s - g) := by unfold itemC; rw [if_neg h]
    have ec : s - g = ((s - g).toNat : Int) := by omega
    have hc : (s - g).toNat < 43 := by omega
    have e2 := (sign_facts (p := 0) hc (by decide)).1
    rw [← ec] at e2
    rw [e, e2]
    refine ⟨.inr ⟨_, hc, rfl⟩, fun c h0 h1 => ?_⟩
    rw [part_set]
    have ep : s + c = ((s + c).toNat : Int) := by omega
    have e3 := (sign_facts (p := (s + c).toNat) hc (by omega)).2
    rw [← ep] at e3
    rw [e3]
    by_cases h2 : 0 ≤ c + g
    · rw [decide_eq_true h2, decide_eq_true (by omega)]
    · rw [decide_eq_false h2, decide_eq_false (by omega)]
theorem glob_facts {ss G : List Int} (hs : ss.length = 4) (hG : G.length = 4) (bs : ∀ x ∈ ss, 0 ≤ x ∧ x ≤ 40) (bg : ∀ x ∈ G, -2 ≤ x ∧ x ≤ 2) :
    (∀ it ∈ List.zipWith itemC ss G, it = [63] ∨ isSet it) ∧ (List.zipWith itemC ss G).flatten.length ≤ 100 ∧ (List.zipWith itemC ss G).length = 4 := by
  have hl := glob_le (ss := ss) (gs := G) (Nat.le_of_eq hs)
  have e : (⟨(globC ss G).toArray⟩ : PySem.Str).length = (globC ss G).length := by simp [Str.length]
  rw [e] at hl
  refine ⟨?_, Nat.le_trans hl (by decide), by rw [List.length_zipWith, hs, hG]; rfl⟩
  match ss, hs, G, hG with
  | [a, b, c, d], _, [x, y, z, u], _ =>
    intro it hit
    simp only [List.zipWith_cons_cons, List.zipWith_nil_left, List.mem_cons, List.not_mem_nil, or_false] at hit
    rcases hit with rfl | rfl | rfl | rfl
    · exact (item_facts (bs a (by simp)) (bg x (by simp))).1
    · exact (item_facts (bs b (by simp)) (bg y (by simp))).1
    · exact (item_facts (bs c (by simp)) (bg z (by simp))).1
    · exact (item_facts (bs d (by simp)) (bg u (by simp))).1
theorem takes_fits {ss cs G : List Int} (hs : ss.length = 4) (hc : cs.length = 4) (hG : G.length = 4) (bs : ∀ x ∈ ss, 0 ≤ x ∧ x ≤ 40) (bc : ∀ x ∈ cs, 0 ≤ x ∧ x ≤ 19) (bg : ∀ x ∈ G, -2 ≤ x ∧ x ≤ 2) :
    takesS (List.zipWith itemC ss G) (codes (placesL ss cs)) = fits cs G := by
  match ss, hs, cs, hc, G, hG with
  | [a, b, c, d], _, [x, y, z, u], _, [g, h, i, j], _ =>
    have a1 := bs a (by simp)
    have a2 := bs b (by simp)
    have a3 := bs c (by simp)
    have a4 := bs d (by simp)
    have c1 := bc x (by simp)
    have c2 := bc y (by simp)
    have c3 := bc z (by simp)
    have c4 := bc u (by simp)
    have f1 := (item_facts a1 (bg g (by simp))).2 x c1.1 (by omega)
    have f2 := (item_facts a2 (bg h (by simp))).2 y c2.1 (by omega)
    have f3 := (item_facts a3 (bg i (by simp))).2 z c3.1 (by omega)
    have f4 := (item_facts a4 (bg j (by simp))).2 u c4.1 (by omega)
    simp only [takesS, placesL, codes, fits, List.zipWith_cons_cons, List.zipWith_nil_left, List.map_cons, List.map_nil, List.zip_cons_cons, List.zip_nil_left, List.all_cons, List.all_nil, Bool.and_true, f1, f2, f3, f4, id_eq]
end

section
open PySem PySem.W PyProof.Rows PyProof.Rows.LCg

section
variable {p a b c d e c1 c2 c3 c4 c5 c6 : Addr × Obj} {B : List (Addr × Obj)}
theorem led_p : ∀ q ∈ p :: a :: b :: c :: d :: e :: c1 :: c2 :: c3 :: c4 :: c5 :: c6 :: B, q ∈ a :: b :: c :: d :: e :: c1 :: c2 :: c3 :: c4 :: c5 :: c6 :: p :: B := by
  intro q hq; simp only [List.mem_cons] at hq ⊢; grind
theorem led_q : ∀ q ∈ a :: b :: c :: d :: e :: c1 :: c2 :: c3 :: c4 :: c5 :: c6 :: p :: B, q ∈ p :: a :: b :: c :: d :: e :: c1 :: c2 :: c3 :: c4 :: c5 :: c6 :: B := by
  intro q hq; simp only [List.mem_cons] at hq ⊢; grind
end
theorem cells129 {L : Addr} {o1 o2 o3 o4 o5 o6 : Obj} {B : List (Addr × Obj)} (l0 : @LT.lt Nat _ 129 L) (h : ∀ q ∈ B, @Ne Nat q.1 129) : ∀ q ∈ (L + 1 + 1 + 1 + 1 + 1 + 1, o1) :: (L + 1 + 1 + 1 + 1 + 1, o2) :: (L + 1 + 1 + 1 + 1, o3) :: (L + 1 + 1 + 1, o4) :: (L + 1 + 1, o5) :: (L + 1, o6) :: B, @Ne Nat q.1 129 := by
  intro q hq
  have key : ∀ k : Nat, @Ne Nat (L + k) 129 := fun k => Nat.ne_of_gt (Nat.lt_of_lt_of_le l0 (Nat.le_add_right _ _))
  rcases List.mem_cons.mp hq with rfl | hq
  · exact key 6
  rcases List.mem_cons.mp hq with rfl | hq
  · exact key 5
  rcases List.mem_cons.mp hq with rfl | hq
  · exact key 4
  rcases List.mem_cons.mp hq with rfl | hq
  · exact key 3
  rcases List.mem_cons.mp hq with rfl | hq
  · exact key 2
  rcases List.mem_cons.mp hq with rfl | hq
  · exact key 1
  · exact h q hq

theorem usf_congr {b b' : Nat → Bool} {n : Nat} (h : ∀ k, k < n → b k = b' k) : usf b n = usf b' n := by
  unfold usf
  congr 1
  exact List.filter_congr fun k hk => h k (List.mem_range.mp hk)
theorem useful_same {ss cs : List Int} {Gs : List (List Int)} (hs : ss.length = 4) (hc : cs.length = 4) (bs : ∀ x ∈ ss, 0 ≤ x ∧ x ≤ 40) (bc : ∀ x ∈ cs, 0 ≤ x ∧ x ≤ 19) (hG : ∀ G ∈ Gs, G.length = 4 ∧ ∀ x ∈ G, -2 ≤ x ∧ x ≤ 2) {n : Nat} (hn : n ≤ Gs.length) :
    usf (fun k => takesS (List.zipWith itemC ss (Gs.getD k [])) (codes (placesL ss cs))) n = usf (fun k => div0 cs (Gs.getD k [])) n := by
  refine usf_congr fun k hk => ?_
  have hk2 : k < Gs.length := by omega
  have e : Gs.getD k [] = Gs[k] := by rw [List.getD_eq_getElem?_getD, List.getElem?_eq_getElem hk2]; rfl
  obtain ⟨h1, h2⟩ := hG _ (List.getElem_mem hk2)
  show takesS (List.zipWith itemC ss (Gs.getD k [])) (codes (placesL ss cs)) = div0 cs (Gs.getD k [])
  rw [e, takes_fits hs hc h1 bs bc h2, (told_plain hc h1 fun x hx => (bc x hx).1).1]
/-- a fraction that can be used stands in the list of these, and the list is empty or has a first one -/
theorem usf_first {b : Nat → Bool} {n : Nat} (h : usf b n ≠ []) : ∃ (k : Nat) (r : List Int), usf b n = ((0 : Int) + (k : Int)) :: r ∧ k < n ∧ b k = true := by
  unfold usf at h ⊢
  cases e : (List.range n).filter b with
  | nil => rw [e] at h; exact absurd rfl h
  | cons k r =>
    have hm : k ∈ (List.range n).filter b := by rw [e]; exact .head _
    obtain ⟨h1, h2⟩ := List.mem_filter.mp hm
    exact ⟨k, _, rfl, List.mem_range.mp h1, h2⟩

theorem addL_ok {cs G : List Int} {i : Nat} (hc : cs.length = 4) (hG : G.length = 4) (bc : ∀ x ∈ cs, 0 ≤ x ∧ x ≤ 5 + 2 * (i : Int)) (bg : ∀ x ∈ G, -2 ≤ x ∧ x ≤ 2) (h0 : ∀ x ∈ addL cs G, 0 ≤ x) : (addL cs G).length = 4 ∧ ∀ x ∈ addL cs G, 0 ≤ x ∧ x ≤ 5 + 2 * ((i + 1 : Nat) : Int) := by
  match cs, hc, G, hG with
  | [a, b, c, d], _, [x, y, z, u], _ =>
    refine ⟨rfl, fun q hq => ⟨h0 q hq, ?_⟩⟩
    have h1 := bc a (by simp)
    have h2 := bc b (by simp)
    have h3 := bc c (by simp)
    have h4 := bc d (by simp)
    have k1 := bg x (by simp)
    have k2 := bg y (by simp)
    have k3 := bg z (by simp)
    have k4 := bg u (by simp)
    unfold addL at hq
    simp only [List.zipWith_cons_cons, List.zipWith_nil_left, List.mem_cons, List.not_mem_nil, or_false] at hq
    rcases hq with rfl | rfl | rfl | rfl <;> omega
end

section
open PySem PySem.W PyProof.Rows PyProof.Rows.LCg

theorem index_all : (List.range 64).all (fun p => Builtin.Str.occurrences (PySem.Str.ofString "ABCDEFGHIJKLMNOPQRSTUVWXYZabcdefghijklmnopqrstuvwxyz0123456789+/") ⟨#[(b64n (p : Int)).toNat]⟩ 0 (PySem.Str.ofString "ABCDEFGHIJKLMNOPQRSTUVWXYZabcdefghijklmnopqrstuvwxyz0123456789+/").length 1 == [p]) = true := by decide +kernel
theorem index_call {prog : Program} {w : World} {A : Around} {E : Value → Shared → Prop} {s : Shared} {t u : Tok} {p : Int} {c : Nat} {Q : Value → Shared → Prop} (h0 : 0 ≤ p) (h1 : p < 64) (hc : (b64n p).toNat = c) (h : Q (.int p s.toks) { s with toks := s.toks + 1 }) :
    wpAny (model prog w) A (call (.builtin "str.index") [.str (PySem.Str.ofString "ABCDEFGHIJKLMNOPQRSTUVWXYZabcdefghijklmnopqrstuvwxyz0123456789+/") t, .str ⟨#[c]⟩ u]) Q E s := by
  have e := eq_of_beq (List.all_eq_true.mp index_all p.toNat (List.mem_range.mpr (by omega)))
  have ep : ((p.toNat : Nat) : Int) = p := by omega
  rw [ep, hc] at e
  refine PySem.SC.index e ?_
  rw [ep]
  exact h
theorem places_add {ss cs G : List Int} {j : Nat} {p g : Int} (hp : (placesL ss cs)[j]? = some p) (hg : G[j]? = some g) : (placesL ss (addL cs G))[j]? = some (p + g) := by
  unfold placesL addL at *
  rw [List.getElem?_zipWith] at hp ⊢
  rw [List.getElem?_zipWith, hg]
  cases hs : ss[j]? with
  | none => rw [hs] at hp; simp at hp
  | some a =>
    cases hc : cs[j]? with
    | none => rw [hs, hc] at hp; simp at hp
    | some b =>
      rw [hs, hc] at hp
      have : a + b = p := by simpa using hp
      simp only [Option.some.injEq]
      omega

section
variable {x y z c1 c2 c3 c4 c5 c6 c7 : Addr × Obj} {B T54 T61 : List (Addr × Obj)}
theorem led_in3 : ∀ q ∈ x :: (T54 ++ (T61 ++ (y :: z :: c1 :: c2 :: c3 :: c4 :: c5 :: c6 :: c7 :: B))), q ∈ x :: y :: z :: c1 :: c2 :: c3 :: c4 :: c5 :: c6 :: c7 :: (B ++ (T54 ++ T61)) := by
  intro q hq; simp only [List.mem_append, List.mem_cons] at hq ⊢; grind
theorem led_out3 : ∀ q ∈ y :: z :: c1 :: c2 :: c3 :: c4 :: c5 :: c6 :: c7 :: (B ++ (T54 ++ T61)), q ∈ x :: (T54 ++ (T61 ++ (y :: z :: c1 :: c2 :: c3 :: c4 :: c5 :: c6 :: c7 :: B))) := by
  intro q hq; simp only [List.mem_append, List.mem_cons] at hq ⊢; grind
end
end
section
open PyProof.Rows.LCg PySem.Calls
local macro_rules | `(tactic| walk_at "mine_pad0") => `(tactic| fail)
local macro_rules | `(tactic| walk_at "mine_pad1") => `(tactic| fail)
local macro_rules | `(tactic| walk_at "mine_pad2") => `(tactic| fail)
local macro_rules | `(tactic| walk_at "mine_pad3") => `(tactic| fail)
local macro_rules | `(tactic| walk_at "mine_pad4") => `(tactic| fail)
local macro_rules | `(tactic| walk_at "mine_pad5") => `(tactic| fail)
local macro_rules | `(tactic| walk_at "call builtin:len") => `(tactic| ((with_reducible show wpAny _ _ (call (Value.builtin "len") [Value.ref _]) _ _ _); k_dflt (refine' len_base ?F ?hl ?hi ?hn ?_; (case F => k_asm); (case hl => assumption); (case hi => assumption); (case hn => omega))))
local macro_rules | `(tactic| k_ne) => `(tactic| (refine neN ?_; (try dsimp only); first | with_reducible assumption | (refine Ne.symm ?_; with_reducible assumption) | fail "k_ne: mine"))
local macro_rules | `(tactic| kn_posts) => `(tactic| refine kn_postB $(Lean.mkIdent `hT9) (fun _ _ => rfl) ?_)
theorem woff15 : True := by
  w_top off
  trivial
theorem whole : PySem.Challenge.rw_ku0024_01.Holds := by
  refine ex1.2.2.2.2.2 way1 way2 way3 way4 ?_
  conv => whnf
  k_go0
  all_goals try k_fold
  rename_i w s₀ s₁ mg mb G Y fa o pm cd doc ho hcd hg X V T B TE TW ns hs hlay0 hL0 hr0 hl2 a1 a2 l vs a3 hL ra w1 r0 hI hr hcond1 hcond2 hD h₁ tk₁ o1 o2 o3 o4 o5 o6 e1 e2 e3 e4 e5 e6 X0 X' T' K' F' c1 c2 N' l0
  have c3 := codeHd
  clear codeHd
  clear X0 hD hr r0 w1 ra hL hl2 hr0 hL0 hlay0 hs hT9 TW TE B T V X hT8 hcd ho Y G hcond2
  replace e1 : o1.data = .cell none := e1
  replace e2 : o2.data = .cell none := e2
  replace e3 : o3.data = .cell none := e3
  replace e4 : o4.data = .cell none := e4
  replace e5 : o5.data = .cell none := e5
  replace e6 : o6.data = .cell none := e6
  clear o
  generalize hgg : ghostOf s₁.heap [(133, 129), (65, 61), (58, 54)] = g at *
  generalize hLL : s₁.heap.objs.size = L at *
  refine use_fr F' ?_
  intro m0 hm0 F0
  clear F'
  have em : m0 = fun z => if z = PySem.Str.ofString "script" then some (.ref l) else none := by rw [hm0]; with_unfolding_all rfl
  clear hm0
  subst em
  dsimp only at c1 c2 c3
  obtain ⟨p, loose, mean, T2⟩ : ∃ p loose mean, Top p loose mean mg mb g := ⟨_, _, _, T'⟩
  clear T'
  clear hLL
  dsimp only
  have hn63 : ns.length ≤ 1000 := by omega
  iterate 33 walk1
  with_reducible (rename IntsAre _ _ => hI8)
  with_reducible (rename News _ _ _ _ => N2)
  refine abs_head (ns := [3, 144, 241, 60, 316, 427, 288]) N2 (by repeat constructor) ?_
  intro w8 hI9 N3
  clear N2
  iterate 11 walk1
  have hsg : (0 : Int) ≤ (ns.length : Int) := by omega
  k_dflt (refine kba_turn (value' := nam0) (fun _ => rfl) ?_)
  k_dflt (refine' kmk_slice_ints ?sF ?sN ?sl ?sp ?sq hI9 (kmk_from hI9 hsg) rfl ?_ ?ss ?st ?sz; (case sF => k_asm); (case sN => k_asm); (case sl => kmk_list); (case sp => kmk_part); (case sq => kmk_part); (case ss => with_unfolding_all rfl); (case st => kmk_pure); (case sz => (rw [List.size_toArray, hI9.length, sizeLine_eq]; decide)))
  intro D' ws' h' F' N' l1 hI' hC' hL'
  (try k_lt l1)
  (try dsimp only)
  iterate 3 walk1
  rename_i h1 oS dS D1 ws1 h2 hC1 hL1 lA l2 h3 lB D3 ws3 h4 hI3 lC h5 F4 N4
  have N5 := News.drop_mid3 N4
  clear N4
  obtain ⟨nums, hnums⟩ : ∃ nums, nums = List.take 7 ns ++ List.drop (ns.length : Int).toNat [3, 144, 241, 60, 316, 427, 288] := ⟨_, rfl⟩
  rw [← hnums] at hI3
  have hnl : nums.length = 7 := by
    rw [hnums, List.length_append, List.length_take, List.length_drop]
    exact seven_len ns.length
  have hD3 : @LT.lt Nat _ (L + 1 + 1 + 1 + 1 + 1 + 1) D3 ∧ @LT.lt Nat _ 129 D3 ∧ @LT.lt Nat _ 54 D3 ∧ @LT.lt Nat _ 61 D3 := ⟨lC.2.2.2.1, lC.2.2.2.2.2.2.2.2.2.1, lC.2.2.2.2.2.2.2.2.2.2.2, lC.2.2.2.2.2.2.2.2.2.2.1⟩
  clear hnums hL' hC' hI' l1 hI9 hL1 hC1 hI8 hsg lC lB lA
  (try dsimp only)
  clear lifted hI hcond1 hn63 h1 h2 D1 ws1 h3 l2 h4 w8 D' ws' h'
  w_top off
  iterate 1 walk1
  k_dflt (refine LCg.Assign_ListComp_U (F₀ := by k_asm) (by rfl) (by with_unfolding_all rfl) (by with_unfolding_all rfl) (by decide) (by rfl) (by decide) (by rfl) (by rfl) (by rfl) ?_)
  iterate 8 walk1
  rename_i D4 ws4 h7 F5 N6 hI4 hC4 hL4 l4
  k_dflt (refine' LCg.CompSrc.ledger (by rfl) ?sF ?sN ?sm ?sz ?_; (case sF => k_asm); (case sN => k_asm); (case sm => k_mem); (case sz => (rw [List.size_toArray, hI4.length, sizeLine_eq]; omega)))
  intro g9
  refine compRest_inv (J := fun i ys nw => nw = _ ∧ IntsAre ys (((nums.take 4).take i).map fun v => v.fmod 6)) ?turn_2 ?done2_1 _ 0 [] _ (Nat.zero_add _) ⟨rfl, .nil⟩
  case turn_2 =>
    rintro i ys nw hi ⟨rfl, hys⟩ v I oI C oC D m₂ h tk' E' hv hC hx F N off ⟨q1, q2, q3⟩
    refine useG ?_
    intro P9 h9
    obtain ⟨x, tx, hx2, rfl⟩ := ints_item hI4 (by simpa using hv)
    refine h9 ?_
    clear h9 P9
    iterate 4 walk1
    exact LCg.CompEnd.intro (by k_asm) N _ (fun p hp => hp) off (.inr ⟨_, List.mem_cons_self, rfl, _, rfl⟩) ⟨rfl, by rw [map_take_snoc _ hx2]; exact ints_snoc hys⟩
  rintro ys nw ⟨rfl, hys⟩
  intro D5 h8 tk8 F8 N8 o8
  refine useG ?_
  intro P9 h9
  obtain ⟨n0, n1, n2, n3, n4, n5, n6, hne⟩ := seven hnl
  refine h9 ?_
  clear h9 P9
  have hysC : IntsAre ys [n0.fmod 6, n1.fmod 6, n2.fmod 6, n3.fmod 6] := by
    have e : ws4.toArray.size = 4 := by rw [List.size_toArray, hI4.length, hne]; rfl
    rw [e, hne] at hys
    exact hys
  have N9 := News.drop1_2 N8
  simp only [LCg.Off1, and_true] at o8
  replace o8 := o8.2
  clear N8 N6 hys hI4 hC4 hL4 l4
  clear ws4 D4
  (try dsimp only)
  iterate 2 walk1
  k_dflt (refine LCg.ListComp_U (F₀ := by k_asm) (by with_unfolding_all rfl) (by decide) (by rfl) (by decide) (by rfl) ?_)
  iterate 8 walk1
  rename_i D4 ws4 h9 F9 Nq hI4 hC4 hL4 l4
  k_dflt (refine' LCg.CompSrc.ledger (by rfl) ?sF ?sN ?sm ?sz ?_; (case sF => k_asm); (case sN => k_asm); (case sm => k_mem); (case sz => (rw [List.size_toArray, hI4.length, sizeLine_eq]; omega)))
  intro g10
  refine compRest_inv (J := fun i ys nw => nw = _ ∧ IntsAre ys (((nums.take 4).take i).map fun v => (v.fdiv 6).fmod 41)) ?turn_2 ?done2_2 _ 0 [] _ (Nat.zero_add _) ⟨rfl, .nil⟩
  case turn_2 =>
    rintro i ys nw hi ⟨rfl, hys⟩ v I oI C oC D m₂ h tk' E' hv hC hx F N off ⟨q1, q2, q3⟩
    refine useG ?_
    intro P9 h9
    obtain ⟨x, tx, hx2, rfl⟩ := ints_item hI4 (by simpa using hv)
    refine h9 ?_
    clear h9 P9
    iterate 7 walk1
    exact LCg.CompEnd.intro (by k_asm) N _ (fun p hp => hp) off (.inr ⟨_, List.mem_cons_self, rfl, _, rfl⟩) ⟨rfl, by rw [map_take_snoc _ hx2]; exact ints_snoc hys⟩
  rintro ys2 nw ⟨rfl, hys⟩
  intro D6 h10 tk10 F10 N10 o10
  have hysS : IntsAre ys2 [(n0.fdiv 6).fmod 41, (n1.fdiv 6).fmod 41, (n2.fdiv 6).fmod 41, (n3.fdiv 6).fmod 41] := by
    have e : ws4.toArray.size = 4 := by rw [List.size_toArray, hI4.length, hne]; rfl
    rw [e, hne] at hys
    exact hys
  have N11 := News.drop1_2 N10
  simp only [LCg.Off1, and_true] at o10
  replace o10 := o10.2
  clear Nq N10 hys hI4 hC4 hL4 l4
  clear ws4 D4
  (try dsimp only)
  have k5 := o8.2.2.2.2.2.1
  have k6 := o10.2.2.2.2.2.2.1
  have k3 : @Ne Nat D3 (L + 1 + 1) := by omega
  have k54 : @Ne Nat 54 (L + 1 + 1) ∧ @Ne Nat 61 (L + 1 + 1) ∧ @Ne Nat 129 (L + 1 + 1) := by omega
  obtain ⟨k54, k61, k129⟩ := k54
  iterate 2 walk1
  clear k5 k6 k3 k54 k61 k129
  rename_i h11 oT F11 N11 dT
  clear e5 o5 h9
  iterate 1 walk1
  k_dflt (refine Assign_ListComp_C (x := PySem.Str.ofString "v") (_F₀ := by k_asm) (by rfl) (by with_unfolding_all rfl) (by with_unfolding_all rfl) (fun _ => rfl) (fun _ _ => rfl) (by rfl) (by decide) (by rfl) (by rfl) (by rfl) ?_)
  iterate 8 walk1
  rename_i D4 ws4 h12 F12 N12 hI4 hC4 hL4 l4
  refine use_news N12 ?_
  intro Λ hΛ NΛ
  have hsz4 : ws4.toArray.size = 3 := by rw [List.size_toArray, hI4.length, hne]; rfl
  refine ⟨D4, ws4.toArray, 0, Λ, rfl, rfl, F12, NΛ, by rw [hsz4, sizeLine_eq]; decide, by rw [hΛ]; exact List.mem_cons_self, RowsJ (nums.drop 4) Λ, ?J0_3, ?hJ_3, ?turn_3, ?fin_3⟩
  case J0_3 => exact ⟨[], rfl, rfl, rfl, fun j r h => by simp at h⟩
  case hJ_3 =>
    rintro i ys nw ⟨rs, -, rfl, -, -⟩
    rw [hΛ]
    exact List.mem_append_right _ List.mem_cons_self
  case turn_3 =>
    rintro i ys nw v I oI C oC V oV D h tk E' hv ⟨rs, rfl, rfl, hrl, hrs⟩ hV F N off
    refine useG ?_
    intro P9 h9
    obtain ⟨x, tx, hx2, rfl⟩ := ints_item hI4 (by simpa using hv)
    obtain ⟨nw, hnw⟩ : ∃ nw, nw = rowsL rs ++ Λ := ⟨_, rfl⟩
    rw [← hnw] at N off
    obtain ⟨yr, hyr⟩ : ∃ yr, yr = refs rs := ⟨_, rfl⟩
    refine h9 ?_
    clear h9 P9
    rw [← hyr] at N
    k_dflt (refine LCg.ListComp_U (F₀ := by k_asm) (by with_unfolding_all rfl) (by decide) (by rfl) (by decide) (by rfl) ?_)
    iterate 7 walk1
    with_reducible (rename IsRange _ _ _ _ _ _ _ _ => rgX)
    k_dflt (refine' LCg.CompSrc.range (n := 4) (by rfl) ?sF ?sN rgX ?sm ?sn ?sz ?_; (case sF => k_asm); (case sN => k_asm); (case sm => decide); (case sn => decide); (case sz => (rw [sizeLine_eq]; decide)))
    intro g13
    refine compRest_inv (J := fun i zs nw' => nw' = _ ∧ IntsAre zs ((rowG x).take i)) ?turn2_3 ?done3_1 _ 0 [] _ (Nat.zero_add _) ⟨rfl, .nil⟩
    case turn2_3 =>
      rintro q zs nw' hi ⟨rfl, hzs⟩ v' I2 oI2 C2 oC2 D2 m2 h' tk2 E2 hv' hC2 hx2' F' N' off' ⟨r1, r2, r3⟩
      obtain ⟨tv, rfl⟩ := hv'
      simp only [LCg.Off3, and_true] at off'
      have hk0 : (0 : Int) ≤ 0 + (q : Int) := by omega
      have hk1 : (0 : Int) + (q : Int) ≤ 50 := by omega
      obtain ⟨h5, h5b⟩ := pow5_facts hi
      iterate 8 walk1
      with_reducible refine floordiv_int h5 ?_ (Or.inl (PyProof.noPylong_of_log2 h5b))
      iterate 4 walk1
      exact LCg.CompEnd.intro (by k_asm) N' _ (fun p hp => hp) (by simp only [LCg.Off3]; exact off') trivial ⟨rfl, row_next hi hzs⟩
    rintro zs nw' ⟨rfl, hzs⟩
    intro R h14 tk14 F14 N14 o14
    have hz4 : IntsAre zs (rowG x) := hzs
    rw [hyr] at N14
    have o14' := o14
    simp only [LCg.Off1] at o14'
    refine endC_of (s₁ := ⟨_, _, _, _, _⟩) (by k_asm) N14 ⟨o14'.1, o14'.2.1, o14'.2.2.1, o14'.2.2.2.1⟩ off ?_
    rw [hnw]
    exact RowsJ.snoc hrl hrs hx2 hz4
  case' fin_3 =>
    rintro D7 h15 tk15 ys nw ⟨rs, rfl, rfl, hrl, hrs⟩ F15 N15 o15
    rw [hsz4] at hrl
    refine useG ?_
    intro P9 h9
    obtain ⟨⟨R0, z0⟩, ⟨R1, z1⟩, ⟨R2, z2⟩, rfl⟩ := three hrl
    have hr0 : IntsAre z0 (rowG n4) := by
      obtain ⟨v, e, h⟩ := hrs 0 _ rfl
      rw [hne] at e
      cases e; exact h
    have hr1 : IntsAre z1 (rowG n5) := by
      obtain ⟨v, e, h⟩ := hrs 1 _ rfl
      rw [hne] at e
      cases e; exact h
    have hr2 : IntsAre z2 (rowG n6) := by
      obtain ⟨v, e, h⟩ := hrs 2 _ rfl
      rw [hne] at e
      cases e; exact h
    have N16 : News g L h15 [(D7, LCg.lst [.ref R0, .ref R1, .ref R2]), (R2, LCg.lst z2), (R1, LCg.lst z1), (R0, LCg.lst z0), (D6, LCg.lst ys2), (D5, LCg.lst ys), (L + 1 + 1 + 1 + 1 + 1 + 1, o1), (L + 1 + 1 + 1 + 1 + 1, o2), (L + 1 + 1 + 1 + 1, o3), (L + 1 + 1 + 1, o4), (L + 1 + 1, oT), (L + 1, oS), (129, tabObj #[]), (61, tabObj #[]), (54, tabObj #[])] := by
      rw [hΛ] at N15
      refine led_sub N15 ?_
      dsimp only [rowsL, refs, List.map_cons, List.map_nil, List.reverse_cons, List.reverse_nil, List.nil_append, List.cons_append]
      repeat (refine fmC ?_ ?_; k_mem)
      exact fm0
    have hcb := cs_ok n0 n1 n2 n3
    have hsb := ss_ok n0 n1 n2 n3
    obtain ⟨cs, hcs⟩ : ∃ cs, cs = [n0.fmod 6, n1.fmod 6, n2.fmod 6, n3.fmod 6] := ⟨_, rfl⟩
    obtain ⟨ss, hss⟩ : ∃ ss, ss = [(n0.fdiv 6).fmod 41, (n1.fdiv 6).fmod 41, (n2.fdiv 6).fmod 41, (n3.fdiv 6).fmod 41] := ⟨_, rfl⟩
    refine h9 ?_
    clear h9 P9
    have hcl : cs.length = 4 := by rw [hcs]; rfl
    have hsl : ss.length = 4 := by rw [hss]; rfl
    rw [← hcs] at hcb hysC
    rw [← hss] at hsb hysS
    have hb0 := rowG_ok n4
    have hb1 := rowG_ok n5
    have hb2 := rowG_ok n6
    have hl0 : (rowG n4).length = 4 := rfl
    have hl1 : (rowG n5).length = 4 := rfl
    have hl2 : (rowG n6).length = 4 := rfl
    generalize rowG n4 = G0 at hr0 hb0 hl0
    generalize rowG n5 = G1 at hr1 hb1 hl1
    generalize rowG n6 = G2 at hr2 hb2 hl2
    clear N15 o15 hrs hrl hcs hss hne NΛ N12 F12 hI3 hI4 hC4 hL4 hΛ hsz4 l4 o8 o10 hD3 hnl
    (try dsimp only at F15 ⊢)
    clear h12
    clear nums ws3 ws4 n0 n1 n2 n3 n4 n5 n6 Λ D4 h10 tk10 g10 h8 tk8 g9 h7 h5
  refine use_news N16 ?_
  intro Λ hΛ NΛ
  have hrow : RowIn Λ [G0, G1, G2] [.ref R0, .ref R1, .ref R2] := by
    rw [hΛ]
    exact RowIn.mk3 (by k_mem) (by k_mem) (by k_mem) hr0 hr1 hr2 hl0 hl1 hl2 hb0 hb1 hb2
  iterate 1 walk1
  k_dflt (refine LCg.Assign_ListComp_U (F₀ := by k_asm) (by rfl) (by with_unfolding_all rfl) (by with_unfolding_all rfl) (by decide) (by rfl) (by decide) (by rfl) (by rfl) (by rfl) ?_)
  iterate 1 walk1
  k_dflt (refine' LCg.CompSrc.ledger (by rfl) ?sF ?sN ?sm ?sz ?_; (case sF => k_asm); (case sN => exact NΛ); (case sm => (rw [hΛ]; exact List.mem_cons_self)); (case sz => (rw [sizeLine_eq, List.size_toArray]; simp only [List.length_cons, List.length_nil]; omega)))
  intro g16
  refine compRest_inv (J := fun i zs nw => nw = Λ ∧ IntsAre zs (([G0, G1, G2].take i).map fun G => prodP (posG G))) ?turn_4 ?done4_1 _ 0 [] _ (Nat.zero_add _) ⟨rfl, .nil⟩
  case turn_4 =>
    rintro i zs nw hi ⟨rfl, hzs⟩ v I oI C oC D m₂ h tk' E' hv hC hx F N off ⟨q1, q2, q3⟩
    refine useG ?_
    intro P9 h9
    obtain ⟨R, z, G, rfl, hR, hz, hG, hGl, hGb⟩ := hrow.2 i v (by simpa using hv)
    refine h9 ?_
    clear h9 P9
    iterate 4 walk1
    k_dflt (refine spliced_more ?_)
    k_dflt (refine LCg.ListComp_U (F₀ := by k_asm) (by with_unfolding_all rfl) (by decide) (by rfl) (by decide) (by rfl) ?_)
    iterate 1 walk1
    k_dflt (refine' LCg.CompSrc.ledger (ax := R) (its := z.toArray) (k := z.length) (by rfl) ?sF ?sN ?sm ?sz ?_; (case sF => k_asm); (case sN => k_asm); (case sm => exact .tail _ (.tail _ (.tail _ hR))); (case sz => (rw [List.size_toArray, hz.length, sizeLine_eq]; omega)))
    intro g17
    refine compRest_inv (J := fun q us nw' => nw' = _ ∧ IntsAre us ((G.take q).map fun x => if 0 > x then 0 else x)) ?turn2_4 ?done4_2 _ 0 [] _ (Nat.zero_add _) ⟨rfl, .nil⟩
    case turn2_4 =>
      rintro q us nw' hi2 ⟨rfl, hus⟩ v I2 oI2 C2 oC2 D2 m2 h' tk2 E2 hv' hC2 hx2' F' N' off' ⟨r1, r2, r3⟩
      refine useG ?_
      intro P9 h9
      obtain ⟨x, tx, hx2, rfl⟩ := ints_item hz (by simpa using hv')
      refine h9 ?_
      clear h9 P9
      iterate 9 walk1
      exact LCg.CompEnd.intro (by k_asm) (by k_asm) _ (fun p hp => hp) off' (.inr ⟨_, .tail _ (.tail _ (.tail _ hR)), rfl, _, rfl⟩) ⟨rfl, by rw [map_take_snoc _ hx2]; exact ints_snoc hus⟩
    rintro us nw' ⟨rfl, hus⟩
    intro D8 h17 tk17 F17 N17 o17
    rw [List.take_of_length_le (by rw [List.size_toArray, hz.length]; exact Nat.le_refl _)] at hus
    refine useG ?_
    intro P9 h9
    obtain ⟨pl, pb⟩ := posG_ok hGl hGb
    have hus2 : IntsAre us (posG G) := hus
    obtain ⟨a, b, c, d, ta, tb, tc, td, e4, e5⟩ := ints4 hus2 pl
    refine h9 ?_
    clear h9 P9
    rw [e5] at pb
    have pa : 0 ≤ a ∧ a ≤ 2 := pb a (.head _)
    have pb' : 0 ≤ b ∧ b ≤ 2 := pb b (.tail _ (.head _))
    have pc : 0 ≤ c ∧ c ≤ 2 := pb c (.tail _ (.tail _ (.head _)))
    have pd : 0 ≤ d ∧ d ≤ 2 := pb d (.tail _ (.tail _ (.tail _ (.head _))))
    subst e4
    (try dsimp only)
    iterate 1 walk1
    refine ⟨X'.keeps F17.keep, ?_⟩
    k_dflt (refine' c141 (D := D8) (ta := ta) (tb := tb) (tc := tc) (td := td) (k := 4) (news := (I, oI) :: (C, oC) :: (D, LCg.lst zs) :: nw) ⟨pa.1, Int.le_trans pa.2 (by decide)⟩ ⟨pb'.1, Int.le_trans pb'.2 (by decide)⟩ ⟨pc.1, Int.le_trans pc.2 (by decide)⟩ ⟨pd.1, Int.le_trans pd.2 (by decide)⟩ _ _ _ _ _ _ _ _ _ _ _ _ _ _ _ _ _ ?k1 ?kB ?k2 ?k3 ?k4 ?k5 ?k6 ?k7 ?k8 ?_; (case k1 => exact K'); (case kB => exact trivial); (case k2 => k_asm); (case k3 => exact X'); (case k4 => exact N17); (case k5 => exact T2); (case k6 => exact rfl); (case k7 => first | ktr_room | decide | decide +kernel); (case k8 => first | ktr_units | decide | decide +kernel))
    intro v Λ' h' tk' F' N' hr
    obtain ⟨t18, e, e2⟩ := hr
    subst e e2
    (try dsimp only)
    have hpv : (2 : Int) ^ a.toNat * 3 ^ b.toNat * 5 ^ c.toNat * 7 ^ d.toNat = prodP (posG G) := by rw [e5]; rfl
    rw [hpv]
    exact LCg.CompEnd.intro (by k_asm) (News.drop1 N') _ (fun p hp => hp) off (.inr ⟨_, by rw [hΛ]; exact List.mem_cons_self, rfl, _, rfl⟩) ⟨rfl, by rw [map_take_snoc _ hG]; exact ints_snoc hzs⟩
  rintro ov nw ⟨rfl, hov⟩
  intro D9 h18 tk18 F18 N18 o18
  have hov2 : IntsAre ov [prodP (posG G0), prodP (posG G1), prodP (posG G2)] := hov
  clear hov o18
  rw [hΛ] at N18
  clear NΛ hrow hΛ
  clear nw
  (try dsimp only at F18 ⊢)
  clear g16
  refine use_news N18 ?_
  intro Λ hΛ NΛ
  have hrow : RowIn Λ [G0, G1, G2] [.ref R0, .ref R1, .ref R2] := by
    rw [hΛ]
    exact RowIn.mk3 (by k_mem) (by k_mem) (by k_mem) hr0 hr1 hr2 hl0 hl1 hl2 hb0 hb1 hb2
  iterate 1 walk1
  k_dflt (refine LCg.Assign_ListComp_U (F₀ := by k_asm) (by rfl) (by with_unfolding_all rfl) (by with_unfolding_all rfl) (by decide) (by rfl) (by decide) (by rfl) (by rfl) (by rfl) ?_)
  iterate 1 walk1
  k_dflt (refine' LCg.CompSrc.ledger (by rfl) ?sF ?sN ?sm ?sz ?_; (case sF => k_asm); (case sN => exact NΛ); (case sm => (rw [hΛ]; exact .tail _ (.head _))); (case sz => (rw [sizeLine_eq, List.size_toArray]; simp only [List.length_cons, List.length_nil]; omega)))
  intro g16
  refine compRest_inv (J := fun i zs nw => nw = Λ ∧ IntsAre zs (([G0, G1, G2].take i).map fun G => prodP (negG G))) ?turn_5 ?done5_1 _ 0 [] _ (Nat.zero_add _) ⟨rfl, .nil⟩
  case turn_5 =>
    rintro i zs nw hi ⟨rfl, hzs⟩ v I oI C oC D m₂ h tk' E' hv hC hx F N off ⟨q1, q2, q3⟩
    refine useG ?_
    intro P9 h9
    obtain ⟨R, z, G, rfl, hR, hz, hG, hGl, hGb⟩ := hrow.2 i v (by simpa using hv)
    refine h9 ?_
    clear h9 P9
    iterate 4 walk1
    k_dflt (refine spliced_more ?_)
    k_dflt (refine LCg.ListComp_U (F₀ := by k_asm) (by with_unfolding_all rfl) (by decide) (by rfl) (by decide) (by rfl) ?_)
    iterate 1 walk1
    k_dflt (refine' LCg.CompSrc.ledger (ax := R) (its := z.toArray) (k := z.length) (by rfl) ?sF ?sN ?sm ?sz ?_; (case sF => k_asm); (case sN => k_asm); (case sm => exact .tail _ (.tail _ (.tail _ hR))); (case sz => (rw [List.size_toArray, hz.length, sizeLine_eq]; omega)))
    intro g17
    refine compRest_inv (J := fun q us nw' => nw' = _ ∧ IntsAre us ((G.take q).map fun x => if 0 > -x then 0 else -x)) ?turn2_5 ?done5_2 _ 0 [] _ (Nat.zero_add _) ⟨rfl, .nil⟩
    case turn2_5 =>
      rintro q us nw' hi2 ⟨rfl, hus⟩ v I2 oI2 C2 oC2 D2 m2 h' tk2 E2 hv' hC2 hx2' F' N' off' ⟨r1, r2, r3⟩
      refine useG ?_
      intro P9 h9
      obtain ⟨x, tx, hx2, rfl⟩ := ints_item hz (by simpa using hv')
      refine h9 ?_
      clear h9 P9
      iterate 11 walk1
      exact LCg.CompEnd.intro (by k_asm) (by k_asm) _ (fun p hp => hp) off' (.inr ⟨_, .tail _ (.tail _ (.tail _ hR)), rfl, _, rfl⟩) ⟨rfl, by rw [map_take_snoc _ hx2]; exact ints_snoc hus⟩
    rintro us nw' ⟨rfl, hus⟩
    intro D8 h17 tk17 F17 N17 o17
    rw [List.take_of_length_le (by rw [List.size_toArray, hz.length]; exact Nat.le_refl _)] at hus
    refine useG ?_
    intro P9 h9
    obtain ⟨pl, pb⟩ := negG_ok hGl hGb
    have hus2 : IntsAre us (negG G) := hus
    obtain ⟨a, b, c, d, ta, tb, tc, td, e4, e5⟩ := ints4 hus2 pl
    refine h9 ?_
    clear h9 P9
    rw [e5] at pb
    have pa : 0 ≤ a ∧ a ≤ 2 := pb a (.head _)
    have pb' : 0 ≤ b ∧ b ≤ 2 := pb b (.tail _ (.head _))
    have pc : 0 ≤ c ∧ c ≤ 2 := pb c (.tail _ (.tail _ (.head _)))
    have pd : 0 ≤ d ∧ d ≤ 2 := pb d (.tail _ (.tail _ (.tail _ (.head _))))
    subst e4
    (try dsimp only)
    iterate 1 walk1
    refine ⟨X'.keeps F17.keep, ?_⟩
    k_dflt (refine' c141 (D := D8) (ta := ta) (tb := tb) (tc := tc) (td := td) (k := 4) (news := (I, oI) :: (C, oC) :: (D, LCg.lst zs) :: nw) ⟨pa.1, Int.le_trans pa.2 (by decide)⟩ ⟨pb'.1, Int.le_trans pb'.2 (by decide)⟩ ⟨pc.1, Int.le_trans pc.2 (by decide)⟩ ⟨pd.1, Int.le_trans pd.2 (by decide)⟩ _ _ _ _ _ _ _ _ _ _ _ _ _ _ _ _ _ ?k1 ?kB ?k2 ?k3 ?k4 ?k5 ?k6 ?k7 ?k8 ?_; (case k1 => exact K'); (case kB => exact trivial); (case k2 => k_asm); (case k3 => exact X'); (case k4 => exact N17); (case k5 => exact T2); (case k6 => exact rfl); (case k7 => first | ktr_room | decide | decide +kernel); (case k8 => first | ktr_units | decide | decide +kernel))
    intro v Λ' h' tk' F' N' hr
    obtain ⟨t18, e, e2⟩ := hr
    subst e e2
    (try dsimp only)
    have hpv : (2 : Int) ^ a.toNat * 3 ^ b.toNat * 5 ^ c.toNat * 7 ^ d.toNat = prodP (negG G) := by rw [e5]; rfl
    rw [hpv]
    exact LCg.CompEnd.intro (by k_asm) (News.drop1 N') _ (fun p hp => hp) off (.inr ⟨_, by rw [hΛ]; exact .tail _ (.head _), rfl, _, rfl⟩) ⟨rfl, by rw [map_take_snoc _ hG]; exact ints_snoc hzs⟩
  rintro un nw ⟨rfl, hun⟩
  intro D10 h19 tk19 F19 N19 o19
  have hun2 : IntsAre un [prodP (negG G0), prodP (negG G1), prodP (negG G2)] := hun
  clear hun o19
  rw [hΛ] at N19
  clear NΛ hrow hΛ
  clear nw
  (try dsimp only at F19 ⊢)
  clear g16
  obtain ⟨tS, dS2⟩ : ∃ tS, oS.data = .cell (some (.str (PySem.Str.ofString "ABCDEFGHIJKLMNOPQRSTUVWXYZabcdefghijklmnopqrstuvwxyz0123456789+/") tS)) := ⟨_, dS⟩
  clear dS
  refine use_news N19 ?_
  intro Λ hΛ NΛ
  have hrow : RowIn Λ [G0, G1, G2] [.ref R0, .ref R1, .ref R2] := by
    rw [hΛ]
    exact RowIn.mk3 (by k_mem) (by k_mem) (by k_mem) hr0 hr1 hr2 hl0 hl1 hl2 hb0 hb1 hb2
  have hst : (D6, LCg.lst ys2) ∈ Λ := by rw [hΛ]; k_mem
  rw [hΛ] at hrow hst
  clear NΛ hΛ
  clear Λ
  iterate 2 walk1
  k_dflt (refine LCg.ListComp_U (F₀ := by k_asm) (by with_unfolding_all rfl) (by decide) (by rfl) (by decide) (by rfl) ?_)
  iterate 1 walk1
  k_dflt (refine' LCg.CompSrc.ledger (by rfl) ?sF ?sN ?sm ?sz ?_; (case sF => k_asm); (case sN => k_asm); (case sm => exact .tail _ (.tail _ (.head _))); (case sz => (rw [sizeLine_eq, List.size_toArray]; simp only [List.length_cons, List.length_nil]; omega)))
  intro g16
  refine compRest_inv (J := fun i zs nw => nw = _ ∧ StrsAre zs (([G0, G1, G2].take i).map fun G => ⟨(globC ss G).toArray⟩)) ?turn_6 ?done6_1 _ 0 [] _ (Nat.zero_add _) ⟨rfl, .nil⟩
  case turn_6 =>
    rintro i zs nw hi ⟨rfl, hzs⟩ v I oI C oC D m₂ h tk' E' hv hC hx F N off ⟨q1, q2, q3⟩
    refine useG ?_
    intro P9 h9
    obtain ⟨R, z, G, rfl, hR, hz, hG, hGl, hGb⟩ := hrow.2 i v (by simpa using hv)
    refine h9 ?_
    clear h9 P9
    iterate 11 walk1
    refine ⟨X'.keeps F.keep, ?_⟩
    k_dflt (refine' c155 hysS hz hsl hGl hsb hGb (k1 := ys2.length) (k2 := z.length) (.tail _ (.tail _ (.tail _ hst))) (.tail _ (.tail _ (.tail _ hR))) _ _ _ _ _ _ _ _ _ _ _ _ _ _ _ _ _ ?k1 ?kB ?k2 ?k3 ?k4 ?k5 ?k6 ?k7 ?k8 ?_; (case k1 => exact K'); (case kB => exact trivial); (case k2 => k_asm); (case k3 => exact X'); (case k4 => exact N); (case k5 => exact T2); (case k6 => exact rfl); (case k7 => first | ktr_room | decide | decide +kernel); (case k8 => first | ktr_units | decide | decide +kernel))
    intro v Λ' h' tk' F' N' hr
    obtain ⟨t18, e, e2⟩ := hr
    subst e e2
    (try dsimp only)
    exact LCg.CompEnd.intro (by k_asm) N' _ (fun p hp => hp) off (.inr ⟨_, .tail _ (.tail _ (.head _)), rfl, _, rfl⟩) ⟨rfl, by rw [map_take_snoc _ hG]; exact strs_snoc hzs⟩
  rintro gl nw ⟨rfl, hgl⟩
  intro D11 h20 tk20 F20 N20 o20
  have hgl2 : StrsAre gl [⟨(globC ss G0).toArray⟩, ⟨(globC ss G1).toArray⟩, ⟨(globC ss G2).toArray⟩] := hgl
  clear hgl o20 hrow hst
  (try dsimp only)
  obtain ⟨B, hB⟩ : ∃ B, B = [(D11, LCg.lst gl), (D10, LCg.lst un), (D9, LCg.lst ov), (D7, LCg.lst [.ref R0, .ref R1, .ref R2]), (R2, LCg.lst z2), (R1, LCg.lst z1), (R0, LCg.lst z0), (D6, LCg.lst ys2), (D5, LCg.lst ys)] := ⟨_, rfl⟩
  have N21 : News g L h20 ((L + 1 + 1 + 1 + 1 + 1 + 1, o1) :: (L + 1 + 1 + 1 + 1 + 1, o2) :: (L + 1 + 1 + 1 + 1, o3) :: (L + 1 + 1 + 1, o4) :: (L + 1 + 1, oT) :: (L + 1, oS) :: (129, tabObj #[]) :: (B ++ ([(54, tabObj #[])] ++ [(61, tabObj #[])]))) := by
    refine led_sub N20 ?_
    rw [hB]
    dsimp only [List.cons_append, List.nil_append]
    repeat (refine fmC ?_ ?_; k_mem)
    exact fm0
  have hBc : ∀ q ∈ B, NotCell q.2 ∧ NotTab q.2 := by
    intro q hq
    rw [hB] at hq
    simp only [List.mem_cons, List.not_mem_nil, or_false] at hq
    rcases hq with rfl | rfl | rfl | rfl | rfl | rfl | rfl | rfl | rfl <;> exact ⟨notCell_lst _, notTab_lst _⟩
  have mG : (D11, LCg.lst gl) ∈ B := by rw [hB]; k_mem
  have mU : (D10, LCg.lst un) ∈ B := by rw [hB]; k_mem
  have mO : (D9, LCg.lst ov) ∈ B := by rw [hB]; k_mem
  have mM : (D7, LCg.lst [.ref R0, .ref R1, .ref R2]) ∈ B := by rw [hB]; k_mem
  have mR2 : (R2, LCg.lst z2) ∈ B := by rw [hB]; k_mem
  have mR1 : (R1, LCg.lst z1) ∈ B := by rw [hB]; k_mem
  have mR0 : (R0, LCg.lst z0) ∈ B := by rw [hB]; k_mem
  have mS : (D6, LCg.lst ys2) ∈ B := by rw [hB]; k_mem
  have mC : (D5, LCg.lst ys) ∈ B := by rw [hB]; k_mem
  have hrow : RowIn B [G0, G1, G2] [.ref R0, .ref R1, .ref R2] := RowIn.mk3 mR0 mR1 mR2 hr0 hr1 hr2 hl0 hl1 hl2 hb0 hb1 hb2
  clear hB N20 N19 F19 hr0 hr1 hr2 mR0 mR1 mR2
  obtain ⟨BT, hBT⟩ : ∃ BT, BT = B ++ ([(54, tabObj #[])] ++ [(61, tabObj #[])]) := ⟨_, rfl⟩
  rw [← hBT] at N21
  have hnc : ∀ q ∈ BT, NotCell q.2 := by
    intro q hq
    rw [hBT] at hq
    rcases List.mem_append.mp hq with hq | hq
    · exact (hBc q hq).1
    · simp only [List.cons_append, List.nil_append, List.mem_cons, List.not_mem_nil, or_false] at hq
      rcases hq with rfl | rfl <;> exact notCell_tab _
  have hsub : ∀ q ∈ BT, q ∈ (L + 1 + 1 + 1 + 1 + 1 + 1, o1) :: (L + 1 + 1 + 1 + 1 + 1, o2) :: (L + 1 + 1 + 1 + 1, o3) :: (L + 1 + 1 + 1, o4) :: (L + 1 + 1, oT) :: (L + 1, oS) :: (129, tabObj #[]) :: BT := fun q hq => .tail _ (.tail _ (.tail _ (.tail _ (.tail _ (.tail _ (.tail _ hq))))))
  have hc3 := sepAll N21 hsub hnc (c := L + 1 + 1 + 1) (oc := o4) (by k_mem) e4
  have hc4 := sepAll N21 hsub hnc (c := L + 1 + 1 + 1 + 1) (oc := o3) (by k_mem) e3
  have hc5 := sepAll N21 hsub hnc (c := L + 1 + 1 + 1 + 1 + 1) (oc := o2) (by k_mem) e2
  have hc6 := sepAll N21 hsub hnc (c := L + 1 + 1 + 1 + 1 + 1 + 1) (oc := o1) (by k_mem) e1
  clear hsub
  iterate 2 walk1
  rename_i h21 oG F21 N22 dG
  clear e4 o4 hc3
  (try dsimp only)
  clear h20 tk20
  iterate 8 walk1
  refine ⟨X'.keeps F21.keep, ?_⟩
  refine useG ?_
  intro P9 h9
  obtain ⟨a, b, c, d, ta, tb, tc, td, e7, e8⟩ := ints4 hysC hcl
  refine h9 ?_
  clear h9 P9
  have hcb' := hcb
  rw [e8] at hcb'
  have pa : 0 ≤ a ∧ a ≤ 5 := hcb' a (.head _)
  have pb : 0 ≤ b ∧ b ≤ 5 := hcb' b (.tail _ (.head _))
  have pc : 0 ≤ c ∧ c ≤ 5 := hcb' c (.tail _ (.tail _ (.head _)))
  have pd : 0 ≤ d ∧ d ≤ 5 := hcb' d (.tail _ (.tail _ (.tail _ (.head _))))
  have mC' : (D5, LCg.lst ys) ∈ (L + 1 + 1 + 1 + 1 + 1 + 1, o1) :: (L + 1 + 1 + 1 + 1 + 1, o2) :: (L + 1 + 1 + 1 + 1, o3) :: (L + 1 + 1 + 1, oG) :: (L + 1 + 1, oT) :: (L + 1, oS) :: (129, tabObj #[]) :: BT := .tail _ (.tail _ (.tail _ (.tail _ (.tail _ (.tail _ (.tail _ (by rw [hBT]; exact List.mem_append_left _ mC)))))))
  have N23 := News.dup N22 mC'
  rw [e7] at N23
  k_dflt (refine' c141 (D := D5) (ta := ta) (tb := tb) (tc := tc) (td := td) (k := 4) ⟨pa.1, Int.le_trans pa.2 (by decide)⟩ ⟨pb.1, Int.le_trans pb.2 (by decide)⟩ ⟨pc.1, Int.le_trans pc.2 (by decide)⟩ ⟨pd.1, Int.le_trans pd.2 (by decide)⟩ _ _ _ _ _ _ _ _ _ _ _ _ _ _ _ _ _ ?k1 ?kB ?k2 ?k3 ?k4 ?k5 ?k6 ?k7 ?k8 ?_; (case k1 => exact K'); (case kB => exact trivial); (case k2 => k_asm); (case k3 => exact X'); (case k4 => exact N23); (case k5 => exact T2); (case k6 => exact rfl); (case k7 => first | ktr_room | decide | decide +kernel); (case k8 => first | ktr_units | decide | decide +kernel))
  intro v Λ' h' tk' F' N' hr
  obtain ⟨t18, e, e2⟩ := hr
  subst e e2
  (try dsimp only)
  have hpv : (2 : Int) ^ a.toNat * 3 ^ b.toNat * 5 ^ c.toNat * 7 ^ d.toNat = prodP cs := by rw [e8]; rfl
  rw [hpv]
  have N24 := News.drop1 N'
  clear N' N23 N22 hcb' e7 e8 mC' hpv pa pb pc pd
  clear a b c d ta tb tc td
  iterate 2 walk1
  rename_i h22 oN F22 N25 dN
  clear e3 o3 hc4
  (try dsimp only)
  clear h21 h' tk'
  refine use_news N25 ?_
  intro Λ hΛ NΛ
  have mS' : (D6, LCg.lst ys2) ∈ Λ := by rw [hΛ]; exact .tail _ (.tail _ (.tail _ (.tail _ (.tail _ (.tail _ (.tail _ (by rw [hBT]; exact List.mem_append_left _ mS)))))))
  have mC' : (D5, LCg.lst ys) ∈ Λ := by rw [hΛ]; exact .tail _ (.tail _ (.tail _ (.tail _ (.tail _ (.tail _ (.tail _ (by rw [hBT]; exact List.mem_append_left _ mC)))))))
  clear NΛ
  iterate 5 walk1
  k_dflt (refine spliced_more ?_)
  k_dflt (refine ListComp_P none (F₀ := by k_asm) (by with_unfolding_all rfl) (by decide) (by rfl) (by decide) (by rfl) (by rfl) (by decide) ?_)
  iterate 8 walk1
  k_dflt (refine zipSrcLL (J := fun i zs nw => nw = Λ ∧ IntsAre zs (List.zipWith (· + ·) (ss.take i) (cs.take i))) (by rfl) (by k_asm) (by rw [hΛ]; exact N25) mS' mC' ?hkeep_8 ?hJl_8 ?J0_8 ?turn_8 ?fin_8)
  case hkeep_8 => rintro i zs nw ⟨rfl, -⟩; exact ⟨mS', mC'⟩
  case hJl_8 =>
    rintro i zs nw ⟨-, hzs⟩ hi
    rw [hzs.length, List.length_zipWith, List.length_take, sizeLine_eq]
    exact min_le_line (Nat.le_of_eq (by assumption))
  case J0_8 => exact ⟨rfl, .nil⟩
  case turn_8 =>
    intro i zs nw own x y C oC D m₂ h tk' E' hlt hJ hg hC hx hy F N off offC offD
    refine useG ?_
    intro P9 h9
    obtain ⟨rfl, hzs⟩ := hJ
    obtain ⟨hg1, hg2⟩ := hg
    obtain ⟨x1, tx, hx2, rfl⟩ := ints_item hysS hg1
    obtain ⟨y1, ty, hy2, rfl⟩ := ints_item hysC hg2
    obtain ⟨nwo, hnwo⟩ : ∃ nwo, nwo = nw ++ own := ⟨_, rfl⟩
    refine h9 ?_
    clear h9 P9
    rw [← hnwo] at N
    iterate 4 walk1
    subst hnwo
    exact PEnd.intro (by k_asm) (by k_asm) off ⟨rfl, by rw [zip_snoc hx2 hy2]; exact ints_snoc hzs⟩
  case' fin_8 =>
    rintro h23 tk23 zs nw ⟨rfl, hzs⟩
    intro D12 h24 tk24 F24 N26 o24
    have hpl : IntsAre zs (placesL ss cs) := by
      have e : min ys2.length ys.length = 4 := by rw [hysS.length, hysC.length, hsl, hcl]; rfl
      rw [e, List.take_of_length_le (Nat.le_of_eq hsl), List.take_of_length_le (Nat.le_of_eq hcl)] at hzs
      exact hzs
    obtain ⟨plen, pbd⟩ := places_ok hsl hcl hsb hcb (by decide)
    clear hzs
    (try dsimp only)
    iterate 1 walk1
    rw [hΛ, hBT] at N26
    have hHiB : Hi B := hi_of_news (T54 := [(54, tabObj #[])]) (T61 := [(61, tabObj #[])]) (.inl rfl) (.inl rfl) N26 (fun q hq => .tail _ (.tail _ (.tail _ (.tail _ (.tail _ (.tail _ (.tail _ (.tail _ (List.mem_append_right _ (List.mem_append_left _ hq))))))))))
      (fun q hq => .tail _ (.tail _ (.tail _ (.tail _ (.tail _ (.tail _ (.tail _ (.tail _ (List.mem_append_right _ (List.mem_append_right _ hq)))))))))) (fun q hq => .tail _ (.tail _ (.tail _ (.tail _ (.tail _ (.tail _ (.tail _ (.tail _ (List.mem_append_left _ hq))))))))) (fun q hq => (hBc q hq).2)
    have hD12 : @Ne Nat D12 54 ∧ @Ne Nat D12 61 := by
      rw [hΛ, hBT] at o24
      exact ⟨Ne.symm (o24 (54, tabObj #[]) (.tail _ (.tail _ (.tail _ (.tail _ (.tail _ (.tail _ (.tail _ (List.mem_append_right _ (.head _)))))))))), Ne.symm (o24 (61, tabObj #[]) (.tail _ (.tail _ (.tail _ (.tail _ (.tail _ (.tail _ (.tail _ (List.mem_append_right _ (.tail _ (.head _)))))))))))⟩
    have hHi := hi_cells (o1 := o1) (o2 := o2) (o3 := oN) (o4 := oG) (o5 := oT) (o6 := oS) (o7 := tabObj #[]) l0 hHiB
    refine ⟨X'.keeps F24.keep, ?_⟩
    k_dflt (refine' c148 (T54 := [(54, tabObj #[])]) (T61 := [(61, tabObj #[])]) (P := D12) (vs := zs) (pl := placesL ss cs) (k := zs.length) (.inl rfl) (.inl rfl) hHi hD12 hpl pbd plen _ _ _ _ _ _ _ _ _ _ _ _ _ _ _ _ _ ?k1 ?kB ?k2 ?k3 ?k4 ?k5 ?k6 ?k7 ?k8 ?_; (case k1 => exact K'); (case kB => exact ⟨c3, c2⟩); (case k2 => k_asm); (case k3 => exact X'); (case k4 => exact led_sub N26 led_in); (case k5 => exact T2); (case k6 => exact rfl); (case k7 => first | ktr_room | decide | decide +kernel); (case k8 => first | ktr_units | decide | decide +kernel))
    intro v Λ' h' tk' F' N' hr
    refine useG ?_
    intro P9 h9
    obtain ⟨t25, T54, T61, e, hT54, hT61, hf54, hf61, e2⟩ := hr
    subst e e2
    refine h9 ?_
    clear h9 P9
    (try dsimp only)
    have q54 := hT54.1
    have q61 := hT61.1
    have N27 := led_sub N' (led_out (B := B) (T54 := T54) (T61 := T61))
    clear hT54 hT61 N' N26 hHi hD12 o24 mS' mC' hΛ
    obtain ⟨BT2, hBT2⟩ : ∃ BT2, BT2 = B ++ (T54 ++ T61) := ⟨_, rfl⟩
    rw [← hBT2] at N27
    have hnc2 : ∀ q ∈ BT2, NotCell q.2 := by
      intro q hq
      rw [hBT2] at hq
      rcases List.mem_append.mp hq with hq | hq
      · exact (hBc q hq).1
      · exact (List.mem_append.mp hq).elim (q54.notCell q) (q61.notCell q)
    have hc5b := sepAll N27 (fun q hq => .tail _ (.tail _ (.tail _ (.tail _ (.tail _ (.tail _ (.tail _ hq))))))) hnc2 (c := L + 1 + 1 + 1 + 1 + 1) (oc := o2) (by k_mem) e2
    clear hBT hnc hc5 hc6 N25
    clear BT
    iterate 2 walk1
    rename_i h26 oX F26 N28 dX
    clear e2 o2 hc5b hnc2 plen pbd hpl
    (try dsimp only)
    clear h24 tk24 h23 tk23 h' tk' h22 zs D12
  rw [hBT2] at N28
  refine use_fr F26 ?_
  intro m0 hm0 F27
  clear F26
  iterate 1 walk1
  k_dflt (refine For_G (_F₀ := F27) (by rfl) (by rfl) ?_)
  iterate 7 walk1
  with_reducible (rename IsRange _ _ _ _ _ _ _ _ => rgX)
  with_reducible (rename News _ _ _ _ => N29)
  with_reducible (rename Fr _ _ _ _ => F29)
  have hm0c : m0 "counts" = some (.ref D5) := by rw [hm0]; rfl
  refine ⟨_, _, _, _, _, _, 8, m0, _, rfl, rfl, .of_eq hg, F29, N29, rgX, by decide, by decide, LoopJ L oG oT oS B (T54 ++ T61) ss m0, ?J0_9, ?turn_9, ?fin_9⟩
  case J0_9 =>
    exact ⟨cs, ys, D5, o1, oX, oN, #[], _, _, _, B, hm0c, fun _ _ _ _ _ => rfl, hcl, fun x hx => by have := hcb x hx; omega, hysC, mC, fun _ h => h, hBc, e1, dX, dN, .inl rfl, rfl⟩
  case fin_9 =>
    rintro h tk gs m news ⟨cs', yc, Cc, oTl, oTx, oNm, ps, tN, tX, vTl, B', -, -, -, -, -, -, -, -, -, -, -, -, rfl⟩ hgs F N
    change Fr g L h m at F
    change News g L h _ at N
    iterate 3 walk1
    have F' : Fr (ghostOf s₁.heap [(133, 129), (65, 61), (58, 54)]) L h m := hgg ▸ F
    refine ⟨goodW_bool (s₁ := { s₁ with heap := ghostOf s₁.heap [(133, 129), (65, 61), (58, 54)] }) (s' := ⟨_, _, _, _, _⟩) F' rfl (fun _ => rfl) (by first | kc_post | wrow_post), hgs, GrownAt.of (ps := ps) N ?m1_9, tab_at q61 N ?m2_9, tab_at q54 N ?m3_9, trivial⟩
    case m1_9 => k_mem
    case m2_9 => exact fun q hq => .tail _ (.tail _ (.tail _ (.tail _ (.tail _ (.tail _ (.tail _ (List.mem_append_right _ (List.mem_append_right _ hq))))))))
    case m3_9 => exact fun q hq => .tail _ (.tail _ (.tail _ (.tail _ (.tail _ (.tail _ (.tail _ (List.mem_append_right _ (List.mem_append_left _ hq))))))))
  case' turn_9 =>
    rintro i m news t I it h tk gs hi8 ⟨cs', yc, Cc, oTl, oTx, oNm, ps, tN, tX, vTl, B', hmC, hmz, hcl', hcb', hyc, mC', hBB, hBc', dTl, dX', dN', hps, rfl⟩ hgs F N hIo
    change Fr g L h _ at F
    change News g L h _ at N
  clear hm0c F29 N29 rgX
  try clear F27
  try clear N28
  subst hm0
  have em := frame4 hmz
  rw [hmC] at em
  generalize m "step" = u1 at em
  generalize m "useful" = u2 at em
  generalize m "first" = u3 at em
  clear hmC hmz
  subst em
  dsimp only at F
  have hcb19 : ∀ x ∈ cs', 0 ≤ x ∧ x ≤ 19 := fun x hx => ⟨(hcb' x hx).1, by have := (hcb' x hx).2; omega⟩
  have hGs : ∀ G ∈ [G0, G1, G2], G.length = 4 ∧ ∀ x ∈ G, -2 ≤ x ∧ x ≤ 2 := by
    intro G hG
    simp only [List.mem_cons, List.not_mem_nil, or_false] at hG
    rcases hG with rfl | rfl | rfl
    · exact ⟨hl0, hb0⟩
    · exact ⟨hl1, hb1⟩
    · exact ⟨hl2, hb2⟩
  have hov3 : IntsAre ov ([G0, G1, G2].map fun G => prodP (posG G)) := hov2
  have hun3 : IntsAre un ([G0, G1, G2].map fun G => prodP (negG G)) := hun2
  obtain ⟨X, hX⟩ : ∃ X : List (Addr × Obj) → List (Addr × Obj), X = fun W => (I, it) :: (L + 1 + 1 + 1 + 1 + 1 + 1, oTl) :: (L + 1 + 1 + 1 + 1 + 1, oTx) :: (L + 1 + 1 + 1 + 1, oNm) :: (L + 1 + 1 + 1, oG) :: (L + 1 + 1, oT) :: (L + 1, oS) :: (129, tabObj ps) :: W := ⟨_, rfl⟩
  have memX : ∀ {W q}, q ∈ W → q ∈ X W := fun h => by rw [hX]; exact .tail _ (.tail _ (.tail _ (.tail _ (.tail _ (.tail _ (.tail _ (.tail _ h)))))))
  iterate 2 walk1
  k_dflt (refine ListComp_P none (F₀ := by k_asm) (by with_unfolding_all rfl) (by decide) (by rfl) (by decide) (by rfl) (by rfl) (by decide) ?_)
  iterate 8 walk1
  k_dflt (refine zipSrcLL (news := X (B' ++ (T54 ++ T61))) (J := fun i zs nw => ∃ ts, zs = refT ts ∧ nw = X (ts ++ (B' ++ (T54 ++ T61))) ∧ ts.length = i ∧ TupOk cs' [G0, G1, G2] ts) (by rfl) (by k_asm) (by rw [hX]; exact N) (memX (List.mem_append_left _ (hBB _ mO))) (memX (List.mem_append_left _ (hBB _ mU))) ?hkeep_10 ?hJl_10 ?J0_10 ?turn_10 ?fin_10)
  case hkeep_10 => rintro i zs nw ⟨ts, -, rfl, -, -⟩; exact ⟨memX (List.mem_append_right _ (List.mem_append_left _ (hBB _ mO))), memX (List.mem_append_right _ (List.mem_append_left _ (hBB _ mU)))⟩
  case hJl_10 =>
    rintro i zs nw ⟨ts, rfl, -, hl, -⟩ hi
    rw [List.length_map, hl, sizeLine_eq]
    have := hov3.length
    exact Nat.le_trans hi (Nat.le_trans (Nat.min_le_left _ _) (by rw [this]; show 3 ≤ 16777216; decide))
  case J0_10 => exact ⟨[], rfl, rfl, rfl, .nil⟩
  case turn_10 =>
    intro j zs nw own x y C oC D m₂ h1 tk1 E' hlt hJ hg hC hx hy F1 N1 off offC offD
    refine useG ?_
    intro P9 h9
    obtain ⟨ts, rfl, rfl, htl, hts⟩ := hJ
    obtain ⟨hg1, hg2⟩ := hg
    obtain ⟨x1, tx, hx2, rfl⟩ := ints_item hov3 hg1
    obtain ⟨y1, ty, hy2, rfl⟩ := ints_item hun3 hg2
    obtain ⟨G, hG1, rfl⟩ := map_at hx2
    obtain ⟨G', hG2, rfl⟩ := map_at hy2
    have eG : G' = G := by rw [hG1] at hG2; exact (Option.some.inj hG2).symm
    subst eG
    obtain ⟨hGl, hGb⟩ := hGs G' (List.mem_of_getElem? hG1)
    obtain ⟨f1, f2, f3, f4, f5, f6, f7, f8⟩ := told_facts hcb19 (posG_ok hGl hGb).2 (negG_ok hGl hGb).2
    obtain ⟨WO, hWO⟩ : ∃ WO, WO = (ts ++ (B' ++ (T54 ++ T61))) ++ own := ⟨_, rfl⟩
    refine h9 ?_
    clear h9 P9
    have N2 : News g L h1 ((C, oC) :: (D, LCg.lst (refT ts)) :: (I, it) :: (L + 1 + 1 + 1 + 1 + 1 + 1, oTl) :: (L + 1 + 1 + 1 + 1 + 1, oTx) :: (L + 1 + 1 + 1 + 1, oNm) :: (L + 1 + 1 + 1, oG) :: (L + 1 + 1, oT) :: (L + 1, oS) :: (129, tabObj ps) :: WO) := by
      rw [hX] at N1
      rw [hWO]
      exact N1
    iterate 17 walk1
    have oXm : ∀ p ∈ B' ++ (T54 ++ T61), ∀ q ∈ (C, oC) :: (D, LCg.lst (refT ts)) :: own, @Ne Nat p.1 q.1 := fun p hp q hq => off p (memX (List.mem_append_right _ hp)) q hq
    obtain ⟨p54, m54⟩ := q54.tab
    obtain ⟨p61, m61⟩ := q61.tab
    have m54' : (54, tabObj p54) ∈ B' ++ (T54 ++ T61) := List.mem_append_right _ (List.mem_append_left _ m54)
    have m61' : (61, tabObj p61) ∈ B' ++ (T54 ++ T61) := List.mem_append_right _ (List.mem_append_right _ m61)
    have hHiT : Hi (ts ++ B') := by
      refine hi_of_news q54 q61 N1 ?_ ?_ ?_ ?_
      · exact fun q hq => .tail _ (.tail _ (List.mem_append_left _ (memX (List.mem_append_right _ (List.mem_append_right _ (List.mem_append_left _ hq))))))
      · exact fun q hq => .tail _ (.tail _ (List.mem_append_left _ (memX (List.mem_append_right _ (List.mem_append_right _ (List.mem_append_right _ hq))))))
      · intro q hq
        refine .tail _ (.tail _ (List.mem_append_left _ (memX ?_)))
        exact (List.mem_append.mp hq).elim (fun h => List.mem_append_left _ h) (fun h => List.mem_append_right _ (List.mem_append_left _ h))
      · exact fun q hq => (List.mem_append.mp hq).elim (fun h => (hts.plain q h).2) (fun h => (hBc' q h).2)
    have hHi : Hi ((C, oC) :: (D, LCg.lst (refT ts)) :: (I, it) :: (L + 1 + 1 + 1 + 1 + 1 + 1, oTl) :: (L + 1 + 1 + 1 + 1 + 1, oTx) :: (L + 1 + 1 + 1 + 1, oNm) :: (L + 1 + 1 + 1, oG) :: (L + 1 + 1, oT) :: (L + 1, oS) :: (129, tabObj ps) :: (ts ++ (B' ++ own))) := by
      intro q hq
      rcases List.mem_cons.mp hq with rfl | hq
      · exact ⟨Ne.symm (oXm _ m54' _ (.head _)), Ne.symm (oXm _ m61' _ (.head _))⟩
      rcases List.mem_cons.mp hq with rfl | hq
      · exact ⟨Ne.symm (oXm _ m54' _ (.tail _ (.head _))), Ne.symm (oXm _ m61' _ (.tail _ (.head _)))⟩
      rcases List.mem_cons.mp hq with rfl | hq
      · exact ⟨Ne.symm (hIo (54, tabObj p54) (.tail _ (.tail _ (.tail _ (.tail _ (.tail _ (.tail _ (.tail _ m54')))))))), Ne.symm (hIo (61, tabObj p61) (.tail _ (.tail _ (.tail _ (.tail _ (.tail _ (.tail _ (.tail _ m61'))))))))⟩
      refine hi_cells l0 ?_ q hq
      intro q hq
      rcases List.mem_append.mp hq with h | h
      · exact hHiT q (List.mem_append_left _ h)
      rcases List.mem_append.mp h with h | h
      · exact hHiT q (List.mem_append_right _ h)
      · exact ⟨Ne.symm (oXm _ m54' q (.tail _ (.tail _ h))), Ne.symm (oXm _ m61' q (.tail _ (.tail _ h)))⟩
    have N3 := N2
    rw [hWO] at N3
    refine ⟨X'.keeps F1.keep, ?_⟩
    k_dflt (refine' c80 (T54 := T54) (T61 := T61) q54 q61 hHi f4 f5 f6 f7 f8 _ _ _ _ _ _ _ _ _ _ _ _ _ _ _ _ _ ?k1 ?kB ?k2 ?k3 ?k4 ?k5 ?k6 ?k7 ?k8 ?_; (case k1 => exact K'); (case kB => exact ⟨c3, c2⟩); (case k2 => k_asm); (case k3 => exact X'); (case k4 => exact led_sub N3 led_in2); (case k5 => exact T2); (case k6 => exact rfl); (case k7 => first | ktr_room | decide | decide +kernel); (case k8 => first | ktr_units | decide | decide +kernel))
    intro v Λ' h' tk' F' N' hr
    refine useG ?_
    intro P9 h9
    obtain ⟨D14, t1, t2, k14, T54', T61', e, lt14, lt14n, hA54, hA61, e2⟩ := hr
    refine h9 ?_
    clear h9 P9
    rw [hA54.2 hf54, hA61.2 hf61] at e2
    subst e e2
    (try dsimp only)
    have N4 := led_sub N' (led_out2 (ts := ts) (B' := B') (own := own) (T54 := T54) (T61 := T61))
    refine PEnd.intro (s₁ := ⟨_, _, _, _, _⟩) (news' := X ((ts ++ [(D14, tup2 (Value.int (prodP cs' * prodP (posG G') * 64 / (prodP (negG G') * 64)) t1) (Value.int (prodP cs' * prodP (posG G') * 64 % (prodP (negG G') * 64)) t2) k14)]) ++ (B' ++ (T54 ++ T61)))) F' (by rw [hX]; exact N4) ?_ ⟨ts ++ [_], by simp, rfl, by simp [htl], hts.snoc (by rw [htl]; exact hG1) rfl rfl⟩
    intro p hp q hq
    have hpc : p = (D14, tup2 (Value.int (prodP cs' * prodP (posG G') * 64 / (prodP (negG G') * 64)) t1) (Value.int (prodP cs' * prodP (posG G') * 64 % (prodP (negG G') * 64)) t2) k14) ∨ p ∈ X (ts ++ (B' ++ (T54 ++ T61))) := by
      rw [hX] at hp ⊢
      exact led_or9 [(I, it), (L + 1 + 1 + 1 + 1 + 1 + 1, oTl), (L + 1 + 1 + 1 + 1 + 1, oTx), (L + 1 + 1 + 1 + 1, oNm), (L + 1 + 1 + 1, oG), (L + 1 + 1, oT), (L + 1, oS), (129, tabObj ps)] p hp
    rcases hpc with rfl | hp
    · refine Nat.ne_of_gt (lt14n q ?_)
      exact led_own9 [(I, it), (L + 1 + 1 + 1 + 1 + 1 + 1, oTl), (L + 1 + 1 + 1 + 1 + 1, oTx), (L + 1 + 1 + 1 + 1, oNm), (L + 1 + 1 + 1, oG), (L + 1 + 1, oT), (L + 1, oS), (129, tabObj ps)] q hq
    · exact off p hp q hq
  case' fin_10 =>
    rintro h1 tk1 zs nw ⟨ts, rfl, rfl, htl, hts⟩
    intro D15 h2 tk2 F2 N2 o2
    have htl3 : ts.length = 3 := by
      rw [htl, hov3.length, hun3.length]; rfl
    obtain ⟨B2, hB2⟩ : ∃ B2, B2 = (D15, LCg.lst (refT ts)) :: (ts ++ B') := ⟨_, rfl⟩
    have N3 : News g L h2 ((I, it) :: (L + 1 + 1 + 1 + 1 + 1 + 1, oTl) :: (L + 1 + 1 + 1 + 1 + 1, oTx) :: (L + 1 + 1 + 1 + 1, oNm) :: (L + 1 + 1 + 1, oG) :: (L + 1 + 1, oT) :: (L + 1, oS) :: (129, tabObj ps) :: (B2 ++ (T54 ++ T61))) := by
      rw [hX] at N2
      rw [hB2]
      exact led_sub N2 (led_in9 [(I, it), (L + 1 + 1 + 1 + 1 + 1 + 1, oTl), (L + 1 + 1 + 1 + 1 + 1, oTx), (L + 1 + 1 + 1 + 1, oNm), (L + 1 + 1 + 1, oG), (L + 1 + 1, oT), (L + 1, oS), (129, tabObj ps)])
    have hB2c : ∀ q ∈ B2, NotCell q.2 ∧ NotTab q.2 := by
      intro q hq
      rw [hB2] at hq
      rcases List.mem_cons.mp hq with rfl | hq
      · exact ⟨notCell_lst _, notTab_lst _⟩
      · exact (List.mem_append.mp hq).elim (hts.plain q) (hBc' q)
    have mT : (D15, LCg.lst (refT ts)) ∈ B2 := by rw [hB2]; exact .head _
    have mts : ∀ q ∈ ts, q ∈ B2 := fun q hq => by rw [hB2]; exact .tail _ (List.mem_append_left _ hq)
    have mB2 : ∀ q ∈ B', q ∈ B2 := fun q hq => by rw [hB2]; exact .tail _ (List.mem_append_right _ hq)
    clear N2 o2
    have hI6 : @Ne Nat I (L + 1 + 1 + 1 + 1 + 1 + 1) := Ne.symm (hIo _ (.head _))
    have hI5 : @Ne Nat I (L + 1 + 1 + 1 + 1 + 1) := Ne.symm (hIo _ (.tail _ (.head _)))
    have hI4 : @Ne Nat I (L + 1 + 1 + 1 + 1) := Ne.symm (hIo _ (.tail _ (.tail _ (.head _))))
    have hI3 : @Ne Nat I (L + 1 + 1 + 1) := Ne.symm (hIo _ (.tail _ (.tail _ (.tail _ (.head _)))))
    have hI2 : @Ne Nat I (L + 1 + 1) := Ne.symm (hIo _ (.tail _ (.tail _ (.tail _ (.tail _ (.head _))))))
    have hI1 : @Ne Nat I (L + 1) := Ne.symm (hIo _ (.tail _ (.tail _ (.tail _ (.tail _ (.tail _ (.head _)))))))
    have hIB : ∀ p ∈ B' ++ (T54 ++ T61), @Ne Nat p.1 I := fun p hp => hIo p (.tail _ (.tail _ (.tail _ (.tail _ (.tail _ (.tail _ (.tail _ hp)))))))
    have hI129 : @Ne Nat I 129 := Ne.symm (hIo _ (.tail _ (.tail _ (.tail _ (.tail _ (.tail _ (.tail _ (.head _))))))))
    have hI54 : @Ne Nat I 54 ∧ @Ne Nat I 61 := by
      obtain ⟨p54, m54⟩ := q54.tab
      obtain ⟨p61, m61⟩ := q61.tab
      exact ⟨Ne.symm (hIo (54, tabObj p54) (.tail _ (.tail _ (.tail _ (.tail _ (.tail _ (.tail _ (.tail _ (List.mem_append_right _ (List.mem_append_left _ m54)))))))))), Ne.symm (hIo (61, tabObj p61) (.tail _ (.tail _ (.tail _ (.tail _ (.tail _ (.tail _ (.tail _ (List.mem_append_right _ (List.mem_append_right _ m61))))))))))⟩
    obtain ⟨BT3, hBT3⟩ : ∃ BT3, BT3 = B2 ++ (T54 ++ T61) := ⟨_, rfl⟩
    rw [← hBT3] at N3
    have hnc3 : ∀ q ∈ BT3, NotCell q.2 := by
      intro q hq
      rw [hBT3] at hq
      rcases List.mem_append.mp hq with hq | hq
      · exact (hB2c q hq).1
      · exact (List.mem_append.mp hq).elim (q54.notCell q) (q61.notCell q)
    have hs6 := sepAll N3 (fun q hq => .tail _ (.tail _ (.tail _ (.tail _ (.tail _ (.tail _ (.tail _ (.tail _ hq)))))))) hnc3 (c := L + 1 + 1 + 1 + 1 + 1 + 1) (oc := oTl) (.tail _ (.head _)) dTl
    have hs5 := sepAll N3 (fun q hq => .tail _ (.tail _ (.tail _ (.tail _ (.tail _ (.tail _ (.tail _ (.tail _ hq)))))))) hnc3 (c := L + 1 + 1 + 1 + 1 + 1) (oc := oTx) (.tail _ (.tail _ (.head _))) dX'
    have hs4 := sepAll N3 (fun q hq => .tail _ (.tail _ (.tail _ (.tail _ (.tail _ (.tail _ (.tail _ (.tail _ hq)))))))) hnc3 (c := L + 1 + 1 + 1 + 1) (oc := oNm) (.tail _ (.tail _ (.tail _ (.head _)))) dN'
    iterate 2 walk1
    rename_i h3 oU F3 N4 dU
    clear hIo hs6 dTl hX memX
    (try dsimp only)
    clear oTl vTl X h2 tk2 h1 tk1
  iterate 1 walk1
  k_dflt (refine LCt.Assign_ListComp_T (F₀ := by k_asm) (by rfl) (by with_unfolding_all rfl) (by with_unfolding_all rfl) (by decide) (by rfl) (by decide) (by rfl) (by rfl) (by rfl) ?_)
  iterate 7 walk1
  with_reducible (rename IsRange _ _ _ _ _ _ _ _ => rgX)
  k_dflt (refine' LCt.CompSrcT.range (n := 3) (by rfl) ?sF ?sN rgX ?sm ?sn ?sz ?_; (case sF => k_asm); (case sN => k_asm); (case sm => decide); (case sn => decide); (case sz => (rw [sizeLine_eq]; decide)))
  intro g30
  refine compRestT_inv (J := fun i zs nw => nw = _ ∧ IntsAre zs (usf (fun k => div0 cs' ([G0, G1, G2].getD k [])) i)) ?turn_11 ?done11_1 _ 0 [] _ (Nat.zero_add _) ⟨rfl, .nil⟩
  case turn_11 =>
    rintro j zs nw hj ⟨rfl, hzs⟩ v I2 oI2 C oC D m₂ h1 tk1 E' hv hC hx F N off ⟨q1, q2, q3⟩
    refine useG ?_
    intro P9 h9
    obtain ⟨tv, rfl⟩ := hv
    obtain ⟨G, hG⟩ : ∃ G, [G0, G1, G2][j]? = some G := ⟨_, List.getElem?_eq_getElem (by simpa using hj)⟩
    obtain ⟨D14, t1, t2, k14, hr1, hr2⟩ := hts.at (by rw [htl3]; rfl) hG
    refine h9 ?_
    clear h9 P9
    have eG : [G0, G1, G2].getD j [] = G := by rw [List.getD_eq_getElem?_getD, hG]; rfl
    have mX : ∀ {q}, q ∈ B2 → q ∈ (I2, oI2) :: (C, oC) :: (D, LCg.lst zs) :: (I, it) :: (L + 1 + 1 + 1 + 1 + 1 + 1, oU) :: (L + 1 + 1 + 1 + 1 + 1, oTx) :: (L + 1 + 1 + 1 + 1, oNm) :: (L + 1 + 1 + 1, oG) :: (L + 1 + 1, oT) :: (L + 1, oS) :: (129, tabObj ps) :: BT3 := fun h => by
      rw [hBT3]
      exact .tail _ (.tail _ (.tail _ (.tail _ (.tail _ (.tail _ (.tail _ (.tail _ (.tail _ (.tail _ (.tail _ (List.mem_append_left _ h)))))))))))
    iterate 5 walk1
    k_dflt (refine item_lit (l := D15) (vs := refT ts) (kk := (refT ts).length) (v := .ref D14) N (mX mT) (by omega) (by omega) (by rw [show ((0 : Int) + (j : Int)).toNat = j from tn0 j]; exact hr1) ?_ (by with_unfolding_all rfl))
    iterate 1 walk1
    k_dflt (refine tup_at1 N (mX (mts _ hr2)) ?_ (by with_unfolding_all rfl))
    iterate 3 walk1
    have eb : (prodP cs' * prodP (posG G) * 64 % (prodP (negG G) * 64) == 0) = div0 cs' ([G0, G1, G2].getD j []) := by rw [eG]; rfl
    rw [eb]
    cases hp : div0 cs' ([G0, G1, G2].getD j [])
    · rw [if_neg (by decide)]
      exact LCg.CompEnd.intro (by k_asm) (by k_asm) _ (fun p hp => hp) off trivial ⟨rfl, by rw [usf_f (b := fun k => div0 cs' ([G0, G1, G2].getD k [])) hp]; exact hzs⟩
    · rw [if_pos rfl]
      iterate 1 walk1
      exact LCg.CompEnd.intro (by k_asm) (by k_asm) _ (fun p hp => hp) off trivial ⟨rfl, by rw [usf_t (b := fun k => div0 cs' ([G0, G1, G2].getD k [])) hp]; exact ints_snoc hzs⟩
  rename_i h4 tkA tA uA vA FA NA kA
  clear rgX FA NA kA
  rintro us nw ⟨rfl, hus⟩
  intro D16 h5 tk5 F5 N5 o5
  (try dsimp only at F5 ⊢)
  try clear F3
  try clear N4
  try clear g30
  simp only [LCg.Off1] at o5
  have oB5 : LCg.Off1 D16 BT3 := o5.2.2.2.2.2.2.2.2
  have mG' : (D11, LCg.lst gl) ∈ BT3 := by rw [hBT3]; exact List.mem_append_left _ (mB2 _ (hBB _ mG))
  have n129 : ∀ q ∈ BT3, @Ne Nat q.1 129 := by
    have h2 := sepTab N5 (P := 129) (ps := ps) (B := B2) (by k_mem) (fun q hq => .tail _ (.tail _ (.tail _ (.tail _ (.tail _ (.tail _ (.tail _ (.tail _ (.tail _ (by rw [hBT3]; exact List.mem_append_left _ hq)))))))))) (fun q hq => (hB2c q hq).2)
    intro q hq
    rw [hBT3] at hq
    rcases List.mem_append.mp hq with hq | hq
    · exact h2 q hq
    · exact (List.mem_append.mp hq).elim (q54.ne (by decide) (by decide) q) (q61.ne (by decide) (by decide) q)
  iterate 4 walk1
  k_dflt (refine ListComp_TG (_F₀ := F5) (by with_unfolding_all rfl) (by decide) (by rfl) (by decide) (by rfl) ?_)
  iterate 7 walk1
  with_reducible (rename IsRange _ _ _ _ _ _ _ _ => rgX)
  with_reducible (rename News _ _ _ _ => N6)
  with_reducible (rename Fr _ _ _ _ => F6)
  refine ⟨_, _, _, _, _, _, 3, _, rfl, rfl, hgs, F6, N6, rgX, by decide, by decide, by rw [sizeLine_eq]; decide, fun i zs nw => ∃ ps', Tab129 ps' ∧ nw = (D16, LCg.lst us) :: (I, it) :: (L + 1 + 1 + 1 + 1 + 1 + 1, oU) :: (L + 1 + 1 + 1 + 1 + 1, oTx) :: (L + 1 + 1 + 1 + 1, oNm) :: (L + 1 + 1 + 1, oG) :: (L + 1 + 1, oT) :: (L + 1, oS) :: (129, tabObj ps') :: BT3 ∧ IntsAre zs (usf (fun k => takesS (List.zipWith itemC ss ([G0, G1, G2].getD k [])) (codes (placesL ss cs'))) i), ?J0_12, ?turn_12, ?fin_12⟩
  case J0_12 => exact ⟨ps, hps, rfl, .nil⟩
  case turn_12 =>
    rintro j zs nw tj I2 oI2 C oC D m₂ h1 tk1 gs1 E' hj ⟨ps', hps', rfl, hzs⟩ hgs1 hC hx F N off ⟨q1, q2, q3⟩
    refine useG ?_
    intro P9 h9
    obtain ⟨G, hG⟩ : ∃ G, [G0, G1, G2][j]? = some G := ⟨_, List.getElem?_eq_getElem (by simpa using hj)⟩
    have eG : [G0, G1, G2].getD j [] = G := by rw [List.getD_eq_getElem?_getD, hG]; rfl
    obtain ⟨hGl, hGb⟩ := hGs G (List.mem_of_getElem? hG)
    obtain ⟨gf1, gf2, gf3⟩ := glob_facts hsl hGl hsb hGb
    obtain ⟨tg, htg⟩ : ∃ tg, gl[j]? = some (.str ⟨(List.zipWith itemC ss G).flatten.toArray⟩ tg) := by
      refine strs_get (xs := [G0, G1, G2].map fun G => ⟨(globC ss G).toArray⟩) hgl2 ?_
      rw [List.getElem?_map, hG]; rfl
    refine h9 ?_
    clear h9 P9
    have hplb := places_ok hsl hcl' hsb hcb19 (by decide)
    iterate 9 walk1
    k_dflt (refine item_lit (l := D11) (vs := gl) (kk := gl.length) N (.tail _ (.tail _ (.tail _ (.tail _ (.tail _ (.tail _ (.tail _ (.tail _ (.tail _ (.tail _ (.tail _ (.tail _ mG')))))))))))) (by omega) (by omega) (by rw [show ((0 : Int) + (j : Int)).toNat = j from tn0 j]; exact htg) ?_ (by with_unfolding_all rfl))
    iterate 3 walk1
    have off' := off
    simp only [LCg.Off3] at off'
    have z129 := off'.2.2.2.2.2.2.2.2.1
    have hn129 : ∀ q ∈ (I2, oI2) :: (C, oC) :: (D, LCg.lst zs) :: (D16, LCg.lst us) :: (I, it) :: (L + 1 + 1 + 1 + 1 + 1 + 1, oU) :: (L + 1 + 1 + 1 + 1 + 1, oTx) :: (L + 1 + 1 + 1 + 1, oNm) :: (L + 1 + 1 + 1, oG) :: (L + 1 + 1, oT) :: (L + 1, oS) :: BT3, @Ne Nat q.1 129 := by
      intro q hq
      rcases List.mem_cons.mp hq with rfl | hq
      · exact Ne.symm z129.1
      rcases List.mem_cons.mp hq with rfl | hq
      · exact Ne.symm z129.2.1
      rcases List.mem_cons.mp hq with rfl | hq
      · exact Ne.symm z129.2.2
      rcases List.mem_cons.mp hq with rfl | hq
      · exact Ne.symm o5.2.2.2.2.2.2.2.1
      rcases List.mem_cons.mp hq with rfl | hq
      · exact hI129
      · exact cells129 l0.1 n129 q hq
    refine ⟨X'.keeps F.keep, ?_⟩
    k_dflt (refine' c167 (its := List.zipWith itemC ss G) (l := codes (placesL ss cs')) (ps := ps') gf1 gf2 (by rw [gf3, codes, List.length_map, hplb.1]) (by rw [codes, List.length_map, hplb.1]; decide) (codes_ascii hplb.2) hps' hn129 _ _ _ _ _ _ _ _ _ _ _ _ _ _ _ _ _ ?k1 ?kB ?k2 ?k3 ?k4 ?k5 ?kG ?k6 ?k7 ?k8 ?_; (case k1 => exact K'); (case kB => exact c1); (case k2 => k_asm); (case k3 => exact X'); (case k4 => exact led_sub N led_p); (case k5 => exact T2); (case kG => exact hgs1); (case k6 => exact rfl); (case k7 => first | ktr_room | decide | decide +kernel); (case k8 => first | ktr_units | decide | decide +kernel))
    intro v Λ' h' tk' gs2 F' N' hgs2 hr
    obtain ⟨ps2, e, hps2, e2⟩ := hr
    subst e e2
    (try dsimp only)
    have N7 := led_sub N' led_q
    clear N'
    iterate 1 walk1
    have eb : takesS (List.zipWith itemC ss G) (codes (placesL ss cs')) = takesS (List.zipWith itemC ss ([G0, G1, G2].getD j [])) (codes (placesL ss cs')) := by rw [eG]
    rw [eb]
    cases hp : takesS (List.zipWith itemC ss ([G0, G1, G2].getD j [])) (codes (placesL ss cs'))
    · show (if (false : Bool) = true then _ else _)
      rw [if_neg (by decide)]
      exact EndG.intro (s₁ := ⟨_, _, _, _, _⟩) hgs2 F' N7 off ⟨ps2, hps2, rfl, by rw [usf_f (b := fun k => takesS (List.zipWith itemC ss ([G0, G1, G2].getD k [])) (codes (placesL ss cs'))) hp]; exact hzs⟩
    · change wpAny _ _ _ _ _ _
      iterate 1 walk1
      exact EndG.intro (s₁ := ⟨_, _, _, _, _⟩) hgs2 F' N7 off ⟨ps2, hps2, rfl, by rw [usf_t (b := fun k => takesS (List.zipWith itemC ss ([G0, G1, G2].getD k [])) (codes (placesL ss cs'))) hp]; exact ints_snoc hzs⟩
  case' fin_12 =>
    rintro D17 h6 tk6 gs3 us2 nw ⟨ps3, hps3, rfl, hus2⟩ hgs3 F7 N7 o7
    rw [useful_same hsl hcl' hsb hcb19 hGs (Nat.le_refl 3)] at hus2
    (try dsimp only)
    iterate 2 walk1
    have N8 := News.drop1 N7
    clear N7 o7 N6 F6 rgX
    try clear F5
    try clear N5
    (try dsimp only)
    rename_i hq tkq tq uq vq kq
    clear kq hus2 hgs
    rw [if_neg (by decide)]
  obtain ⟨U, hU⟩ : ∃ U, U = usf (fun k => div0 cs' ([G0, G1, G2].getD k [])) 3 := ⟨_, rfl⟩
  rw [← hU] at hus
  iterate 8 walk1
  iterate 1 walk1
  by_cases hU0 : U = []
  · rw [decide_eq_true hU0]
    iterate 5 walk1
    with_reducible (rename Fr _ _ _ _ => F9)
    with_reducible (rename News _ _ _ _ => N9)
    have F' : Fr (ghostOf s₁.heap [(133, 129), (65, 61), (58, 54)]) L _ _ := hgg ▸ F9
    change EndB _ _ _ _ _ _ _ _
    rw [hBT3] at N9
    refine ⟨goodW_bool (s₁ := { s₁ with heap := ghostOf s₁.heap [(133, 129), (65, 61), (58, 54)] }) (s' := ⟨_, _, _, _, _⟩) F' rfl (fun _ => rfl) (by first | kc_post | wrow_post), hgs3, GrownAt.of (ps := ps3) N9 ?m1_13, tab_at q61 N9 ?m2_13, tab_at q54 N9 ?m3_13, trivial⟩
    case m1_13 => k_mem
    case m2_13 => exact fun q hq => .tail _ (.tail _ (.tail _ (.tail _ (.tail _ (.tail _ (.tail _ (.tail _ (.tail _ (.tail _ (List.mem_append_right _ (List.mem_append_right _ hq)))))))))))
    case m3_13 => exact fun q hq => .tail _ (.tail _ (.tail _ (.tail _ (.tail _ (.tail _ (.tail _ (.tail _ (.tail _ (.tail _ (List.mem_append_right _ (List.mem_append_left _ hq)))))))))))
  rw [decide_eq_false hU0]
  iterate 3 walk1
  with_reducible (rename News _ _ _ _ => N9)
  have N10 := News.drop1 N9
  clear N9
  rename_i l9 h9 F9 lA9
  clear lA9
  (try dsimp only)
  clear l9
  refine useG ?_
  intro P9 h9
  obtain ⟨k, r, hUk, hk3, hkb⟩ := usf_first (b := fun k => div0 cs' ([G0, G1, G2].getD k [])) (n := 3) (by rw [← hU]; exact hU0)
  rw [← hU] at hUk
  clear hU hU0
  rw [hUk] at hus
  clear hUk
  clear U
  obtain ⟨tf, htf⟩ := hus.get 0 ((0 : Int) + (k : Int)) rfl
  obtain ⟨G, hG⟩ : ∃ G, [G0, G1, G2][k]? = some G := ⟨_, List.getElem?_eq_getElem (by simpa using hk3)⟩
  have eG : [G0, G1, G2].getD k [] = G := by rw [List.getD_eq_getElem?_getD, hG]; rfl
  obtain ⟨hGl, hGb⟩ := hGs G (List.mem_of_getElem? hG)
  obtain ⟨fd1, fd2⟩ := told_plain hcl' hGl (fun x hx => (hcb' x hx).1)
  have hfit : fits cs' G = true := by rw [← fd1, ← eG]; exact hkb
  obtain ⟨fq, fn⟩ := fd2 hfit
  obtain ⟨al, ab⟩ := addL_ok hcl' hGl hcb' hGb fn
  obtain ⟨D14, t1, t2, k14, hr1, hr2⟩ := hts.at (by rw [htl3]; rfl) hG
  refine h9 ?_
  clear h9 P9
  rw [fq] at hr2
  have mX : ∀ {q}, q ∈ B2 → q ∈ (D16, LCg.lst us) :: (I, it) :: (L + 1 + 1 + 1 + 1 + 1 + 1, oU) :: (L + 1 + 1 + 1 + 1 + 1, oTx) :: (L + 1 + 1 + 1 + 1, oNm) :: (L + 1 + 1 + 1, oG) :: (L + 1 + 1, oT) :: (L + 1, oS) :: (129, tabObj ps3) :: BT3 := fun h => by
    rw [hBT3]
    exact .tail _ (.tail _ (.tail _ (.tail _ (.tail _ (.tail _ (.tail _ (.tail _ (.tail _ (List.mem_append_left _ h)))))))))
  iterate 5 walk1
  k_dflt (refine item_lit (l := D16) (vs := us) (kk := us.length) N10 (by k_mem) (by decide) (by decide) htf ?_ (by with_unfolding_all rfl))
  iterate 1 walk1
  rename_i h10 F10 N11
  have N12 := News.drop1 N11
  clear N11 mX
  (try dsimp only)
  have mX : ∀ {q}, q ∈ B2 → q ∈ (I, it) :: (L + 1 + 1 + 1 + 1 + 1 + 1, oU) :: (L + 1 + 1 + 1 + 1 + 1, oTx) :: (L + 1 + 1 + 1 + 1, oNm) :: (L + 1 + 1 + 1, oG) :: (L + 1 + 1, oT) :: (L + 1, oS) :: (129, tabObj ps3) :: BT3 := fun h => by
    rw [hBT3]
    exact .tail _ (.tail _ (.tail _ (.tail _ (.tail _ (.tail _ (.tail _ (.tail _ (List.mem_append_left _ h))))))))
  iterate 6 walk1
  k_dflt (refine item_lit (l := D15) (vs := refT ts) (kk := (refT ts).length) (v := .ref D14) N12 (mX mT) (by omega) (by omega) (by rw [show ((0 : Int) + (k : Int)).toNat = k from tn0 k]; exact hr1) ?_ (by with_unfolding_all rfl))
  iterate 1 walk1
  k_dflt (refine tup_at0 N12 (mX (mts _ hr2)) ?_ (by with_unfolding_all rfl))
  iterate 1 walk1
  rename_i h11 oM F12 N13 dM
  clear mX hr1 hr2 dN' hs4 hkb
  (try dsimp only)
  refine useG ?_
  intro P9 h9
  obtain ⟨Rk, zk, Gk, eRk, mRk, hzk, hGk, hGkl, hGkb⟩ : ∃ Rk zk Gk, [Value.ref R0, .ref R1, .ref R2][k]? = some (.ref Rk) ∧ (Rk, LCg.lst zk) ∈ B ∧ IntsAre zk Gk ∧ [G0, G1, G2][k]? = some Gk ∧ Gk.length = 4 ∧ ∀ x ∈ Gk, -2 ≤ x ∧ x ≤ 2 := by
    obtain ⟨v, hv⟩ : ∃ v, [Value.ref R0, .ref R1, .ref R2][k]? = some v := ⟨_, List.getElem?_eq_getElem (by simpa using hk3)⟩
    obtain ⟨R, z, G', rfl, h1, h2, h3, h4, h5⟩ := hrow.2 k v hv
    exact ⟨R, z, G', hv, h1, h2, h3, h4, h5⟩
  refine h9 ?_
  clear h9 P9
  have eGk : Gk = G := by rw [hG] at hGk; exact (Option.some.inj hGk).symm
  subst eGk
  have mB : ∀ {q}, q ∈ B → q ∈ BT3 := fun h => by rw [hBT3]; exact List.mem_append_left _ (mB2 _ (hBB _ h))
  have hplb := places_ok hsl hcl' hsb hcb19 (by decide)
  have ab23 : ∀ x ∈ addL cs' Gk, 0 ≤ x ∧ x ≤ 23 := fun x hx => ⟨(ab x hx).1, by have := (ab x hx).2; omega⟩
  have hpl2 := places_ok hsl al hsb ab23 (by decide)
  iterate 7 walk1
  k_dflt (refine ListComp_P none (F₀ := by k_asm) (by with_unfolding_all rfl) (by decide) (by rfl) (by decide) (by rfl) (by rfl) (by decide) ?_)
  iterate 9 walk1
  k_dflt (refine item_lit (l := D7) (vs := [Value.ref R0, .ref R1, .ref R2]) (kk := 3) (v := .ref Rk) N13 (.tail _ (.tail _ (.tail _ (.tail _ (.tail _ (.tail _ (.tail _ (.tail _ (mB mM))))))))) (by omega) (by omega) (by rw [show ((0 : Int) + (k : Int)).toNat = k from tn0 k]; exact eRk) ?_ (by with_unfolding_all rfl))
  iterate 1 walk1
  obtain ⟨Λ, hΛ⟩ : ∃ Λ, Λ = (I, it) :: (L + 1 + 1 + 1 + 1 + 1 + 1, oU) :: (L + 1 + 1 + 1 + 1 + 1, oTx) :: (L + 1 + 1 + 1 + 1, oM) :: (L + 1 + 1 + 1, oG) :: (L + 1 + 1, oT) :: (L + 1, oS) :: (129, tabObj ps3) :: BT3 := ⟨_, rfl⟩
  have mRΛ : (Rk, LCg.lst zk) ∈ Λ := by rw [hΛ]; exact .tail _ (.tail _ (.tail _ (.tail _ (.tail _ (.tail _ (.tail _ (.tail _ (mB mRk))))))))
  k_dflt (refine zipSrcSL (zs := zk) (k2 := zk.length) (news := Λ) (J := fun i zs nw => nw = Λ ∧ StrsAre zs (((placesL ss (addL cs' Gk)).take i).map fun p => txt [p])) (by rfl) (by k_asm) (by rw [hΛ]; exact N13) ?ha_15 mRΛ ?hkeep_15 ?hJl_15 ?J0_15 ?turn_15 ?fin_15)
  case ha_15 =>
    have := codes_ascii hplb.2
    rw [txt_codes]
    simpa using this
  case hkeep_15 => rintro i zs nw ⟨rfl, -⟩; exact mRΛ
  case hJl_15 =>
    rintro i zs nw ⟨-, hzs⟩ hi
    rw [hzs.length, List.length_map, List.length_take, sizeLine_eq]
    exact min_le_line1 (Nat.le_of_eq (And.left (by assumption)))
  case J0_15 => exact ⟨rfl, .nil⟩
  case turn_15 =>
    intro j zs nw own x y C oC D m₂ h1 tk1 E' hlt hJ hg hC hx hy F1 N1 off offC offD
    refine useG ?_
    intro P9 h9
    obtain ⟨rfl, hzs⟩ := hJ
    obtain ⟨⟨cp, tcp, hg1, rfl⟩, hg2⟩ := hg
    obtain ⟨gn, tgn, hg3, rfl⟩ := ints_item hzk hg2
    have hcp : (codes (placesL ss cs'))[j]? = some cp := by
      rw [txt_codes] at hg1
      simpa using hg1
    obtain ⟨pp, hpp, hpc⟩ := map_at hcp
    have hp2 := places_add hpp hg3
    have b1 := hplb.2 pp (List.mem_of_getElem? hpp)
    have b2 := hpl2.2 _ (List.mem_of_getElem? hp2)
    have hs64 : (PySem.Str.ofString "ABCDEFGHIJKLMNOPQRSTUVWXYZabcdefghijklmnopqrstuvwxyz0123456789+/").length = 64 := by decide +kernel
    obtain ⟨WO, hWO⟩ : ∃ WO, WO = BT3 ++ own := ⟨_, rfl⟩
    refine h9 ?_
    clear h9 P9
    have N2 : News g L h1 ((C, oC) :: (D, LCg.lst zs) :: (I, it) :: (L + 1 + 1 + 1 + 1 + 1 + 1, oU) :: (L + 1 + 1 + 1 + 1 + 1, oTx) :: (L + 1 + 1 + 1 + 1, oM) :: (L + 1 + 1 + 1, oG) :: (L + 1 + 1, oT) :: (L + 1, oS) :: (129, tabObj ps3) :: WO) := by
      rw [hΛ] at N1
      rw [hWO]
      exact N1
    iterate 10 walk1
    iterate 1 walk1
    k_dflt (refine index_call b1.1 b1.2 hpc ?_)
    iterate 3 walk1
    subst hWO
    refine PEnd.intro (by k_asm) (by rw [hΛ]; exact N2) off ⟨rfl, ?_⟩
    rw [map_take_snoc _ hp2, sign_item b2.1 b2.2]
    exact strs_snoc hzs
  case' fin_15 =>
    rintro h12 tk12 zs nw ⟨rfl, hzs⟩
    intro D18 h13 tk13 F13 N14 o14
    have hmin : min (txt (placesL ss cs')).cps.size zk.length = 4 := by
      rw [hzk.length, hGkl, txt_codes]
      simp [codes, hplb.1]
    rw [hmin, List.take_of_length_le (Nat.le_of_eq hpl2.1)] at hzs
    (try dsimp only)
    iterate 1 walk1
    k_dflt (refine' join_list (ys := (placesL ss (addL cs' Gk)).map fun p => txt [p]) ?jl_15 ?ji_15 ?jok_15 ?_)
    case jl_15 => exact ⟨_, (N14 _ List.mem_cons_self).1, rfl, _, rfl⟩
    case ji_15 => simpa using hzs
    case jok_15 => exact join_txt_ok _ (by rw [hpl2.1]; decide)
    intro t15 tk15
    rw [join_txt]
    have N15 := News.drop1 N14
    rw [hΛ] at N15
    clear N14 o14 hzs
    (try dsimp only)
    iterate 2 walk1
    rename_i h14 oY F14 N16 dY
    clear dX' hs5 hΛ mRΛ hmin
    try clear N15
    try clear N13
    (try dsimp only)
    clear nw tk15 h13 tk13 h12 tk12
  iterate 1 walk1
  k_dflt (refine Assign_ListComp_P none (F₀ := by k_asm) (by rfl) (by with_unfolding_all rfl) (by with_unfolding_all rfl) (by decide) (by rfl) (by decide) (by rfl) (by rfl) (by decide) (by rfl) (by rfl) ?_)
  iterate 9 walk1
  k_dflt (refine item_lit (l := D7) (vs := [Value.ref R0, .ref R1, .ref R2]) (kk := 3) (v := .ref Rk) N16 (.tail _ (.tail _ (.tail _ (.tail _ (.tail _ (.tail _ (.tail _ (.tail _ (mB mM))))))))) (by omega) (by omega) (by rw [show ((0 : Int) + (k : Int)).toNat = k from tn0 k]; exact eRk) ?_ (by with_unfolding_all rfl))
  iterate 1 walk1
  obtain ⟨Λ, hΛ⟩ : ∃ Λ, Λ = (I, it) :: (L + 1 + 1 + 1 + 1 + 1 + 1, oU) :: (L + 1 + 1 + 1 + 1 + 1, oY) :: (L + 1 + 1 + 1 + 1, oM) :: (L + 1 + 1 + 1, oG) :: (L + 1 + 1, oT) :: (L + 1, oS) :: (129, tabObj ps3) :: BT3 := ⟨_, rfl⟩
  have mRΛ : (Rk, LCg.lst zk) ∈ Λ := by rw [hΛ]; exact .tail _ (.tail _ (.tail _ (.tail _ (.tail _ (.tail _ (.tail _ (.tail _ (mB mRk))))))))
  have mCΛ : (Cc, LCg.lst yc) ∈ Λ := by rw [hΛ, hBT3]; exact .tail _ (.tail _ (.tail _ (.tail _ (.tail _ (.tail _ (.tail _ (.tail _ (List.mem_append_left _ (mB2 _ mC')))))))))
  k_dflt (refine zipSrcLL (xs := yc) (zs := zk) (k1 := yc.length) (k2 := zk.length) (news := Λ) (J := fun i zs nw => nw = Λ ∧ IntsAre zs (List.zipWith (· + ·) (cs'.take i) (Gk.take i))) (by rfl) (by k_asm) (by rw [hΛ]; exact N16) mCΛ mRΛ ?hkeep_16 ?hJl_16 ?J0_16 ?turn_16 ?fin_16)
  case hkeep_16 => rintro i zs nw ⟨rfl, -⟩; exact ⟨mCΛ, mRΛ⟩
  case hJl_16 =>
    rintro i zs nw ⟨-, hzs⟩ hi
    rw [hzs.length, List.length_zipWith, List.length_take, sizeLine_eq]
    exact min_le_line (Nat.le_of_eq (by assumption))
  case J0_16 => exact ⟨rfl, .nil⟩
  case turn_16 =>
    intro j zs nw own x y C oC D m₂ h1 tk1 E' hlt hJ hg hC hx hy F1 N1 off offC offD
    refine useG ?_
    intro P9 h9
    obtain ⟨rfl, hzs⟩ := hJ
    obtain ⟨hg1, hg2⟩ := hg
    obtain ⟨x1, tx, hx2, rfl⟩ := ints_item hyc hg1
    obtain ⟨y1, ty, hy2, rfl⟩ := ints_item hzk hg2
    obtain ⟨nwo, hnwo⟩ : ∃ nwo, nwo = nw ++ own := ⟨_, rfl⟩
    refine h9 ?_
    clear h9 P9
    rw [← hnwo] at N1
    iterate 4 walk1
    subst hnwo
    exact PEnd.intro (by k_asm) (by k_asm) off ⟨rfl, by rw [zip_snoc hx2 hy2]; exact ints_snoc hzs⟩
  case' fin_16 =>
    rintro h15 tk15 zs nw ⟨rfl, hzs⟩
    intro D19 h16 tk16 F16 N17 o17
    have hzs2 : IntsAre zs (addL cs' Gk) := by
      have e : min yc.length zk.length = 4 := by rw [hyc.length, hzk.length, hcl', hGkl]; rfl
      rw [e, List.take_of_length_le (Nat.le_of_eq hcl'), List.take_of_length_le (Nat.le_of_eq hGkl)] at hzs
      exact hzs
    rw [hΛ] at N17 o17
    clear hzs hΛ mRΛ mCΛ N16
    (try dsimp only at F16 ⊢)
    clear nw
  iterate 10 walk1
  refine ⟨X'.keeps F16.keep, ?_⟩
  refine useG ?_
  intro P9 h9
  obtain ⟨a, b, c, d, ta, tb, tc, td, e7, e8⟩ := ints4 hzs2 al
  refine h9 ?_
  clear h9 P9
  have ab' := ab23
  rw [e8] at ab'
  have pa := ab' a (.head _)
  have pb := ab' b (.tail _ (.head _))
  have pc := ab' c (.tail _ (.tail _ (.head _)))
  have pd := ab' d (.tail _ (.tail _ (.tail _ (.head _))))
  have N18 := N17
  rw [e7] at N18
  k_dflt (refine' c141 (D := D19) (ta := ta) (tb := tb) (tc := tc) (td := td) (k := 4) ⟨pa.1, Int.le_trans pa.2 (by decide)⟩ ⟨pb.1, Int.le_trans pb.2 (by decide)⟩ ⟨pc.1, Int.le_trans pc.2 (by decide)⟩ ⟨pd.1, Int.le_trans pd.2 (by decide)⟩ _ _ _ _ _ _ _ _ _ _ _ _ _ _ _ _ _ ?k1 ?kB ?k2 ?k3 ?k4 ?k5 ?k6 ?k7 ?k8 ?_; (case k1 => exact K'); (case kB => exact trivial); (case k2 => k_asm); (case k3 => exact X'); (case k4 => exact N18); (case k5 => exact T2); (case k6 => exact rfl); (case k7 => first | ktr_room | decide | decide +kernel); (case k8 => first | ktr_units | decide | decide +kernel))
  intro v Λ' h' tk' F' N' hr
  obtain ⟨t18, e, e2⟩ := hr
  subst e e2
  (try dsimp only)
  have hpv : (2 : Int) ^ a.toNat * 3 ^ b.toNat * 5 ^ c.toNat * 7 ^ d.toNat = prodP (addL cs' Gk) := by rw [e8]; rfl
  rw [hpv]
  have N19 : News g L h' ((D19, LCg.lst zs) :: (I, it) :: (L + 1 + 1 + 1 + 1 + 1 + 1, oU) :: (L + 1 + 1 + 1 + 1 + 1, oY) :: (L + 1 + 1 + 1 + 1, oM) :: (L + 1 + 1 + 1, oG) :: (L + 1 + 1, oT) :: (L + 1, oS) :: (129, tabObj ps3) :: BT3) := by rw [e7]; exact N'
  clear N' N18 N17 F16 ab' e7 e8 hpv pa pb pc pd
  clear a b c d ta tb tc td
  iterate 1 walk1
  rw [show (prodP (addL cs' Gk) != prodP (addL cs' Gk)) = false from by simp]
  iterate 3 walk1
  (try dsimp only)
  iterate 7 walk1
  k_dflt (refine spliced_more ?_)
  k_dflt (refine ListComp_P none (F₀ := by k_asm) (by with_unfolding_all rfl) (by decide) (by rfl) (by decide) (by rfl) (by rfl) (by decide) ?_)
  iterate 8 walk1
  obtain ⟨Λ, hΛ⟩ : ∃ Λ, Λ = (D19, LCg.lst zs) :: (I, it) :: (L + 1 + 1 + 1 + 1 + 1 + 1, oU) :: (L + 1 + 1 + 1 + 1 + 1, oY) :: (L + 1 + 1 + 1 + 1, oM) :: (L + 1 + 1 + 1, oG) :: (L + 1 + 1, oT) :: (L + 1, oS) :: (129, tabObj ps3) :: BT3 := ⟨_, rfl⟩
  have mSΛ : (D6, LCg.lst ys2) ∈ Λ := by rw [hΛ]; exact .tail _ (.tail _ (.tail _ (.tail _ (.tail _ (.tail _ (.tail _ (.tail _ (.tail _ (mB mS)))))))))
  have mZΛ : (D19, LCg.lst zs) ∈ Λ := by rw [hΛ]; exact .head _
  k_dflt (refine zipSrcLL (xs := ys2) (zs := zs) (k1 := ys2.length) (k2 := zs.length) (news := Λ) (J := fun i us nw => nw = Λ ∧ IntsAre us (List.zipWith (· + ·) (ss.take i) ((addL cs' Gk).take i))) (by rfl) (by k_asm) (by rw [hΛ]; exact N19) mSΛ mZΛ ?hkeep_18 ?hJl_18 ?J0_18 ?turn_18 ?fin_18)
  case hkeep_18 => rintro i us nw ⟨rfl, -⟩; exact ⟨mSΛ, mZΛ⟩
  case hJl_18 =>
    rintro i us nw ⟨-, hus⟩ hi
    rw [hus.length, List.length_zipWith, List.length_take, sizeLine_eq]
    exact min_le_line (Nat.le_of_eq (by assumption))
  case J0_18 => exact ⟨rfl, .nil⟩
  case turn_18 =>
    intro j us nw own x y C oC D m₂ h1 tk1 E' hlt hJ hg hC hx hy F1 N1 off offC offD
    refine useG ?_
    intro P9 h9
    obtain ⟨rfl, hus⟩ := hJ
    obtain ⟨hg1, hg2⟩ := hg
    obtain ⟨x1, tx, hx2, rfl⟩ := ints_item hysS hg1
    obtain ⟨y1, ty, hy2, rfl⟩ := ints_item hzs2 hg2
    obtain ⟨nwo, hnwo⟩ : ∃ nwo, nwo = nw ++ own := ⟨_, rfl⟩
    refine h9 ?_
    clear h9 P9
    rw [← hnwo] at N1
    iterate 4 walk1
    subst hnwo
    exact PEnd.intro (by k_asm) (by k_asm) off ⟨rfl, by rw [zip_snoc hx2 hy2]; exact ints_snoc hus⟩
  case' fin_18 =>
    rintro h17 tk17 vs2 nw ⟨rfl, hvs2⟩
    intro D20 h18 tk18 F18 N20 o20
    have hvs3 : IntsAre vs2 (placesL ss (addL cs' Gk)) := by
      have e : min ys2.length zs.length = 4 := by rw [hysS.length, hzs2.length, hsl, al]; rfl
      rw [e, List.take_of_length_le (Nat.le_of_eq hsl), List.take_of_length_le (Nat.le_of_eq al)] at hvs2
      exact hvs2
    rw [hΛ, hBT3] at N20 o20
    clear hvs2 hΛ mSΛ mZΛ
    (try dsimp only at F18 ⊢)
    iterate 1 walk1
    obtain ⟨p54, m54⟩ := q54.tab
    obtain ⟨p61, m61⟩ := q61.tab
    have m54' : (54, tabObj p54) ∈ B2 ++ (T54 ++ T61) := List.mem_append_right _ (List.mem_append_left _ m54)
    have m61' : (61, tabObj p61) ∈ B2 ++ (T54 ++ T61) := List.mem_append_right _ (List.mem_append_right _ m61)
    have hD20 : @Ne Nat D20 54 ∧ @Ne Nat D20 61 := ⟨Ne.symm (o20 (54, tabObj p54) (.tail _ (.tail _ (.tail _ (.tail _ (.tail _ (.tail _ (.tail _ (.tail _ (.tail _ m54')))))))))), Ne.symm (o20 (61, tabObj p61) (.tail _ (.tail _ (.tail _ (.tail _ (.tail _ (.tail _ (.tail _ (.tail _ (.tail _ m61'))))))))))⟩
    have hD19 : @Ne Nat D19 54 ∧ @Ne Nat D19 61 := by
      rw [hBT3] at o17
      exact ⟨Ne.symm (o17 (54, tabObj p54) (.tail _ (.tail _ (.tail _ (.tail _ (.tail _ (.tail _ (.tail _ (.tail _ m54'))))))))), Ne.symm (o17 (61, tabObj p61) (.tail _ (.tail _ (.tail _ (.tail _ (.tail _ (.tail _ (.tail _ (.tail _ m61')))))))))⟩
    have hHi2 : Hi B2 := hi_of_news q54 q61 N20 (fun q hq => .tail _ (.tail _ (.tail _ (.tail _ (.tail _ (.tail _ (.tail _ (.tail _ (.tail _ (.tail _ (List.mem_append_right _ (List.mem_append_left _ hq))))))))))))
      (fun q hq => .tail _ (.tail _ (.tail _ (.tail _ (.tail _ (.tail _ (.tail _ (.tail _ (.tail _ (.tail _ (List.mem_append_right _ (List.mem_append_right _ hq)))))))))))) (fun q hq => .tail _ (.tail _ (.tail _ (.tail _ (.tail _ (.tail _ (.tail _ (.tail _ (.tail _ (.tail _ (List.mem_append_left _ hq))))))))))) (fun q hq => (hB2c q hq).2)
    have hHi : Hi ((D19, LCg.lst zs) :: (I, it) :: (L + 1 + 1 + 1 + 1 + 1 + 1, oU) :: (L + 1 + 1 + 1 + 1 + 1, oY) :: (L + 1 + 1 + 1 + 1, oM) :: (L + 1 + 1 + 1, oG) :: (L + 1 + 1, oT) :: (L + 1, oS) :: (129, tabObj ps3) :: B2) := by
      intro q hq
      rcases List.mem_cons.mp hq with rfl | hq
      · exact hD19
      rcases List.mem_cons.mp hq with rfl | hq
      · exact hI54
      · exact hi_cells l0 hHi2 q hq
    refine ⟨X'.keeps F18.keep, ?_⟩
    k_dflt (refine' c148 (T54 := T54) (T61 := T61) (P := D20) (vs := vs2) (pl := placesL ss (addL cs' Gk)) (k := vs2.length) q54 q61 hHi hD20 hvs3 hpl2.2 hpl2.1 _ _ _ _ _ _ _ _ _ _ _ _ _ _ _ _ _ ?k1 ?kB ?k2 ?k3 ?k4 ?k5 ?k6 ?k7 ?k8 ?_; (case k1 => exact K'); (case kB => exact ⟨c3, c2⟩); (case k2 => k_asm); (case k3 => exact X'); (case k4 => exact led_sub N20 led_in3); (case k5 => exact T2); (case k6 => exact rfl); (case k7 => first | ktr_room | decide | decide +kernel); (case k8 => first | ktr_units | decide | decide +kernel))
    intro v Λ' h' tk' F' N' hr
    refine useG ?_
    intro P9 h9
    obtain ⟨t25, T54', T61', e, hT54, hT61, -, -, e2⟩ := hr
    refine h9 ?_
    clear h9 P9
    rw [hT54.2 hf54, hT61.2 hf61] at e2
    subst e e2
    (try dsimp only)
    have N21 := led_sub N' (led_out3 (B := B2) (T54 := T54) (T61 := T61))
    clear hT54 hT61 N' N20 hHi hD20 o20 hHi2 F18
    iterate 1 walk1
    rw [show (txt (placesL ss (addL cs' Gk)) != txt (placesL ss (addL cs' Gk))) = false from by simp]
    iterate 4 walk1
    have N22 : News g L h' ((I, it) :: (L + 1 + 1 + 1 + 1 + 1 + 1, oU) :: (L + 1 + 1 + 1 + 1 + 1, oY) :: (L + 1 + 1 + 1 + 1, oM) :: (L + 1 + 1 + 1, oG) :: (L + 1 + 1, oT) :: (L + 1, oS) :: (129, tabObj ps3) :: (((D19, LCg.lst zs) :: B) ++ (T54 ++ T61))) := by
      refine led_sub N21 ?_
      refine fmC (.tail _ (.head _)) ?_
      repeat (refine fmC ?_ ?_; k_mem)
      refine fmA (fun q h => ?_) fun q h => ?_
      · exact .tail _ (.tail _ (.tail _ (.tail _ (.tail _ (.tail _ (.tail _ (.tail _ (.tail _ (List.mem_append_left _ (mB2 _ (hBB _ h)))))))))))
      · exact .tail _ (.tail _ (.tail _ (.tail _ (.tail _ (.tail _ (.tail _ (.tail _ (.tail _ (List.mem_append_right _ h)))))))))
    have hoffI : ∀ q ∈ (L + 1 + 1 + 1 + 1 + 1 + 1, oU) :: (L + 1 + 1 + 1 + 1 + 1, oY) :: (L + 1 + 1 + 1 + 1, oM) :: (L + 1 + 1 + 1, oG) :: (L + 1 + 1, oT) :: (L + 1, oS) :: (129, tabObj ps3) :: (((D19, LCg.lst zs) :: B) ++ (T54 ++ T61)), @Ne Nat q.1 I := by
      intro q hq
      rcases List.mem_cons.mp hq with rfl | hq
      · exact Ne.symm hI6
      rcases List.mem_cons.mp hq with rfl | hq
      · exact Ne.symm hI5
      rcases List.mem_cons.mp hq with rfl | hq
      · exact Ne.symm hI4
      rcases List.mem_cons.mp hq with rfl | hq
      · exact Ne.symm hI3
      rcases List.mem_cons.mp hq with rfl | hq
      · exact Ne.symm hI2
      rcases List.mem_cons.mp hq with rfl | hq
      · exact Ne.symm hI1
      rcases List.mem_cons.mp hq with rfl | hq
      · exact Ne.symm hI129
      rcases List.mem_cons.mp hq with rfl | hq
      · exact Ne.symm (o17 (I, it) (.head _))
      · exact hIB q ((List.mem_append.mp hq).elim (fun h => List.mem_append_left _ (hBB _ h)) (fun h => List.mem_append_right _ h))
    change EndF _ _ _ _ _ _ _
    refine ⟨h', _, gs3, _, _, rfl, hgs3, F', N22, hoffI, addL cs' Gk, zs, D19, oU, oY, oM, ps3, _, _, _, (D19, LCg.lst zs) :: B, by rfl, ?hz_18, al, ab, hzs2, .head _, fun q h => .tail _ h, ?hc_18, dU, dY, dM, hps3, rfl⟩
    case hz_18 =>
      intro z h1 h2 h3 h4
      simp only [if_neg (show ¬ z = PySem.Str.ofString "step" from h1), if_neg (show ¬ z = PySem.Str.ofString "useful" from h2), if_neg (show ¬ z = PySem.Str.ofString "first" from h3), if_neg (show ¬ z = PySem.Str.ofString "counts" from h4)]
    case hc_18 =>
      intro q hq
      rcases List.mem_cons.mp hq with rfl | hq
      · exact ⟨notCell_lst _, notTab_lst _⟩
      · exact hBc q hq
end

end Mine

theorem PySem.Challenge.cw_ku0024_01_holds : PySem.Challenge.rw_ku0024_01.Holds :=
  Mine.whole
