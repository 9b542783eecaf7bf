import PyProof.Rows.All
import Wide.All
import OpenK.AllK
import Wide.FinOn
import PyProof.AttrMissHeap
import PyProof.Draws
import PyProof.EnumMake
import PyProof.WalksU
import PyProof.IsiH_list
import PyProof.ZipIter
import PyProof.StrCalls2
import PyProof.Rows.StrJoin2
import PyProof.Rows.Range3
import PyProof.Rows.SetFrom
import PyProof.Rows.SetFoldBridge
import KE.BitLaws
import KE.IntBitsLaws
import KE.KAnyBase
import KE.KBits
import KE.KBytesUnr
import KE.KSlice
import KE.LcTurns
import KE.KLcTest
import KE.KFromBytes
import KE.KPairTest
import KE.KWhile
import KE.KxDecode
import Lean
import PySem.Challenge.RW_ku0024_02
open PySem PySem.W PyProof.Rows
set_option Elab.async false
set_option maxRecDepth 100000
set_option maxHeartbeats 0
set_option compiler.extract_closed false
namespace Mine
theorem left4 {p q : Program} {loose : List Str} {Xt : Shared → Bool} {α : Type} {Yf : Shared → α} {Ya : World → α} {N : Nat} (r1 r2 : String)
    (h1 : ∀ w : World, (openEnds treeTable p ((w.withFollow r2 false).withFollow r1 false) N).map (fun s => (openSeen q loose (importedModules p.main.body) Xt true s, Yf s)) = some (openGood q loose, Ya ((w.withFollow r2 false).withFollow r1 false)))
    (h2 : ∀ w : World, (openEnds treeTable p ((w.withFollow r2 true).withFollow r1 false) N).map (fun s => (openSeen q loose (importedModules p.main.body) Xt true s, Yf s)) = some (openGood q loose, Ya ((w.withFollow r2 true).withFollow r1 false)))
    (h3 : ∀ w : World, (openEnds treeTable p ((w.withFollow r2 false).withFollow r1 true) N).map (fun s => (openSeen q loose (importedModules p.main.body) Xt true s, Yf s)) = some (openGood q loose, Ya ((w.withFollow r2 false).withFollow r1 true)))
    (h4 : ∀ w : World, (openEnds treeTable p ((w.withFollow r2 true).withFollow r1 true) N).map (fun s => (openSeen q loose (importedModules p.main.body) Xt true s, Yf s)) = some (openGood q loose, Ya ((w.withFollow r2 true).withFollow r1 true))) : LeftO p q loose Xt Yf Ya N :=
  fun w => byRow2 (P := fun w => (openEnds treeTable p w N).map (fun s => (openSeen q loose (importedModules p.main.body) Xt true s, Yf s)) = some (openGood q loose, Ya w)) r1
    (fun w => byRow2 (P := fun w => (openEnds treeTable p (w.withFollow r1 false) N).map (fun s => (openSeen q loose (importedModules p.main.body) Xt true s, Yf s)) = some (openGood q loose, Ya (w.withFollow r1 false))) r2 h1 h2 w)
    (fun w => byRow2 (P := fun w => (openEnds treeTable p (w.withFollow r1 true) N).map (fun s => (openSeen q loose (importedModules p.main.body) Xt true s, Yf s)) = some (openGood q loose, Ya (w.withFollow r1 true))) r2 h3 h4 w) w
theorem ws2 : OpenLaw.wellSaid PySem.Challenge.rw_ku0024_02 = true := by kernel_rfl
section
local macro_rules
  | `(tactic| refine $f:ident $a1 $a2 $a3 $a4 $a5 $a6 $a7 $a8 ?$h:ident $b1 $b2 $b3 $b4 $b5 $b6 $b7 $b8 $b9 $b10 $b11 $b12 ?$h2:ident ?$h3:ident) => do
    if h.getId == `hl then `(tactic| (refine $f $a1 $a2 $a3 $a4 $a5 $a6 $a7 $a8 ?hl2 $b1 $b2 $b3 $b4 $b5 $b6 $b7 $b8 $b9 $b10 $b11 $b12 ?$h2 (by exact $(Lean.mkIdent `walk)); (case hl2 => (refine left4 "comprehension-iter-twice" "special-get-raises" ?_ ?_ ?_ ?_; exact $(Lean.mkIdent `w1); exact $(Lean.mkIdent `w2); exact $(Lean.mkIdent `w3); exact $(Lean.mkIdent `w4))))) else Lean.Macro.throwUnsupported
noncomputable def ex2 : (T : Prop) ×' (S1 : Prop) ×' (S2 : Prop) ×' (S3 : Prop) ×' (S4 : Prop) ×' (S1 → S2 → S3 → S4 → T → PySem.Challenge.rw_ku0024_02.Holds) := by
  refine' ⟨_, _, _, _, _, fun w1 w2 w3 w4 walk => ?main⟩
  case main =>
    w_on
    refine holds_law ws2 fun said => ?_
    k_head
    case hw => w_witness2
end
theorem way1 : ex2.2.1 := fun w => by kernel_rfl
theorem way2 : ex2.2.2.1 := fun w => by kernel_rfl
theorem way3 : ex2.2.2.2.1 := fun w => by kernel_rfl
theorem way4 : ex2.2.2.2.2.1 := fun w => by kernel_rfl
theorem off0 : True := by
  w_top off
  trivial
section
theorem allLt_ne {d e : Addr} : ∀ {l : List (Addr × Obj)}, AllLt d l → @LE.le Nat _ d e → ∀ p ∈ l, p.1 ≠ e := by
  intro l
  induction l with
  | nil => intro _ _ p hp; cases hp
  | cons q r ih =>
    intro h he p hp
    rcases List.mem_cons.mp hp with h1 | h1
    · rw [h1]; exact Nat.ne_of_lt (Nat.lt_of_lt_of_le h.1 he)
    · exact ih h.2 he p h1
theorem use_led {g : Heap} {L : Addr} {h : Heap} {Λ : List (Addr × Obj)} {P : Prop} (C : List (Addr × Obj) → Prop) (_N : News g L h Λ) (key : C Λ) (rest : C Λ → P) : P := rest key
/-- little-endian digits to a number -/
def dval (n : Nat) : List Int → Int
  | [] => 0
  | d :: r => d + dval n r * 2 ^ n
theorem dval_append (n : Nat) (a b : List Int) : dval n (a ++ b) = dval n a + dval n b * 2 ^ (n * a.length) := by
  induction a with
  | nil => simp [dval]
  | cons d r ih =>
    simp only [List.cons_append, dval, ih, List.length_cons, Nat.mul_add, Nat.mul_one, Int.pow_add, Int.add_mul]
    rw [Int.mul_assoc, Int.add_assoc]
theorem dval_nonneg (n : Nat) (a : List Int) (h : ∀ d ∈ a, 0 ≤ d) : 0 ≤ dval n a := by
  induction a with
  | nil => simp [dval]
  | cons d r ih =>
    have h1 := h d (.head _)
    have h2 := ih fun x hx => h x (.tail _ hx)
    simp only [dval]
    have : 0 ≤ dval n r * 2 ^ n := Int.mul_nonneg h2 (Int.pow_nonneg (by decide))
    omega
theorem dval_lt (n : Nat) (a : List Int) (h : ∀ d ∈ a, 0 ≤ d ∧ d < 2 ^ n) : dval n a < 2 ^ (n * a.length) := by
  induction a with
  | nil => simp [dval]
  | cons d r ih =>
    have h1 := h d (.head _)
    have h2 := ih fun x hx => h x (.tail _ hx)
    simp only [dval, List.length_cons, Nat.mul_add, Nat.mul_one, Int.pow_add]
    have h3 : (dval n r + 1) * 2 ^ n ≤ 2 ^ (n * r.length) * 2 ^ n := Int.mul_le_mul_of_nonneg_right (by omega) (Int.pow_nonneg (by decide))
    rw [Int.add_mul] at h3
    omega

theorem mid_facts {lo hi : Int} {d : Nat} (h1 : lo < hi) (hne : lo + 1 ≠ hi) (h0 : 0 ≤ lo) (h3 : hi - lo ≤ 2 ^ (d + 1)) :
    lo < (lo + hi).fdiv (2 ^ Int.toNat 1) ∧ (lo + hi).fdiv (2 ^ Int.toNat 1) < hi ∧ hi - (lo + hi).fdiv (2 ^ Int.toNat 1) ≤ 2 ^ d ∧ (lo + hi).fdiv (2 ^ Int.toNat 1) - lo ≤ 2 ^ d := by
  have e : (lo + hi).fdiv (2 ^ Int.toNat 1) = (lo + hi) / 2 := by
    have : (2 ^ Int.toNat 1 : Int) = 2 := by decide
    rw [this, Int.fdiv_eq_ediv_of_nonneg _ (by decide)]
  rw [e]
  have h4 : (2 : Int) ^ (d + 1) = 2 * 2 ^ d := by rw [Int.pow_succ]; omega
  rw [h4] at h3
  generalize (2 : Int) ^ d = P at h3 ⊢
  omega

theorem dval_bits {n : Nat} {ns : List Int} (hns : ∀ x ∈ ns, 0 ≤ x ∧ x < 2 ^ n) (hn : n < 100) (hl : ns.length < 100) (i j : Nat) : Builtin.Int.intBits (dval n ((ns.drop i).take j)) ≤ 10000 := by
  have hm : ∀ x ∈ (ns.drop i).take j, 0 ≤ x ∧ x < 2 ^ n := fun x hx => hns x (List.mem_of_mem_drop (List.mem_of_mem_take hx))
  have h0 := dval_nonneg n _ fun x hx => (hm x hx).1
  have h1 := dval_lt n _ hm
  have hlen : ((ns.drop i).take j).length ≤ 100 := by simp only [List.length_take, List.length_drop]; omega
  have h2 : n * ((ns.drop i).take j).length ≤ 10000 := Nat.le_trans (Nat.mul_le_mul (Nat.le_of_lt hn) hlen) (by decide)
  refine PySem.intBits_le_iff.mpr ?_
  have h3 : (2 : Nat) ^ (n * ((ns.drop i).take j).length) ≤ 2 ^ 10000 := Nat.pow_le_pow_right (by decide) h2
  refine Nat.lt_of_lt_of_le ?_ h3
  generalize n * ((ns.drop i).take j).length = k at h1
  have e : ((2 : Int) ^ k) = ((2 ^ k : Nat) : Int) := by simp
  rw [e] at h1
  generalize (2 : Nat) ^ k = P at h1 ⊢
  omega
theorem shift_facts {lo mid hi : Int} {n : Nat} (h0 : 0 ≤ lo) (h1 : lo < mid) (h2 : mid < hi) (h3 : hi ≤ 100) (hn : n < 100) : 0 ≤ (mid - lo) * (n : Int) ∧ (mid - lo) * (n : Int) ≤ 10000 := by
  constructor
  · exact Int.mul_nonneg (by omega) (by omega)
  · have := Int.mul_le_mul (a := mid - lo) (b := (n : Int)) (c := 100) (d := 100) (by omega) (by omega) (by omega) (by omega)
    omega
theorem dval_mid {n : Nat} {ns : List Int} {lo mid hi : Int} (h0 : 0 ≤ lo) (h1 : lo < mid) (h2 : mid < hi) (h3 : hi ≤ ns.length) :
    dval n ((ns.drop mid.toNat).take (hi - mid).toNat) * 2 ^ ((mid - lo) * (n : Int)).toNat + dval n ((ns.drop lo.toNat).take (mid - lo).toNat) = dval n ((ns.drop lo.toNat).take (hi - lo).toNat) := by
  have e1 : (hi - lo).toNat = (mid - lo).toNat + (hi - mid).toNat := by omega
  have e2 : mid.toNat = lo.toNat + (mid - lo).toNat := by omega
  have e3 : ((mid - lo) * (n : Int)).toNat = n * (mid - lo).toNat := by
    have : (mid - lo) * (n : Int) = ((n * (mid - lo).toNat : Nat) : Int) := by
      rw [Int.natCast_mul, Int.toNat_of_nonneg (by omega), Int.mul_comm]
    rw [this]; rfl
  rw [e1, List.take_add, dval_append, List.drop_drop, ← e2, e3, List.length_take, List.length_drop]
  have e4 : min (mid - lo).toNat (ns.length - lo.toNat) = (mid - lo).toNat := by omega
  rw [e4]
  omega
theorem dval_one {n : Nat} {ns : List Int} {lo hi : Int} (h0 : 0 ≤ lo) (h1 : lo + 1 = hi) (h3 : hi ≤ ns.length) : ns.getD lo.toNat 0 = dval n ((ns.drop lo.toNat).take (hi - lo).toNat) := by
  have e1 : (hi - lo).toNat = 1 := by omega
  have h : lo.toNat < ns.length := by omega
  rw [e1, List.drop_eq_getElem_cons h, List.getD_eq_getElem?_getD, List.getElem?_eq_getElem h]
  show ns[lo.toNat] = ns[lo.toNat] + 0 * 2 ^ n
  omega
end

section
/-- a call that may change the ledger -/
def CallsTo (w : World) (p : Program) (loose : List Str) (mean : ExcName → Option Value) (mg mb : Str → Option Value) (base₀ : Heap → Prop) (Λ : List (Addr × Obj)) (f : Addr) (args : List Value) (D U : Nat) (R : Value → List (Addr × Obj) → Prop) : Prop :=
  ∀ (dp un : Nat) (gd : Option (List Code)) (cn : Str) (cs : Scope) (a : Addr) (ccd : Value) (cl : List (Str × Addr)) (outer : List Env) (A₀ : Around) (base h₀ : Heap) (L : Addr) (m : Str → Option Value) (s : Shared) (Q E : Value → Shared → Prop),
    Below A₀ base outer h₀ → base₀ base → Fr h₀ L s.heap m → (ex2.heap_1 w.params).In h₀ → News h₀ L s.heap Λ → Top p loose mean mg mb h₀ → cs.kind = .function → dp + D < recursionLimit → un + U < cLine →
    (∀ v Λ' h' tk', Fr h₀ L h' m → News h₀ L h' Λ' → R v Λ' → Q v { s with heap := h', toks := tk' }) →
    wpAny (model PySem.Challenge.rw_ku0024_02.row.prog w) (ktrTop dp un gd cn cs L a ccd cl outer) (call (.ref f) args) Q E s

/-- a code table: nothing yet, or the one inner def's code -/
def TabIs (q : Str) (ln col : Nat) (P : Addr) (T : List (Addr × Obj)) : Prop :=
  T = [(P, tabObj #[])] ∨ ∃ c' oc vs t, T = [(P, tabObj #[rawInt ln, rawInt col, .ref c']), (c', oc)] ∧ @LT.lt Nat _ 160 c' ∧ oc.data = .fields vs ∧ vs[1]? = some (.str q t)

theorem ret66A {g h : Heap} {L f c' : Addr} {fn oc : Obj} {x1 x2 x3 e : Addr × Obj} {P : Addr} {ps : Array Value} {news : List (Addr × Obj)}
    (N : News g L h ((f, fn) :: (c', oc) :: x1 :: x2 :: x3 :: (P, tabObj (#[] ++ ps)) :: e :: news)) : News g L h ([(P, tabObj ps), (c', oc)] ++ e :: news) := by
  rw [Array.empty_append] at N
  intro p hp
  apply N
  simp only [List.cons_append, List.nil_append, List.mem_cons] at hp ⊢
  rcases hp with h | h | h | h <;> simp [h]
theorem ret66B {g h : Heap} {L f c' : Addr} {fn oc : Obj} {x1 x2 x3 e : Addr × Obj} {P : Addr} {ps : Array Value} {news : List (Addr × Obj)}
    (N : News g L h ((f, fn) :: x1 :: x2 :: x3 :: (P, tabObj ps) :: (c', oc) :: e :: news)) : News g L h ([(P, tabObj ps), (c', oc)] ++ e :: news) := by
  intro p hp
  apply N
  simp only [List.cons_append, List.nil_append, List.mem_cons] at hp ⊢
  rcases hp with h | h | h | h <;> simp [h]

theorem perm3 {g h : Heap} {L : Addr} {x1 x2 y : Addr × Obj} {r : List (Addr × Obj)} (N : News g L h (x1 :: x2 :: y :: r)) : News g L h (y :: x1 :: x2 :: r) := by
  intro p hp; apply N; simp only [List.mem_cons] at hp ⊢
  rcases hp with h | h | h | h <;> simp [h]
theorem perm2 {g h : Heap} {L : Addr} {x1 y : Addr × Obj} {r : List (Addr × Obj)} (N : News g L h (x1 :: y :: r)) : News g L h (y :: x1 :: r) := by
  intro p hp; apply N; simp only [List.mem_cons] at hp ⊢
  rcases hp with h | h | h <;> simp [h]
theorem ret59A {g h : Heap} {L f c' P : Addr} {fn oc : Obj} {d y x1 x2 x3 : Addr × Obj} {ps : Array Value} {news : List (Addr × Obj)}
    (N : News g L h (d :: (f, fn) :: (c', oc) :: y :: x1 :: x2 :: x3 :: (P, tabObj (#[] ++ ps)) :: news)) : News g L h (d :: [(P, tabObj ps), (c', oc)] ++ news) := by
  rw [Array.empty_append] at N
  intro p hp; apply N
  simp only [List.cons_append, List.nil_append, List.mem_cons] at hp ⊢
  rcases hp with h | h | h | h <;> simp [h]
theorem ret59B {g h : Heap} {L f c' P : Addr} {fn oc : Obj} {d y x1 x2 x3 : Addr × Obj} {ps : Array Value} {news : List (Addr × Obj)}
    (N : News g L h (d :: (f, fn) :: y :: x1 :: x2 :: x3 :: (P, tabObj ps) :: (c', oc) :: news)) : News g L h (d :: [(P, tabObj ps), (c', oc)] ++ news) := by
  intro p hp; apply N
  simp only [List.cons_append, List.nil_append, List.mem_cons] at hp ⊢
  rcases hp with h | h | h | h <;> simp [h]

abbrev Tab54 := TabIs "_int2digits.<locals>.inner" 36 4 54
abbrev Tab61 := TabIs "_digits2int.<locals>.inner" 51 4 61
abbrev tup2 (x y : Value) (k : Nat) : Obj := {cls := .type "tuple", data := .seq #[x, y] k}
def Hi (l : List (Addr × Obj)) : Prop := ∀ q ∈ l, @Ne Nat q.1 54 ∧ @Ne Nat q.1 61
theorem hi_of {h₀ h : Heap} {L : Addr} {m : Str → Option Value} {o : Obj} (F : Fr h₀ L h m) (e : h₀.get? 165 = some o) : @LT.lt Nat _ 165 L := Nat.lt_of_lt_of_le (Heap.lt_size e) F.above
theorem Hi.ne {l : List (Addr × Obj)} {P : Addr} (h : Hi l) (hP : @Eq Nat P 54 ∨ @Eq Nat P 61) : ∀ q ∈ l, q.1 ≠ P := fun q hq e => by
  rcases hP with h1 | h1
  · exact (h q hq).1 (e.trans h1)
  · exact (h q hq).2 (e.trans h1)
/-- from a table to a table; a full one stays -/
def TabTo (q : Str) (ln col : Nat) (P : Addr) (T T' : List (Addr × Obj)) : Prop := TabIs q ln col P T' ∧ (2 ≤ T.length → T' = T)
abbrev To54 := TabTo "_int2digits.<locals>.inner" 36 4 54
abbrev To61 := TabTo "_digits2int.<locals>.inner" 51 4 61
theorem TabTo.refl {q : Str} {ln col : Nat} {P : Addr} {T : List (Addr × Obj)} (h : TabIs q ln col P T) : TabTo q ln col P T T := ⟨h, fun _ => rfl⟩
theorem TabTo.trans {q : Str} {ln col : Nat} {P : Addr} {T T' T'' : List (Addr × Obj)} (h : TabTo q ln col P T T') (h' : TabTo q ln col P T' T'') : TabTo q ln col P T T'' := ⟨h'.1, fun e => by have e1 := h.2 e; rw [h'.2 (by rw [e1]; exact e), e1]⟩
theorem TabIs.ne {q : Str} {ln col : Nat} {P P' : Addr} {T : List (Addr × Obj)} (h : TabIs q ln col P T) (hP : @LE.le Nat _ P' 160) (hne : P ≠ P') : ∀ q ∈ T, q.1 ≠ P' := by
  intro x hx
  rcases h with rfl | ⟨c', oc, vs, t, rfl, h1, _, _⟩
  · simp only [List.mem_singleton] at hx; rw [hx]; exact hne
  · simp only [List.mem_cons, List.not_mem_nil, or_false] at hx
    rcases hx with rfl | rfl
    · exact hne
    · exact fun e => by simp only at e; rw [e] at h1; exact absurd h1 (Nat.not_lt.mpr hP)
theorem ne_app {a b : List (Addr × Obj)} {P : Addr} (ha : ∀ q ∈ a, q.1 ≠ P) (hb : ∀ q ∈ b, q.1 ≠ P) : ∀ q ∈ a ++ b, q.1 ≠ P := fun q hq => (List.mem_append.mp hq).elim (ha q) (hb q)
theorem ne_cons {x : Addr × Obj} {b : List (Addr × Obj)} {P : Addr} (ha : x.1 ≠ P) (hb : ∀ q ∈ b, q.1 ≠ P) : ∀ q ∈ x :: b, q.1 ≠ P := fun q hq => (List.mem_cons.mp hq).elim (fun e => e ▸ ha) (hb q)

/-- as CallsTo, with keywords -/
def CallsToK (w : World) (p : Program) (loose : List Str) (mean : ExcName → Option Value) (mg mb : Str → Option Value) (base₀ : Heap → Prop) (Λ : List (Addr × Obj)) (f : Addr) (args : List Value) (kw : List (Str × Value)) (D U : Nat) (R : Value → List (Addr × Obj) → Prop) : Prop :=
  ∀ (dp un : Nat) (gd : Option (List Code)) (cn : Str) (cs : Scope) (a : Addr) (ccd : Value) (cl : List (Str × Addr)) (outer : List Env) (A₀ : Around) (base h₀ : Heap) (L : Addr) (m : Str → Option Value) (s : Shared) (Q E : Value → Shared → Prop),
    Below A₀ base outer h₀ → base₀ base → Fr h₀ L s.heap m → (ex2.heap_1 w.params).In h₀ → News h₀ L s.heap Λ → Top p loose mean mg mb h₀ → cs.kind = .function → dp + D < recursionLimit → un + U < cLine →
    (∀ v Λ' h' tk', Fr h₀ L h' m → News h₀ L h' Λ' → R v Λ' → Q v { s with heap := h', toks := tk' }) →
    wpAny (model PySem.Challenge.rw_ku0024_02.row.prog w) (ktrTop dp un gd cn cs L a ccd cl outer) (call (.ref f) args kw) Q E s
end

section
theorem nat_and_high (x k : Nat) : x &&& (x / 2 ^ k * 2 ^ k) = x / 2 ^ k * 2 ^ k := by
  rw [← Nat.shiftRight_eq_div_pow, ← Nat.shiftLeft_eq]
  apply Nat.eq_of_testBit_eq
  intro i
  simp only [Nat.testBit_and, Nat.testBit_shiftLeft, Nat.testBit_shiftRight]
  by_cases h : k ≤ i
  · have : k + (i - k) = i := by omega
    simp [this, h]
  · simp [h]
theorem xor_low {x : Int} (hx : 0 ≤ x) (k : Nat) : Builtin.bitXor x (x.fdiv (2 ^ k) * 2 ^ k) = x % 2 ^ k := by
  obtain ⟨n, rfl⟩ := Int.eq_ofNat_of_zero_le hx
  have e : (n : Int).fdiv (2 ^ k) * 2 ^ k = ((n / 2 ^ k * 2 ^ k : Nat) : Int) := by
    rw [Int.fdiv_eq_ediv_of_nonneg _ (Int.pow_nonneg (by decide))]; simp
  rw [bitXor_and, e]
  have e2 : Builtin.bitAnd (n : Int) ((n / 2 ^ k * 2 ^ k : Nat) : Int) = ((n / 2 ^ k * 2 ^ k : Nat) : Int) := by
    unfold Builtin.bitAnd
    have h1 : (0 : Int) ≤ (n : Int) := by omega
    have h2 : (0 : Int) ≤ ((n / 2 ^ k * 2 ^ k : Nat) : Int) := Int.natCast_nonneg _
    simp only [h1, h2, decide_true, Int.toNat_natCast]
    rw [nat_and_high]
  rw [e2]
  have e3 : ((n : Int) % 2 ^ k) = ((n % 2 ^ k : Nat) : Int) := by simp
  rw [e3]
  have := Nat.div_add_mod n (2 ^ k)
  rw [Nat.mul_comm] at this
  omega
theorem emod_mul_div (x : Int) {a b : Int} (ha : 0 < a) : x % (a * b) / a = x / a % b := by
  rw [Int.emod_def, Int.emod_def (x / a), ← Int.ediv_ediv_of_nonneg (Int.le_of_lt ha)]
  generalize x / a / b = q
  have : x - a * b * q = x + a * (-(b * q)) := by rw [Int.mul_assoc, Int.mul_neg]; omega
  rw [this, Int.add_mul_ediv_left _ _ (Int.ne_of_gt ha)]
  omega
/-- k digits of x, n bits each, the lowest first -/
def digs (n : Nat) : Nat → Int → List Int
  | 0, _ => []
  | k + 1, x => x % 2 ^ n :: digs n k (x / 2 ^ n)
theorem digs_length (n k : Nat) : ∀ x, (digs n k x).length = k := by
  induction k with
  | zero => intro x; rfl
  | succ k ih => intro x; simp [digs, ih]
theorem digs_mem (n k : Nat) : ∀ x, ∀ d ∈ digs n k x, 0 ≤ d ∧ d < 2 ^ n := by
  have hp : (0 : Int) < 2 ^ n := Int.pow_pos (by decide)
  induction k with
  | zero => intro x d hd; cases hd
  | succ k ih =>
    intro x d hd
    rcases List.mem_cons.mp hd with h | h
    · rw [h]; exact ⟨Int.emod_nonneg _ (Int.ne_of_gt hp), Int.emod_lt_of_pos _ hp⟩
    · exact ih _ d h
theorem digs_add (n j k : Nat) : ∀ x : Int, digs n (j + k) x = digs n j (x % 2 ^ (n * j)) ++ digs n k (x / 2 ^ (n * j)) := by
  induction j with
  | zero => intro x; simp [digs, Nat.zero_add]
  | succ j ih =>
    intro x
    have hp : (0 : Int) < 2 ^ n := Int.pow_pos (by decide)
    have e1 : j + 1 + k = (j + k) + 1 := by omega
    have e2 : (2 : Int) ^ (n * (j + 1)) = 2 ^ n * 2 ^ (n * j) := by rw [Nat.mul_add, Nat.mul_one, Int.pow_add, Int.mul_comm]
    have e3 : x % 2 ^ (n * (j + 1)) % 2 ^ n = x % 2 ^ n := by rw [e2]; exact Int.emod_emod_of_dvd _ (Int.dvd_mul_right _ _)
    have e4 : x % 2 ^ (n * (j + 1)) / 2 ^ n = x / 2 ^ n % 2 ^ (n * j) := by rw [e2]; exact emod_mul_div x hp
    have e5 : x / 2 ^ (n * (j + 1)) = x / 2 ^ n / 2 ^ (n * j) := by rw [e2, Int.ediv_ediv_of_nonneg (Int.le_of_lt hp)]
    rw [e1]
    simp only [digs, ih, List.cons_append, e3, e4, e5]
theorem dval_digs (n k : Nat) : ∀ x : Int, 0 ≤ x → x < 2 ^ (n * k) → dval n (digs n k x) = x := by
  induction k with
  | zero => intro x h0 h1; simp [digs, dval] at h1 ⊢; omega
  | succ k ih =>
    intro x h0 h1
    have hp : (0 : Int) < 2 ^ n := Int.pow_pos (by decide)
    have h2 : x / 2 ^ n < 2 ^ (n * k) := by
      rw [Nat.mul_add, Nat.mul_one, Int.pow_add] at h1
      exact Int.ediv_lt_of_lt_mul hp h1
    simp only [digs, dval]
    rw [ih _ (Int.ediv_nonneg h0 (Int.le_of_lt hp)) h2]
    have := Int.emod_add_mul_ediv x (2 ^ n)
    rw [Int.mul_comm] at this
    exact this
/-- the list with k digits of x from place lo on -/
def putD (n : Nat) (ns : List Int) (lo k : Nat) (x : Int) : List Int := ns.take lo ++ digs n k x ++ ns.drop (lo + k)
theorem putD_length {n : Nat} {ns : List Int} {lo k : Nat} {x : Int} (h : lo + k ≤ ns.length) : (putD n ns lo k x).length = ns.length := by
  simp only [putD, List.length_append, List.length_take, List.length_drop, digs_length]; omega
theorem putD_one {n : Nat} {ns : List Int} {lo : Nat} {x : Int} (h : lo < ns.length) (h0 : 0 ≤ x) (h1 : x < 2 ^ n) : ns.set lo x = putD n ns lo 1 x := by
  have : x % 2 ^ n = x := Int.emod_eq_of_lt h0 h1
  simp only [putD, digs, this]
  rw [List.set_eq_take_append_cons_drop, if_pos h]
  simp
theorem putD_two {n : Nat} {ns : List Int} {lo j k : Nat} {x : Int} (h : lo + j + k ≤ ns.length) :
    putD n (putD n ns lo j (x % 2 ^ (n * j))) (lo + j) k (x / 2 ^ (n * j)) = putD n ns lo (j + k) x := by
  have hl : (List.take lo ns ++ digs n j (x % 2 ^ (n * j))).length = lo + j := by
    simp only [List.length_append, List.length_take, digs_length]; omega
  have e1 : (putD n ns lo j (x % 2 ^ (n * j))).take (lo + j) = ns.take lo ++ digs n j (x % 2 ^ (n * j)) := by
    unfold putD
    rw [← hl, List.take_left']
    rw [hl]
  have e2 : (putD n ns lo j (x % 2 ^ (n * j))).drop (lo + j + k) = ns.drop (lo + (j + k)) := by
    unfold putD
    rw [List.drop_append, hl, List.drop_eq_nil_of_le (by omega), List.nil_append, List.drop_drop]
    congr 1; omega
  unfold putD at e1 e2 ⊢
  rw [e1, e2, digs_add]
  simp only [List.append_assoc]

theorem shift_facts2 {lo mid hi : Int} {n : Nat} (h0 : 0 ≤ lo) (h1 : lo < mid) (h2 : mid < hi) (h3 : hi ≤ 200) (hn : n < 100) : 0 ≤ (mid - lo) * (n : Int) ∧ (mid - lo) * (n : Int) ≤ 20000 := by
  constructor
  · exact Int.mul_nonneg (by omega) (by omega)
  · have := Int.mul_le_mul (a := mid - lo) (b := (n : Int)) (c := 200) (d := 100) (by omega) (by omega) (by omega) (by omega)
    omega
theorem low_facts {x lo mid hi : Int} {n : Nat} (hx : 0 ≤ x) (hb : Builtin.Int.intBits x ≤ 200) (h1 : lo < mid) (h2 : mid < hi) (hlt : x < 2 ^ (n * (hi - lo).toNat)) :
    Builtin.bitXor x (x.fdiv (2 ^ ((mid - lo) * (n : Int)).toNat) * 2 ^ ((mid - lo) * (n : Int)).toNat) = x % 2 ^ (n * (mid - lo).toNat) ∧
    0 ≤ x % 2 ^ (n * (mid - lo).toNat) ∧ x % 2 ^ (n * (mid - lo).toNat) < 2 ^ (n * (mid - lo).toNat) ∧ Builtin.Int.intBits (x % 2 ^ (n * (mid - lo).toNat)) ≤ 200 ∧
    x.fdiv (2 ^ ((mid - lo) * (n : Int)).toNat) = x / 2 ^ (n * (mid - lo).toNat) ∧
    0 ≤ x / 2 ^ (n * (mid - lo).toNat) ∧ x / 2 ^ (n * (mid - lo).toNat) < 2 ^ (n * (hi - mid).toNat) ∧ Builtin.Int.intBits (x / 2 ^ (n * (mid - lo).toNat)) ≤ 200 := by
  have e3 : ((mid - lo) * (n : Int)).toNat = n * (mid - lo).toNat := by
    have : (mid - lo) * (n : Int) = ((n * (mid - lo).toNat : Nat) : Int) := by
      rw [Int.natCast_mul, Int.toNat_of_nonneg (by omega), Int.mul_comm]
    rw [this]; rfl
  have e4 : n * (hi - lo).toNat = n * (mid - lo).toNat + n * (hi - mid).toNat := by
    rw [← Nat.mul_add]; congr 1; omega
  rw [e3]
  rw [e4, Int.pow_add] at hlt
  generalize n * (mid - lo).toNat = K at hlt ⊢
  have hp : (0 : Int) < 2 ^ K := Int.pow_pos (by decide)
  have hf : x.fdiv (2 ^ K) = x / 2 ^ K := Int.fdiv_eq_ediv_of_nonneg _ (Int.le_of_lt hp)
  have m0 := Int.emod_nonneg x (Int.ne_of_gt hp)
  have m1 : x % 2 ^ K ≤ x := by
    have a1 := Int.emod_add_mul_ediv x (2 ^ K)
    have a2 : 0 ≤ 2 ^ K * (x / 2 ^ K) := Int.mul_nonneg (Int.le_of_lt hp) (Int.ediv_nonneg hx (Int.le_of_lt hp))
    omega
  have d0 := Int.ediv_nonneg hx (Int.le_of_lt hp)
  have d1 : x / 2 ^ K ≤ x := Int.ediv_le_self _ hx
  refine ⟨xor_low hx K, m0, Int.emod_lt_of_pos _ hp, intBits_le_of_natAbs (by omega) hb, hf, d0, ?_, intBits_le_of_natAbs (by omega) hb⟩
  exact Int.ediv_lt_of_lt_mul hp (by rw [Int.mul_comm]; exact hlt)
theorem nd_facts {x : Int} {n : Nat} (hx : 0 ≤ x) (hb : Builtin.Int.intBits x ≤ 200) (hn0 : 0 < n) (hn1 : n < 100) :
    ((Builtin.Int.intBits x : Int) + n - 1).fdiv n = ((Builtin.Int.intBits x + n - 1) / n : Nat) ∧ (Builtin.Int.intBits x + n - 1) / n ≤ 200 ∧ x < 2 ^ (n * ((Builtin.Int.intBits x + n - 1) / n)) ∧ (x ≠ 0 → 0 < (Builtin.Int.intBits x + n - 1) / n) ∧ (x = 0 → (Builtin.Int.intBits x + n - 1) / n = 0) := by
  have h1 : (Builtin.Int.intBits x : Int) + n - 1 = ((Builtin.Int.intBits x + n - 1 : Nat) : Int) := by omega
  have hlt : x.natAbs < 2 ^ Builtin.Int.intBits x := intBits_le_iff.mp (Nat.le_refl _)
  refine ⟨?_, ?_, ?_, ?_, ?_⟩
  · rw [h1, Int.fdiv_eq_ediv_of_nonneg _ (by omega)]; rfl
  · refine Nat.le_trans (Nat.div_le_of_le_mul (n := 200) (m := Builtin.Int.intBits x + n - 1) (k := n) ?_) (Nat.le_refl _)
    generalize Builtin.Int.intBits x = b at hb
    have : b ≤ n * b := Nat.le_mul_of_pos_left _ hn0
    have h2 : n * 200 = n * 199 + n := by omega
    have h3 : n * 1 ≤ n * 199 := Nat.mul_le_mul_left _ (by decide)
    have h4 : 1 * 199 ≤ n * 199 := Nat.mul_le_mul_right _ hn0
    omega
  · have h2 : Builtin.Int.intBits x ≤ n * ((Builtin.Int.intBits x + n - 1) / n) := by
      generalize Builtin.Int.intBits x = b
      have := Nat.div_add_mod (b + n - 1) n
      have := Nat.mod_lt (b + n - 1) hn0
      omega
    have h3 : (2 : Nat) ^ Builtin.Int.intBits x ≤ 2 ^ (n * ((Builtin.Int.intBits x + n - 1) / n)) := Nat.pow_le_pow_right (by decide) h2
    have h4 : x.natAbs < 2 ^ (n * ((Builtin.Int.intBits x + n - 1) / n)) := Nat.lt_of_lt_of_le hlt h3
    generalize n * ((Builtin.Int.intBits x + n - 1) / n) = K at h4
    have e : ((2 : Int) ^ K) = ((2 ^ K : Nat) : Int) := by simp
    rw [e]; omega
  · intro hne
    have : 0 < Builtin.Int.intBits x := by
      rcases Nat.eq_zero_or_pos (Builtin.Int.intBits x) with h | h
      · rw [h] at hlt; omega
      · exact h
    exact Nat.div_pos (by omega) hn0
  · intro h0
    have : Builtin.Int.intBits x = 0 := Nat.le_zero.mp (intBits_le_iff.mpr (by rw [h0]; decide))
    rw [this]
    exact Nat.div_eq_of_lt (by omega)
theorem mul_rep {prog : Program} {w : World} {A : Around} {E : Value → Shared → Prop} {s : Shared} {h₀ : Heap} {L : Addr} {m : Str → Option Value} {news : List (Addr × Obj)} {l : Addr} {x : Int} {u t0 : Tok} {c : Int} {k : Nat} {Q : Value → Shared → Prop}
    (F : Fr h₀ L s.heap m) (N : News h₀ L s.heap news) (hm : (l, W.listOf #[.int c t0] k) ∈ news) (hlo : 0 ≤ x) (hhi : x ≤ 200)
    (h : ∀ D ws h', Fr h₀ L h' m → News h₀ L h' ((D, W.listOf (List.toArray ws) 0) :: news) → (∀ p ∈ news, p.1 < D) → IntsAre ws (List.replicate x.toNat c) → Q (.ref D) { s with heap := h' }) :
    wpAny (model prog w) A (binaryOp .Mult (.ref l) (.int x u)) Q E s := by
  have hl : s.heap.IsList l [Value.int c t0].toArray := ⟨_, (N _ hm).1, rfl, _, rfl⟩
  refine KMa.mul F N hl (by omega) (by omega) (by simp; omega) rfl fun D h' F' N' l1 => h D _ h' F' N' l1 ?_
  generalize x.toNat = j
  induction j with
  | zero => exact .nil
  | succ j ih => rw [List.replicate_succ, List.replicate_succ, List.flatten_cons]; exact .cons _ _ ih

theorem putD_mid {n : Nat} {ns : List Int} {lo mid hi x : Int} (h0 : 0 ≤ lo) (h1 : lo < mid) (h2 : mid < hi) (h3 : hi ≤ ns.length) :
    putD n (putD n ns lo.toNat (mid - lo).toNat (x % 2 ^ (n * (mid - lo).toNat))) mid.toNat (hi - mid).toNat (x / 2 ^ (n * (mid - lo).toNat)) = putD n ns lo.toNat (hi - lo).toNat x := by
  have e1 : mid.toNat = lo.toNat + (mid - lo).toNat := by omega
  have e2 : (hi - lo).toNat = (mid - lo).toNat + (hi - mid).toNat := by omega
  rw [e1, e2]
  exact putD_two (by omega)
theorem putD_all {n D : Nat} {x : Int} : putD n (List.replicate D 0) 0 D x = digs n D x := by
  simp [putD, List.drop_eq_nil_of_le]

theorem noPy {x y : Int} (hb : Builtin.Int.intBits y ≤ 200) : Builtin.divisionGoesByPylong x y = false := by
  have h := intBits_le_iff.mp hb
  refine PyProof.noPylong_of_log2 ?_
  by_cases h0 : y.natAbs = 0
  · rw [h0]; decide +kernel
  · exact Nat.lt_of_lt_of_le ((Nat.log2_lt h0).mpr h) (by decide)
end

section
open PySem PySem.W PyProof.Rows PySem.Calls

theorem unrPost_mono {h₀ : Heap} {L : Addr} {s₁ : Shared} {I : Addr} {it : Obj} {R R' : (Str → Option Value) → List (Addr × Obj) → Prop} {Q : Flow → Shared → Prop} (h : ∀ m n, R m n → R' m n) {f : Flow} {s₂ : Shared} (p : UnrPost h₀ L s₁ I it R Q f s₂) : UnrPost h₀ L s₁ I it R' Q f s₂ := by
  cases f with
  | ret v => exact p
  | brk => exact p
  | next => obtain ⟨h', tk, m', n', e, F, N, o, r⟩ := p; exact ⟨h', tk, m', n', e, F, N, o, h _ _ r⟩
  | cont => obtain ⟨h', tk, m', n', e, F, N, o, r⟩ := p; exact ⟨h', tk, m', n', e, F, N, o, h _ _ r⟩
theorem revRest_inv {prog : Program} {w : World} {A : Around} {E : Value → Shared → Prop} {h₀ : Heap} {env : Env} {x : Str} {body : List Stmt} {Q : Flow → Shared → Prop} {s : Shared} {I : Addr} {lp : Addr × Obj} (vs : List Value)
    (J : Nat → (Str → Option Value) → List (Addr × Obj) → Prop)
    (turn : ∀ i v m news (it : Obj) h tk, vs[i]? = some v → lp ∈ news → J i m news → it.cls = .type "list_reverseiterator" → Fr h₀ env.locals h (fun y => if y = x then some v else m y) → News h₀ env.locals h ((I, it) :: news) →
      wpAny (model prog w) A (execs body env) (UnrPost h₀ env.locals { s with heap := h, toks := tk } I it (fun m' n' => lp ∈ n' ∧ J (i + 1) m' n') Q) E { s with heap := h, toks := tk })
    (done : ∀ m news h tk, J vs.length m news → lp ∈ news → Fr h₀ env.locals h m → News h₀ env.locals h news → Q .next { s with heap := h, toks := tk }) :
    ∀ (r : List Value) (i : Nat) m news, vs.drop i = r → i ≤ vs.length → J i m news → lp ∈ news → RevRest prog w A E h₀ env x body Q s I lp r m news := by
  intro r
  induction r with
  | nil =>
    intro i m news hd hle hJ hlp
    have : i = vs.length := by have := congrArg List.length hd; simp at this; omega
    subst this
    exact fun h tk F N => done m news h tk hJ hlp F N
  | cons v r ih =>
    intro i m news hd hle hJ hlp
    have hlt : i < vs.length := by have := congrArg List.length hd; simp at this; omega
    have hv : vs[i]? = some v := by
      have := congrArg (·[0]?) hd
      simpa using this
    have hd' : vs.drop (i + 1) = r := by rw [← List.drop_drop, hd]; rfl
    refine RevRest.succ fun it h tk hc F N => ?_
    exact wpAny_mono (turn i v m news it h tk hv hlp hJ hc F N) (fun f s₂ p => unrPost_mono (fun m' n' x => ⟨x.1, ih (i + 1) m' n' hd' (by omega) x.2 x.1⟩) p) fun _ _ e => e
theorem frame3 {m m₀ : Str → Option Value} {x1 x2 x3 : Str} (h : ∀ z, z ≠ x1 → z ≠ x2 → z ≠ x3 → m z = m₀ z) : m = fun z => if z = x1 then m x1 else if z = x2 then m x2 else if z = x3 then m x3 else m₀ z := by
  funext z
  by_cases h1 : z = x1
  · subst h1; simp
  · by_cases h2 : z = x2
    · subst h2; simp [h1]
    · by_cases h3 : z = x3
      · subst h3; simp [h1, h2]
      · simp [h1, h2, h3, h z h1 h2 h3]
theorem frame2 {m m₀ : Str → Option Value} {x1 x2 : Str} (h : ∀ z, z ≠ x1 → z ≠ x2 → m z = m₀ z) : m = fun z => if z = x1 then m x1 else if z = x2 then m x2 else m₀ z := by
  funext z
  by_cases h1 : z = x1
  · subst h1; simp
  · by_cases h2 : z = x2
    · subst h2; simp [h1]
    · simp [h1, h2, h z h1 h2]

theorem frame1 {m m₀ : Str → Option Value} {x1 : Str} (h : ∀ z, z ≠ x1 → m z = m₀ z) : m = fun z => if z = x1 then m x1 else m₀ z := by
  funext z
  by_cases h1 : z = x1
  · subst h1; simp
  · simp [h1, h z h1]
end

section
theorem offI_of {I : Addr} {it : Obj} {l : List (Addr × Obj)} : (∀ p ∈ l, p.1 ≠ I) → OffI I it l := by
  induction l with
  | nil => intro _; trivial
  | cons p r ih => intro h; exact ⟨.inl (h p (.head _)), ih fun q hq => h q (.tail _ hq)⟩
theorem digs_get (n : Nat) : ∀ (k : Nat) (x : Int) (j : Nat), j < k → (digs n k x)[j]? = some (x / 2 ^ (n * j) % 2 ^ n) := by
  intro k
  induction k with
  | zero => intro x j h; omega
  | succ k ih =>
    intro x j h
    cases j with
    | zero => simp [digs]
    | succ j =>
      have hp : (0 : Int) < 2 ^ n := Int.pow_pos (by decide)
      simp only [digs, List.getElem?_cons_succ]
      rw [ih _ _ (by omega), Nat.mul_add, Nat.mul_one, Nat.add_comm (n * j) n, Int.pow_add, Int.ediv_ediv_of_nonneg (Int.le_of_lt hp)]
/-- what the loop of the long division keeps: i digits are done -/
def DivInv (n D : Nat) (x y : Int) (i : Nat) (r : Int) (qs : List Int) : Prop :=
  0 ≤ r ∧ r < y ∧ qs.length = i ∧ (∀ q ∈ qs, 0 ≤ q ∧ q < 2 ^ n) ∧ dval n qs.reverse * y + r = x / 2 ^ (n * (D - i))
theorem DivInv.start {n D : Nat} {x y : Int} (hx : 0 ≤ x) (hD : x < 2 ^ (n * D)) (hy : 0 < y) : DivInv n D x y 0 0 [] := by
  unfold DivInv
  refine ⟨by omega, hy, rfl, (by intro q h; cases h), ?_⟩
  rw [Nat.sub_zero, Int.ediv_eq_zero_of_lt hx hD]; simp [dval]
theorem DivInv.turn {n D : Nat} {x y : Int} {i : Nat} {r : Int} {qs : List Int} (h : DivInv n D x y i r qs) (hi : i < D) (d : Int) (hd : d = x / 2 ^ (n * (D - 1 - i)) % 2 ^ n) :
    DivInv n D x y (i + 1) ((r * 2 ^ n + d) % y) (qs ++ [(r * 2 ^ n + d) / y]) ∧ 0 ≤ d ∧ d < 2 ^ n ∧ 0 ≤ r * 2 ^ n + d := by
  obtain ⟨h0, h1, h2, h3, h4⟩ := h
  have hp : (0 : Int) < 2 ^ n := Int.pow_pos (by decide)
  have hy : 0 < y := by omega
  have d0 : 0 ≤ d := by rw [hd]; exact Int.emod_nonneg _ (Int.ne_of_gt hp)
  have d1 : d < 2 ^ n := by rw [hd]; exact Int.emod_lt_of_pos _ hp
  have r0 : 0 ≤ r * 2 ^ n := Int.mul_nonneg h0 (Int.le_of_lt hp)
  have r1 : (r + 1) * 2 ^ n ≤ y * 2 ^ n := Int.mul_le_mul_of_nonneg_right (by omega) (Int.le_of_lt hp)
  rw [Int.add_mul, Int.one_mul] at r1
  have q0 : 0 ≤ (r * 2 ^ n + d) / y := Int.ediv_nonneg (by omega) (Int.le_of_lt hy)
  have q1 : (r * 2 ^ n + d) / y < 2 ^ n := Int.ediv_lt_of_lt_mul hy (by rw [Int.mul_comm (2 ^ n)]; omega)
  refine ⟨⟨Int.emod_nonneg _ (Int.ne_of_gt hy), Int.emod_lt_of_pos _ hy, by simp [h2], ?_, ?_⟩, d0, d1, by omega⟩
  · intro q hq
    rcases List.mem_append.mp hq with hq | hq
    · exact h3 q hq
    · rw [List.mem_singleton.mp hq]; exact ⟨q0, q1⟩
  · rw [List.reverse_append]
    show ((r * 2 ^ n + d) / y + dval n qs.reverse * 2 ^ n) * y + _ = _
    have e1 : D - (i + 1) = D - 1 - i := by omega
    have e2 : n * (D - i) = n * (D - 1 - i) + n := by
      have : D - i = D - 1 - i + 1 := by omega
      rw [this, Nat.mul_add, Nat.mul_one]
    rw [e1]
    rw [e2, Int.pow_add, ← Int.ediv_ediv_of_nonneg (Int.pow_nonneg (by decide))] at h4
    generalize x / 2 ^ (n * (D - 1 - i)) = P at h4 hd ⊢
    have m1 := Int.emod_add_mul_ediv P (2 ^ n)
    have m2 := Int.emod_add_mul_ediv (r * 2 ^ n + d) y
    rw [← h4] at m1
    rw [← hd] at m1
    rw [Int.add_mul]
    have m3 : dval n qs.reverse * 2 ^ n * y = 2 ^ n * (dval n qs.reverse * y) := by
      rw [Int.mul_assoc, Int.mul_comm (2 ^ n) y, ← Int.mul_assoc, Int.mul_comm]
    rw [m3, Int.mul_comm ((r * 2 ^ n + d) / y) y]
    rw [Int.mul_add] at m1
    rw [Int.mul_comm r] at m2 ⊢
    omega
theorem DivInv.fin {n D : Nat} {x y : Int} {r : Int} {qs : List Int} (hy : 0 < y) (h : DivInv n D x y D r qs) : dval n qs.reverse = x / y ∧ r = x % y := by
  obtain ⟨h0, h1, h2, h3, h4⟩ := h
  rw [Nat.sub_self, Nat.mul_zero] at h4
  have e : x = dval n qs.reverse * y + r := by rw [h4]; simp
  have := (Int.ediv_emod_unique hy (a := x) (r := r) (q := dval n qs.reverse)).mpr ⟨by rw [e, Int.mul_comm]; omega, h0, h1⟩
  exact ⟨this.1.symm, this.2.symm⟩

theorem use_fr {h₀ h : Heap} {L : Addr} {m : Str → Option Value} {P : Prop} (F : Fr h₀ L h m) (k : ∀ m₀, m₀ = m → Fr h₀ L h m₀ → P) : P := k m rfl F
theorem led_name1 {g h : Heap} {L l : Addr} {o : Obj} {r : List (Addr × Obj)} {P : Prop} (_N : News g L h ((l, o) :: r)) (k : ∀ lq, lq = l → P) : P := k l rfl
theorem led_name2 {g h : Heap} {L l : Addr} {o : Obj} {x1 : Addr × Obj} {r : List (Addr × Obj)} {P : Prop} (_N : News g L h (x1 :: (l, o) :: r)) (k : ∀ lq, lq = l → P) : P := k l rfl
theorem rev_item {vs : List Value} {ns : List Int} {i : Nat} {v : Value} (hi : IntsAre vs ns) (h : vs.reverse[i]? = some v) : i < ns.length ∧ ∃ d t, ns[ns.length - 1 - i]? = some d ∧ v = .int d t := by
  have hlen := hi.length
  have hlt : i < vs.reverse.length := (List.getElem?_eq_some_iff.mp h).1
  rw [List.length_reverse] at hlt
  refine ⟨by omega, ?_⟩
  rw [List.getElem?_reverse hlt] at h
  have hj : ns.length - 1 - i < ns.length := by omega
  obtain ⟨t, ht⟩ := hi.get (ns.length - 1 - i) ns[ns.length - 1 - i] (by simp [hj])
  rw [hlen, ht] at h
  exact ⟨_, t, by rw [List.getElem?_eq_getElem hj], (Option.some.inj h).symm⟩
theorem intBits_lt {x : Int} {k : Nat} (h0 : 0 ≤ x) (h : x < 2 ^ k) : Builtin.Int.intBits x ≤ k := by
  refine intBits_le_iff.mpr ?_
  have e : ((2 : Int) ^ k) = ((2 ^ k : Nat) : Int) := by simp
  rw [e] at h; omega
theorem lt_intBits {x : Int} : x < 2 ^ (Builtin.Int.intBits x) := by
  have h := intBits_le_iff.mp (Nat.le_refl (Builtin.Int.intBits x))
  have e : ((2 : Int) ^ Builtin.Int.intBits x) = ((2 ^ Builtin.Int.intBits x : Nat) : Int) := by simp
  rw [e]; omega
theorem step_bits {r d y : Int} {n : Nat} (h0 : 0 ≤ r) (h1 : r < y) (hy : Builtin.Int.intBits y < 100) (hn : n < 100) (hd0 : 0 ≤ d) (hd : d < 2 ^ n) : Builtin.Int.intBits (r * 2 ^ n + d) ≤ 4000 ∧ (Builtin.Int.intBits r : Int) + n ≤ 2 ^ 27 := by
  have hb : Builtin.Int.intBits r ≤ 99 := intBits_le_of_natAbs (y := y) (by omega) (by omega)
  have hp : (0 : Int) < 2 ^ n := Int.pow_pos (by decide)
  have hr : r < 2 ^ Builtin.Int.intBits y := Int.lt_trans h1 lt_intBits
  have h3 : (r + 1) * 2 ^ n ≤ 2 ^ Builtin.Int.intBits y * 2 ^ n := Int.mul_le_mul_of_nonneg_right (by omega) (Int.le_of_lt hp)
  rw [Int.add_mul, Int.one_mul, ← Int.pow_add] at h3
  have h4 := Int.mul_nonneg h0 (Int.le_of_lt hp)
  have := intBits_lt (x := r * 2 ^ n + d) (k := Builtin.Int.intBits y + n) (by omega) (by omega)
  omega

theorem News.drop1 {g h : Heap} {L : Addr} {x : Addr × Obj} {r : List (Addr × Obj)} (N : PyProof.Rows.News g L h (x :: r)) : PyProof.Rows.News g L h r := fun p hp => N p (List.mem_cons_of_mem _ hp)

theorem ints_snoc {x : Int} {u : Tok} {vs : List Value} {ns : List Int} (h : IntsAre vs ns) : IntsAre (vs ++ [.int x u]) (ns ++ [x]) := by
  induction h with
  | nil => exact .cons _ _ .nil
  | cons i t _ ih => exact .cons i t ih
theorem ints_rev {vs : List Value} {ns : List Int} (h : IntsAre vs ns) : IntsAre vs.reverse ns.reverse := by
  induction h with
  | nil => exact .nil
  | cons i t _ ih => rw [List.reverse_cons, List.reverse_cons]; exact ints_snoc ih

theorem use_frN {h₀ h : Heap} {L : Addr} {m : Str → Option Value} {P : Prop} (F : Fr h₀ L h m) (k : ∀ g0 L0 m₀, g0 = h₀ → L0 = L → m₀ = m → Fr h₀ L h m₀ → P) : P := k h₀ L m rfl rfl rfl F

theorem gcd_step {x y : Int} (hx : 0 ≤ x) (hy : 0 ≤ y) : Int.gcd y (x % y) = Int.gcd x y := by
  obtain ⟨a, rfl⟩ := Int.eq_ofNat_of_zero_le hx
  obtain ⟨b, rfl⟩ := Int.eq_ofNat_of_zero_le hy
  have : ((a : Int) % (b : Int)) = ((a % b : Nat) : Int) := by simp
  rw [this]
  show Nat.gcd b (a % b) = Nat.gcd a b
  rw [Nat.gcd_comm b, ← Nat.gcd_rec, Nat.gcd_comm]
theorem News.drop2 {g h : Heap} {L : Addr} {x y : Addr × Obj} {r : List (Addr × Obj)} (N : PyProof.Rows.News g L h (x :: y :: r)) : PyProof.Rows.News g L h r := fun p hp => N p (List.mem_cons_of_mem _ (List.mem_cons_of_mem _ hp))
end

section
open PySem PySem.W PyProof.Rows PySem.Calls

def WPost (I : Nat → Shared → Prop) (n : Nat) (Q : Flow → Shared → Prop) (f : Flow) (s : Shared) : Prop :=
  match f with
  | .next => ∃ m, m < n ∧ I m s
  | .cont => ∃ m, m < n ∧ I m s
  | .brk => Q .next s
  | .ret v => Q (.ret v) s
theorem whl_inv {prog : Program} {w : World} {A : Around} {E : Value → Shared → Prop} {env : Env} {test : PySem.Expr} {body orelse : List Stmt} {Q : Flow → Shared → Prop} (hE : PassesOwn (model prog w) A env E) (I : Nat → Shared → Prop)
    (turn : ∀ n s, I n s → wpAny (model prog w) A (isTrue test env (eval test env)) (fun b s₂ => WhlIf b (wpAny (model prog w) A (execs body env) (WPost I n Q) E s₂) (wpAny (model prog w) A (execs orelse env) Q E s₂)) E s) :
    ∀ n s, I n s → WhlRest prog w A E env test body orelse Q 1 s := by
  intro n
  induction n using Nat.strongRecOn with
  | ind n ih =>
    intro s h
    refine whl_turn (k := 0) hE (wpAny_mono (turn n s h) (fun b s₂ p => ?_) fun _ _ e => e)
    cases b with
    | false => exact p
    | true =>
      have p' : wpAny (model prog w) A (execs body env) (WPost I n Q) E s₂ := p
      refine wpAny_mono p' (fun f s₃ q => ?_) fun _ _ e => e
      cases f with
      | next => obtain ⟨m, hm, hi⟩ := q; exact ih m hm s₃ hi
      | cont => obtain ⟨m, hm, hi⟩ := q; exact ih m hm s₃ hi
      | brk => exact q
      | ret v => exact q
end

section
open PySem PySem.W PyProof.Rows PySem.Calls

theorem rangeRest_inv {prog : Program} {w : World} {A : Around} {E : Value → Shared → Prop} {h₀ : Heap} {env : Env} {x : Str} {body : List Stmt} {Q : Flow → Shared → Prop} {s : Shared} {I : Addr} {a : Int} {n : Nat}
    (J : Nat → (Str → Option Value) → List (Addr × Obj) → Prop)
    (turn : ∀ i m news t h tk, i < n → J i m news → Fr h₀ env.locals h (fun y => if y = x then some (.int (a + (i : Int)) t) else m y) →
      News h₀ env.locals h ((I, itR (a + ((i + 1 : Nat) : Int)) ((n : Int) - ((i + 1 : Nat) : Int))) :: news) →
      wpAny (model prog w) A (execs body env) (UnrPost h₀ env.locals { s with heap := h, toks := tk } I (itR (a + ((i + 1 : Nat) : Int)) ((n : Int) - ((i + 1 : Nat) : Int))) (J (i + 1)) Q) E { s with heap := h, toks := tk })
    (done : ∀ m news h tk, J n m news → Fr h₀ env.locals h m → News h₀ env.locals h news → Q .next { s with heap := h, toks := tk }) :
    ∀ (k i : Nat) m news, i + k = n → J i m news → RangeRest prog w A E h₀ env x body Q s I a n k i m news := by
  intro k
  induction k with
  | zero =>
    intro i m news hd hJ
    have : i = n := by omega
    subst this
    exact fun h tk F N => done m news h tk hJ F N
  | succ k ih =>
    intro i m news hd hJ
    refine RangeRest.succ fun t h tk F N => ?_
    exact wpAny_mono (turn i m news t h tk (by omega) hJ F N) (fun f s₂ p => unrPost_mono (fun m' n' x => ih (i + 1) m' n' (by omega) x) p) fun _ _ e => e
theorem listRest_inv {prog : Program} {w : World} {A : Around} {E : Value → Shared → Prop} {h₀ : Heap} {env : Env} {x : Str} {body : List Stmt} {Q : Flow → Shared → Prop} {s : Shared} {I : Addr} {lp : Addr × Obj} (vs : List Value)
    (J : Nat → (Str → Option Value) → List (Addr × Obj) → Prop)
    (turn : ∀ i v m news (it : Obj) h tk, vs[i]? = some v → lp ∈ news → J i m news → it.cls = .type "list_iterator" → Fr h₀ env.locals h (fun y => if y = x then some v else m y) → News h₀ env.locals h ((I, it) :: news) →
      wpAny (model prog w) A (execs body env) (UnrPost h₀ env.locals { s with heap := h, toks := tk } I it (fun m' n' => lp ∈ n' ∧ J (i + 1) m' n') Q) E { s with heap := h, toks := tk })
    (done : ∀ m news h tk, J vs.length m news → lp ∈ news → Fr h₀ env.locals h m → News h₀ env.locals h news → Q .next { s with heap := h, toks := tk }) :
    ∀ (r : List Value) (i : Nat) m news, vs.drop i = r → i ≤ vs.length → J i m news → lp ∈ news → ListRest prog w A E h₀ env x body Q s I lp r m news := by
  intro r
  induction r with
  | nil =>
    intro i m news hd hle hJ hlp
    have : i = vs.length := by have := congrArg List.length hd; simp at this; omega
    subst this
    exact fun h tk F N => done m news h tk hJ hlp F N
  | cons v r ih =>
    intro i m news hd hle hJ hlp
    have hlt : i < vs.length := by have := congrArg List.length hd; simp at this; omega
    have hv : vs[i]? = some v := by
      have := congrArg (·[0]?) hd
      simpa using this
    have hd' : vs.drop (i + 1) = r := by rw [← List.drop_drop, hd]; rfl
    refine ListRest.succ fun it h tk hc F N => ?_
    exact wpAny_mono (turn i v m news it h tk hv hlp hJ hc F N) (fun f s₂ p => unrPost_mono (fun m' n' x => ⟨x.1, ih (i + 1) m' n' hd' (by omega) x.2 x.1⟩) p) fun _ _ e => e
theorem frame4 {m m₀ : Str → Option Value} {x1 x2 x3 x4 : Str} (h : ∀ z, z ≠ x1 → z ≠ x2 → z ≠ x3 → z ≠ x4 → m z = m₀ z) : m = fun z => if z = x1 then m x1 else if z = x2 then m x2 else if z = x3 then m x3 else if z = x4 then m x4 else m₀ z := by
  funext z
  by_cases h1 : z = x1
  · subst h1; simp
  · by_cases h2 : z = x2
    · subst h2; simp [h1]
    · by_cases h3 : z = x3
      · subst h3; simp [h1, h2]
      · by_cases h4 : z = x4
        · subst h4; simp [h1, h2, h3]
        · simp [h1, h2, h3, h4, h z h1 h2 h3 h4]

def tieStep (len : Int) (ls : List Int) (q : Nat) : List Int :=
  (ls.set q (min (ls.getD q 0) (ls.getD (q + len.toNat) 0))).set (q + len.toNat) (min (ls.getD q 0) (ls.getD (q + len.toNat) 0))
def tieSteps (len : Int) (ls : List Int) : Nat → List Int
  | 0 => ls
  | q + 1 => tieStep len (tieSteps len ls q) q
theorem tieSteps_length (len : Int) (ls : List Int) : ∀ q, (tieSteps len ls q).length = ls.length := by
  intro q
  induction q with
  | zero => rfl
  | succ q ih => simp [tieSteps, tieStep, ih]
def tieLens (many : Nat) (ls : List Int) : List Int → List Int
  | [] => ls
  | len :: r => tieLens many (tieSteps len ls (many - len.toNat)) r
def tieRounds (many : Nat) (lens : List Int) (ls : List Int) : Nat → List Int
  | 0 => ls
  | i + 1 => tieLens many (tieRounds many lens ls i) lens
theorem tieLens_length (many : Nat) (lens : List Int) : ∀ ls, (tieLens many ls lens).length = ls.length := by
  induction lens with
  | nil => intro ls; rfl
  | cons a r ih => intro ls; simp [tieLens, ih, tieSteps_length]
theorem tieRounds_length (many : Nat) (lens ls : List Int) : ∀ q, (tieRounds many lens ls q).length = ls.length := by
  intro q
  induction q with
  | zero => rfl
  | succ q ih => simp [tieRounds, tieLens_length, ih]
theorem tieLens_snoc (many : Nat) (lens : List Int) (x : Int) : ∀ ls, tieLens many ls (lens ++ [x]) = tieSteps x (tieLens many ls lens) (many - x.toNat) := by
  induction lens with
  | nil => intro ls; rfl
  | cons a r ih => intro ls; simp [tieLens, ih]

theorem ints_item {vs : List Value} {ns : List Int} {i : Nat} {v : Value} (hi : IntsAre vs ns) (h : vs[i]? = some v) : ∃ d t, ns[i]? = some d ∧ v = .int d t := by
  have hlen := hi.length
  have hlt : i < vs.length := (List.getElem?_eq_some_iff.mp h).1
  have hj : i < ns.length := by omega
  obtain ⟨t, ht⟩ := hi.get i ns[i] (by simp [hj])
  rw [h] at ht
  exact ⟨_, t, by rw [List.getElem?_eq_getElem hj], Option.some.inj ht⟩

theorem tieStep_eq {len : Int} {ls ls2 : List Int} {q : Nat} (hl : tieSteps len ls q = ls2) (h : 0 ≤ len) :
    tieSteps len ls (q + 1) = (ls2.set (0 + (q : Int)).toNat (if ls2.getD (0 + (q : Int) + len).toNat 0 < ls2.getD (0 + (q : Int)).toNat 0 then ls2.getD (0 + (q : Int) + len).toNat 0 else ls2.getD (0 + (q : Int)).toNat 0)).set (0 + (q : Int) + len).toNat (if ls2.getD (0 + (q : Int) + len).toNat 0 < ls2.getD (0 + (q : Int)).toNat 0 then ls2.getD (0 + (q : Int) + len).toNat 0 else ls2.getD (0 + (q : Int)).toNat 0) := by
  show tieStep len (tieSteps len ls q) q = _
  rw [hl]
  have e1 : (0 + (q : Int)).toNat = q := by omega
  have e2 : (0 + (q : Int) + len).toNat = q + len.toNat := by omega
  have e3 : ∀ a b : Int, (if b < a then b else a) = min a b := by intro a b; split <;> omega
  rw [e1, e2, e3]
  rfl

theorem off_map {I : Addr} {l l' : List (Addr × Obj)} (h : ∀ p ∈ l, p.1 < I) (e : l'.map (·.1) = l.map (·.1)) : ∀ p ∈ l', p.1 ≠ I := by
  intro p hp
  have h1 : p.1 ∈ l'.map (·.1) := List.mem_map_of_mem hp
  rw [e] at h1
  obtain ⟨q, hq, e2⟩ := List.mem_map.mp h1
  have := h q hq
  rw [e2] at this
  exact Nat.ne_of_lt this
theorem take_snoc {l : List Int} {j : Nat} {x : Int} (h : l[j]? = some x) : l.take (j + 1) = l.take j ++ [x] := by
  rw [List.take_add_one, h]; rfl

theorem bytesRest_inv {prog : Program} {w : World} {A : Around} {E : Value → Shared → Prop} {h₀ : Heap} {env : Env} {x : Str} {body : List Stmt} {Q : Flow → Shared → Prop} {s : Shared} {I : Addr} (l : List Int)
    (J : Nat → (Str → Option Value) → List (Addr × Obj) → Prop)
    (turn : ∀ i c m news (it : Obj) u h tk, l[i]? = some c → 0 ≤ c → c < 256 → J i m news → Fr h₀ env.locals h (fun y => if y = x then some (.int c u) else m y) → News h₀ env.locals h ((I, it) :: news) →
      wpAny (model prog w) A (execs body env) (UnrPost h₀ env.locals { s with heap := h, toks := tk } I it (J (i + 1)) Q) E { s with heap := h, toks := tk })
    (done : ∀ m news h tk, J l.length m news → Fr h₀ env.locals h m → News h₀ env.locals h news → Q .next { s with heap := h, toks := tk }) :
    ∀ (r : List Int) (i : Nat) m news, l.drop i = r → i ≤ l.length → J i m news → BytesRest prog w A E h₀ env x body Q s I r m news := by
  intro r
  induction r with
  | nil =>
    intro i m news hd hle hJ
    have : i = l.length := by have := congrArg List.length hd; simp at this; omega
    subst this
    exact fun h tk F N => done m news h tk hJ F N
  | cons v r ih =>
    intro i m news hd hle hJ
    have hlt : i < l.length := by have := congrArg List.length hd; simp at this; omega
    have hv : l[i]? = some v := by
      have := congrArg (·[0]?) hd
      simpa using this
    have hd' : l.drop (i + 1) = r := by rw [← List.drop_drop, hd]; rfl
    refine BytesRest.succ fun c0 c1 u it h tk F N => ?_
    exact wpAny_mono (turn i v m news it u h tk hv c0 c1 hJ F N) (fun f s₂ p => unrPost_mono (fun m' n' x => ih (i + 1) m' n' hd' (by omega) x) p) fun _ _ e => e
end

section
def bval (l : List Int) : Int := l.foldl (fun a c => a * 256 + c) 0
def b64t : List UInt8 := [65, 66, 67, 68, 69, 70, 71, 72, 73, 74, 75, 76, 77, 78, 79, 80, 81, 82, 83, 84, 85, 86, 87, 88, 89, 90, 97, 98, 99, 100, 101, 102, 103, 104, 105, 106, 107, 108, 109, 110, 111, 112, 113, 114, 115, 116, 117, 118, 119, 120, 121, 122, 48, 49, 50, 51, 52, 53, 54, 55, 56, 57, 43, 47]
/-- the sign's number of a sextet -/
def b64n (i : Int) : Int := ((b64t.getD i.toNat 0).toNat : Int)
theorem bval_snoc (l : List Int) (c : Int) : bval (l ++ [c]) = bval l * 256 + c := by simp [bval]
/-- the first t signs' numbers of a number of nb bits -/
def sexts (f : Int → Int) (V : Int) (nb t : Nat) : List Int := (List.range t).map fun j => f (V / 2 ^ (nb - 6 * (j + 1)) % 64)
theorem sexts_length (f : Int → Int) (V : Int) (nb t : Nat) : (sexts f V nb t).length = t := by simp [sexts]
theorem sexts_succ (f : Int → Int) (V : Int) (nb t : Nat) : sexts f V nb (t + 1) = sexts f V nb t ++ [f (V / 2 ^ (nb - 6 * (t + 1)) % 64)] := by
  simp [sexts, List.range_succ]
theorem sexts_ext (f : Int → Int) {V c : Int} {nb t : Nat} (h : 6 * t ≤ nb) (c0 : 0 ≤ c) (c1 : c < 256) : sexts f (V * 256 + c) (nb + 8) t = sexts f V nb t := by
  unfold sexts
  apply List.map_congr_left
  intro j hj
  have hj' : j < t := List.mem_range.mp hj
  have e : nb + 8 - 6 * (j + 1) = 8 + (nb - 6 * (j + 1)) := by omega
  rw [e, Int.pow_add, ← Int.ediv_ediv_of_nonneg (by decide)]
  have e2 : (V * 256 + c) / 2 ^ 8 = V := by
    show (V * 256 + c) / 256 = V
    omega
  rw [e2]
theorem or_shift {x c : Int} (hx : 0 ≤ x) (c0 : 0 ≤ c) (c1 : c < 256) : Builtin.bitOr (x * 2 ^ Int.toNat 8) c = x * 256 + c := by
  obtain ⟨n, rfl⟩ := Int.eq_ofNat_of_zero_le hx
  obtain ⟨m, rfl⟩ := Int.eq_ofNat_of_zero_le c0
  have e0 : ((n : Int) * 2 ^ Int.toNat 8) = ((n * 256 : Nat) : Int) := by
    have : (2 : Int) ^ Int.toNat 8 = 256 := by decide
    rw [this]; simp
  rw [e0]
  have h1 := bitXor_and ((n * 256 : Nat) : Int) (m : Int)
  have h2 : Builtin.bitAnd ((n * 256 : Nat) : Int) (m : Int) = 0 := by
    unfold Builtin.bitAnd
    have a1 : (0 : Int) ≤ ((n * 256 : Nat) : Int) := Int.natCast_nonneg _
    have a2 : (0 : Int) ≤ (m : Int) := Int.natCast_nonneg _
    simp only [a1, a2, decide_true, Int.toNat_natCast]
    have : n * 256 &&& m = 0 := by
      apply Nat.eq_of_testBit_eq
      intro i
      have e : n * 256 = n <<< 8 := by rw [Nat.shiftLeft_eq]
      rw [e, Nat.testBit_and, Nat.testBit_shiftLeft, Nat.zero_testBit]
      by_cases hi : 8 ≤ i
      · have : m.testBit i = false := Nat.testBit_lt_two_pow (Nat.lt_of_lt_of_le (by omega : m < 2 ^ 8) (Nat.pow_le_pow_right (by decide) hi))
        simp [this]
      · simp [hi]
    rw [this]; rfl
  have h3 : Builtin.bitXor ((n * 256 : Nat) : Int) (m : Int) = Builtin.bitOr ((n * 256 : Nat) : Int) (m : Int) - Builtin.bitAnd ((n * 256 : Nat) : Int) (m : Int) := rfl
  rw [h2] at h1 h3
  rw [h1] at h3
  simp only [Int.natCast_mul] at h3 ⊢
  omega
theorem and_low16 (x : Int) : Builtin.bitAnd x 65535 = x % 65536 := bitAnd_m16 x
/-- between the bytes: what is left over, and the signs so far -/
theorem b64_turn {lc V c : Int} {lb : Nat} (c0 : 0 ≤ c) (c1 : c < 256) (hlb : lb ≤ 4) (h : lc % 2 ^ lb = V % 2 ^ lb) :
    (lc * 256 + c) % 65536 % 2 ^ (lb + 8) = (V * 256 + c) % 2 ^ (lb + 8) := by
  have key : ∀ x : Int, (x * 256 + c) % 2 ^ (lb + 8) = x % 2 ^ lb * 256 + c := by
    intro x
    have hp : (0 : Int) < 2 ^ lb := Int.pow_pos (by decide)
    have e : (2 : Int) ^ (lb + 8) = 2 ^ lb * 256 := by rw [Int.pow_add]; rfl
    rw [e]
    have h1 := Int.emod_add_mul_ediv x (2 ^ lb)
    have h2 := Int.emod_nonneg x (Int.ne_of_gt hp)
    have h3 := Int.emod_lt_of_pos x hp
    have e2 : x * 256 + c = (x % 2 ^ lb * 256 + c) + 2 ^ lb * 256 * (x / 2 ^ lb) := by
      have : 2 ^ lb * 256 * (x / 2 ^ lb) = 2 ^ lb * (x / 2 ^ lb) * 256 := by rw [Int.mul_assoc, Int.mul_comm 256, ← Int.mul_assoc]
      rw [this]
      generalize 2 ^ lb * (x / 2 ^ lb) = y at h1
      generalize x % 2 ^ lb = z at h1
      omega
    have h4 : (x % 2 ^ lb + 1) * 256 ≤ 2 ^ lb * 256 := Int.mul_le_mul_of_nonneg_right (by omega) (by decide)
    rw [e2, Int.add_mul_emod_self_left]
    refine Int.emod_eq_of_lt (by omega) ?_
    generalize (2 : Int) ^ lb * 256 = P at h4
    omega
  have hd : (2 : Int) ^ (lb + 8) ∣ 65536 := by
    refine ⟨2 ^ (8 - lb), ?_⟩
    rw [← Int.pow_add]
    have : lb + 8 + (8 - lb) = 16 := by omega
    rw [this]; decide
  rw [Int.emod_emod_of_dvd _ hd, key, key, h]
theorem b64_idx {lc V : Int} {lb k : Nat} (h : lc % 2 ^ lb = V % 2 ^ lb) (hk : 6 ≤ k) (hkl : k ≤ lb) : Builtin.bitAnd (lc.fdiv (2 ^ (k - 6))) 63 = V / 2 ^ (k - 6) % 64 := by
  have hp : (0 : Int) < 2 ^ (k - 6) := Int.pow_pos (by decide)
  rw [bitAnd_m6, Int.fdiv_eq_ediv_of_nonneg _ (Int.le_of_lt hp)]
  have key : ∀ x : Int, x / 2 ^ (k - 6) % 64 = x % 2 ^ lb % 2 ^ k / 2 ^ (k - 6) := by
    intro x
    have hd : (2 : Int) ^ k ∣ 2 ^ lb := ⟨2 ^ (lb - k), by rw [← Int.pow_add]; congr 1; omega⟩
    have e : (2 : Int) ^ k = 2 ^ (k - 6) * 64 := by
      have : k = (k - 6) + 6 := by omega
      rw [this, Int.pow_add, Nat.add_sub_cancel]; rfl
    rw [Int.emod_emod_of_dvd _ hd, e, emod_mul_div x hp]
  rw [key, key, h]
theorem low_of_low {lc V : Int} {lb k : Nat} (h : lc % 2 ^ lb = V % 2 ^ lb) (hkl : k ≤ lb) : lc % 2 ^ k = V % 2 ^ k := by
  have hd : (2 : Int) ^ k ∣ 2 ^ lb := ⟨2 ^ (lb - k), by rw [← Int.pow_add]; congr 1; omega⟩
  rw [← Int.emod_emod_of_dvd lc hd, h, Int.emod_emod_of_dvd _ hd]

theorem b64n_byte (i : Int) : 0 ≤ b64n i ∧ b64n i < 256 := by
  unfold b64n
  have := (b64t.getD i.toNat 0).toNat_lt
  omega
theorem sexts_byte (V : Int) (nb t : Nat) : ∀ n ∈ sexts b64n V nb t, 0 ≤ n ∧ n < 256 := by
  intro n hn
  obtain ⟨j, _, rfl⟩ := List.mem_map.mp hn
  exact b64n_byte _

theorem bval_rev (l : List Int) : bval l.reverse = dval 8 l := by
  induction l with
  | nil => rfl
  | cons d r ih =>
    rw [List.reverse_cons, bval_snoc, ih]
    show dval 8 r * 256 + d = d + dval 8 r * 2 ^ 8
    have : (2 : Int) ^ 8 = 256 := by decide
    rw [this]; omega
theorem dval_zeros (n : Nat) (l : List Int) (j : Nat) : dval n (l ++ List.replicate j 0) = dval n l := by
  rw [dval_append]
  have : dval n (List.replicate j 0) = 0 := by
    induction j with
    | zero => rfl
    | succ j ih => rw [List.replicate_succ]; simp [dval, ih]
  rw [this]; simp
end

section
open PySem PySem.W PyProof.Rows PySem.Builtin

open _codecs
theorem forIn_steps {β : Type} {f : Nat → β → Sem (ForInStep β)} (g : Nat → β) : ∀ (n s a : Nat), (∀ i, i < n → ∀ x, f x (g (a + i)) = pure (.yield (g (a + i + 1)))) →
  forIn (List.range' s n) (g a) f = (pure (g (a + n)) : Sem β)
  | 0, s, a, _ => by rw [List.range'_zero]; rfl
  | n + 1, s, a, h => by
    rw [List.range'_succ, List.forIn_cons, show f s (g a) = _ from h 0 (by omega) s, pure_bind]
    show forIn (List.range' (s + 1) n) (g (a + 1)) f = _
    rw [forIn_steps g n (s + 1) (a + 1) (fun i hi x => by have := h (i + 1) (by omega) x; rw [show a + (i + 1) = a + 1 + i by omega] at this; exact this)]
    rw [show a + 1 + n = a + (n + 1) by omega]
theorem asciiRun {id : String} {b : Array UInt8} (hb : ∀ i, i < b.size → (b.getD i 0).toNat < 128) (hs : b.size ≤ 1000) :
  runDecoder id asciiDecoder none true b 0 [] = pure ((b.toList.map (·.toNat)).toArray, b.size) := by
  unfold runDecoder
  simp only [Std.Legacy.Range.forIn_eq_forIn_range', Std.Legacy.Range.size]
  have e := fun F h => forIn_steps (f := F) (g := fun i => (i, ((b.toList.take i).map (·.toNat)).toArray, ({ held := [] } : Faults))) b.size 0 0 h
  simp only [List.take_zero, List.map_nil, Nat.zero_add, Nat.sub_zero] at e
  rw [show (b.size - 0 + 1 - 1) / 1 = b.size by omega]
  rw [e]
  · rw [pure_bind]
    rw [List.take_of_length_le (by simp)]
  · intro i hi x
    have h1 : ¬ ((((b.toList.take i).map (·.toNat)).toArray).size > sizeLine) := by
      rw [sizeLine_eq]; simp; omega
    rw [if_neg h1]
    rw [if_neg (by show ¬ i ≥ b.size; omega)]
    have h2 : asciiDecoder.find true b i = .char (b.getD i 0).toNat (i + 1) := by
      show (if (b.getD i 0).toNat < 128 then Found.char (b.getD i 0).toNat (i + 1) else _) = _
      rw [if_pos (hb i hi)]
    show (match asciiDecoder.find true b i with | Found.text cs nx => _ | Found.refuse tag => _ | Found.bad stop reason mayGrow => _) = _
    rw [h2]
    show pure (ForInStep.yield (i + 1, _, _)) = _
    have h3 : (b.toList.take (i + 1)) = b.toList.take i ++ [b.getD i 0] := by
      rw [List.take_succ]
      simp [Array.getD, hi]
    rw [h3]
    simp
theorem road_ascii {id : String} {b : Array UInt8} : decodeRoad id b (PySem.Str.ofString "ascii") none [] = (runDecoder id asciiDecoder none true b 0 [] >>= fun r => mkStr ⟨r.1⟩) := by kernel_rfl
theorem entry_ascii {c : UInt8} {cs : List UInt8} {t u : Tok} : «bytes.decode» ⟨[.bytes (c :: cs).toArray t, .str (PySem.Str.ofString "ascii") u], []⟩ = (mkStr (PySem.Str.ofString "utf-8") >>= fun _ => mkStr (PySem.Str.ofString "ascii") >>= fun e => mkStr (PySem.Str.ofString "bytes.decode") >>= fun d =>
    call (.builtin "_codecs.decode.text") [.bytes (c :: cs).toArray t, e, .none, d] >>= fun v => ret v) := by kernel_rfl
theorem args_bytes_decode_2 (a b : Value) : argsOk "bytes.decode" ⟨[a, b], []⟩ := by
  unfold argsOk; rw [signature?_of (id := "bytes.decode") (n := ['e', 'd', 'o', 'c', 'e', 'd']) (o := ['s', 'e', 't', 'y', 'b']) (by kernel_rfl) FB.owner_bytes]; kernel_rfl
theorem meets_textA {b : Array UInt8} {t t1 t2 : Tok} {x d : PySem.Str} {n : Nat} (hd : ∀ id, _codecs.runDecoder id _codecs.asciiDecoder none true b 0 [] = pure (x.cps, n)) :
    Meets («_codecs.decode.text» ⟨[.bytes b t, .str (PySem.Str.ofString "ascii") t1, .none, .str d t2], []⟩) (fun _ R s => x.length ≤ sizeLine ∧ R (.ok (.ret (.str x s.toks))) { s with toks := s.toks + 1 }) := by
  refine .of_wp fun prog w A R s hS => ?_
  obtain ⟨hsz, h⟩ := hS
  show wpAny _ _ (Bytes.bytesLike _ (.bytes b t) >>= fun r => _) _ _ s
  refine wpAny_bind (wpAny_of_eq KBd.like_eq ?_)
  refine wpAny_bind (wpAny_of_eq KBd.held_eq ?_)
  show wpAny _ _ (_codecs.decodeRoad _ b (PySem.Str.ofString "ascii") none [] >>= fun v => _) _ _ s
  rw [road_ascii, hd]
  refine wpAny_bind (wpAny_bind (wpAny_pure ?_))
  exact wpAny_mkStr (wpAny_pure ⟨_, rfl, h⟩) hsz
theorem meets_decodeA {c : UInt8} {cs : List UInt8} {t u : Tok} {x : PySem.Str} {n : Nat} (hd : ∀ id, _codecs.runDecoder id _codecs.asciiDecoder none true (c :: cs).toArray 0 [] = pure (x.cps, n)) :
    Meets («bytes.decode» ⟨[.bytes (c :: cs).toArray t, .str (PySem.Str.ofString "ascii") u], []⟩) (fun _ R s => x.length ≤ sizeLine ∧ ∀ t' k, R (.ok (.ret (.str x t'))) { s with toks := k }) := by
  refine .of_wp fun prog w A R s hS => ?_
  obtain ⟨hsz, h⟩ := hS
  rw [entry_ascii]
  refine wpAny_bind (wpAny_mkStr ?_ (by decide))
  refine wpAny_bind (wpAny_mkStr ?_ (by decide))
  refine wpAny_bind (wpAny_mkStr ?_ (by decide))
  exact wpAny_bind (call_function_meets KBd.kind_text KBd.plain_text KBd.entry_text (KBd.args_text _ _ _ _) (meets_textA hd) ⟨hsz, wpAny_pure ⟨_, rfl, h _ _⟩⟩)
theorem decode_ascii {prog : Program} {w : World} {A : Around} {E : Value → Shared → Prop} {s : Shared} {b : Array UInt8} {t u : Tok} {Q : Value → Shared → Prop}
    (hb : ∀ i, i < b.size → (b.getD i 0).toNat < 128) (h0 : 0 < b.size) (hs : b.size ≤ 1000) (h : ∀ t' k, Q (.str ⟨(b.toList.map (·.toNat)).toArray⟩ t') { s with toks := k }) :
    wpAny (model prog w) A (call (.builtin "bytes.decode") [.bytes b t, .str (PySem.Str.ofString "ascii") u]) Q E s := by
  obtain ⟨l⟩ := b
  obtain _ | ⟨c, cs⟩ := l
  · exact absurd h0 (by simp)
  · exact call_meets FB.slot_bytes_decode (typeIs_bytes _ _ _) FB.entry_bytes_decode (args_bytes_decode_2 _ _) (meets_decodeA (x := ⟨((c :: cs).map (·.toNat)).toArray⟩) (fun id => asciiRun hb hs))
      ⟨by rw [sizeLine_eq]; simp [Str.length] at hs ⊢; omega, h⟩
theorem bInts_byteArr {l : List Int} (h : ∀ n ∈ l, 0 ≤ n ∧ n < 256) : KBw.bInts (byteArr l) = l := by
  unfold KBw.bInts byteArr
  simp only [List.map_map]
  rw [List.map_congr_left (g := fun n => n) ?_]
  · exact List.map_id' _
  · intro n hn
    have := h n hn
    simp [Function.comp]
    omega
/-- the text of the signs at these places -/
def txt (l : List Int) : PySem.Str := ⟨(l.map fun i => (b64n i).toNat).toArray⟩
theorem sexts_map (f : Int → Int) (V : Int) (nb t : Nat) : sexts f V nb t = (sexts (fun i => i) V nb t).map f := by
  unfold sexts; rw [List.map_map]; rfl
theorem txt_dec (V : Int) (nb t : Nat) : (⟨((byteArr (sexts b64n V nb t)).toList.map (·.toNat)).toArray⟩ : PySem.Str) = txt (sexts (fun i => i) V nb t) := by
  unfold txt byteArr
  rw [sexts_map]
  simp only [List.map_map]
  congr 2
  refine List.map_congr_left fun i _ => ?_
  have := b64n_byte i
  simp [Function.comp]
  omega
theorem b64n_ascii (i : Int) : (b64n i).toNat < 128 := by
  unfold b64n
  have key : ∀ c ∈ b64t, c.toNat < 128 := by decide +kernel
  by_cases h : i.toNat < b64t.length
  · have := key _ (List.getElem_mem h)
    rw [List.getD_eq_getElem?_getD, List.getElem?_eq_getElem h]
    simpa using this
  · rw [List.getD_eq_getElem?_getD, List.getElem?_eq_none (by omega)]
    decide
theorem sexts_ascii (V : Int) (nb t : Nat) : ∀ i, i < (byteArr (sexts b64n V nb t)).size → ((byteArr (sexts b64n V nb t)).getD i 0).toNat < 128 := by
  intro i hi
  have h1 : ((byteArr (sexts b64n V nb t)).toList.map (·.toNat)) = (sexts (fun i => i) V nb t).map fun i => (b64n i).toNat := by
    have := congrArg Str.cps (txt_dec V nb t)
    exact congrArg Array.toList this
  have h2 : ((byteArr (sexts b64n V nb t)).getD i 0).toNat ∈ ((byteArr (sexts b64n V nb t)).toList.map (·.toNat)) := by
    refine List.mem_map.mpr ⟨_, ?_, rfl⟩
    rw [Array.getD_eq_getD_getElem?, Array.getElem?_eq_getElem hi]
    simp
  rw [h1] at h2
  obtain ⟨j, _, e⟩ := List.mem_map.mp h2
  rw [← e]
  exact b64n_ascii j
end

section
open PySem PySem.W PyProof.Rows PySem.Builtin

theorem mapInt_K {prog : Program} {w : World} {K : Frag} {h : Heap} {a : Addr} {es : Array DictEntry} {n : Nat} (X : K.In h) (hl : K.lookup a = some ⟨.type "dict", none, .dict es n, #[]⟩)
    (hk : ∀ e ∈ es.toList, ∃ k t, e.key = .int k t ∧ e.hash = hashInt k) : h.MapOf (intKind prog w) a (fun k => findBy Value.isInt es k) := by
  refine ⟨_, es, n, X _ _ hl, ⟨rfl, rfl, rfl⟩, rfl, ?_, fun _ => rfl⟩
  intro e he
  obtain ⟨k, t, e1, e2⟩ := hk e (Array.mem_toList_iff.mpr he)
  exact ⟨k, by show Value.isInt k e.key = true; rw [e1]; simp [Value.isInt], e2⟩
def keyOk (e : DictEntry) : Bool := match e.key with
  | .int k _ => e.hash == hashInt k
  | _ => false
theorem keyOk_ok {l : List DictEntry} (h : l.all keyOk = true) : ∀ e ∈ l, ∃ k t, e.key = .int k t ∧ e.hash = hashInt k := by
  intro e he
  have := List.all_eq_true.mp h e he
  unfold keyOk at this
  split at this
  · exact ⟨_, _, by assumption, by simpa using this⟩
  · exact absurd this (by simp)
def strIs (x : Str) (v : Option Value) : Bool := match v with
  | some (.str y _) => y == x
  | _ => false
theorem strIs_ok {x : Str} {v : Option Value} (h : strIs x v = true) : ∃ t, v = some (.str x t) := by
  unfold strIs at h
  split at h
  · exact ⟨_, by rw [eq_of_beq h]⟩
  · exact absurd h (by simp)
theorem tab117 (w : World) : ∃ es n, (ex2.heap_1 w.params).lookup 117 = some ⟨.type "dict", none, .dict es n, #[]⟩ ∧ (∀ e ∈ es.toList, ∃ k t, e.key = .int k t ∧ e.hash = hashInt k) ∧
    (∃ t, findBy Value.isInt es 43 = some (.str (Str.ofString "\\+") t)) ∧ ((b64t.all fun q => q == 43 || (findBy Value.isInt es (q.toNat : Int)).isNone) = true) := by
  refine ⟨_, _, rfl, ?_, ?_, ?_⟩
  · exact keyOk_ok (by kernel_rfl)
  · exact strIs_ok (by kernel_rfl)
  · kernel_rfl
theorem sub_KeyError_Lookup : isSubtype (.type "KeyError") (.type "LookupError") = pure true := by rw [isSubtype_type]; kernel_rfl
open Builtin.Str in
theorem lookup_keep {prog : Program} {w : World} {A : Around} {E : Value → Shared → Prop} {s : Shared} {d : Addr} {f : Int → Option Value} {c : Nat} {Q : Mapped → Shared → Prop}
    (hd : (d == sysModules) = false) (hh : A.handled = none) (hm : s.heap.MapOf (intKind prog w) d f) (hf : f c = none)
    (h : ∀ h' k, (∀ b o, s.heap.get? b = some o → h'.get? b = some o) → Q .keep { s with heap := h', toks := k }) :
    wpAny (model prog w) A (tableLookup (.ref d) c) Q E s := by
  unfold tableLookup
  refine wpAny_bind (wpAny_attempt ?_)
  refine wpAny_bind (wpAny_mkInt ?_)
  refine wpAny_getItem_missing_of (k := (c : Int)) ?_ hd hh hm hf ?_
  · show ((c : Int) == (c : Int)) = true
    exact beq_self_eq_true _
  · intro h' e hx
    obtain ⟨ob, t, he, hc, _⟩ := hx.there
    refine wpAny_bind (wpAny_isInstance (T := "KeyError") (U := "LookupError") (b := true) ⟨ob, he, hc⟩ sub_KeyError_Lookup ?_)
    rw [if_pos rfl]
    refine wpAny_bind (wpAny_rule ?_)
    exact wpAny_pure (h _ _ hx.keeps)
open Builtin.Str in
theorem lookup_text {prog : Program} {w : World} {A : Around} {E : Value → Shared → Prop} {s : Shared} {d : Addr} {f : Int → Option Value} {c : Nat} {x : PySem.Str} {t : Tok} {Q : Mapped → Shared → Prop}
    (hm : s.heap.MapOf (intKind prog w) d f) (hf : f c = some (.str x t))
    (h : ∀ k, Q (.text x) { s with toks := k }) :
    wpAny (model prog w) A (tableLookup (.ref d) c) Q E s := by
  unfold tableLookup
  refine wpAny_bind (wpAny_attempt ?_)
  refine wpAny_bind (wpAny_mkInt ?_)
  refine wpAny_getItem_of (k := (c : Int)) ?_ hm hf ?_
  · show ((c : Int) == (c : Int)) = true
    exact beq_self_eq_true _
  · exact wpAny_pure (h _)
theorem strOne_eq {q : Nat} {t : Tok} {v : Value} : Str.strOneArg "translate" ⟨[.str ⟨#[q]⟩ t, v], []⟩ = pure (.str ⟨#[q]⟩ t, ⟨#[q]⟩, v) := by kernel_rfl
theorem call_trans_keep {prog : Program} {w : World} {A : Around} {E : Value → Shared → Prop} {s : Shared} {d : Addr} {f : Int → Option Value} {q : Nat} {t : Tok} {Q : Value → Shared → Prop}
    (hd : (d == sysModules) = false) (hh : A.handled = none) (hm : s.heap.MapOf (intKind prog w) d f) (hf : f q = none) (hq : q < 128)
    (h : ∀ h' k t', (∀ b o, s.heap.get? b = some o → h'.get? b = some o) → Q (.str ⟨#[q]⟩ t') { s with heap := h', toks := k }) :
    wpAny (model prog w) A (call (.builtin "str.translate") [.str ⟨#[q]⟩ t, .ref d]) Q E s := by
  refine wpAny_call_entry F.slot_str_translate (typeIs_str _ _ _) F.entry_str_translate ?_ (F.args_str_translate_2 _ _)
  unfold Builtin.«str.translate»
  simp only [strOne_eq, pure_bind]
  have e1 : ((⟨#[q]⟩ : PySem.Str).length == 0) = false := rfl
  have e2 : (#[q] : Array Nat).all (fun x => decide (x < 128)) = true := by simp [hq]
  have e3 : Str.tooLong 0 = false := by decide +kernel
  simp only [e1, e2, e3, Bool.false_eq_true, if_false, List.forIn_toArray, List.forIn_cons, List.forIn_nil, if_true, bind_assoc, List.lookup_nil]
  refine wpAny_bind ?_
  refine lookup_keep hd hh hm hf ?_
  intro h' k hk
  have e4 : Str.tooLong (0 + 1) = false := by decide +kernel
  simp only [e4, Bool.false_eq_true, if_false, pure_bind]
  have e6 : (⟨List.foldl (fun acc (p : PySem.Str) => acc ++ p.cps) #[] ([⟨#[q]⟩] : List PySem.Str).reverse⟩ : PySem.Str) = ⟨#[q]⟩ := rfl
  rw [e6]
  exact wpAny_bind (wpAny_mkStr (wpAny_pure ⟨_, rfl, h _ _ _ hk⟩) (by rw [sizeLine_eq]; show 1 ≤ 16777216; omega))
theorem call_trans_text {prog : Program} {w : World} {A : Around} {E : Value → Shared → Prop} {s : Shared} {d : Addr} {f : Int → Option Value} {q : Nat} {t t2 : Tok} {x : PySem.Str} {Q : Value → Shared → Prop}
    (hm : s.heap.MapOf (intKind prog w) d f) (hf : f q = some (.str x t2)) (hq : q < 128) (hx : (x.length == 1) = false) (hx2 : x.length ≤ 1000)
    (h : ∀ k t', Q (.str x t') { s with toks := k }) :
    wpAny (model prog w) A (call (.builtin "str.translate") [.str ⟨#[q]⟩ t, .ref d]) Q E s := by
  refine wpAny_call_entry F.slot_str_translate (typeIs_str _ _ _) F.entry_str_translate ?_ (F.args_str_translate_2 _ _)
  unfold Builtin.«str.translate»
  simp only [strOne_eq, pure_bind]
  have e1 : ((⟨#[q]⟩ : PySem.Str).length == 0) = false := rfl
  have e2 : (#[q] : Array Nat).all (fun x => decide (x < 128)) = true := by simp [hq]
  have e3 : Str.tooLong 0 = false := by decide +kernel
  simp only [e1, e2, e3, Bool.false_eq_true, if_false, List.forIn_toArray, List.forIn_cons, List.forIn_nil, if_true, bind_assoc, List.lookup_nil]
  refine wpAny_bind ?_
  refine lookup_text hm hf ?_
  intro k
  have e5 : Str.tooLong (0 + x.length) = false := by unfold Str.tooLong; rw [sizeLine_eq]; simp; omega
  simp only [hx, Bool.false_and, Bool.false_eq_true, if_false, pure_bind, bind_assoc]
  refine wpAny_bind (wpAny_rule ?_)
  refine wpAny_bind (lookup_text hm hf ?_)
  intro k2
  simp only [e5, Bool.false_eq_true, if_false, pure_bind]
  have e6 : (⟨List.foldl (fun acc (p : PySem.Str) => acc ++ p.cps) #[] ([x] : List PySem.Str).reverse⟩ : PySem.Str) = x := by simp
  rw [e6]
  exact wpAny_bind (wpAny_mkStr (wpAny_pure ⟨_, rfl, h _ _⟩) (by rw [sizeLine_eq]; omega))
end

section
def boundApp (a : Addr) : Obj := { cls := .type "builtin_function_or_method", data := .fields #[.builtin "list.append", .ref a] }
theorem slot_md_get : Slot "method_descriptor" "__get__" "method_descriptor.__get__" :=
  .of (owner := "method_descriptor") (n := "__get__") (by rw [typeLookup_type, builtinLookup_eq_fast]; kernel_rfl) (by decide +kernel) (by decide +kernel) (by decide +kernel)
    (by first | exact .inl (by decide +kernel) | exact .inr (by decide +kernel)) (by rw [isSubtype_type]; kernel_rfl)
theorem md_set : typeLookup (.type "method_descriptor") "__set__" = pure none := by rw [typeLookup_type, builtinLookup_eq_fast]; kernel_rfl
theorem md_delete : typeLookup (.type "method_descriptor") "__delete__" = pure none := by rw [typeLookup_type, builtinLookup_eq_fast]; kernel_rfl
theorem entry_md_get : entryFor table "method_descriptor.__get__" = some Builtin.«method_descriptor.__get__» := entryFor_of_tree (by kernel_rfl)
theorem args_md_get (a b c : Value) : argsOk "method_descriptor.__get__" ⟨[a, b, c], []⟩ := by unfold argsOk; kernel_rfl
theorem typeOf_list_append : typeOf (.builtin "list.append") = pure (.type "method_descriptor") := by show builtinType _ = _; rw [builtinType_eq_fast]; kernel_rfl
theorem sub_list_append : isSubtype (.type "list") (.type (".".intercalate ("list.append".cutAt '.').dropLast)) = pure true := by
  have e0 : "list.append".cutAt '.' = ["list", "append"] := by first | rfl | decide +kernel
  rw [e0]
  have e1 : (".".intercalate ["list", "append"].dropLast) = "list" := by decide +kernel
  rw [e1, isSubtype_type]; kernel_rfl
section
variable {prog : Program} {w : World} {A : Around} {E : Value → Shared → Prop} {h : Heap} {g : Array GenState} {d : Drawn} {t : Nat} {os : OsState} {a : Addr} {o : Obj} {xs : Array Value} {k : Nat}
theorem app_get {R : Result → Shared → Prop} (hx : h.get? a = some (listOf xs k)) (hq : R (.ok (.ret (.ref h.objs.size))) ⟨h.push (boundApp a), g, d, t, os⟩) :
    codeAny (model prog w) A (.call (.builtin "method_descriptor.__get__") ⟨[.builtin "list.append", .ref a, .type "list"], []⟩) R ⟨h, g, d, t, os⟩ := by
  have hT : (⟨h, g, d, t, os⟩ : Shared).TypeIs (.ref a) "list" := ⟨_, hx, rfl⟩
  have hT5 : (⟨h, g, d, t, os⟩ : Shared).TypeIs (.builtin "list.append") "method_descriptor" := typeOf_list_append
  have f8 := sub_list_append
  have f9 : Manifest.toldItsClass.contains "list.append" = false := by decide +kernel
  refine codeAny_call_builtin slot_md_get.plain entry_md_get (slot_md_get.check _ _ _ _ _ _ _ _ hT5 (args_md_get _ _ _) ?_)
  repeat (any_goals (first | assumption | wp_step))
theorem app_entry {tk : Tok} {Q : Fin → Shared → Prop} (hx : h.get? a = some (listOf xs k)) (hq : Q (.done (.ret (.ref h.objs.size))) ⟨h.push (boundApp a), g, d, t, os⟩) :
    wpAny (model prog w) A (Builtin.«object.__getattribute__» ⟨[.ref a, .str "append" tk], []⟩) Q E ⟨h, g, d, t, os⟩ := by
  have hT : (⟨h, g, d, t, os⟩ : Shared).TypeIs (.ref a) "list" := ⟨_, hx, rfl⟩
  have hT5 : (⟨h, g, d, t, os⟩ : Shared).TypeIs (.builtin "list.append") "method_descriptor" := typeOf_list_append
  have f4 := slot_list_append.lookup
  have f5 := typeOf_list_append
  have f6 := slot_md_get.lookup
  have f7 := md_set
  have f8 := md_delete
  unfold Builtin.«object.__getattribute__»
  repeat (any_goals (first | assumption | wp_step))
  refine app_get hx ?_
  repeat (any_goals (first | assumption | wp_step))
theorem app_call {tk : Tok} {R : Result → Shared → Prop} (hx : h.get? a = some (listOf xs k)) (hq : R (.ok (.ret (.ref h.objs.size))) ⟨h.push (boundApp a), g, d, t, os⟩) :
    codeAny (model prog w) A (.call (.builtin "list.__getattribute__") ⟨[.ref a, .str "append" tk], []⟩) R ⟨h, g, d, t, os⟩ :=
  codeAny_call_builtin F.slot_list_getattribute.plain F.entry_list_ga (F.slot_list_getattribute.check _ _ _ _ _ _ _ _ (show (⟨h, g, d, t, os⟩ : Shared).TypeIs (.ref a) "list" from ⟨_, hx, rfl⟩) (F.args_list_getattribute_2 _ _) (app_entry hx hq))
theorem app_by {tk : Tok} {ex : Bool} {Q : Value → Shared → Prop} (hx : h.get? a = some (listOf xs k)) (hq : Q (.ref h.objs.size) ⟨h.push (boundApp a), g, d, t, os⟩) : wpAny (model prog w) A (getAttrBy (.ref a) (.str "append" tk) true ex) Q E ⟨h, g, d, t, os⟩ := by
  have hT : (⟨h, g, d, t, os⟩ : Shared).TypeIs (.ref a) "list" := ⟨_, hx, rfl⟩
  have f2 := F.slot_list_getattribute.lookup
  have f3 := F.slot_list_getattribute.bind (.ref a)
  cases ex <;> repeat (any_goals (first | assumption | wp_step))
  all_goals (refine app_call hx ?_; repeat (any_goals (first | assumption | wp_step)))
theorem app_attr {Q : Value → Shared → Prop} (hx : h.get? a = some (listOf xs k)) (hq : Q (.ref h.objs.size) ⟨h.push (boundApp a), g, d, t + 1, os⟩) : wpAny (model prog w) A (getAttr (.ref a) "append" true) Q E ⟨h, g, d, t, os⟩ := by
  unfold getAttr
  repeat (any_goals (first | assumption | with_reducible apply app_by hx | wp_step))
end
end

section
open PySem PySem.W PyProof.Rows PySem.Calls

def StandsApp (l x : Addr) (h : Heap) : Prop := h.get? x = some (boundApp l)
theorem callWith_app0 {M : Model} {A : Around} {E : Value → Shared → Prop} {s : Shared} {l : Addr} {pos : Pos} {u : Addr} {first : List Value} {args : List (Bool × Sem Value)} {Q : Value → Shared → Prop} (hplain : args.any (·.1) = false)
    (h : wpAny M A (evalArgs (.ref u) true args []) (fun x s₁ => StandsApp l u s₁.heap ∧ wpAny M A (call (.ref u) (first ++ x.pos) x.kw) Q E s₁) E s) : wpAny M A (callWith pos (.ref u) first args []) Q E s := by
  unfold callWith
  refine wpAny_bind (wpAny_holding (wpAny_mono h (fun x s₁ h₁ => wpAny_bind (wpAny_standAt ?_)) fun _ _ x => x))
  obtain ⟨ho, hcall⟩ := h₁
  simp only [hplain, List.any_nil, Bool.or_false]
  refine wpAny_bind (m := keeperOf (.ref u)) ?_
  unfold keeperOf
  refine wpAny_bind (wpAny_load ho ?_)
  simp only [boundApp, show (Value.type "builtin_function_or_method" != Value.type "method") = true by decide, show (Value.type "builtin_function_or_method" == Value.type "builtin_function_or_method" || Value.type "builtin_function_or_method" == Value.type "method-wrapper") = true by decide, if_true]
  refine wpAny_pure ?_
  exact wpAny_bind (wpAny_mono hcall (fun r s₂ hr => wpAny_bind (wpAny_holding (wpAny_point (wpAny_pure hr)))) fun _ _ x => x)
theorem callWith_app {M : Model} {A : Around} {E : Value → Shared → Prop} {s : Shared} (l : Addr) {pos : Pos} {u : Addr} {first : List Value} {env : Env} {e : PySem.Expr} {rest : List PySem.Expr} {Q : Value → Shared → Prop}
    (h : wpAny M A (spliced (backTo pos (starEach (e :: rest) env))) (fun vs s₁ => StandsApp l u s₁.heap ∧ wpAny M A (call (.ref u) (first ++ vs)) Q E s₁) E s)
    (he : starEach (e :: rest) env = (false, eval e env) :: starEach rest env := by rfl) (hplain : (backTo pos (starEach rest env)).any (·.1) = false := by rfl) :
    wpAny M A (callWith pos (.ref u) first (backTo pos (starEach (e :: rest) env)) []) Q E s := by
  rw [he] at h ⊢
  refine callWith_app0 (l := l) (by show (false || (backTo pos (starEach rest env)).any (·.1)) = false; rw [hplain]; rfl) ?_
  exact evalArgs_plain h
theorem check_app {l : Addr} {x : Value} {M : Model} {A : Around} {E : Value → Shared → Prop} {s : Shared} {P : Unit → Shared → Prop} {xs : Array Value} {k : Nat} (hx : s.heap.get? l = some (listOf xs k)) (h : P () s) : wpAny M A (checkBoundCall "list.append" ⟨[.ref l, x], []⟩) P E s := by
  obtain ⟨hh, g, d, t, os⟩ := s
  have f1 : isSubtype (.type "list") (.type "module") = pure false := by rw [isSubtype_type]; kernel_rfl
  have f2 : isSubtype (.type "list") (.type "type") = pure false := by rw [isSubtype_type]; kernel_rfl
  have hT : (⟨hh, g, d, t, os⟩ : Shared).TypeIs (.ref l) "list" := ⟨_, hx, rfl⟩
  dsimp only at hx
  have f3 : Manifest.varargsMethods.contains "list.append" = false := by decide +kernel
  repeat (any_goals (first | assumption | wp_step))
theorem call_app {prog : Program} {w : World} {A : Around} {E : Value → Shared → Prop} {s : Shared} {l u : Addr} {x : Value} {h₀ : Heap} {L : Addr} {m : Str → Option Value} {news news' : List (Addr × Obj)} {its : Array Value} {n : Nat} {Q : Value → Shared → Prop}
    (F : Fr h₀ L s.heap m) (N : News h₀ L s.heap news) (hu : (u, boundApp l) ∈ news) (U : Upd l (listOf its n) (listOf (its.push x) (n + 1)) news news')
    (h : ∀ h', Fr h₀ L h' m → News h₀ L h' news' → Q .none { s with heap := h' }) (hsz : its.size ≤ sizeLine := by size_fits) : wpAny (model prog w) A (call (.ref u) [x]) Q E s := by
  obtain ⟨pre, post, rfl, rfl, a, b⟩ := U.split
  have z := N (l, listOf its n) (List.mem_append.mpr (.inr (.head _)))
  refine wpAny_call (codeAny_of_tree ?_)
  show wpAny _ A.in1 (callAny (.ref u) ⟨[x], []⟩) _ _ s
  simp only [callAny]
  refine wpAny_bind (wpAny_load (N _ hu).1 ?_)
  simp only [boundApp, show (Value.type "builtin_function_or_method" == Value.type "method" || Value.type "builtin_function_or_method" == Value.type "builtin_function_or_method" || Value.type "builtin_function_or_method" == Value.type "method-wrapper") = true by decide, if_true]
  refine KFB.if_so (by decide) ?_
  refine wpAny_bind (check_app z.1 ?_)
  refine wpAny_bind (wpAny_pure (wpAny_pure ?_))
  refine ⟨Code.quiet_builtin _ (by decide +kernel), codeAny_builtin entry_list_append ?_⟩
  show wpAny _ _ (updateSeq l (·.push x) >>= fun _ => ret .none) _ _ s
  refine wpAny_bind ?_
  refine wpAny_updateSeq z.1 rfl (wpAny_pure ?_)
  exact h _ (F.change (Heap.SameBut.update ..) z.2.1 z.2.2) (news_set N a b (Heap.SameBut.update ..) (by rw [Heap.get?_update_self _ z.1 (by rw [mapSeq_push]; rfl), mapSeq_push]))
end

section
open PySem PySem.W PyProof.Rows PyProof.Rows.LCg PySem.Calls

theorem compEnd_mono {h₀ : Heap} {L : Addr} {m : Str → Option Value} {s₁ : Shared} {I : Addr} {oI : Obj} {C : Addr} {oC : Obj} {D : Addr} {oD : Obj} {S : List (Addr × Obj) → Prop} {R R' : Value → List (Addr × Obj) → Prop} {y : Value} {s₂ : Shared}
    (h : ∀ y n, R y n → R' y n) (x : CompEnd h₀ L m s₁ I oI C oC D oD S R y s₂) : CompEnd h₀ L m s₁ I oI C oC D oD S R' y s₂ :=
  let ⟨h', tk, nw, e, F, N, o, hS, r⟩ := x; ⟨h', tk, nw, e, F, N, o, hS, h _ _ r⟩
/-- a comprehension of one name over n items, by an invariant over the results so far and the ledger -/
theorem compRest_inv {prog : Program} {w : World} {A : Around} {h₀ : Heap} {L : Addr} {m : Str → Option Value} {env : Env} {elt : PySem.Expr} {x : Str} {scope : Scope} {cl : List (Str × Addr)} {s : Shared} {S : List (Addr × Obj) → Prop} {P : Nat → Value → Prop}
    {Fin : List Value → List (Addr × Obj) → Prop} {n : Nat} (J : Nat → List Value → List (Addr × Obj) → Prop)
    (turn : ∀ i ys news, i < n → J i ys news → ∀ v I oI C oC D m₂ h tk (E' : Value → Shared → Prop), P i v → NsObj oC m₂ → m₂ x = some v → Fr h₀ L h m → News h₀ L h ((I, oI) :: (C, oC) :: (D, lst ys) :: news) → Off3 I C D news → ((@Ne Nat I C) ∧ (@Ne Nat I D) ∧ (@Ne Nat C D)) →
      wpAny (model prog w) A (eval elt (compEnvC scope cl C env)) (CompEnd h₀ L m { s with heap := h, toks := tk } I oI C oC D (lst ys) S (fun y news' => J (i + 1) (ys ++ [y]) news')) E' { s with heap := h, toks := tk })
    (done : ∀ ys news, J n ys news → Fin ys news) : ∀ k i ys news, i + k = n → J i ys news → CompRest prog w A h₀ L m env elt x scope cl s S P Fin k i ys news := by
  intro k
  induction k with
  | zero => intro i ys news e hJ; exact CompRest.zero (done _ _ (by rw [← e]; exact hJ))
  | succ k ih =>
    intro i ys news e hJ
    refine CompRest.succ fun v I oI C oC D m₂ h tk E' hP hN hx F N o ne => ?_
    exact wpAny_mono (turn i ys news (by omega) hJ v I oI C oC D m₂ h tk E' hP hN hx F N o ne) (fun y s₂ z => compEnd_mono (fun y nw hJ' => ih (i + 1) (ys ++ [y]) nw (by omega) hJ') z) fun _ _ z => z
end

section
open PySem PySem.W PyProof.Rows PyProof.Rows.LCg PySem.Calls

/-- the end of one turn of a comprehension over pairs: the iterators' objects (own) stand as they stood -/
def PEnd (h₀ : Heap) (L : Addr) (m : Str → Option Value) (s₁ : Shared) (C : Addr) (oC : Obj) (D : Addr) (oD : Obj) (own : List (Addr × Obj)) (rest : Value → List (Addr × Obj) → Prop) (y : Value) (s₂ : Shared) : Prop :=
  ∃ h' tk news', s₂ = { s₁ with heap := h', toks := tk } ∧ Fr h₀ L h' m ∧ News h₀ L h' ((C, oC) :: (D, oD) :: (news' ++ own)) ∧ (∀ p ∈ news', ∀ q ∈ (C, oC) :: (D, oD) :: own, @Ne Nat p.1 q.1) ∧ rest y news'
theorem PEnd.intro {h₀ : Heap} {L C D : Addr} {m : Str → Option Value} {s₁ : Shared} {oC oD : Obj} {own : List (Addr × Obj)} {rest : Value → List (Addr × Obj) → Prop} {y : Value} {h' : Heap} {tk : Nat} {news' : List (Addr × Obj)}
    (F : Fr h₀ L h' m) (N : News h₀ L h' ((C, oC) :: (D, oD) :: (news' ++ own))) (off : ∀ p ∈ news', ∀ q ∈ (C, oC) :: (D, oD) :: own, @Ne Nat p.1 q.1) (r : rest y news') :
    PEnd h₀ L m s₁ C oC D oD own rest y { s₁ with heap := h', toks := tk } := ⟨h', tk, news', rfl, F, N, off, r⟩
/-- one turn, by an invariant -/
def PTurn (prog : Program) (w : World) (A : Around) (h₀ : Heap) (L : Addr) (m : Str → Option Value) (env : Env) (c : Option PySem.Expr) (elt : PySem.Expr) (a b : Str) (scope : Scope) (cl : List (Str × Addr)) (s : Shared)
    (n : Nat) (G : Nat → Value → Value → Prop) (J : Nat → List Value → List (Addr × Obj) → Prop) : Prop :=
  ∀ i ys news own x y C oC D m₂ h tk (E' : Value → Shared → Prop), i < n → J i ys news → G i x y → NsObj oC m₂ → m₂ a = some x → m₂ b = some y → Fr h₀ L h m → News h₀ L h ((C, oC) :: (D, lst ys) :: (news ++ own)) →
    (∀ p ∈ news, ∀ q ∈ (C, oC) :: (D, lst ys) :: own, @Ne Nat p.1 q.1) → (∀ q ∈ (D, lst ys) :: own, @Ne Nat q.1 C) → (∀ q ∈ own, @Ne Nat q.1 D) →
    match c with
    | none => wpAny (model prog w) A (eval elt (compEnvC scope cl C env)) (PEnd h₀ L m { s with heap := h, toks := tk } C oC D (lst ys) own (fun v news' => J (i + 1) (ys ++ [v]) news')) E' { s with heap := h, toks := tk }
    | some c => wpAny (model prog w) A (isTrue c (compEnvC scope cl C env) (eval c (compEnvC scope cl C env))) (fun okb s₃ => if okb = true then
        wpAny (model prog w) A (eval elt (compEnvC scope cl C env)) (PEnd h₀ L m { s with heap := h, toks := tk } C oC D (lst ys) own (fun v news' => J (i + 1) (ys ++ [v]) news')) E' s₃
        else PEnd h₀ L m { s with heap := h, toks := tk } C oC D (lst ys) own (fun _ news' => J (i + 1) ys news') .none s₃) E' { s with heap := h, toks := tk }
def pifs : Option PySem.Expr → List PySem.Expr
  | none => []
  | some c => [c]
section
variable {prog : Program} {w : World} {A : Around} {E : Value → Shared → Prop} {s : Shared} {h₀ : Heap} {L : Addr} {m : Str → Option Value} {env : Env}
theorem pair_loop {elt target iter : PySem.Expr} {c : Option PySem.Expr} {scope : Scope} {pos : Pos} {it acc : Value} {env : Env} {R : Result → Shared → Prop} (I : Nat → Shared → Prop)
    (turn : ∀ n s, I n s → wpAny (model prog w) A (pyNext it) (fun r s₁ => match r with
      | none => R (.ok .next) s₁
      | some v => wpAny (model prog w) A (letOwnedTupleGo target it v) (fun _ s₀ => wpAny (model prog w) A (assign target env v) (fun _ s₂ =>
          match c with
          | none => wpAny (model prog w) A (eval elt env) (fun x s₄ =>
            wpAny (model prog w) A (call (.builtin "list.append") [acc, x]) (fun _ s₅ => ∃ m, m < n ∧ I m s₅) (notedBy (model prog w) A env fun e s' => R (.error e) s') s₄) (notedBy (model prog w) A env fun e s' => R (.error e) s') s₂
          | some c => wpAny (model prog w) A (isTrue c env (eval c env)) (fun ok s₃ => if ok = true then wpAny (model prog w) A (eval elt env) (fun x s₄ =>
            wpAny (model prog w) A (call (.builtin "list.append") [acc, x]) (fun _ s₅ => ∃ m, m < n ∧ I m s₅) (notedBy (model prog w) A env fun e s' => R (.error e) s') s₄) (notedBy (model prog w) A env fun e s' => R (.error e) s') s₃
            else ∃ m, m < n ∧ I m s₃) (notedBy (model prog w) A env fun e s' => R (.error e) s') s₂)
          (notedBy (model prog w) A env fun e s' => R (.error e) s') s₀) (notedBy (model prog w) A env fun e s' => R (.error e) s') s₁) (notedBy (model prog w) A env fun e s' => R (.error e) s') s)
    (n : Nat) (h : I n s) : codeAny (model prog w) A (.compLoop (.ListComp elt [⟨target, iter, pifs c, 0⟩] scope pos) 0 it acc env) R s := by
  cases c with
  | none => exact kcp_loop I turn n h
  | some c => exact kct_loop I turn n h

theorem pair_block {elt iter : PySem.Expr} {c : Option PySem.Expr} {a b : Str} {pa pb tp : Pos} {kk : Nat} {scope : Scope} {cl : List (Str × Addr)} {pos : Pos} {s₂ : Shared} {I : Addr} {fp wr : List Addr} {n : Nat} {Pt : Nat → Array Value → Prop}
    {Md : Nat → Value → Heap → Prop} {St : Nat → Heap → Prop} {G : Nat → Value → Value → Prop} {keep news : List (Addr × Obj)} {J : Nat → List Value → List (Addr × Obj) → Prop} {RR : Value → Addr → Result → Shared → Prop}
    (W : KTurns prog w A (.Tuple [.Name a pa, .Name b pb] kk tp) I fp wr n (fun i v h => ∃ T vals, v = .ref T ∧ Pt i vals ∧ h.IsTuple T vals) Md St)
    (hself : ∀ (s : Shared) (Q : Value → Shared → Prop) (E : Value → Shared → Prop), St 0 s.heap → Q (.ref I) s → wpAny (model prog w) A (pyIter (.ref I)) Q E s)
    (hG : ∀ i vals, Pt i vals → ∃ x y, vals = #[x, y] ∧ G i x y)
    (hlive : ∀ i h, St i h → ∀ b ∈ wr, ∃ o, h.get? b = some o)
    (hfpk : ∀ b ∈ fp, b ∈ wr ∨ ∃ o, (b, o) ∈ keep) (hkeep : ∀ i ys news, J i ys news → ∀ p ∈ keep, p ∈ news)
    (hJl : ∀ i ys news, J i ys news → i ≤ n → ys.length ≤ sizeLine)
    (hh : A.handled = none) (hst : St 0 s₂.heap) (hfp : ∀ b ∈ fp, b < s₂.heap.objs.size)
    (hcell : ∀ y ∈ scope.names, y.2 ≠ .cell) (hkind : scope.kind = .function) (hxa : scope.names.lookup a = some .local) (hxb : scope.names.lookup b = some .local) (hab : ¬ a = b)
    (F : Fr h₀ L s₂.heap m) (N : News h₀ L s₂.heap news) (hLw : L ∉ wr) (hw₀ : ∀ b ∈ wr, h₀.get? b = none) (off : ∀ p ∈ news, p.1 ∉ wr) (J0 : J 0 [] news)
    (R : PTurn prog w A h₀ L m env c elt a b scope cl s₂ n G J)
    (hRR : ∀ D C h tk m' ys news', Fr h₀ L h m → News h₀ L h ((D, lst ys) :: news') → (∀ p ∈ news', @Ne Nat p.1 D) → h.Ns C m' → h₀.get? C = none → h₀.get? D = none → C ≠ L → D ≠ L → C ≠ D → (∀ p ∈ news', p.1 ≠ C) → J n ys news' → RR (.ref D) C (.ok .next) { s₂ with heap := h, toks := tk }) :
    wpAny (model prog w) A (newList []) (fun acc s₃ => wpAny (model prog w) A (newFunctionEnv scope env.globals cl [] env.qual none .none (some env)) (fun cenv s₄ =>
      codeAny (model prog w) A (.compStart (.ListComp elt [⟨.Tuple [.Name a pa, .Name b pb] kk tp, iter, pifs c, 0⟩] scope pos) 0 (.ref I) acc { cenv with scope := relabel scope env }) (RR acc cenv.locals) s₄) E s₃) E s₂ := by
  refine wpAny_newObj_type (wpAny_newFunctionEnv hcell (by intro y hy; simp at hy) (fun h₁ hns₁ hsb₁ => ?_) hkind)
  dsimp only at hns₁ hsb₁ ⊢
  generalize hH2 : s₂.heap.push { cls := .type "list", dict := none, data := .seq ([] : List Value).toArray } = H2 at hns₁ hsb₁ ⊢
  have hC : H2.objs.size = s₂.heap.objs.size + 1 := by rw [← hH2, Heap.size_push]
  have hDC : s₂.heap.objs.size ≠ H2.objs.size := by rw [hC]; exact Nat.ne_of_lt (Nat.lt_succ_self _)
  have below : ∀ b, b < s₂.heap.objs.size → b ≠ H2.objs.size ∧ b ≠ s₂.heap.objs.size := fun b hb => ⟨by rw [hC]; exact Nat.ne_of_lt (Nat.lt_succ_of_lt hb), Nat.ne_of_lt hb⟩
  have old : ∀ b o, s₂.heap.get? b = some o → h₁.get? b = some o := fun b o e => hsb₁.extBut b o (below b (Heap.lt_size e)).1 (Heap.get?_push_of_some _ (hH2 ▸ Heap.get?_push_of_some _ e))
  have hacc : h₁.get? s₂.heap.objs.size = some (lst []) := hsb₁.extBut _ _ hDC (Heap.get?_push_of_some _ (hH2 ▸ Heap.get?_push_size _ rfl))
  have hst₁ : St 0 h₁ := W.frame _ _ _ hst fun b _ o e => old b o e
  have fresh : ∀ a, s₂.heap.objs.size ≤ a → s₂.heap.get? a = none := fun a ha => by
    cases e : s₂.heap.get? a with
    | none => rfl
    | some o' => exact absurd (Heap.lt_size e) (Nat.not_lt.mpr ha)
  have fresh₀ : ∀ a, s₂.heap.objs.size ≤ a → h₀.get? a = none := fun a ha => by
    cases e : h₀.get? a with
    | none => rfl
    | some o' => have := F.keep a o' e; rw [fresh a ha] at this; cases this
  have hD₀ : h₀.get? s₂.heap.objs.size = none := fresh₀ _ (Nat.le_refl _)
  have hC₀ : h₀.get? H2.objs.size = none := fresh₀ _ (by rw [hC]; exact Nat.le_succ _)
  have hLlt : L < s₂.heap.objs.size := F.ns.lt
  have hDL : s₂.heap.objs.size ≠ L := Ne.symm (below L hLlt).2
  have hCL : H2.objs.size ≠ L := Ne.symm (below L hLlt).1
  have wrC : ∀ b ∈ wr, b ≠ H2.objs.size := fun b hb => (below b (hfp b (W.sub b hb))).1
  have wrD : ∀ b ∈ wr, b ≠ s₂.heap.objs.size := fun b hb => (below b (hfp b (W.sub b hb))).2
  have fpC : ∀ b ∈ fp, b ≠ H2.objs.size := fun b hb => (below b (hfp b hb)).1
  have fpD : ∀ b ∈ fp, b ≠ s₂.heap.objs.size := fun b hb => (below b (hfp b hb)).2
  have old₀ : ∀ b o, h₀.get? b = some o → b ∉ wr := fun b o e hb => by rw [hw₀ b hb] at e; cases e
  have loop : ∀ s₃ : Shared, s₃ = { s₂ with heap := h₁, toks := s₂.toks + ([] : List (Str × Value)).length } →
      codeAny (model prog w) A (.compLoop (.ListComp elt [⟨.Tuple [.Name a pa, .Name b pb] kk tp, iter, pifs c, 0⟩] scope pos) 0 (.ref I) (.ref s₂.heap.objs.size) (compEnvC scope cl H2.objs.size env))
        (RR (.ref s₂.heap.objs.size) H2.objs.size) s₃ := by
    rintro s₃ rfl
    refine pair_loop
      (fun k s' => ∃ h' tk i ys m' news', s' = { s₂ with heap := h', toks := tk } ∧ i ≤ n ∧ k = n + 1 - i ∧ St i h' ∧ Fr h₀ L h' m ∧ h'.Ns H2.objs.size m' ∧
        News h₀ L h' ((s₂.heap.objs.size, lst ys) :: news') ∧ (∀ p ∈ news', p.1 ∉ wr ∧ p.1 ≠ H2.objs.size ∧ p.1 ≠ s₂.heap.objs.size) ∧ J i ys news') ?_ (n + 1)
      ⟨h₁, _, 0, [], _, news, rfl, Nat.zero_le _, rfl, hst₁, F.keeps old, hns₁, fun p hp => ?_, fun p hp => ⟨off p hp, below _ (Heap.lt_size (N p hp).1)⟩, J0⟩
    · rintro k s' ⟨h', tk, i, ys, m', news', rfl, hi, rfl, hst', F', hn', N', off', hJ⟩
      by_cases hlt : i < n
      · refine W.item i _ _ _ hlt hst' fun v h₂ tk₂ hMd hk₂ => ?_
        refine W.go i v _ _ _ hMd fun h₃ hP hst₃ hk₃ => ?_
        obtain ⟨T, vals, rfl, hPt, hT⟩ := hP
        obtain ⟨x, y, rfl, hg⟩ := hG i vals hPt
        have up₃ : ∀ c o, c ∉ wr → h'.get? c = some o → h₃.get? c = some o := fun c o hc e => hk₃ c o hc (hk₂ c o hc e)
        have hCw : H2.objs.size ∉ wr := fun hm => wrC _ hm rfl
        have hDw : s₂.heap.objs.size ∉ wr := fun hm => wrD _ hm rfl
        refine kcp_assign (env := compEnvC scope cl H2.objs.size env) hh hT (lookup_relabel_local hxa) (lookup_relabel_local hxb) (by simp [compEnvC, relabel, hkind]) (hn'.at' fun o e => up₃ _ o hCw e) fun h₄ tk₄ hn₄ hs₄ => ?_
        have up : ∀ c o, c ∉ wr → c ≠ H2.objs.size → h'.get? c = some o → h₄.get? c = some o := fun c o h1 h2 e => hs₄ c o h2 (up₃ c o h1 e)
        have hst₄ : St (i + 1) h₄ := W.frame _ _ _ hst₃ fun b hb o e => hs₄ b o (fpC b hb) e
        obtain ⟨oC, heC, hoC⟩ := ns_obj hn₄
        have F₄ : Fr h₀ L h₄ m := ⟨F'.ns.at' fun o e => up _ o hLw (Ne.symm hCL) e, fun c o e => up c o (old₀ c o e) (fun q => by rw [q, hC₀] at e; cases e) (F'.keep c o e), F'.above⟩
        obtain ⟨own, hown⟩ : ∃ own, own = ownOf h₀ wr h₄ := ⟨_, rfl⟩
        have Nown : News h₀ L h₄ own := hown ▸ news_ownOf hLw
        have ownwr : ∀ q ∈ own, q.1 ∈ wr := fun q hq => ownOf_sub q (hown ▸ hq)
        have N₄ : News h₀ L h₄ ((H2.objs.size, oC) :: (s₂.heap.objs.size, lst ys) :: (news' ++ own)) := fun q hq => by
          rcases List.mem_cons.mp hq with rfl | hq
          · exact ⟨heC, hCL, hC₀⟩
          rcases List.mem_cons.mp hq with rfl | hq
          · have z := N' _ List.mem_cons_self
            exact ⟨up _ _ hDw hDC z.1, z.2⟩
          rcases List.mem_append.mp hq with hq | hq
          · have z := N' q (List.mem_cons_of_mem _ hq)
            exact ⟨up _ _ (off' q hq).1 (off' q hq).2.1 z.1, z.2⟩
          · exact Nown q hq
        have offT : ∀ p ∈ news', ∀ q ∈ (H2.objs.size, oC) :: (s₂.heap.objs.size, lst ys) :: own, @Ne Nat p.1 q.1 := fun p hp q hq => by
          rcases List.mem_cons.mp hq with rfl | hq
          · exact (off' p hp).2.1
          rcases List.mem_cons.mp hq with rfl | hq
          · exact (off' p hp).2.2
          · exact fun e => (off' p hp).1 (by have e' : p.1 = q.1 := e; rw [e']; exact ownwr q hq)
        have offC : ∀ q ∈ (s₂.heap.objs.size, lst ys) :: own, @Ne Nat q.1 H2.objs.size := fun q hq => by
          rcases List.mem_cons.mp hq with rfl | hq
          · exact hDC
          · exact wrC _ (ownwr q hq)
        have offD : ∀ q ∈ own, @Ne Nat q.1 s₂.heap.objs.size := fun q hq => wrD _ (ownwr q hq)
        have fin : ∀ (ys' : List Value) (h₅ : Heap) (tk₅ : Nat) (news₅ : List (Addr × Obj)), Fr h₀ L h₅ m → News h₀ L h₅ ((H2.objs.size, oC) :: (s₂.heap.objs.size, lst ys') :: (news₅ ++ own)) → (∀ p ∈ news₅, ∀ q ∈ (H2.objs.size, oC) :: (s₂.heap.objs.size, lst ys) :: own, @Ne Nat p.1 q.1) →
            J (i + 1) ys' news₅ →
            ∃ q', q' < n + 1 - i ∧ (∃ h' tk i ys m' news', ({ s₂ with heap := h₅, toks := tk₅ } : Shared) = { s₂ with heap := h', toks := tk } ∧ i ≤ n ∧ q' = n + 1 - i ∧ St i h' ∧ Fr h₀ L h' m ∧ h'.Ns H2.objs.size m' ∧
        News h₀ L h' ((s₂.heap.objs.size, lst ys) :: news') ∧ (∀ p ∈ news', p.1 ∉ wr ∧ p.1 ≠ H2.objs.size ∧ p.1 ≠ s₂.heap.objs.size) ∧ J i ys news') := by
          intro ys' h₅ tk₅ news₅ F₅ N₅ off₅ hJ₅
          have zC := (N₅ _ List.mem_cons_self).1
          have hst₅ : St (i + 1) h₅ := W.frame _ _ _ hst₄ fun b hb o e => by
            rcases hfpk b hb with hbw | ⟨o', ho'⟩
            · have hm : (b, o) ∈ own := hown ▸ mem_ownOf hbw (hw₀ b hbw) e
              exact (N₅ (b, o) (List.mem_cons_of_mem _ (List.mem_cons_of_mem _ (List.mem_append_right _ hm)))).1
            · have h4 := (N₄ (b, o') (List.mem_cons_of_mem _ (List.mem_cons_of_mem _ (List.mem_append_left _ (hkeep _ _ _ hJ _ ho'))))).1
              have h5 := (N₅ (b, o') (List.mem_cons_of_mem _ (List.mem_cons_of_mem _ (List.mem_append_left _ (hkeep _ _ _ hJ₅ _ ho'))))).1
              have e' : o = o' := Option.some.inj (e.symm.trans h4)
              exact e' ▸ h5
          refine ⟨n + 1 - (i + 1), by omega, h₅, tk₅, i + 1, ys', _, news₅, rfl, hlt, rfl, hst₅, F₅, hoC.ns zC, fun q hq => N₅ q ?_, fun p hp => ⟨fun hm => ?_, ?_, ?_⟩, hJ₅⟩
          · rcases List.mem_cons.mp hq with rfl | hq
            · exact List.mem_cons_of_mem _ List.mem_cons_self
            · exact List.mem_cons_of_mem _ (List.mem_cons_of_mem _ (List.mem_append_left _ hq))
          · obtain ⟨o, ho⟩ := hlive _ _ hst₄ p.1 hm
            exact off₅ p hp (p.1, o) (List.mem_cons_of_mem _ (List.mem_cons_of_mem _ (hown ▸ mem_ownOf hm (hw₀ _ hm) ho))) rfl
          · exact off₅ p hp (H2.objs.size, oC) List.mem_cons_self
          · exact off₅ p hp (s₂.heap.objs.size, lst ys) (List.mem_cons_of_mem _ List.mem_cons_self)
        have app : ∀ y s₆, PEnd h₀ L m { s₂ with heap := h₄, toks := tk₄ } H2.objs.size oC s₂.heap.objs.size (lst ys) own (fun v news' => J (i + 1) (ys ++ [v]) news') y s₆ →
            wpAny (model prog w) A (call (.builtin "list.append") [.ref s₂.heap.objs.size, y]) (fun _ s₅ => ∃ q', q' < n + 1 - i ∧ (∃ h' tk i ys m' news', s₅ = { s₂ with heap := h', toks := tk } ∧ i ≤ n ∧ q' = n + 1 - i ∧ St i h' ∧ Fr h₀ L h' m ∧ h'.Ns H2.objs.size m' ∧
        News h₀ L h' ((s₂.heap.objs.size, lst ys) :: news') ∧ (∀ p ∈ news', p.1 ∉ wr ∧ p.1 ≠ H2.objs.size ∧ p.1 ≠ s₂.heap.objs.size) ∧ J i ys news')) (notedBy (model prog w) A (compEnvC scope cl H2.objs.size env) fun e s' => RR (.ref s₂.heap.objs.size) H2.objs.size (.error e) s') s₆ := by
          rintro y s₆ ⟨h₅, tk₅, news₅, rfl, F₅, N₅, off₅, hJ₅⟩
          have zC := (N₅ (H2.objs.size, oC) List.mem_cons_self).1
          have zD := (N₅ (s₂.heap.objs.size, lst ys) (List.mem_cons_of_mem _ List.mem_cons_self)).1
          refine append_at (hsz := by show ys.toArray.size ≤ sizeLine; rw [List.size_toArray]; exact hJl _ _ _ hJ hi) zD fun h₆ hs₆ hD₆ => ?_
          refine fin (ys ++ [y]) h₆ _ news₅ (F₅.change hs₆ hDL hD₀) (fun q hq => ?_) off₅ hJ₅
          rcases List.mem_cons.mp hq with rfl | hq
          · exact ⟨hs₆.extBut _ oC (Ne.symm hDC) zC, hCL, hC₀⟩
          rcases List.mem_cons.mp hq with rfl | hq
          · exact ⟨hD₆.trans (congrArg some (lst_snoc ys y)), hDL, hD₀⟩
          have z := N₅ q (List.mem_cons_of_mem _ (List.mem_cons_of_mem _ hq))
          refine ⟨hs₆.extBut _ _ ?_ z.1, z.2⟩
          rcases List.mem_append.mp hq with hq | hq
          · exact off₅ q hq (s₂.heap.objs.size, lst ys) (List.mem_cons_of_mem _ List.mem_cons_self)
          · exact offD q hq
        have R' := R i ys news' own x y H2.objs.size oC s₂.heap.objs.size _ h₄ tk₄ (notedBy (model prog w) A (compEnvC scope cl H2.objs.size env) fun e s' => RR (.ref s₂.heap.objs.size) H2.objs.size (.error e) s') hlt hJ hg hoC (by simp [hab]) (by simp) F₄ N₄ offT offC offD
        cases c with
        | none => exact wpAny_mono R' (fun y s₆ h₆ => app y s₆ h₆) fun _ _ e => e
        | some c =>
          refine wpAny_mono R' (fun okb s₅ h₅ => ?_) fun _ _ e => e
          cases okb with
          | false =>
            simp only [Bool.false_eq_true, if_false] at h₅ ⊢
            obtain ⟨h₅, tk₅, news₅, rfl, F₅, N₅, off₅, hJ₅⟩ := h₅
            exact fin ys h₅ tk₅ news₅ F₅ N₅ off₅ hJ₅
          | true =>
            simp only [if_true] at h₅ ⊢
            exact wpAny_mono h₅ (fun y s₆ h₆ => app y s₆ h₆) fun _ _ e => e
      · have hin : i = n := Nat.le_antisymm hi (Nat.not_lt.mp hlt)
        subst hin
        refine W.done _ _ _ hst' fun h₂ tk₂ hk₂ => ?_
        refine hRR _ _ h₂ tk₂ _ ys news' ⟨F'.ns.at' fun o e => hk₂ L o hLw e, fun b o e => hk₂ b o (old₀ b o e) (F'.keep b o e), F'.above⟩ (fun p hp => ?_) (fun p hp => (off' p hp).2.2) (hn'.at' fun o e => hk₂ _ o (fun hm => wrC _ hm rfl) e) hC₀ hD₀ hCL hDL (Ne.symm hDC) (fun p hp => (off' p hp).2.1) hJ
        have z := N' p hp
        refine ⟨hk₂ _ _ ?_ z.1, z.2⟩
        rcases List.mem_cons.mp hp with rfl | hp
        · exact fun hm => wrD _ hm rfl
        · exact (off' p hp).1
    · rcases List.mem_cons.mp hp with rfl | hp
      · exact ⟨hacc, hDL, hD₀⟩
      · exact ⟨old _ _ (N p hp).1, (N p hp).2⟩
  exact codeAny_compStart_list (loop _ rfl) (hself _ _ _ hst₁ (loop _ rfl))
end
end

section
open PySem PySem.W PyProof.Rows PyProof.Rows.LCg PySem.Calls

structure ZApart (z TI TO i1 i2 : Addr) (fp1 fp2 : List Addr) : Prop where
  TIz : TI ≠ z
  TOz : TO ≠ z
  i1z : i1 ≠ z
  i2z : i2 ≠ z
  TITO : TI ≠ TO
  TIi1 : TI ≠ i1
  TIi2 : TI ≠ i2
  TOi1 : TO ≠ i1
  TOi2 : TO ≠ i2
  i12 : i1 ≠ i2
  z1 : z ∉ fp1
  z2 : z ∉ fp2
  TO1 : TO ∉ fp1
  TO2 : TO ∉ fp2
  i21 : i2 ∉ fp1
  i12f : i1 ∉ fp2
  in1 : i1 ∈ fp1
  in2 : i2 ∈ fp2
section
variable {prog : Program} {w : World} {A : Around} {E : Value → Shared → Prop} {s : Shared}
theorem stBut {fp : List Addr} {n : Nat} {P : Nat → Value → Prop} {St : Nat → Heap → Prop} {it b : Addr} {i : Nat} {h h' : Heap} (D : Draws prog w A it fp n P St) (st : St i h) (e : Heap.SameBut b h h') (hb : b ∉ fp) : St i h' :=
  D.frame _ _ _ st fun c hc o x => e.extBut c o (fun q => hb (q ▸ hc)) x
theorem zipD_item {z TI TO i1 i2 : Addr} {fp1 fp2 : List Addr} {n1 n2 k : Nat} {P1 P2 : Nat → Value → Prop} {St1 St2 : Nat → Heap → Prop} {a b : Value} {Q : Value → Shared → Prop}
    (D1 : ∀ A' : Around, A'.handled = none → Draws prog w A' i1 fp1 n1 P1 St1) (D2 : ∀ A' : Around, A'.handled = none → Draws prog w A' i2 fp2 n2 P2 St2) (hh : A.handled = none) (D : ZApart z TI TO i1 i2 fp1 fp2)
    (hz : IsZip s.heap z TI TO .none) (hTI : IsPair s.heap TI (.ref i1) (.ref i2)) (hTO : IsPair s.heap TO a b)
    (h1 : St1 k s.heap) (h2 : St2 k s.heap) (hx : k < n1) (hy : k < n2)
    (hQ : ∀ x y h' tk, P1 k x → P2 k y → IsZip h' z TI TO (rawInt s.heap.objs.size) → IsPair h' TO x y → St1 (k + 1) h' → St2 (k + 1) h' → IsPair h' s.heap.objs.size x y →
      (∀ c o, c ≠ z → c ≠ TO → c ≠ i1 → c ≠ i2 → s.heap.get? c = some o → h'.get? c = some o) → Q (.ref s.heap.objs.size) { s with heap := h', toks := tk }) :
    wpAny (model prog w) A (Builtin.«zip.__next__» ⟨[.ref z], []⟩) (fun fin s' => ∃ v, fin = .done (.ret v) ∧ Q v s') E s := by
  have E1 := D1 A hh
  have E2 := D2 A hh
  show wpAny _ _ (field (.ref z) 2 >>= _) _ _ _
  refine wpAny_bind (wpAny_field hz rfl (x := .bool false) rfl ?_)
  show wpAny _ _ (field (.ref z) 3 >>= _) _ _ _
  refine wpAny_bind (wpAny_field hz rfl (x := .ref TI) rfl ?_)
  refine wpAny_bind (wpAny_seqItems hTI rfl ?_)
  show wpAny _ _ (Builtin.SmallTypes.ownedTupleIsFree (.ref z) >>= _) _ _ _
  refine wpAny_bind ?_
  unfold Builtin.SmallTypes.ownedTupleIsFree
  refine wpAny_bind (wpAny_field hz rfl (x := .none) rfl (wpAny_pure ?_))
  simp only [if_true]
  refine wpAny_bind (wpAny_rule ?_)
  refine wpAny_bind (wpAny_field hz rfl (x := .ref TO) rfl ?_)
  refine wpAny_bind (wpAny_setField_rec hz (by simp) fun h₁ hz₁ hs₁ => ?_)
  replace hz₁ : IsZip h₁ z TI TO .ellipsis := hz₁
  refine wpAny_bind ?_
  simp only [List.zipIdx_cons, List.zipIdx_nil, List.forIn_cons, List.forIn_nil]
  refine wpAny_bind (wpAny_bind (wpAny_onRaise ?_))
  show wpAny _ _ (Builtin.SmallTypes.nextOf (.ref i1) >>= _) _ _ _
  refine wpAny_bind ((D1 _ hh).item k _ _ _ hx (stBut E1 h1 hs₁ D.z1) fun x h₂ tk₂ hP1 h1₂ hs₂ => wpAny_pure ?_)
  have hTO₂ : IsPair h₂ TO a b := hs₂.extBut _ _ D.TOi1 (hs₁.extBut _ _ D.TOz hTO)
  refine wpAny_bind (wpAny_seqItems hTO₂ rfl ?_)
  refine wpAny_bind (wpAny_updateSeq_pair hTO₂ fun h₃ hTO₃ hs₃ => ?_)
  replace hTO₃ : IsPair h₃ TO x b := hTO₃
  refine wpAny_bind (wpAny_letGo (wpAny_pure ?_))
  refine wpAny_bind (wpAny_bind (wpAny_onRaise ?_))
  show wpAny _ _ (Builtin.SmallTypes.nextOf (.ref i2) >>= _) _ _ _
  refine wpAny_bind ((D2 _ hh).item k _ _ _ hy (stBut E2 (stBut E2 (stBut E2 h2 hs₁ D.z2) hs₂ D.i12f) hs₃ D.TO2) fun y h₄ tk₄ hP2 h2₄ hs₄ => wpAny_pure ?_)
  have hTO₄ : IsPair h₄ TO x b := hs₄.extBut _ _ D.TOi2 hTO₃
  refine wpAny_bind (wpAny_seqItems hTO₄ rfl ?_)
  refine wpAny_bind (wpAny_updateSeq_pair hTO₄ fun h₅ hTO₅ hs₅ => ?_)
  replace hTO₅ : IsPair h₅ TO x y := hTO₅
  refine wpAny_bind (wpAny_letGo (wpAny_pure (wpAny_pure ?_)))
  refine wpAny_bind (wpAny_seqItems hTO₅ rfl ?_)
  refine wpAny_bind (wpAny_newTuple ?_)
  have hsz : h₅.objs.size = s.heap.objs.size := by rw [hs₅.1, hs₄.1, hs₃.1, hs₂.1, hs₁.1]
  have hz₅ : IsZip h₅ z TI TO .ellipsis := hs₅.extBut _ _ D.TOz.symm (hs₄.extBut _ _ D.i2z.symm (hs₃.extBut _ _ D.TOz.symm (hs₂.extBut _ _ D.i1z.symm hz₁)))
  have hk₅ : ∀ c o, c ≠ z → c ≠ TO → c ≠ i1 → c ≠ i2 → s.heap.get? c = some o → h₅.get? c = some o := fun c o c1 c2 c3 c4 e =>
    hs₅.extBut _ _ c2 (hs₄.extBut _ _ c4 (hs₃.extBut _ _ c2 (hs₂.extBut _ _ c3 (hs₁.extBut _ _ c1 e))))
  have h1₅ : St1 (k + 1) h₅ := stBut E1 (stBut E1 (stBut E1 h1₂ hs₃ D.TO1) hs₄ D.i21) hs₅ D.TO1
  have h2₅ : St2 (k + 1) h₅ := stBut E2 h2₄ hs₅ D.TO2
  have hzlt : z < h₅.objs.size := Heap.lt_size hz₅
  show wpAny _ _ (Builtin.SmallTypes.ownedTupleHandOut (.ref z) (.ref h₅.objs.size) >>= _) _ _ _
  refine wpAny_bind ?_
  unfold Builtin.SmallTypes.ownedTupleHandOut
  have hz₆ : IsZip (h₅.push { cls := .type "tuple", data := .seq #[x, y] }) z TI TO .ellipsis := Heap.get?_push_of_some _ hz₅
  refine wpAny_bind (wpAny_setField_rec hz₆ (by simp) fun h₇ hz₇ hs₇ => ?_)
  replace hz₇ : IsZip h₇ z TI TO (rawInt h₅.objs.size) := hz₇
  refine wpAny_setField_rec hz₇ (by simp) fun h₈ hz₈ hs₈ => ?_
  replace hz₈ : IsZip h₈ z TI TO (rawInt h₅.objs.size) := hz₈
  have up : ∀ c o, c ≠ z → h₅.get? c = some o → h₈.get? c = some o := fun c o c1 e => hs₈.extBut _ _ c1 (hs₇.extBut _ _ c1 (Heap.get?_push_of_some _ e))
  have hT₈ : IsPair h₈ h₅.objs.size x y := hs₈.extBut _ _ (Nat.ne_of_gt hzlt) (hs₇.extBut _ _ (Nat.ne_of_gt hzlt) (Heap.get?_push_size _ rfl))
  rw [hsz] at hz₈ hT₈
  refine wpAny_pure ⟨_, rfl, ?_⟩
  show Q (.ref h₅.objs.size) _
  rw [hsz]
  exact hQ x y h₈ _ hP1 hP2 hz₈ (up _ _ D.TOz hTO₅) (E1.frame _ _ _ h1₅ fun c hc o e => up c o (fun q => D.z1 (q ▸ hc)) e) (E2.frame _ _ _ h2₅ fun c hc o e => up c o (fun q => D.z2 (q ▸ hc)) e) hT₈ fun c o c1 c2 c3 c4 e => up c o c1 (hk₅ c o c1 c2 c3 c4 e)
theorem zipD_end {z TI TO i1 i2 : Addr} {fp1 fp2 : List Addr} {n1 n2 : Nat} {P1 P2 : Nat → Value → Prop} {St1 St2 : Nat → Heap → Prop} {a b : Value} {Q : Fin → Shared → Prop}
    (D1 : ∀ A' : Around, A'.handled = none → Draws prog w A' i1 fp1 n1 P1 St1) (D2 : ∀ A' : Around, A'.handled = none → Draws prog w A' i2 fp2 n2 P2 St2) (hh : A.handled = none) (D : ZApart z TI TO i1 i2 fp1 fp2)
    (hz : IsZip s.heap z TI TO .none) (hTI : IsPair s.heap TI (.ref i1) (.ref i2)) (hTO : IsPair s.heap TO a b)
    (h1 : St1 (min n1 n2) s.heap) (h2 : St2 (min n1 n2) s.heap)
    (hE : ∀ h' tk e, (∀ c o, c ≠ z → c ≠ TO → c ≠ i1 → c ≠ i2 → s.heap.get? c = some o → h'.get? c = some o) → (∃ o, h'.get? e = some o ∧ o.cls = .type "StopIteration") → E (.ref e) { s with heap := h', toks := tk }) :
    wpAny (model prog w) A (Builtin.«zip.__next__» ⟨[.ref z], []⟩) Q E s := by
  have E1 := D1 A hh
  have E2 := D2 A hh
  show wpAny _ _ (field (.ref z) 2 >>= _) _ _ _
  refine wpAny_bind (wpAny_field hz rfl (x := .bool false) rfl ?_)
  show wpAny _ _ (field (.ref z) 3 >>= _) _ _ _
  refine wpAny_bind (wpAny_field hz rfl (x := .ref TI) rfl ?_)
  refine wpAny_bind (wpAny_seqItems hTI rfl ?_)
  show wpAny _ _ (Builtin.SmallTypes.ownedTupleIsFree (.ref z) >>= _) _ _ _
  refine wpAny_bind ?_
  unfold Builtin.SmallTypes.ownedTupleIsFree
  refine wpAny_bind (wpAny_field hz rfl (x := .none) rfl (wpAny_pure ?_))
  simp only [if_true]
  refine wpAny_bind (wpAny_rule ?_)
  refine wpAny_bind (wpAny_field hz rfl (x := .ref TO) rfl ?_)
  refine wpAny_bind (wpAny_setField_rec hz (by simp) fun h₁ hz₁ hs₁ => ?_)
  replace hz₁ : IsZip h₁ z TI TO .ellipsis := hz₁
  refine wpAny_bind ?_
  simp only [List.zipIdx_cons, List.zipIdx_nil, List.forIn_cons, List.forIn_nil]
  refine wpAny_bind (wpAny_bind (wpAny_onRaise ?_))
  show wpAny _ _ (Builtin.SmallTypes.nextOf (.ref i1) >>= _) _ _ _
  by_cases hx : min n1 n2 < n1
  · have hn : min n1 n2 = n2 := by omega
    refine wpAny_bind ((D1 _ hh).item _ _ _ _ hx (stBut E1 h1 hs₁ D.z1) fun x h₂ tk₂ hP1 h1₂ hs₂ => wpAny_pure ?_)
    have hTO₂ : IsPair h₂ TO a b := hs₂.extBut _ _ D.TOi1 (hs₁.extBut _ _ D.TOz hTO)
    refine wpAny_bind (wpAny_seqItems hTO₂ rfl ?_)
    refine wpAny_bind (wpAny_updateSeq_pair hTO₂ fun h₃ hTO₃ hs₃ => ?_)
    refine wpAny_bind (wpAny_letGo (wpAny_pure ?_))
    refine wpAny_bind (wpAny_bind (wpAny_onRaise ?_))
    show wpAny _ _ (Builtin.SmallTypes.nextOf (.ref i2) >>= _) _ _ _
    refine wpAny_bind ((D2 _ hh).done _ _ _ (by rw [← hn]; exact stBut E2 (stBut E2 (stBut E2 h2 hs₁ D.z2) hs₂ D.i12f) hs₃ D.TO2) fun h₄ e hs₄ he => ?_)
    obtain ⟨oe, hoe, hce⟩ := he
    have hz₄ : IsZip h₄ z TI TO .ellipsis := hs₄ _ _ D.i2z.symm (hs₃.extBut _ _ D.TOz.symm (hs₂.extBut _ _ D.i1z.symm hz₁))
    have hez : e ≠ z := fun x => by subst x; rw [hz₄] at hoe; cases hoe; simp at hce
    refine wpAny_setField_rec hz₄ (by simp) fun h₅ _ hs₅ => hE h₅ _ e (fun c o c1 c2 c3 c4 x => hs₅.extBut _ _ c1 (hs₄ _ _ c4 (hs₃.extBut _ _ c2 (hs₂.extBut _ _ c3 (hs₁.extBut _ _ c1 x))))) ⟨oe, hs₅.extBut _ _ hez hoe, hce⟩
  · have hn : min n1 n2 = n1 := by omega
    refine wpAny_bind ((D1 _ hh).done _ _ _ (by rw [← hn]; exact stBut E1 h1 hs₁ D.z1) fun h₂ e hs₂ he => ?_)
    obtain ⟨oe, hoe, hce⟩ := he
    have hz₂ : IsZip h₂ z TI TO .ellipsis := hs₂ _ _ D.i1z.symm hz₁
    have hez : e ≠ z := fun x => by subst x; rw [hz₂] at hoe; cases hoe; simp at hce
    refine wpAny_setField_rec hz₂ (by simp) fun h₃ _ hs₃ => hE h₃ _ e (fun c o c1 _ c3 _ x => hs₃.extBut _ _ c1 (hs₂ _ _ c3 (hs₁.extBut _ _ c1 x))) ⟨oe, hs₃.extBut _ _ hez hoe, hce⟩
theorem walks_zipD {z TI TO i1 i2 : Addr} {fp1 fp2 : List Addr} {n1 n2 : Nat} {P1 P2 : Nat → Value → Prop} {St1 St2 : Nat → Heap → Prop}
    (D1 : ∀ A' : Around, A'.handled = none → Draws prog w A' i1 fp1 n1 P1 St1) (D2 : ∀ A' : Around, A'.handled = none → Draws prog w A' i2 fp2 n2 P2 St2) (hh : A.handled = none) (D : ZApart z TI TO i1 i2 fp1 fp2) :
    WalksU prog w A z (z :: TI :: TO :: (fp1 ++ fp2)) [z, TO, i1, i2] (min n1 n2)
      (fun i vals => ∃ x y, P1 i x ∧ P2 i y ∧ vals = #[x, y])
      (fun i h => IsZip h z TI TO .none ∧ IsPair h TI (.ref i1) (.ref i2) ∧ (∃ a b, IsPair h TO a b) ∧ St1 i h ∧ St2 i h)
      (fun i T h => IsZip h z TI TO (rawInt T) ∧ IsPair h TI (.ref i1) (.ref i2) ∧ (∃ a b, IsPair h TO a b) ∧ St1 (i + 1) h ∧ St2 (i + 1) h ∧ T ≠ z ∧ T ≠ TO ∧ T ≠ i1 ∧ T ≠ i2) where
  sub := fun c hc => by
    simp at hc ⊢
    rcases hc with rfl | rfl | rfl | rfl
    · simp
    · simp
    · simp [D.in1]
    · simp [D.in2]
  frame := fun i h h' hst hk => by
    obtain ⟨hz, hTI, ⟨a, b, hTO⟩, h1, h2⟩ := hst
    exact ⟨hk z (by simp) _ hz, hk TI (by simp) _ hTI, ⟨a, b, hk TO (by simp) _ hTO⟩, (D1 _ hh).frame _ _ _ h1 fun b hb o e => hk b (by simp [hb]) o e, (D2 _ hh).frame _ _ _ h2 fun b hb o e => hk b (by simp [hb]) o e⟩
  item := fun i s Q E hi hst hQ => by
    obtain ⟨hz, hTI, ⟨a, b, hTO⟩, h1, h2⟩ := hst
    have hT : s.TypeIs (.ref z) "zip" := ⟨_, hz, rfl⟩
    have lt : ∀ {c o}, s.heap.get? c = some o → s.heap.objs.size ≠ c := fun e => Nat.ne_of_gt (Heap.lt_size e)
    unfold pyNext
    exact wpAny_bind (wpAny_attempt (wpAny_callSpecial?_slot (name := Str.ofString "__next__") hT F.slot_zip_next
      (wpAny_call_entry F.slot_zip_next hT F.entry_zip_next
        (zipD_item D1 D2 hh D hz hTI hTO h1 h2 (by omega) (by omega) fun x y h' tk p1 p2 a1 a2 a3 a4 a5 hk => wpAny_pure (hQ s.heap.objs.size #[x, y] h' tk ⟨x, y, p1, p2, rfl⟩ ⟨_, a5, rfl, _, rfl⟩
          ⟨a1, hk _ _ D.TIz D.TITO D.TIi1 D.TIi2 hTI, ⟨_, _, a2⟩, a3, a4, lt hz, lt hTO, (by obtain ⟨_, e⟩ := (D1 _ hh).live _ _ h1; exact lt e), (by obtain ⟨_, e⟩ := (D2 _ hh).live _ _ h2; exact lt e)⟩
          fun c o hc e => hk c o (fun x => hc (by simp [x])) (fun x => hc (by simp [x])) (fun x => hc (by simp [x])) (fun x => hc (by simp [x])) e)) (F.args_zip_next_1 _))))
  go := fun elts k pos i T s Q E hm hQ => by
    obtain ⟨hz, hTI, ⟨a, b, hTO⟩, h1, h2, _⟩ := hm
    refine wpAny_letOwnedTupleGo_zip hz fun h' hz' hs' => hQ h' ⟨hz', hs'.extBut _ _ D.TIz hTI, ⟨a, b, hs'.extBut _ _ D.TOz hTO⟩, stBut (D1 _ hh) h1 hs' D.z1, stBut (D2 _ hh) h2 hs' D.z2⟩ fun c o hc e => hs'.extBut _ _ (fun x => hc (by simp [x])) e
  apart := fun i T h hm hT => by
    obtain ⟨_, _, _, _, _, t1, t2, t3, t4⟩ := hm
    simp at hT
    rcases hT with rfl | rfl | rfl | rfl
    · exact t1 rfl
    · exact t2 rfl
    · exact t3 rfl
    · exact t4 rfl
  done := fun s Q E hst hQ => by
    obtain ⟨hz, hTI, ⟨a, b, hTO⟩, h1, h2⟩ := hst
    have hT : s.TypeIs (.ref z) "zip" := ⟨_, hz, rfl⟩
    unfold pyNext
    refine wpAny_bind (wpAny_attempt (wpAny_callSpecial?_slot (name := Str.ofString "__next__") hT F.slot_zip_next
      (wpAny_call_entry F.slot_zip_next hT F.entry_zip_next (zipD_end D1 D2 hh D hz hTI hTO h1 h2 fun h' tk e hk he => ?_) (F.args_zip_next_1 _))))
    obtain ⟨o, ho, hc⟩ := he
    refine wpAny_bind (wpAny_isInstance (T := "StopIteration") (b := true) ⟨o, ho, hc⟩ isSubtype_stop ?_)
    exact wpAny_pure (hQ h' tk fun c o hc e => hk c o (fun x => hc (by simp [x])) (fun x => hc (by simp [x])) (fun x => hc (by simp [x])) (fun x => hc (by simp [x])) e)
  self := fun i s Q E hst hQ => wpAny_pyIter_zip hst.1 hQ
end
end

section
open PySem PySem.W PyProof.Rows PyProof.Rows.LCg PySem.Calls

/-- what pyIter makes of an iterable: one object -/
def Makes (prog : Program) (w : World) (x : Value) (C : Heap → Prop) (o : Obj) : Prop :=
  ∀ (A : Around) (E : Value → Shared → Prop) (Q : Value → Shared → Prop) (s : Shared), C s.heap → Q (.ref s.heap.objs.size) { s with heap := s.heap.push o } → wpAny (model prog w) A (pyIter x) Q E s
theorem makes_list {prog : Program} {w : World} {l : Addr} {xs : Array Value} : Makes prog w (.ref l) (fun h => h.IsList l xs) { cls := .type "list_iterator", data := .fields #[.ref l, .int 0 0] } :=
  fun _ _ _ _ hl hq => wpAny_pyIter_list hl hq
theorem makes_ascii {prog : Program} {w : World} {x : Str} {t : Tok} (ha : x.cps.all (· < 128) = true) : Makes prog w (.str x t) (fun _ => True) { cls := .type "str_ascii_iterator", data := .fields #[.str x t, .int 0 0] } :=
  fun _ _ _ _ _ hq => wpAny_pyIter_ascii ha hq
abbrev zG2 (h : Heap) (o1 o2 : Obj) : Heap := (h.push o1).push o2
abbrev zG3 (h : Heap) (o1 o2 : Obj) : Heap := (zG2 h o1 o2).push { cls := .type "tuple", data := .seq #[.ref h.objs.size, .ref (h.push o1).objs.size] }
abbrev zG4 (h : Heap) (o1 o2 : Obj) : Heap := (zG3 h o1 o2).push { cls := .type "tuple", data := .seq #[.none, .none] }
abbrev zG5 (h : Heap) (o1 o2 : Obj) : Heap := (zG4 h o1 o2).push { cls := .type "zip", data := .fields #[.none, .bool false, .bool false, .ref (zG2 h o1 o2).objs.size, .ref (zG3 h o1 o2).objs.size] }
theorem meets_zipG {prog : Program} {w : World} {x1 x2 : Value} {o1 o2 : Obj} {C1 C2 : Heap → Prop} (M1 : Makes prog w x1 C1 o1) (M2 : Makes prog w x2 C2 o2) :
    MeetsIn prog w (Builtin.«zip.__new__» ⟨[.type "zip", x1, x2], []⟩) (fun _ R s => C1 s.heap ∧ C2 (s.heap.push o1) ∧ R (.ok (.ret (.ref (zG4 s.heap o1 o2).objs.size))) { s with heap := zG5 s.heap o1 o2 }) :=
  .of_wp fun A R s h => by
    obtain ⟨hp, g, d, tk, os⟩ := s; obtain ⟨c1, c2, h⟩ := h
    have hsub := sub_zip
    have c1' : C1 (Shared.heap ⟨hp, g, d, tk, os⟩) := c1
    have c2' : C2 (Shared.heap ⟨hp.push o1, g, d, tk, os⟩) := c2
    have r1 : ∀ {A : Around} {E Q : Value → Shared → Prop}, Q (.ref hp.objs.size) ⟨hp.push o1, g, d, tk, os⟩ → wpAny (model prog w) A (pyIter x1) Q E ⟨hp, g, d, tk, os⟩ := fun q => M1 _ _ _ _ c1' q
    have r2 : ∀ {A : Around} {E Q : Value → Shared → Prop}, Q (.ref (hp.push o1).objs.size) ⟨(hp.push o1).push o2, g, d, tk, os⟩ → wpAny (model prog w) A (pyIter x2) Q E ⟨hp.push o1, g, d, tk, os⟩ := fun q => M2 _ _ _ _ c2' q
    clear M1 M2
    wp_walk using r1, r2
    exact ⟨_, rfl, h⟩
section
variable {prog : Program} {w : World} {A : Around} {E : Value → Shared → Prop} {s : Shared}
theorem call_zipG {x1 x2 : Value} {o1 o2 : Obj} {C1 C2 : Heap → Prop} {Q : Value → Shared → Prop} (M1 : Makes prog w x1 C1 o1) (M2 : Makes prog w x2 C2 o2) (c1 : C1 s.heap) (c2 : C2 (s.heap.push o1)) (f1 : o1.isFreed = false) (f2 : o2.isFreed = false)
    (h : ∀ h', IsZip h' (s.heap.objs.size + 4) (s.heap.objs.size + 2) (s.heap.objs.size + 3) .none → IsPair h' (s.heap.objs.size + 2) (.ref s.heap.objs.size) (.ref (s.heap.objs.size + 1)) →
      IsPair h' (s.heap.objs.size + 3) .none .none → h'.get? s.heap.objs.size = some o1 → h'.get? (s.heap.objs.size + 1) = some o2 → h'.objs.size = s.heap.objs.size + 5 →
      (∀ c o, s.heap.get? c = some o → h'.get? c = some o) → Q (.ref (s.heap.objs.size + 4)) { s with heap := h' }) :
    wpAny (model prog w) A (call (.type "zip") [x1, x2]) Q E s := by
  refine callType_newIn F.called_zip (by decide) (F.typeCall_zip_2 _ _) (F.newCall_zip_2 _ _) (fun obj => F.args_object_init_3 obj _ _) F.entry_zip_new
    (meets_zipG M1 M2) ⟨c1, c2, ?_⟩
  have z1 : (s.heap.push o1).objs.size = s.heap.objs.size + 1 := Heap.size_push ..
  have z2 : (zG2 s.heap o1 o2).objs.size = s.heap.objs.size + 2 := by rw [Heap.size_push, z1]
  have z3 : (zG3 s.heap o1 o2).objs.size = s.heap.objs.size + 3 := by rw [Heap.size_push, z2]
  have z4 : (zG4 s.heap o1 o2).objs.size = s.heap.objs.size + 4 := by rw [Heap.size_push, z3]
  have z5 : (zG5 s.heap o1 o2).objs.size = s.heap.objs.size + 5 := by rw [Heap.size_push, z4]
  have g5 : (zG5 s.heap o1 o2).get? (zG4 s.heap o1 o2).objs.size = some _ := Heap.get?_push_size _ rfl
  have g4 : (zG5 s.heap o1 o2).get? (zG3 s.heap o1 o2).objs.size = some _ := Heap.get?_push_of_some _ (Heap.get?_push_size _ rfl)
  have g3 : (zG5 s.heap o1 o2).get? (zG2 s.heap o1 o2).objs.size = some _ := Heap.get?_push_of_some _ (Heap.get?_push_of_some _ (Heap.get?_push_size _ rfl))
  have g2 : (zG5 s.heap o1 o2).get? (s.heap.push o1).objs.size = some o2 := Heap.get?_push_of_some _ (Heap.get?_push_of_some _ (Heap.get?_push_of_some _ (Heap.get?_push_size _ f2)))
  have g1 : (zG5 s.heap o1 o2).get? s.heap.objs.size = some o1 := Heap.get?_push_of_some _ (Heap.get?_push_of_some _ (Heap.get?_push_of_some _ (Heap.get?_push_of_some _ (Heap.get?_push_size _ f1))))
  show _ ∧ _
  rw [z2, z3, z4] at g5
  rw [z1, z2] at g3
  rw [z3] at g4
  rw [z1] at g2
  rw [z4]
  exact ⟨⟨_, g5, rfl⟩, h _ g5 g3 g4 g1 g2 z5 fun c o x =>
    Heap.get?_push_of_some _ (Heap.get?_push_of_some _ (Heap.get?_push_of_some _ (Heap.get?_push_of_some _ (Heap.get?_push_of_some _ x))))⟩
/-- enumerate with the start 1 -/
theorem meets_enum1 (l : Addr) (items : Array Value) (n : Nat) (dct : Option Addr) (sl : Array (Option Value)) (t : Tok) :
    Meets (Builtin.«enumerate.__new__» ⟨[.type "enumerate", .ref l, .int 1 t], []⟩) (fun _ R s => s.heap.get? l = some { cls := .type "list", dict := dct, data := .seq items n, slots := sl } ∧
      R (.ok (.ret (.ref (s.heap.push { cls := .type "list_iterator", data := .fields #[.ref l, .int 0 0] }).objs.size)))
        { s with heap := (s.heap.push { cls := .type "list_iterator", data := .fields #[.ref l, .int 0 0] }).push { cls := .type "enumerate", data := .fields #[.none, .bool false, .ref s.heap.objs.size, rawInt 1, .none, .none] } }) :=
  .of_wp fun prog w A R s h => by
    obtain ⟨hp, g, d, tk, os⟩ := s; obtain ⟨hl, h⟩ := h
    have hsub := sub_enumerate
    have hL : Heap.IsList (Shared.heap ⟨hp, g, d, tk, os⟩) l items := ⟨_, hl, rfl, n, rfl⟩
    wp_walk using AutoSeq1.wpAny_loadPart' hl
    refine wpAny_stack_any fun st => wpAny_pure ?_
    have hf : (!Builtin.SmallTypes.fitsIndex 1) = false := by decide
    split
    · rename_i c _ _ _ _ _
      cases (c == Value.type "enumerate")
      · wp_walk using AutoSeq1.wpAny_loadPart' hl, wpAny_pyIter_list hL
        exact ⟨_, rfl, h⟩
      · wp_walk using AutoSeq1.wpAny_loadPart' hl, wpAny_pyIter_list hL
        exact ⟨_, rfl, h⟩
    · wp_walk using AutoSeq1.wpAny_loadPart' hl, wpAny_pyIter_list hL
      exact ⟨_, rfl, h⟩
theorem call_enum1 {l : Addr} {items : Array Value} {t : Tok} {Q : Value → Shared → Prop} (hL : s.heap.IsList l items)
    (h : ∀ h', IsEnum h' (s.heap.objs.size + 1) s.heap.objs.size 1 .none → h'.IsListIter s.heap.objs.size l 0 → h'.objs.size = s.heap.objs.size + 2 →
      (∀ b o, s.heap.get? b = some o → h'.get? b = some o) → Q (.ref (s.heap.objs.size + 1)) { s with heap := h' }) :
    wpAny (model prog w) A (call (.type "enumerate") [.ref l, .int 1 t]) Q E s := by
  obtain ⟨⟨c, dct, dt, sl⟩, hl, hc, n, hd⟩ := hL
  replace hc : c = .type "list" := hc
  replace hd : dt = .seq items n := hd
  subst hc hd
  refine callType_new F.called_enumerate (by decide) (by kernel_rfl) (by kernel_rfl) (fun obj => F.args_object_init_3 obj _ _) F.entry_enumerate_new
    (meets_enum1 l items n dct sl t) ⟨hl, ?_⟩
  have hz : (s.heap.push { cls := .type "list_iterator", data := .fields #[.ref l, .int 0 0] }).objs.size = s.heap.objs.size + 1 := Heap.size_push ..
  show _ ∧ _
  rw [hz]
  have he : IsEnum ((s.heap.push { cls := .type "list_iterator", data := .fields #[.ref l, .int 0 0] }).push
      { cls := .type "enumerate", data := .fields #[.none, .bool false, .ref s.heap.objs.size, rawInt 1, .none, .none] }) (s.heap.objs.size + 1) s.heap.objs.size 1 .none := by
    have := Heap.get?_push_size (s.heap.push { cls := .type "list_iterator", data := .fields #[.ref l, .int 0 0] })
      (o := { cls := .type "enumerate", data := .fields #[.none, .bool false, .ref s.heap.objs.size, rawInt 1, .none, .none] }) rfl
    rw [hz] at this; exact this
  refine ⟨⟨_, he, rfl⟩, h _ he ⟨_, Heap.get?_push_of_some _ (Heap.get?_push_size _ rfl), rfl, rfl⟩ (by rw [Heap.size_push, hz]) fun b o x => Heap.get?_push_of_some _ (Heap.get?_push_of_some _ x)⟩
theorem enumJ_item {e it : Addr} {fp : List Addr} {n i : Nat} {j : Int} {P : Nat → Value → Prop} {St : Nat → Heap → Prop} {old : Value} {Q : Value → Shared → Prop}
    (D : Draws prog w A it fp n P St) (he : IsEnum s.heap e it j old) (hst : St i s.heap) (hlt : i < n) (hne : e ≠ it) (hef : e ∉ fp)
    (hQ : ∀ x h' tk, P i x → IsEnumOut h' e it (j + 1) x s.heap.objs.size → St (i + 1) h' →
      h'.get? s.heap.objs.size = some { cls := .type "tuple", data := .seq #[.int j tk, x] } → h'.objs.size = s.heap.objs.size + 1 →
      (∀ b o, b ≠ e → b ≠ it → s.heap.get? b = some o → h'.get? b = some o) → Q (.ref s.heap.objs.size) { s with heap := h', toks := tk + 1 }) :
    wpAny (model prog w) A (Builtin.«enumerate.__next__» ⟨[.ref e], []⟩) (fun fin s' => ∃ v, fin = .done (.ret v) ∧ Q v s') E s := by
  obtain ⟨hp, g, d, tk₀, os⟩ := s
  show wpAny _ _ (field (.ref e) 2 >>= _) _ _ _
  refine wpAny_bind (wpAny_field he rfl (x := .ref it) rfl ?_)
  refine wpAny_bind (D.item i _ _ _ hlt hst fun x h₁ tk hPx hit₁ hs₁ => ?_)
  replace hs₁ : Heap.SameBut it hp h₁ := hs₁
  have he₁ : IsEnum h₁ e it j old := (hs₁.2 e hne).trans he
  show wpAny _ _ (field (.ref e) 3 >>= _) _ _ ⟨h₁, g, d, tk, os⟩
  refine wpAny_bind (wpAny_field he₁ rfl (x := rawInt j) rfl ?_)
  show wpAny _ _ (field (.ref e) 4 >>= _) _ _ ⟨h₁, g, d, tk, os⟩
  refine wpAny_bind (wpAny_field he₁ rfl (x := .none) rfl ?_)
  show wpAny _ _ (mkInt j >>= _) _ _ ⟨h₁, g, d, tk, os⟩
  refine wpAny_bind (wpAny_mkInt ?_)
  show wpAny _ _ (setField (.ref e) 3 (rawInt (j + 1)) >>= _) _ _ ⟨h₁, g, d, tk + 1, os⟩
  refine wpAny_bind (wpAny_setField_rec he₁ (by simp) fun h₂ he₂ hs₂ => ?_)
  replace hs₂ : Heap.SameBut e h₁ h₂ := hs₂
  replace he₂ : IsEnum h₂ e it (j + 1) old := he₂
  show wpAny _ _ (setField (.ref e) 4 .none >>= _) _ _ ⟨h₂, g, d, tk + 1, os⟩
  refine wpAny_bind (wpAny_setField_rec he₂ (by simp) fun h₃ he₃ hs₃ => ?_)
  replace hs₃ : Heap.SameBut e h₂ h₃ := hs₃
  replace he₃ : IsEnum h₃ e it (j + 1) old := he₃
  show wpAny _ _ (newTuple [.int j tk, x] >>= _) _ _ ⟨h₃, g, d, tk + 1, os⟩
  refine wpAny_bind (wpAny_newTuple ?_)
  have he₄ : IsEnum (h₃.push { cls := .type "tuple", data := .seq #[.int j tk, x] }) e it (j + 1) old := Heap.get?_push_of_some _ he₃
  generalize hh₄ : h₃.push { cls := .type "tuple", data := .seq #[.int j tk, x] } = h₄ at he₄
  have hsz : h₃.objs.size = hp.objs.size := by rw [hs₃.1, hs₂.1, hs₁.1]
  have hel : e < hp.objs.size := Heap.lt_size he
  have ht₄ : h₄.get? hp.objs.size = some { cls := .type "tuple", data := .seq #[.int j tk, x] } := by rw [← hh₄, ← hsz]; exact Heap.get?_push_size _ rfl
  have hz₄ : h₄.objs.size = hp.objs.size + 1 := by rw [← hh₄, Heap.size_push, hsz]
  have hk₄ : ∀ b o, b ≠ e → b ≠ it → hp.get? b = some o → h₄.get? b = some o := fun b o hbe hbi hb => by
    rw [← hh₄]; exact Heap.get?_push_of_some _ (hs₃.extBut b o hbe (hs₂.extBut b o hbe (hs₁.extBut b o hbi hb)))
  have hit₄ : St (i + 1) h₄ := D.frame _ _ _ hit₁ fun b hb o y => by
    have hbe : b ≠ e := fun q => hef (q ▸ hb)
    rw [← hh₄]; exact Heap.get?_push_of_some _ (hs₃.extBut b o hbe (hs₂.extBut b o hbe y))
  show wpAny _ _ (Builtin.SmallTypes.ownedTupleIsFree (.ref e) >>= _) _ _ ⟨h₄, g, d, tk + 1, os⟩
  rw [hsz]
  clear hh₄ he₃ hs₃ he₂ hs₂ he₁ hs₁ hit₁ hsz h₃ h₂ h₁
  refine wpAny_bind ?_
  unfold Builtin.SmallTypes.ownedTupleIsFree
  refine wpAny_bind (wpAny_field he₄ rfl (x := .none) rfl (wpAny_pure ?_))
  simp only [if_true]
  refine wpAny_bind (wpAny_rule ?_)
  refine wpAny_bind (wpAny_field he₄ rfl (x := old) rfl ?_)
  refine wpAny_bind (wpAny_setField_rec he₄ (by simp) fun h₅ he₅ hs₅ => ?_)
  replace hs₅ : Heap.SameBut e h₄ h₅ := hs₅
  replace he₅ : IsEnum h₅ e it (j + 1) x := he₅
  show wpAny _ _ (Builtin.SmallTypes.ownedTupleHandOut (.ref e) (.ref hp.objs.size) >>= _) _ _ ⟨h₅, g, d, tk + 1, os⟩
  refine wpAny_bind ?_
  unfold Builtin.SmallTypes.ownedTupleHandOut
  refine wpAny_bind (wpAny_setField_rec he₅ (by simp) fun h₆ he₆ hs₆ => ?_)
  replace hs₆ : Heap.SameBut e h₅ h₆ := hs₆
  replace he₆ : IsEnumOut h₆ e it (j + 1) x hp.objs.size := he₆
  refine wpAny_setField_rec he₆ (by simp) fun h₇ he₇ hs₇ => ?_
  replace hs₇ : Heap.SameBut e h₆ h₇ := hs₇
  replace he₇ : IsEnumOut h₇ e it (j + 1) x hp.objs.size := he₇
  refine wpAny_bind (wpAny_letGo (wpAny_pure ⟨_, rfl, hQ x h₇ tk hPx he₇ ?_ ?_ ?_ ?_⟩))
  · exact D.frame _ _ _ hit₄ fun b hb o y => by
      have hbe : b ≠ e := fun q => hef (q ▸ hb)
      exact hs₇.extBut b o hbe (hs₆.extBut b o hbe (hs₅.extBut b o hbe y))
  · exact hs₇.extBut _ _ (Nat.ne_of_gt hel) (hs₆.extBut _ _ (Nat.ne_of_gt hel) (hs₅.extBut _ _ (Nat.ne_of_gt hel) ht₄))
  · rw [hs₇.1, hs₆.1, hs₅.1, hz₄]
  · exact fun b o hbe hbi hb => hs₇.extBut b o hbe (hs₆.extBut b o hbe (hs₅.extBut b o hbe (hk₄ b o hbe hbi hb)))
theorem walks_enumJ {it : Addr} {fp : List Addr} {n : Nat} {j : Int} {P : Nat → Value → Prop} {St : Nat → Heap → Prop} (D : Draws prog w A.in1 it fp n P St) (e : Addr) (hei : e ≠ it) (hef : e ∉ fp) (hif : it ∈ fp) :
    WalksU prog w A e (e :: fp) [e, it] n
      (fun i vals => ∃ t x, P i x ∧ vals = #[.int (j + i) t, x])
      (fun i h => (∃ old, IsEnum h e it (j + i) old) ∧ St i h)
      (fun i T h => (∃ x, IsEnumOut h e it (j + i + 1) x T) ∧ St (i + 1) h ∧ T ≠ e ∧ T ≠ it) where
  sub := fun b hb => by
    rcases List.mem_cons.mp hb with rfl | hb
    · exact List.mem_cons_self ..
    · rw [List.mem_singleton.mp hb]; exact List.mem_cons_of_mem _ hif
  frame := fun i h h' hst hk => by
    obtain ⟨⟨old, he⟩, hs⟩ := hst
    exact ⟨⟨old, hk e (by simp) _ he⟩, D.frame _ _ _ hs fun b hb o x => hk b (List.mem_cons_of_mem _ hb) o x⟩
  item := fun i s Q E hi hst hQ => by
    obtain ⟨⟨old, he⟩, hs⟩ := hst
    have hT : s.TypeIs (.ref e) "enumerate" := ⟨_, he, rfl⟩
    unfold pyNext
    refine wpAny_bind (wpAny_attempt (wpAny_callSpecial?_slot (name := Str.ofString "__next__") hT F.slot_enumerate_next
      (wpAny_call_entry F.slot_enumerate_next hT F.entry_enumerate_next
        (enumJ_item D he hs hi hei hef fun x h' tk hP ho hs' hT' hsz hk => wpAny_pure ?_) (F.args_enumerate_next_1 _))))
    have helt : e < s.heap.objs.size := Heap.lt_size he
    have hilt : it < s.heap.objs.size := by obtain ⟨_, y⟩ := D.live _ _ hs; exact Heap.lt_size y
    exact hQ s.heap.objs.size #[.int (j + i) tk, x] h' (tk + 1) ⟨_, _, hP, rfl⟩ ⟨_, hT', rfl, _, rfl⟩
      ⟨⟨_, ho⟩, hs', Nat.ne_of_gt helt, Nat.ne_of_gt hilt⟩
      fun b o hb y => hk b o (fun e' => hb (by simp [e'])) (fun e' => hb (by simp [e'])) y
  go := fun elts k pos i T s Q E hm hQ => by
    obtain ⟨⟨x, ho⟩, hs, hTe, hTi⟩ := hm
    refine wpAny_letOwnedTupleGo_enum ho fun h' he' hs' => hQ h' ⟨⟨x, by rw [Int.natCast_add]; show IsEnum h' e it (j + (i + 1)) x; rw [← Int.add_assoc]; exact he'⟩, D.frame _ _ _ hs fun b hb o y => (hs'.2 b fun q => hef (q ▸ hb)).trans y⟩ fun b o hb y => ?_
    exact (hs'.2 b fun e' => hb (by simp [e'])).trans y
  apart := fun i T h hm hT => by
    obtain ⟨_, _, hTe, hTi⟩ := hm
    rcases List.mem_cons.mp hT with rfl | hT
    · exact hTe rfl
    · exact hTi (List.mem_singleton.mp hT)
  done := fun s Q E hst hQ => by
    obtain ⟨⟨old, he⟩, hs⟩ := hst
    exact wpAny_pyNext_enum_endD D he hs fun h' hx => hQ h' s.toks fun b o hb y => hx b o (fun e' => hb (by simp [e'])) y
  self := fun i s Q E hst hQ => by
    obtain ⟨⟨old, he⟩, _⟩ := hst
    exact wpAny_pyIter_enum he hQ
end
end

section
open PySem PySem.W PyProof.Rows PyProof.Rows.LCg PySem.Calls

theorem kturns_wider {prog : Program} {w : World} {A : Around} {target : PySem.Expr} {I : Addr} {fp wr wr' : List Addr} {n : Nat} {P Md : Nat → Value → Heap → Prop} {St : Nat → Heap → Prop} (W : KTurns prog w A target I fp wr n P Md St)
    (h1 : ∀ b ∈ wr, b ∈ wr') (h2 : ∀ b ∈ wr', b ∈ fp) : KTurns prog w A target I fp wr' n P Md St where
  sub := h2
  frame := W.frame
  item := fun i s Q E hi st hQ => W.item i s Q E hi st fun v h' tk a hk => hQ v h' tk a fun b o hb e => hk b o (fun q => hb (h1 b q)) e
  go := fun i v s Q E a hQ => W.go i v s Q E a fun h' p st hk => hQ h' p st fun b o hb e => hk b o (fun q => hb (h1 b q)) e
  done := fun s Q E st hQ => W.done s Q E st fun h' tk hk => hQ h' tk fun b o hb e => hk b o (fun q => hb (h1 b q)) e
/-- the iterator of a comprehension over pairs, with all that its block asks -/
def PSrc (prog : Program) (w : World) (A : Around) (h₀ : Heap) (L : Addr) (m : Str → Option Value) (env : Env) (c : Option PySem.Expr) (elt : PySem.Expr) (a b : Str) (pa pb : Pos) (kk : Nat) (tp : Pos) (scope : Scope) (cl : List (Str × Addr))
    (Fin : Shared → List Value → List (Addr × Obj) → Prop) (it : Value) (s₂ : Shared) : Prop :=
  ∃ (I : Addr) (fp wr : List Addr) (n : Nat) (Pt : Nat → Array Value → Prop) (Md : Nat → Value → Heap → Prop) (St : Nat → Heap → Prop) (G : Nat → Value → Value → Prop) (keep news : List (Addr × Obj)) (J : Nat → List Value → List (Addr × Obj) → Prop),
    it = .ref I ∧ KTurns prog w A (.Tuple [.Name a pa, .Name b pb] kk tp) I fp wr n (fun i v h => ∃ T vals, v = .ref T ∧ Pt i vals ∧ h.IsTuple T vals) Md St ∧
    (∀ (s : Shared) (Q : Value → Shared → Prop) (E : Value → Shared → Prop), St 0 s.heap → Q (.ref I) s → wpAny (model prog w) A (pyIter (.ref I)) Q E s) ∧
    (∀ i vals, Pt i vals → ∃ x y, vals = #[x, y] ∧ G i x y) ∧ (∀ i h, St i h → ∀ b ∈ wr, ∃ o, h.get? b = some o) ∧ (∀ b ∈ fp, b ∈ wr ∨ ∃ o, (b, o) ∈ keep) ∧
    (∀ i ys news, J i ys news → ∀ p ∈ keep, p ∈ news) ∧ (∀ i ys news, J i ys news → i ≤ n → ys.length ≤ sizeLine) ∧ A.handled = none ∧ St 0 s₂.heap ∧ (∀ b ∈ fp, b < s₂.heap.objs.size) ∧
    Fr h₀ L s₂.heap m ∧ News h₀ L s₂.heap news ∧ L ∉ wr ∧ (∀ b ∈ wr, h₀.get? b = none) ∧ (∀ p ∈ news, p.1 ∉ wr) ∧ J 0 [] news ∧ PTurn prog w A h₀ L m env c elt a b scope cl s₂ n G J ∧
    ∀ ys news', J n ys news' → Fin s₂ ys news'
def FinP (h₀ : Heap) (L : Addr) (m : Str → Option Value) (Q : Value → Shared → Prop) (s : Shared) (ys : List Value) (news : List (Addr × Obj)) : Prop :=
  ∀ D h tk, Fr h₀ L h m → News h₀ L h ((D, lst ys) :: news) → (∀ p ∈ news, @Ne Nat p.1 D) → Q (.ref D) { s with heap := h, toks := tk }
def FinPA (h₀ : Heap) (L : Addr) (m : Str → Option Value) (y : Str) (Q : Flow → Shared → Prop) (s : Shared) (ys : List Value) (news : List (Addr × Obj)) : Prop :=
  ∀ D h tk, Fr h₀ L h (fun z => if z = y then some (.ref D) else m z) → News h₀ L h ((D, lst ys) :: news) → (∀ p ∈ news, @Ne Nat p.1 D) → Q .next { s with heap := h, toks := tk }
section
variable {prog : Program} {w : World} {A : Around} {E : Value → Shared → Prop} {s : Shared} {h₀ : Heap} {L : Addr} {m : Str → Option Value} {env : Env}
theorem ListComp_P {elt iter : PySem.Expr} (c : Option PySem.Expr) {a b : Str} {pa pb tp : Pos} {kk : Nat} {scope : Scope} {cl : List (Str × Addr)} {pos : Pos} {Q : Value → Shared → Prop} (F₀ : Fr h₀ L s.heap m)
    (hclos : closureFor scope env = pure cl) (hcell : ∀ y ∈ scope.names, y.2 ≠ .cell) (hkind : scope.kind = .function)
    (hnames : ∀ y ∈ scope.names, y.2 = .local → scope.names.lookup y.1 = some .local) (hxa : scope.names.lookup a = some .local) (hxb : scope.names.lookup b = some .local) (hab : ¬ a = b)
    (h : wpAny (model prog w) A (eval iter env) (fun xv s₁ => wpAny (model prog w) A (pyIter xv) (PSrc prog w A h₀ L m env c elt a b pa pb kk tp scope cl (FinP h₀ L m Q)) E s₁) E s)
    (hs : ∀ x, foldedSetIterable iter env x = pure x := by intro _; rfl) :
    wpAny (model prog w) A (eval (.ListComp elt [⟨.Tuple [.Name a pa, .Name b pb] kk tp, iter, pifs c, 0⟩] scope pos) env) Q E s := by
  rw [eval_ListComp]
  refine wpAny_comprehension_free (use := none) rfl hs hclos hkind hnames (wpAny_mono h (fun xv s₁ h₁ => wpAny_mono h₁ (fun it s₂ h₂ => ?_) fun _ _ e => e) fun _ _ e => e)
  obtain ⟨I, fp, wr, n, Pt, Md, St, G, keep, news, J, rfl, W, hself, hG, hlive, hfpk, hkeep, hJl, hh, hst, hfp, F, N, hLw, hw₀, off, J0, R, fin⟩ := h₂
  refine pair_block W hself hG hlive hfpk hkeep hJl hh hst hfp hcell hkind hxa hxb hab F N hLw hw₀ off J0 R ?_
  intro D C h tk m' ys news' F' N' o1 hn hC₀ hD₀ hCL hDL hCD offC hJ
  refine ⟨m', hn, fun h'' hs'' => fin ys news' hJ D h'' tk (F'.change hs'' hCL hC₀) (fun p hp => ?_) o1⟩
  refine ⟨hs''.extBut _ _ ?_ (N' p hp).1, (N' p hp).2⟩
  rcases List.mem_cons.mp hp with rfl | hp
  · exact Ne.symm hCD
  · exact offC p hp
theorem zipSrc {c : Option PySem.Expr} {elt : PySem.Expr} {a b : Str} {pa pb tp : Pos} {kk : Nat} {scope : Scope} {cl : List (Str × Addr)} {Fin : Shared → List Value → List (Addr × Obj) → Prop} {x1 x2 : Value} {o1 o2 : Obj} {C1 C2 : Heap → Prop}
    {k1 k2 : List Addr} {n1 n2 : Nat} {P1 P2 : Nat → Value → Prop} {St1 St2 : Addr → Nat → Heap → Prop} {keep news : List (Addr × Obj)} {J : Nat → List Value → List (Addr × Obj) → Prop}
    (M1 : Makes prog w x1 C1 o1) (M2 : Makes prog w x2 C2 o2) (c1 : C1 s.heap) (c2 : C2 (s.heap.push o1)) (f1 : o1.isFreed = false) (f2 : o2.isFreed = false)
    (D1 : ∀ (I : Addr) (A' : Around), I ∉ k1 → A'.handled = none → Draws prog w A' I (I :: k1) n1 P1 (St1 I)) (D2 : ∀ (I : Addr) (A' : Around), I ∉ k2 → A'.handled = none → Draws prog w A' I (I :: k2) n2 P2 (St2 I))
    (S1 : ∀ h : Heap, h.get? s.heap.objs.size = some o1 → (∀ c o, s.heap.get? c = some o → h.get? c = some o) → St1 s.heap.objs.size 0 h)
    (S2 : ∀ h : Heap, h.get? (s.heap.objs.size + 1) = some o2 → (∀ c o, s.heap.get? c = some o → h.get? c = some o) → St2 (s.heap.objs.size + 1) 0 h)
    (hk1 : ∀ b ∈ k1, ∃ o, (b, o) ∈ keep) (hk2 : ∀ b ∈ k2, ∃ o, (b, o) ∈ keep) (hkn : ∀ p ∈ keep, p ∈ news)
    (hh : A.handled = none) (F : Fr h₀ L s.heap m) (N : News h₀ L s.heap news)
    (hkeep : ∀ i ys news, J i ys news → ∀ p ∈ keep, p ∈ news) (hJl : ∀ i ys news, J i ys news → i ≤ min n1 n2 → ys.length ≤ sizeLine) (J0 : J 0 [] news)
    (R : PTurn prog w A h₀ L m env c elt a b scope cl s (min n1 n2) (fun i x y => P1 i x ∧ P2 i y) J)
    (fin : ∀ h tk ys news', J (min n1 n2) ys news' → Fin { s with heap := h, toks := tk } ys news') :
    wpAny (model prog w) A (call (.type "zip") [x1, x2]) (fun xv s₁ => wpAny (model prog w) A (pyIter xv) (PSrc prog w A h₀ L m env c elt a b pa pb kk tp scope cl Fin) E s₁) E s := by
  have hLs : L < s.heap.objs.size := F.ns.lt
  have lt1 : ∀ b ∈ k1, b < s.heap.objs.size := fun b hb => by obtain ⟨o, ho⟩ := hk1 b hb; exact Heap.lt_size (N _ (hkn _ ho)).1
  have lt2 : ∀ b ∈ k2, b < s.heap.objs.size := fun b hb => by obtain ⟨o, ho⟩ := hk2 b hb; exact Heap.lt_size (N _ (hkn _ ho)).1
  generalize hz : s.heap.objs.size = Z at *
  have g1 : ∀ j : Nat, Z + j ∉ k1 := fun j hm => absurd (lt1 _ hm) (Nat.not_lt.mpr (Nat.le_add_right _ _))
  have g2 : ∀ j : Nat, Z + j ∉ k2 := fun j hm => absurd (lt2 _ hm) (Nat.not_lt.mpr (Nat.le_add_right _ _))
  have ne : ∀ i j : Nat, i ≠ j → (Z + i : Nat) ≠ Z + j := fun i j h e => h (Nat.add_left_cancel e)
  have mem1 : ∀ i j : Nat, i ≠ j → Z + i ∉ (Z + j) :: k1 := fun i j h hm => by
    rcases List.mem_cons.mp hm with e | e
    · exact ne i j h e
    · exact g1 i e
  have mem2 : ∀ i j : Nat, i ≠ j → Z + i ∉ (Z + j) :: k2 := fun i j h hm => by
    rcases List.mem_cons.mp hm with e | e
    · exact ne i j h e
    · exact g2 i e
  have DD : ZApart (Z + 4) (Z + 2) (Z + 3) Z (Z + 1) (Z :: k1) ((Z + 1) :: k2) :=
    { TIz := ne 2 4 (by decide), TOz := ne 3 4 (by decide), i1z := ne 0 4 (by decide), i2z := ne 1 4 (by decide), TITO := ne 2 3 (by decide), TIi1 := ne 2 0 (by decide), TIi2 := ne 2 1 (by decide), TOi1 := ne 3 0 (by decide), TOi2 := ne 3 1 (by decide),
      i12 := ne 0 1 (by decide), z1 := mem1 4 0 (by decide), z2 := mem2 4 1 (by decide), TO1 := mem1 3 0 (by decide), TO2 := mem2 3 1 (by decide), i21 := mem1 1 0 (by decide), i12f := mem2 0 1 (by decide), in1 := List.mem_cons_self, in2 := List.mem_cons_self }
  refine call_zipG M1 M2 c1 c2 f1 f2 fun h' hz' hTI hTO hi1 hi2 hsz hk => ?_
  rw [hz] at hz' hTI hTO hi1 hi2 hsz ⊢
  refine wpAny_pyIter_zip hz' ?_
  have W := walks_zipD (prog := prog) (w := w) (A := A) (fun A' hA => D1 Z A' (g1 0) hA) (fun A' hA => D2 (Z + 1) A' (g2 1) hA) hh DD
  have wr5 : ∀ b : Addr, b ∈ [Z + 4, Z + 2, Z + 3, Z, Z + 1] → Z ≤ b ∧ b < Z + 5 := fun b hb => by
    simp only [List.mem_cons, List.not_mem_nil, or_false] at hb
    rcases hb with e | e | e | e | e <;> rw [e]
    · exact ⟨Nat.le_add_right _ _, Nat.add_lt_add_left (by decide) _⟩
    · exact ⟨Nat.le_add_right _ _, Nat.add_lt_add_left (by decide) _⟩
    · exact ⟨Nat.le_add_right _ _, Nat.add_lt_add_left (by decide) _⟩
    · exact ⟨Nat.le_refl _, Nat.lt_add_of_pos_right (by decide)⟩
    · exact ⟨Nat.le_add_right _ _, Nat.add_lt_add_left (by decide) _⟩
  refine ⟨Z + 4, _, [Z + 4, Z + 2, Z + 3, Z, Z + 1], min n1 n2, _, _, _, _, keep, news, J, rfl, kturns_wider (KTurns.ofWalksU W) ?_ ?_, fun s Q E st hq => W.self 0 s Q E st hq, fun i vals hv => by obtain ⟨x, y, p1, p2, rfl⟩ := hv; exact ⟨x, y, rfl, p1, p2⟩, ?_, ?_, hkeep, hJl, hh, ⟨hz', hTI, ⟨_, _, hTO⟩, S1 h' hi1 hk, S2 h' hi2 hk⟩, ?_, F.keeps hk, N.grown hk, ?_, ?_, ?_, J0, R, ?_⟩
  · intro b hb
    simp only [List.mem_cons, List.not_mem_nil, or_false] at hb ⊢
    rcases hb with e | e | e | e <;> simp [e]
  · intro b hb
    simp only [List.mem_cons, List.not_mem_nil, or_false, List.mem_append] at hb ⊢
    rcases hb with e | e | e | e | e <;> simp [e]
  · rintro i h ⟨a1, a2, ⟨_, _, a3⟩, a4, a5⟩ b hb
    simp only [List.mem_cons, List.not_mem_nil, or_false] at hb
    rcases hb with e | e | e | e | e <;> rw [e]
    · exact ⟨_, a1⟩
    · exact ⟨_, a2⟩
    · exact ⟨_, a3⟩
    · exact (D1 Z A (g1 0) hh).live _ _ a4
    · exact (D2 (Z + 1) A (g2 1) hh).live _ _ a5
  · intro b hb
    simp only [List.mem_cons, List.mem_append] at hb
    rcases hb with e | e | e | (e | hb) | (e | hb)
    · exact .inl (by simp [e])
    · exact .inl (by simp [e])
    · exact .inl (by simp [e])
    · exact .inl (by simp [e])
    · exact .inr (hk1 b hb)
    · exact .inl (by simp [e])
    · exact .inr (hk2 b hb)
  · intro b hb
    rw [hsz]
    simp only [List.mem_cons, List.mem_append] at hb
    rcases hb with e | e | e | (e | hb) | (e | hb)
    · exact (wr5 _ (by simp [e])).2
    · exact (wr5 _ (by simp [e])).2
    · exact (wr5 _ (by simp [e])).2
    · exact (wr5 _ (by simp [e])).2
    · exact Nat.lt_of_lt_of_le (lt1 b hb) (Nat.le_add_right _ _)
    · exact (wr5 _ (by simp [e])).2
    · exact Nat.lt_of_lt_of_le (lt2 b hb) (Nat.le_add_right _ _)
  · exact fun hm => absurd hLs (Nat.not_lt.mpr (wr5 _ hm).1)
  · intro b hb
    cases e : h₀.get? b with
    | none => rfl
    | some o =>
      have := Heap.lt_size (F.keep b o e)
      rw [hz] at this
      exact absurd this (Nat.not_lt.mpr (wr5 _ hb).1)
  · intro p hp hm
    have := Heap.lt_size (N p hp).1
    rw [hz] at this
    exact absurd this (Nat.not_lt.mpr (wr5 _ hm).1)
  · exact fun ys news' hJ => fin _ _ ys news' hJ
theorem zipSrcLS {c : Option PySem.Expr} {elt : PySem.Expr} {a b : Str} {pa pb tp : Pos} {kk : Nat} {scope : Scope} {cl : List (Str × Addr)} {Fin : Shared → List Value → List (Addr × Obj) → Prop} {l1 : Addr} {xs : List Value} {k1 : Nat} {x : Str} {t : Tok} {news : List (Addr × Obj)} {J : Nat → List Value → List (Addr × Obj) → Prop}
    (hh : A.handled = none) (F : Fr h₀ L s.heap m) (N : News h₀ L s.heap news) (hm1 : (l1, listOf xs.toArray k1) ∈ news) (ha : x.cps.all (· < 128) = true)
    (hkeep : ∀ i ys news, J i ys news → (l1, listOf xs.toArray k1) ∈ news) (hJl : ∀ i ys news, J i ys news → i ≤ min xs.length x.cps.size → ys.length ≤ sizeLine) (J0 : J 0 [] news)
    (R : PTurn prog w A h₀ L m env c elt a b scope cl s (min xs.length x.cps.size) (fun i u v => xs[i]? = some u ∧ ∃ cp t, x.cps[i]? = some cp ∧ v = .str ⟨#[cp]⟩ t) J)
    (fin : ∀ h tk ys news', J (min xs.length x.cps.size) ys news' → Fin { s with heap := h, toks := tk } ys news') :
    wpAny (model prog w) A (call (.type "zip") [.ref l1, .str x t]) (fun xv s₁ => wpAny (model prog w) A (pyIter xv) (PSrc prog w A h₀ L m env c elt a b pa pb kk tp scope cl Fin) E s₁) E s := by
  have hl : s.heap.IsList l1 xs.toArray := ⟨_, (N _ hm1).1, rfl, _, rfl⟩
  refine zipSrc (k1 := [l1]) (k2 := []) (n1 := xs.length) (n2 := x.cps.size) (P1 := fun i v => xs[i]? = some v) (P2 := fun i v => ∃ cp t, x.cps[i]? = some cp ∧ v = .str ⟨#[cp]⟩ t) (keep := [(l1, listOf xs.toArray k1)])
    (St1 := fun I i h => h.IsListIter I l1 i ∧ h.IsList l1 xs.toArray) (St2 := fun I i h => h.IsStrIter I "str_ascii_iterator" x t i)
    makes_list (makes_ascii ha) hl trivial rfl rfl (fun I A' hI hA => ?_) (fun I A' _ hA => Draws.strAscii hA I x t) (fun h e hk => ⟨⟨_, e, rfl, rfl⟩, hl.at fun o q => hk l1 o q⟩) (fun h e hk => ⟨_, e, rfl, rfl⟩) ?_ ?_ ?_ hh F N ?_ hJl J0 R fin
  · have := Draws.list (prog := prog) (w := w) hA I l1 (fun e => hI (by simp [e])) xs.toArray
    simpa using this
  · intro b hb
    rw [List.mem_singleton.mp hb]
    exact ⟨_, List.mem_singleton.mpr rfl⟩
  · exact fun b hb => nomatch hb
  · exact fun p hp => by rw [List.mem_singleton.mp hp]; exact hm1
  · exact fun i ys news hJ p hp => by rw [List.mem_singleton.mp hp]; exact hkeep i ys news hJ
theorem enumSrc {c : Option PySem.Expr} {elt : PySem.Expr} {a b : Str} {pa pb tp : Pos} {kk : Nat} {scope : Scope} {cl : List (Str × Addr)} {Fin : Shared → List Value → List (Addr × Obj) → Prop} {l1 : Addr} {xs : List Value} {k1 : Nat} {t : Tok} {news : List (Addr × Obj)} {J : Nat → List Value → List (Addr × Obj) → Prop}
    (hh : A.handled = none) (F : Fr h₀ L s.heap m) (N : News h₀ L s.heap news) (hm1 : (l1, listOf xs.toArray k1) ∈ news)
    (hkeep : ∀ i ys news, J i ys news → (l1, listOf xs.toArray k1) ∈ news) (hJl : ∀ i ys news, J i ys news → i ≤ xs.length → ys.length ≤ sizeLine) (J0 : J 0 [] news)
    (R : PTurn prog w A h₀ L m env c elt a b scope cl s xs.length (fun i u v => (∃ t, u = .int (1 + (i : Int)) t) ∧ xs[i]? = some v) J)
    (fin : ∀ h tk ys news', J xs.length ys news' → Fin { s with heap := h, toks := tk } ys news') :
    wpAny (model prog w) A (call (.type "enumerate") [.ref l1, .int 1 t]) (fun xv s₁ => wpAny (model prog w) A (pyIter xv) (PSrc prog w A h₀ L m env c elt a b pa pb kk tp scope cl Fin) E s₁) E s := by
  have hax := N _ hm1
  have hl : s.heap.IsList l1 xs.toArray := ⟨_, hax.1, rfl, _, rfl⟩
  have hlt : l1 < s.heap.objs.size := Heap.lt_size hax.1
  have hLs : L < s.heap.objs.size := F.ns.lt
  refine call_enum1 hl fun h' hE hI hsz hk => ?_
  refine wpAny_pyIter_enum hE ?_
  generalize hz : s.heap.objs.size = Z at *
  have h1 : (Z + 1 : Nat) ≠ Z := Nat.succ_ne_self _
  have h2 : l1 ≠ Z := Nat.ne_of_lt hlt
  have h3 : (Z + 1 : Nat) ≠ l1 := fun e => absurd hlt (Nat.not_lt.mpr (by rw [← e]; exact Nat.le_add_right _ _))
  have D0 : Draws prog w A.in1 Z [Z, l1] xs.length (fun i v => xs[i]? = some v) (fun i h => h.IsListIter Z l1 i ∧ h.IsList l1 xs.toArray) := by
    simpa using Draws.list (prog := prog) (w := w) (A := A.in1) hh Z l1 h2 xs.toArray
  have W := walks_enumJ (j := 1) D0 (Z + 1) h1 (by simp [h3]) (by simp)
  have wr2 : ∀ b : Addr, b ∈ [Z + 1, Z] → Z ≤ b ∧ b < Z + 2 := fun b hb => by
    simp only [List.mem_cons, List.not_mem_nil, or_false] at hb
    rcases hb with e | e <;> rw [e]
    · exact ⟨Nat.le_add_right _ _, Nat.lt_succ_self _⟩
    · exact ⟨Nat.le_refl _, Nat.lt_add_of_pos_right (by decide)⟩
  refine ⟨Z + 1, _, [Z + 1, Z], xs.length, _, _, _, _, [(l1, listOf xs.toArray k1)], news, J, rfl, KTurns.ofWalksU W, fun s Q E st hq => W.self 0 s Q E st hq, ?hG, ?_, ?_, fun i ys news hJ p hp => by rw [List.mem_singleton.mp hp]; exact hkeep i ys news hJ, hJl, hh, ⟨⟨.none, hE⟩, hI, hl.at fun o e => hk l1 o e⟩, ?_, F.keeps hk, N.grown hk, ?_, ?_, ?_, J0, R, ?_⟩
  case hG =>
    rintro i vals ⟨t, x, p1, rfl⟩
    exact ⟨_, _, rfl, ⟨t, rfl⟩, p1⟩
  · rintro i h ⟨⟨old, he⟩, ⟨oi, hoi, _⟩, _⟩ b hb
    simp only [List.mem_cons, List.not_mem_nil, or_false] at hb
    rcases hb with e | e <;> rw [e]
    · exact ⟨_, he⟩
    · exact ⟨_, hoi⟩
  · intro b hb
    simp only [List.mem_cons, List.not_mem_nil, or_false] at hb
    rcases hb with e | e | e <;> rw [e]
    · exact .inl (by simp)
    · exact .inl (by simp)
    · exact .inr ⟨_, List.mem_singleton.mpr rfl⟩
  · intro b hb
    rw [hsz]
    simp only [List.mem_cons, List.not_mem_nil, or_false] at hb
    rcases hb with e | e | e <;> rw [e]
    · exact (wr2 _ (by simp)).2
    · exact (wr2 _ (by simp)).2
    · exact Nat.lt_of_lt_of_le hlt (Nat.le_add_right _ _)
  · exact fun hm => absurd hLs (Nat.not_lt.mpr (wr2 _ hm).1)
  · intro b hb
    cases e : h₀.get? b with
    | none => rfl
    | some o =>
      have := Heap.lt_size (F.keep b o e)
      rw [hz] at this
      exact absurd this (Nat.not_lt.mpr (wr2 _ hb).1)
  · intro p hp hm
    have := Heap.lt_size (N p hp).1
    rw [hz] at this
    exact absurd this (Nat.not_lt.mpr (wr2 _ hm).1)
  · exact fun ys news' hJ => fin _ _ ys news' hJ
end
end

section
open PySem PySem.W PyProof.Rows PyProof.Rows.LCg PySem.Calls

section
variable {prog : Program} {w : World} {A : Around} {E : Value → Shared → Prop} {s : Shared} {h₀ : Heap} {L : Addr} {m : Str → Option Value} {news : List (Addr × Obj)}
theorem len_base {l : Addr} {vs : List Value} {ns : List Int} {Q : Value → Shared → Prop} (F : Fr h₀ L s.heap m) (hl : h₀.IsList l vs.toArray) (hi : IntsAre vs ns) (hn : ns.length ≤ 1000)
    (h : Q (.int (ns.length : Int) (s.toks + 1)) { s with toks := s.toks + 1 + 1 }) : wpAny (model prog w) A (call (.builtin "len") [.ref l]) Q E s := by
  have hl' : s.heap.IsList l vs.toArray := hl.at fun o e => F.keep l o e
  have e : vs.toArray.size = ns.length := by rw [List.size_toArray, hi.length]
  refine PyProof.Rows.len_list hl' (by rw [e]; omega) ?_
  rw [e]; exact h
abbrev nam0 : PySem.Expr := PySem.Expr.Name (PySem.Str.ofString "x") ⟨0, 0, 0, 0⟩
theorem pick2 {value slice : PySem.Expr} {l : Addr} {a b : Nat} {t1 t2 u : Tok} {k : Int} {kk : Nat} {Q : Value → Shared → Prop} (N : News h₀ L s.heap ((l, listOf #[.int (a : Int) t1, .int (b : Int) t2] kk) :: news)) (hk : k = 0 ∨ k = 1)
    (h : ∀ (t : Tok) (many : Nat), (many = a ∧ k = 0) ∨ (many = b ∧ k = 1) → Q (.int (many : Int) t) s)
    (hs : subscripted slice false (.ref l) (.int k u) = operate [.ref l, .int k u] (getItem (.ref l) (.int k u))) :
    wpAny (model prog w) A (subscriptTail value slice (.ref l) (.int k u)) Q E s := by
  refine kba_turn (value' := nam0) (fun _ => rfl) ?_
  have hl : s.heap.IsList l #[.int (a : Int) t1, .int (b : Int) t2] := ⟨_, (N _ List.mem_cons_self).1, rfl, _, rfl⟩
  rcases hk with rfl | rfl
  · exact PyProof.Rows.item_list hl (by decide) (by decide) rfl (h t1 a (.inl ⟨rfl, rfl⟩)) hs (fun _ => rfl)
  · exact PyProof.Rows.item_list hl (by decide) (by decide) rfl (h t2 b (.inr ⟨rfl, rfl⟩)) hs (fun _ => rfl)
theorem abs_head {g h : Heap} {L l : Addr} {vs : List Value} {ns : List Int} {k : Nat} {r : List (Addr × Obj)} {P : Prop} (N : News g L h ((l, listOf vs.toArray k) :: r)) (hI : IntsAre vs ns)
    (key : ∀ ws, IntsAre ws ns → News g L h ((l, listOf (List.toArray ws) k) :: r) → P) : P := key vs hI N
end

theorem News.drop_mid4 {g h : Heap} {L : Addr} {x a b c d : Addr × Obj} {r : List (Addr × Obj)} (N : News g L h (x :: a :: b :: c :: d :: r)) : News g L h (x :: r) := fun p hp => N p (by
  rcases List.mem_cons.mp hp with rfl | hp
  · exact List.mem_cons_self
  · exact List.mem_cons_of_mem _ (List.mem_cons_of_mem _ (List.mem_cons_of_mem _ (List.mem_cons_of_mem _ (List.mem_cons_of_mem _ hp)))))

theorem News.drop1_2 {g h : Heap} {L : Addr} {x a : Addr × Obj} {r : List (Addr × Obj)} (N : News g L h (x :: a :: r)) : News g L h (x :: r) := fun p hp => N p (by
  rcases List.mem_cons.mp hp with rfl | hp
  · exact List.mem_cons_self
  · exact List.mem_cons_of_mem _ (List.mem_cons_of_mem _ hp))
end

section
open PySem PySem.W PyProof.Rows PyProof.Rows.LCg PySem.Calls

theorem map_take_snoc {α β : Type} {l : List α} {i : Nat} {x : α} (f : α → β) (h : l[i]? = some x) : (l.take (i + 1)).map f = (l.take i).map f ++ [f x] := by
  rw [List.take_add_one, h, List.map_append]; rfl
theorem eight {l : List Int} (h : l.length = 8) : ∃ a b c d e f g k, l = [a, b, c, d, e, f, g, k] := by
  match l, h with
  | [a, b, c, d, e, f, g, k], _ => exact ⟨a, b, c, d, e, f, g, k, rfl⟩
theorem fmod_bounds (x : Int) {n : Nat} (h : 1 ≤ n) : 0 ≤ x.fmod n ∧ x.fmod n < n := ⟨Int.fmod_nonneg_of_pos _ (by omega), Int.fmod_lt_of_pos _ (by omega)⟩
theorem led_sub {g h : Heap} {L : Addr} {a b : List (Addr × Obj)} (N : News g L h a) (s : ∀ p ∈ b, p ∈ a) : News g L h b := fun p hp => N p (s p hp)
theorem tabs_ne {q : Str} {ln col : Nat} {P c L : Addr} {T Λ : List (Addr × Obj)} {g h : Heap} {o : Obj} {v : Option Value} (hT : TabIs q ln col P T) (N : News g L h Λ) (hs : ∀ p ∈ T, p ∈ Λ) (hc : (c, o) ∈ Λ) (hd : o.data = .cell v) (hP : @Ne Nat P c) : ∀ p ∈ T, @Ne Nat p.1 c := by
  intro p hp
  rcases hT with rfl | ⟨c', oc, vs, t, rfl, h1, h2, h3⟩
  · rw [List.mem_singleton.mp hp]; exact hP
  · rcases List.mem_cons.mp hp with rfl | hp1
    · exact hP
    · have e := List.mem_singleton.mp hp1
      subst e
      intro e
      have e' : c' = c := e
      subst e'
      have a1 := (N _ (hs _ hp)).1
      have a2 := (N _ hc).1
      have e3 : oc = o := Option.some.inj (a1.symm.trans a2)
      rw [e3, hd] at h2
      cases h2
/-- a table that stood ahead goes to the end, the head behind it goes away -/
theorem led_swap1 {T r : List (Addr × Obj)} (x : Addr × Obj) : ∀ p ∈ r ++ T, p ∈ T ++ (x :: r) := by
  intro p hp
  rcases List.mem_append.mp hp with h | h
  · exact List.mem_append_right _ (List.mem_cons_of_mem _ h)
  · exact List.mem_append_left _ h

theorem led_54 {r T : List (Addr × Obj)} {x : Addr × Obj} : ∀ p ∈ [x] ++ (r ++ T), p ∈ r ++ (x :: T) := by
  intro p hp
  rcases List.mem_append.mp hp with h | h
  · rw [List.mem_singleton.mp h]; exact List.mem_append_right _ List.mem_cons_self
  · rcases List.mem_append.mp h with h | h
    · exact List.mem_append_left _ h
    · exact List.mem_append_right _ (List.mem_cons_of_mem _ h)

theorem led_mid {r T T' : List (Addr × Obj)} : ∀ p ∈ r ++ (T ++ T'), p ∈ T ++ (r ++ T') := by
  intro p hp
  rcases List.mem_append.mp hp with h | h
  · exact List.mem_append_right _ (List.mem_append_left _ h)
  · rcases List.mem_append.mp h with h | h
    · exact List.mem_append_left _ h
    · exact List.mem_append_right _ (List.mem_append_right _ h)
theorem use_news {g h : Heap} {L : Addr} {Λ₀ : List (Addr × Obj)} {P : Prop} (N : News g L h Λ₀) (k : ∀ Λ, Λ = Λ₀ → News g L h Λ → P) : P := k _ rfl N

theorem led_rot {r T T' : List (Addr × Obj)} : ∀ p ∈ T ++ (T' ++ r), p ∈ r ++ (T ++ T') := by
  intro p hp
  rcases List.mem_append.mp hp with h | h
  · exact List.mem_append_right _ (List.mem_append_left _ h)
  · rcases List.mem_append.mp h with h | h
    · exact List.mem_append_right _ (List.mem_append_right _ h)
    · exact List.mem_append_left _ h
theorem led_rot' {r T T' : List (Addr × Obj)} : ∀ p ∈ r ++ (T ++ T'), p ∈ T ++ (T' ++ r) := by
  intro p hp
  rcases List.mem_append.mp hp with h | h
  · exact List.mem_append_right _ (List.mem_append_right _ h)
  · rcases List.mem_append.mp h with h | h
    · exact List.mem_append_left _ h
    · exact List.mem_append_right _ (List.mem_append_left _ h)
theorem led_rotc {x : Addr × Obj} {r T T' : List (Addr × Obj)} : ∀ p ∈ x :: (r ++ (T ++ T')), p ∈ x :: (T ++ (T' ++ r)) := by
  intro p hp
  rcases List.mem_cons.mp hp with h | h
  · rw [h]; exact List.mem_cons_self
  · exact List.mem_cons_of_mem _ (led_rot' p h)
theorem led_dropc {x : Addr × Obj} {r T T' : List (Addr × Obj)} : ∀ p ∈ T ++ (T' ++ r), p ∈ x :: (r ++ (T ++ T')) := fun p hp => List.mem_cons_of_mem _ (led_rot p hp)

section
variable {prog : Program} {w : World} {A : Around} {E : Value → Shared → Prop} {s : Shared} {h₀ : Heap} {L : Addr} {value slice : PySem.Expr} {D : Addr} {a b : Value} {k : Nat} {u : Tok} {r : List (Addr × Obj)} {Q : Value → Shared → Prop}
theorem item_t0 (N : News h₀ L s.heap ((D, tup2 a b k) :: r)) (h : Q a s) (hs : subscripted slice false (.ref D) (.int 0 u) = operate [.ref D, .int 0 u] (getItem (.ref D) (.int 0 u))) :
    wpAny (model prog w) A (subscriptTail value slice (.ref D) (.int 0 u)) Q E s := by
  refine kba_turn (value' := nam0) (fun _ => rfl) ?_
  exact PyProof.Rows.item_tuple (items := #[a, b]) ⟨_, (N _ List.mem_cons_self).1, rfl, _, rfl⟩ (by decide) (by decide) (j := 0) rfl rfl h hs (fun _ => rfl)
theorem item_t1 (N : News h₀ L s.heap ((D, tup2 a b k) :: r)) (h : Q b s) (hs : subscripted slice false (.ref D) (.int 1 u) = operate [.ref D, .int 1 u] (getItem (.ref D) (.int 1 u))) :
    wpAny (model prog w) A (subscriptTail value slice (.ref D) (.int 1 u)) Q E s := by
  refine kba_turn (value' := nam0) (fun _ => rfl) ?_
  exact PyProof.Rows.item_tuple (items := #[a, b]) ⟨_, (N _ List.mem_cons_self).1, rfl, _, rfl⟩ (by decide) (by decide) (j := 1) rfl rfl h hs (fun _ => rfl)
end
end

section
open PySem PySem.W PyProof.Rows PyProof.Rows.LCg PySem.Calls

theorem glued_empty : ∀ (r : List Str) (acc : Array Nat), r.foldl (fun acc p => acc ++ (PySem.Str.ofString "").cps ++ p.cps) acc = acc ++ (r.flatMap fun p => p.cps.toList).toArray
  | [], acc => by simp
  | p :: r, acc => by
    rw [List.foldl_cons, glued_empty r]
    have e : (PySem.Str.ofString "").cps = #[] := by decide +kernel
    rw [e]
    apply Array.toList_inj.mp
    simp [List.flatMap_cons]
theorem join_txt (l : List Int) : Txt.join (PySem.Str.ofString "") (l.map fun p => txt [p]) = txt l := by
  unfold Txt.join Builtin.Str.glued
  rw [glued_empty]
  cases l with
  | nil => decide +kernel
  | cons a r =>
    have e : ∀ r : List Int, (r.map fun p => txt [p]).flatMap (fun p => p.cps.toList) = r.map fun i => (b64n i).toNat := by
      intro r
      induction r with
      | nil => rfl
      | cons b r ih => rw [List.map_cons, List.flatMap_cons, ih]; simp [txt]
    simp only [List.map_cons, List.drop_succ_cons, List.drop_zero, List.headD_cons]
    rw [e]
    simp [txt]
theorem sign_item {x : Int} (h0 : 0 ≤ x) (h1 : x < 64) : Txt.item (PySem.Str.ofString "ABCDEFGHIJKLMNOPQRSTUVWXYZabcdefghijklmnopqrstuvwxyz0123456789+/") x = txt [x] := by
  have key : ∀ n : Nat, n < 64 → Txt.item (PySem.Str.ofString "ABCDEFGHIJKLMNOPQRSTUVWXYZabcdefghijklmnopqrstuvwxyz0123456789+/") (n : Int) = txt [(n : Int)] := by decide +kernel
  have := key x.toNat (by omega)
  rwa [Int.toNat_of_nonneg h0] at this
theorem join_txt_ok (l : List Int) (h : l.length ≤ 1000) : ((l.map fun p => txt [p]).map (·.length)).sum + (l.map fun p => txt [p]).length * (PySem.Str.ofString "").length ≤ 16777216 := by
  have e : ((l.map fun p => txt [p]).map (·.length)).sum = l.length := by
    rw [List.map_map]
    clear h
    induction l with
    | nil => rfl
    | cons a r ih => rw [List.map_cons, List.sum_cons, ih]; simp [txt, Str.length]; omega
  have e2 : (PySem.Str.ofString "").length = 0 := by decide +kernel
  rw [e, e2, Nat.mul_zero, Nat.add_zero]
  omega

theorem sexts_down (d V : Int) (n t : Nat) (h : t ≤ n) (h0 : 0 ≤ d) (h1 : d < 64) : sexts (fun i => i) (d + V * 2 ^ 6) (6 * (n + 1)) t = sexts (fun i => i) V (6 * n) t := by
  unfold sexts
  refine List.map_congr_left fun j hj => ?_
  have hj' : j < t := List.mem_range.mp hj
  have e : 6 * (n + 1) - 6 * (j + 1) = 6 + (6 * n - 6 * (j + 1)) := by omega
  rw [e, Int.pow_add]
  have e64 : (2 : Int) ^ 6 = 64 := by decide
  rw [e64, ← Int.ediv_ediv_of_nonneg (by decide : (0 : Int) ≤ 64)]
  have e2 : (d + V * 64) / 64 = V := by omega
  rw [e2]
theorem sexts_rev : ∀ r : List Int, (∀ q ∈ r, 0 ≤ q ∧ q < 64) → sexts (fun i => i) (dval 6 r) (6 * r.length) r.length = r.reverse
  | [], _ => rfl
  | d :: r, h => by
    have hd := h d (.head _)
    have ih := sexts_rev r fun q hq => h q (.tail _ hq)
    rw [List.length_cons, sexts_succ]
    show sexts (fun i => i) (d + dval 6 r * 2 ^ 6) _ _ ++ _ = _
    rw [sexts_down d _ _ _ (Nat.le_refl _) hd.1 hd.2, ih, List.reverse_cons]
    congr 1
    have e : 6 * (r.length + 1) - 6 * (r.length + 1) = 0 := by omega
    rw [e]
    show [(d + dval 6 r * 2 ^ 6) / 2 ^ 0 % 64] = [d]
    have e64 : (2 : Int) ^ 6 = 64 := by decide
    rw [e64, Int.pow_zero, Int.ediv_one]
    congr 1
    omega
theorem sexts_places {places : List Int} {k n : Nat} (h : ∀ q ∈ places, 0 ≤ q ∧ q < 64) (hl : places.length = n) (hk : 8 * k = 6 * n) : sexts (fun i => i) (dval 6 places.reverse) (8 * k) (8 * k / 6) = places := by
  have := sexts_rev places.reverse fun q hq => h q (List.mem_reverse.mp hq)
  rw [List.length_reverse, hl, List.reverse_reverse] at this
  rw [hk, Nat.mul_div_cancel_left n (by decide)]
  exact this
theorem number_lt {places : List Int} {k n : Nat} (h : ∀ q ∈ places, 0 ≤ q ∧ q < 64) (hl : places.length = n) (hk : 8 * k = 6 * n) : 0 ≤ dval 6 places.reverse ∧ dval 6 places.reverse < 2 ^ (8 * k) := by
  have hr : ∀ q ∈ places.reverse, 0 ≤ q ∧ q < 2 ^ 6 := fun q hq => h q (List.mem_reverse.mp hq)
  refine ⟨dval_nonneg _ _ fun q hq => (hr q hq).1, ?_⟩
  have := dval_lt 6 _ hr
  rw [List.length_reverse, hl] at this
  rwa [hk]
end

section
open PySem PySem.W PyProof.Rows PyProof.Rows.LCg PyProof.Rows.LCt PySem.Calls

/-- a comprehension of one name with one test over n items, by an invariant -/
theorem compRestT_inv {prog : Program} {w : World} {A : Around} {h₀ : Heap} {L : Addr} {m : Str → Option Value} {env : Env} {ct elt : PySem.Expr} {x : Str} {scope : Scope} {cl : List (Str × Addr)} {s : Shared} {S : List (Addr × Obj) → Prop} {P : Nat → Value → Prop}
    {Fin : List Value → List (Addr × Obj) → Prop} {n : Nat} (J : Nat → List Value → List (Addr × Obj) → Prop)
    (turn : ∀ i ys news, i < n → J i ys news → ∀ v I oI C oC D m₂ h tk (E' : Value → Shared → Prop), P i v → NsObj oC m₂ → m₂ x = some v → Fr h₀ L h m → News h₀ L h ((I, oI) :: (C, oC) :: (D, lst ys) :: news) → Off3 I C D news → ((@Ne Nat I C) ∧ (@Ne Nat I D) ∧ (@Ne Nat C D)) →
      wpAny (model prog w) A (isTrue ct (compEnvC scope cl C env) (eval ct (compEnvC scope cl C env))) (fun ok s' => if ok = true then
        wpAny (model prog w) A (eval elt (compEnvC scope cl C env)) (CompEnd h₀ L m { s with heap := h, toks := tk } I oI C oC D (lst ys) S (fun y news' => J (i + 1) (ys ++ [y]) news')) E' s'
        else CompEnd h₀ L m { s with heap := h, toks := tk } I oI C oC D (lst ys) S (fun _ news' => J (i + 1) ys news') Value.none s') E' { s with heap := h, toks := tk })
    (done : ∀ ys news, J n ys news → Fin ys news) : ∀ k i ys news, i + k = n → J i ys news → CompRestT prog w A h₀ L m env ct elt x scope cl s S P Fin k i ys news := by
  intro k
  induction k with
  | zero => intro i ys news e hJ; exact CompRestT.zero (done _ _ (by rw [← e]; exact hJ))
  | succ k ih =>
    intro i ys news e hJ
    refine CompRestT.succ fun v I oI C oC D m₂ h tk E' hP hN hx F N o ne => ?_
    refine wpAny_mono (turn i ys news (by omega) hJ v I oI C oC D m₂ h tk E' hP hN hx F N o ne) (fun ok s₂ z => ?_) fun _ _ z => z
    cases ok with
    | true =>
      simp only [if_true] at z ⊢
      exact wpAny_mono z (fun y s₃ z => compEnd_mono (fun y nw hJ' => ih (i + 1) (ys ++ [y]) nw (by omega) hJ') z) fun _ _ z => z
    | false =>
      simp only [Bool.false_eq_true, if_false] at z ⊢
      exact compEnd_mono (fun y nw hJ' => ih (i + 1) ys nw (by omega) hJ') z

open PySem.Builtin.Str
theorem slice_gen (l : List Nat) (lo hi : Option Int) (a b : Nat) (hidx : strSliceIndices lo hi 1 l.length = (List.range (b - a)).map (a + ·)) (hb : b ≤ l.length) : Txt.slice ⟨l.toArray⟩ lo hi = ⟨((l.drop a).take (b - a)).toArray⟩ := by
  unfold Txt.slice
  have e : (⟨l.toArray⟩ : Str).length = l.length := by simp [Str.length]
  rw [e, hidx]
  split
  · rename_i h
    have h' : b - a = l.length := by simpa using h
    have hz : (l.drop a).take (b - a) = l := by
      rw [h']
      by_cases hn : l.length = 0
      · rw [List.eq_nil_of_length_eq_zero hn]; simp
      · have : a = 0 := by omega
        rw [this, List.drop_zero, List.take_of_length_le (Nat.le_refl _)]
    rw [hz]
  · show (⟨(((List.range (b - a)).map (a + ·)).filterMap (l.toArray[·]?)).toArray⟩ : Str) = _
    rw [pick_run]
theorem slice_from (l : List Nat) {i : Int} (h : 0 ≤ i) : Txt.slice ⟨l.toArray⟩ (some i) none = ⟨(l.drop i.toNat).toArray⟩ := by
  have hidx : strSliceIndices (some i) none 1 l.length = (List.range (l.length - min i.toNat l.length)).map (min i.toNat l.length + ·) := by
    rw [← sliceRange_one]
    unfold strSliceIndices
    simp only [show (1 : Int) > 0 by decide, if_true, if_neg (show ¬ (i < 0) by omega)]
    congr 1
    omega
  rw [slice_gen l _ _ _ _ hidx (Nat.le_refl _), kmk_drop_min, List.take_of_length_le (by rw [List.length_drop]; omega)]
theorem slice_upto (l : List Nat) {j : Int} (h : 0 ≤ j) : Txt.slice ⟨l.toArray⟩ none (some j) = ⟨(l.take j.toNat).toArray⟩ := by
  have hidx : strSliceIndices none (some j) 1 l.length = (List.range (min j.toNat l.length - 0)).map (0 + ·) := by
    rw [← sliceRange_one]
    unfold strSliceIndices
    simp only [show (1 : Int) > 0 by decide, if_true, if_neg (show ¬ (j < 0) by omega)]
    congr 1
    omega
  rw [slice_gen l _ _ _ _ hidx (by omega), List.drop_zero, Nat.sub_zero, kmk_take_min]
theorem txt_from (l : List Int) {i : Int} (h : 0 ≤ i) : Txt.slice (txt l) (some i) none = txt (l.drop i.toNat) := by
  unfold txt; rw [slice_from _ h, List.map_drop]
theorem txt_upto (l : List Int) {j : Int} (h : 0 ≤ j) : Txt.slice (txt l) none (some j) = txt (l.take j.toNat) := by
  unfold txt; rw [slice_upto _ h, List.map_take]
theorem txt_len (l : List Int) : (txt l).length = l.length := by simp [txt, Str.length]
section
variable {prog : Program} {w : World} {A : Around} {E : Value → Shared → Prop} {s : Shared} {value slice : PySem.Expr} {l : List Int} {t : Tok} {h₀ : Heap} {L : Addr} {m : Str → Option Value} {news : List (Addr × Obj)} {Q : Value → Shared → Prop}
theorem slice_txt_sn {i : Int} {ui : Tok} (hF : Fr h₀ L s.heap m) (hN : News h₀ L s.heap news) (h0 : 0 ≤ i) (hl : l.length ≤ 1000) (h : ∀ h' t' k, Fr h₀ L h' m → News h₀ L h' news → Q (.str (txt (l.drop i.toNat)) t') { s with heap := h', toks := k })
    (hs : subscripted slice false (.str (txt l) t) (.ref s.heap.objs.size) = operate [.ref s.heap.objs.size, .str (txt l) t] (getItem (.str (txt l) t) (.ref s.heap.objs.size)))
    (ht : ∀ r, letTemporaryGo value (.str (txt l) t) r = pure ()) :
    wpAny (model prog w) A (subscriptTail value slice (.str (txt l) t) (.ref s.heap.objs.size)) Q E { s with heap := s.heap.push { cls := .type "slice", data := .fields #[.int i ui, .none, .none] } } :=
  slice_strN_sn hF hN (by rw [txt_from l h0]; exact h) hs ht (by rw [txt_len, sizeLine_eq]; omega)
theorem slice_txt_ns {j : Int} {uj : Tok} (hF : Fr h₀ L s.heap m) (hN : News h₀ L s.heap news) (h0 : 0 ≤ j) (hl : l.length ≤ 1000) (h : ∀ h' t' k, Fr h₀ L h' m → News h₀ L h' news → Q (.str (txt (l.take j.toNat)) t') { s with heap := h', toks := k })
    (hs : subscripted slice false (.str (txt l) t) (.ref s.heap.objs.size) = operate [.ref s.heap.objs.size, .str (txt l) t] (getItem (.str (txt l) t) (.ref s.heap.objs.size)))
    (ht : ∀ r, letTemporaryGo value (.str (txt l) t) r = pure ()) :
    wpAny (model prog w) A (subscriptTail value slice (.str (txt l) t) (.ref s.heap.objs.size)) Q E { s with heap := s.heap.push { cls := .type "slice", data := .fields #[.none, .int j uj, .none] } } :=
  slice_strN_ns hF hN (by rw [txt_upto l h0]; exact h) hs ht (by rw [txt_len, sizeLine_eq]; omega)
end

theorem b64n_inj {a b : Int} (ha : 0 ≤ a ∧ a < 64) (hb : 0 ≤ b ∧ b < 64) (h : (b64n a).toNat = (b64n b).toNat) : a = b := by
  have key : ∀ i : Nat, i < 64 → ∀ j : Nat, j < 64 → (b64n (i : Int)).toNat = (b64n (j : Int)).toNat → i = j := by decide +kernel
  have := key a.toNat (by omega) b.toNat (by omega) (by rw [Int.toNat_of_nonneg ha.1, Int.toNat_of_nonneg hb.1]; exact h)
  omega
theorem map_inj_on {α β : Type} {f : α → β} {P : α → Prop} (hf : ∀ a b, P a → P b → f a = f b → a = b) : ∀ {l k : List α}, (∀ x ∈ l, P x) → (∀ x ∈ k, P x) → l.map f = k.map f → l = k
  | [], [], _, _, _ => rfl
  | [], _ :: _, _, _, h => by simp at h
  | _ :: _, [], _, _, h => by simp at h
  | a :: l, b :: k, hl, hk, h => by
    rw [List.map_cons, List.map_cons] at h
    injection h with h1 h2
    rw [hf a b (hl a (.head _)) (hk b (.head _)) h1, map_inj_on hf (fun x hx => hl x (.tail _ hx)) (fun x hx => hk x (.tail _ hx)) h2]
theorem txt_inj {l k : List Int} (hl : ∀ q ∈ l, 0 ≤ q ∧ q < 64) (hk : ∀ q ∈ k, 0 ≤ q ∧ q < 64) (h : txt l = txt k) : l = k := by
  unfold txt at h
  injection h with h
  injection h with h
  exact map_inj_on (P := fun q => 0 ≤ q ∧ q < 64) (fun a b ha hb e => b64n_inj ha hb e) hl hk h
/-- a length is a period -/
def isPer (places : List Int) (t : Nat) : Bool := decide (places.drop t = places.take (places.length - t))
theorem per_txt {places : List Int} (h : ∀ q ∈ places, 0 ≤ q ∧ q < 64) {t n : Nat} (hn : n = places.length - t) : (txt (places.drop t) == txt (places.take n)) = isPer places t := by
  subst hn
  unfold isPer
  by_cases e : places.drop t = places.take (places.length - t)
  · rw [e]; simp
  · rw [decide_eq_false e]
    cases hb : (txt (places.drop t) == txt (places.take (places.length - t))) with
    | false => rfl
    | true => exact absurd (txt_inj (fun q hq => h q (List.mem_of_mem_drop hq)) (fun q hq => h q (List.mem_of_mem_take hq)) (eq_of_beq hb)) e
def pers (places : List Int) (i : Nat) : List Int := ((List.range i).filter fun j => isPer places (j + 1)).map fun j : Nat => 1 + (j : Int)
theorem pers_succ_t {places : List Int} {i : Nat} (h : isPer places (i + 1) = true) : pers places (i + 1) = pers places i ++ [1 + (i : Int)] := by
  unfold pers; rw [List.range_succ, List.filter_append, List.map_append]; simp [h]
theorem pers_succ_f {places : List Int} {i : Nat} (h : isPer places (i + 1) = false) : pers places (i + 1) = pers places i := by
  unfold pers; rw [List.range_succ, List.filter_append, List.map_append]; simp [h]

theorem off1_mem {D : Addr} : ∀ {l : List (Addr × Obj)}, Off1 D l → ∀ p ∈ l, @Ne Nat p.1 D
  | [], _, _, h => nomatch h
  | _ :: _, x, p, h => by
    rcases List.mem_cons.mp h with rfl | h
    · exact x.1
    · exact off1_mem x.2 p h
theorem tab_mem {q : Str} {ln col : Nat} {P : Addr} {T : List (Addr × Obj)} (h : TabIs q ln col P T) : ∃ o, (P, o) ∈ T := by
  rcases h with rfl | ⟨c', oc, vs, t, rfl, _⟩
  · exact ⟨_, List.mem_singleton.mpr rfl⟩
  · exact ⟨_, List.mem_cons_self⟩

/-- the glob of a length: question marks, then the text's front -/
def globL (places : List Int) (t : Nat) : List Nat := List.replicate t 63 ++ (places.take (places.length - t)).map fun i => (b64n i).toNat
def globOf (places : List Int) (t : Nat) : Str := ⟨(globL places t).toArray⟩

theorem mul_qm_eq {n : Nat} (hn : n ≤ 20) : Txt.mul (PySem.Str.ofString "?") (1 + (n : Int)) = ⟨(List.replicate (n + 1) 63).toArray⟩ := by
  have key : ∀ n : Nat, n ≤ 20 → Txt.mul (PySem.Str.ofString "?") (1 + (n : Int)) = ⟨(List.replicate (n + 1) 63).toArray⟩ := by decide +kernel
  exact key n hn
theorem mul_qm {prog : Program} {w : World} {A : Around} {E : Value → Shared → Prop} {s : Shared} {t u : Tok} {n : Nat} {Q : Value → Shared → Prop} (hn : n ≤ 20)
    (h : ∀ t' k, Q (.str ⟨(List.replicate (n + 1) 63).toArray⟩ t') { s with toks := k }) : wpAny (model prog w) A (binaryOp .Mult (.str (PySem.Str.ofString "?") t) (.int (1 + (n : Int)) u)) Q E s :=
  SB.mul (mulOk_of 1 100 (by decide) (by omega) (by omega) (by decide) (by decide)) fun t' k => by rw [mul_qm_eq hn]; exact h t' k
theorem glob_add {places : List Int} {i : Nat} (h : i + 1 ≤ places.length) : (⟨(List.replicate (i + 1) 63).toArray⟩ : Str) ++ txt (places.take (places.length - (i + 1))) = globOf places (i + 1) := by
  unfold globOf globL txt
  show (⟨_⟩ : Str) = _
  congr 1
  simp

def codes (places : List Int) : List Nat := places.map fun i => (b64n i).toNat
theorem txt_codes (places : List Int) : txt places = ⟨(codes places).toArray⟩ := rfl

theorem pers_len (places : List Int) (i : Nat) : (pers places i).length ≤ i := by
  unfold pers
  rw [List.length_map]
  exact Nat.le_trans (List.length_filter_le _ _) (by rw [List.length_range]; exact Nat.le_refl _)
theorem strs_at {vs : List Value} {xs : List Str} {i : Nat} {v : Value} {x : Str} (h : StrsAre vs xs) (hv : vs[i]? = some v) (hx : xs[i]? = some x) : ∃ t, v = .str x t := by
  induction h generalizing i with
  | nil => simp at hv
  | cons y u _ ih =>
    cases i with
    | zero =>
      have e1 : y = x := by simpa using hx
      have e2 : Value.str y u = v := by simpa using hv
      exact ⟨u, by rw [← e2, e1]⟩
    | succ i => exact ih (by simpa using hv) (by simpa using hx)

theorem b64n_code_ok {i : Int} (h : 0 ≤ i ∧ i < 64) : b64t.any (fun c => c.toNat == (b64n i).toNat) = true := by
  have key : ∀ n : Nat, n < 64 → b64t.any (fun c => c.toNat == (b64n (n : Int)).toNat) = true := by decide +kernel
  have := key i.toNat (by omega)
  rwa [Int.toNat_of_nonneg h.1] at this
theorem b64n_code_lt {i : Int} (h : 0 ≤ i ∧ i < 64) : (b64n i).toNat < 128 ∧ (b64n i).toNat ≠ 63 ∧ (b64n i).toNat ≠ 46 := by
  have key : ∀ n : Nat, n < 64 → (b64n (n : Int)).toNat < 128 ∧ (b64n (n : Int)).toNat ≠ 63 ∧ (b64n (n : Int)).toNat ≠ 46 := by decide +kernel
  have := key i.toNat (by omega)
  rwa [Int.toNat_of_nonneg h.1] at this
theorem codes_ascii {places : List Int} (h : ∀ q ∈ places, 0 ≤ q ∧ q < 64) : (codes places).all (· < 128) = true := by
  rw [List.all_eq_true]
  intro c hc
  obtain ⟨q, hq, rfl⟩ := List.mem_map.mp hc
  exact decide_eq_true (b64n_code_lt (h q hq)).1
end
local macro_rules | `(tactic| k_mem) => `(tactic| first | exact List.mem_cons_self | ktr_member | (refine' List.mem_cons_of_mem _ ?_; k_mem))
local macro_rules | `(tactic| k_all) => `(tactic| first | with_reducible assumption | (refine' allLt_ne ?kaa ?kab; (case kaa => with_reducible assumption); (case kab => ((try dsimp only); omega))) | fail "k_all: mine")
local macro_rules | `(tactic| walk_at "my_enter") => `(tactic| first
  | (refine' code_def ?k1 ?k2 ?k3 ?k4 ?k5 ?kA ?kF ?kK ?k6 ?k7 ?k8 ?k9 ?kB ?_ ?c2 ?c3 ?c4 ?c5; (case kA => exact rfl); (case kF => exact rfl); (case kK => first | exact rfl | assumption); (case k1 => k_asm); (case k2 => k_asm); (case k3 => k_asm); (case k4 => k_asm); (case k5 => k_asm); (case k6 => k_is); (case k7 => k_is); (case k8 => ktr_room); (case k9 => first | exact BindsTo.of_eq rfl | exact binds_K (by k_in) rfl (by k_is) rfl rfl rfl | (refine' kp_binds ?kx ?ke; (case kx => k_in); (case ke => exact fun _ => rfl)) | fail "k_enter: no rule for these arguments"); (case c5 => decide); (case kB => exact locs rfl); (case c2 => exact rfl); (case c3 => exact rfl); (case c4 => exact rfl); k_whole; intro g' L' h' FG' F' N' B' X' T'; (try dsimp only); (try k_lift B'); (try k_fold))
  | (refine' code_defC ?k1 ?k2 ?k3 ?k4 ?k5 ?kA ?kF ?kK ?k6 ?k7 ?k8 ?k9 ?kB ?kD ?_ ?c2 ?c3 ?c4; (case kA => exact rfl); (case kF => exact rfl); (case kK => first | exact rfl | assumption); (case k1 => k_asm); (case k2 => k_asm); (case k3 => k_asm); (case k4 => k_asm); (case k5 => k_asm); (case k6 => k_is); (case k7 => k_is); (case k8 => ktr_room); (case k9 => first | exact BindsTo.of_eq rfl | exact binds_K (by k_in) rfl (by k_is) rfl rfl rfl | (refine' kp_binds ?kx ?ke; (case kx => k_in); (case ke => exact fun _ => rfl)) | fail "k_enter: no rule for these arguments"); (case kB => exact rfl); (case kD => decide +kernel); (case c2 => exact rfl); (case c3 => exact rfl); (case c4 => exact rfl); k_whole; intro g' L' h' tk' cells' FG' F' N' Y' B' X' T' l1; (try k_lt l1); (repeat (have q1 := And.left l1; replace l1 := And.right l1)); k_cells Y'; (try simp only [List.cons_append, List.nil_append] at N'); (try dsimp only); (try k_lift B'); (try k_fold)))
local macro_rules | `(tactic| walk_at "my_nest") => `(tactic| (refine' code_nest ?k1 ?k2 ?k3 ?k4 ?k5 ?kA ?kF ?kK ?k6 ?k7 ?k8 ?k9 ?kB ?_ ?c2 ?c3 ?c4 ?c5; (case kA => exact rfl); (case kF => exact rfl); (case kK => first | exact rfl | assumption); (case k1 => k_asm); (case k2 => k_asm); (case k3 => k_asm); (case k4 => k_asm); (case k5 => k_asm); (case k6 => k_mem); (case k7 => exact codeRec_news (by k_asm) (by k_mem) (by assumption) (by assumption)); (case k8 => ktr_room); (case k9 => exact BindsTo.of_eq rfl); (case c5 => decide); (case kB => exact locs rfl); (case c2 => exact rfl); (case c3 => exact rfl); (case c4 => exact rfl); k_whole; intro g' L' h' FG' F' N' B' X' T'; (try dsimp only); (try k_lift B'); (try k_fold)))
local macro_rules | `(tactic| walk_at "callWith ref") => `(tactic| (k_here; k_dflt (refine' callWith_K ?k1 ?k2 ?_; (case k1 => k_asm); (case k2 => k_is); k_whole)))
local macro_rules | `(tactic| walk_at "binaryOp LShift int int") => `(tactic| (refine' lshift_int ?ls1 ?ls2 ?_; (case ls1 => first | with_reducible assumption | omega); (case ls2 => omega)))
section
local macro_rules | `(tactic| walk_at "call builtin:divmod") => `(tactic| (k_here; (with_reducible show wpAny _ _ (call (Value.builtin _) [Value.int _ _, Value.int _ _]) _ _ _); k_dflt (refine' divmod_N ?F ?N ?b ?_ (Or.inl (noPy ?bits)); (case F => k_asm); (case N => k_asm); (case b => omega); (case bits => with_reducible assumption)); intro h' F' N'))
local macro_rules | `(tactic| walk_at "binaryOp Mult ref int") => `(tactic| (k_here; (with_reducible show wpAny _ _ (binaryOp Operator.Mult (Value.ref _) (Value.int _ _)) _ _ _); k_dflt (refine' mul_rep ?F ?N ?m ?lo ?hi ?_; (case F => k_asm); (case N => k_asm); (case m => k_mem); (case lo => first | with_reducible assumption | omega); (case hi => first | with_reducible assumption | omega)); intro D' ws' h' F' N' l1 hws'; (try k_lt l1)))
section
theorem off1 : True := by
  w_top off
  trivial
theorem c45 {w : World} {p : Program} {loose : List Str} {mean : ExcName → Option Value} {mg mb : Str → Option Value} {news : List (Addr × Obj)} {x y : Int} {n : Nat} {tx ty tn : Tok}
  (hx : 0 ≤ x) (hy : 0 < y) (hb : Builtin.Int.intBits x ≤ 4000) (hby : Builtin.Int.intBits y ≤ 200) :
  CallsTo w p loose mean mg mb (fun _ => True) news 45 [.int x tx, .int y ty, .int n tn] 10 100
    (fun v Λ' => ∃ D t1 t2 k, v = .ref D ∧ @LT.lt Nat _ 160 D ∧ Λ' = (D, ({cls := .type "tuple", data := .seq #[.int (x / y) t1, .int (x % y) t2] k} : Obj)) :: news) := by
  intro dp un gd cn cs a ccd cl outer A₀ base h₀ L m s Q E B _ F X N T hk hdp hun hret
  (revert X; k_fill; intro X)
  have hb0 : (Builtin.Int.intBits x : Int) - n ≤ 4000 := by omega
  refine wpAny_call ?_
  k_dflt (walk_at "my_enter")
  with_reducible (rename Frag.In _ _ => X9)
  with_reducible (rename Fr _ _ _ _ => F9)
  have hLhi := hi_of F9 (X9 165 _ (by k_is))
  k_steps
  with_reducible (rename News _ _ _ _ => N9)
  rw [Int.fdiv_eq_ediv_of_nonneg x (Int.le_of_lt hy), Int.fmod_eq_emod_of_nonneg x (Int.le_of_lt hy)] at N9
  exact hret _ _ _ _ (by k_asm) N9 ⟨_, _, _, _, rfl, Nat.lt_trans (Nat.lt_trans (by decide : 160 < 165) hLhi) F9.ns.lt, rfl⟩
end

section
theorem off2 : True := by
  w_top off
  trivial
def Inner54 (w : World) (p : Program) (loose : List Str) (mean : ExcName → Option Value) (mg mb : Str → Option Value) (n : Nat) (REST : List (Addr × Obj)) (f D : Addr) : Prop :=
  ∀ (Λ : List (Addr × Obj)), (∀ q ∈ REST, q ∈ Λ) → (∀ q ∈ Λ, q.1 ≠ D) → ∀ (d : Nat) (x lo hi : Int) (tx tl th : Tok) (vs : List Value) (ns : List Int), d ≤ 8 → 0 ≤ lo → lo < hi → hi ≤ ns.length → hi - lo ≤ 2 ^ d →
    0 ≤ x → x < 2 ^ (n * (hi - lo).toNat) → Builtin.Int.intBits x ≤ 200 → IntsAre vs ns → ns.length ≤ 200 →
    CallsTo w p loose mean mg mb (fun _ => True) ((D, W.listOf vs.toArray 0) :: Λ) f [.int x tx, .int lo tl, .int hi th] (d + 2) (8 * (d + 2))
      (fun v Λ' => v = .none ∧ ∃ vs', IntsAre vs' (putD n ns lo.toNat (hi - lo).toNat x) ∧ Λ' = (D, W.listOf vs'.toArray 0) :: Λ)

theorem c59 {w : World} {p : Program} {loose : List Str} {mean : ExcName → Option Value} {mg mb : Str → Option Value} {T54 : List (Addr × Obj)} {news : List (Addr × Obj)} {x : Int} {n : Nat} {tx tn : Tok}
  (hT : TabIs "_int2digits.<locals>.inner" 36 4 54 T54) (hn54 : ∀ q ∈ news, q.1 ≠ 54)
  (hx : 0 ≤ x) (hb : Builtin.Int.intBits x ≤ 200) (hn0 : 0 < n) (hn1 : n < 100) :
  CallsTo w p loose mean mg mb (fun base => CodeHd base 58 54) (T54 ++ news) 59 [.int x tx, .int n tn] 20 200
    (fun v Λ' => ∃ D vs T54', v = .ref D ∧ @LT.lt Nat _ 160 D ∧ IntsAre vs (digs n ((Builtin.Int.intBits x + n - 1) / n) x) ∧ To54 T54 T54' ∧ 2 ≤ T54'.length ∧ Λ' = (D, W.listOf vs.toArray 0) :: T54' ++ news) := by
  intro dp un gd cn cs a ccd cl outer A₀ base h₀ L m s Q E B C54 F X N T hk hdp hun hret
  (revert X; k_fill; intro X)
  obtain ⟨z1, z2, z3, z4, z5⟩ := nd_facts hx hb hn0 hn1
  rcases hT with rfl | ⟨c', oc, vs', t', rfl, hc9, hoc, hvs⟩
  all_goals simp only [List.cons_append, List.nil_append] at N
  case inl =>
    refine wpAny_call ?_
    k_dflt (walk_at "my_enter")
    with_reducible (rename Frag.In _ _ => X9)
    with_reducible (rename Fr _ _ _ _ => F9)
    have hLhi := hi_of F9 (X9 165 _ (by k_is))
    iterate 28 walk1
    with_reducible (rename News _ _ _ _ => N1)
    refine use_led (C := fun LED => match LED with | (f, fn) :: y :: (D, _) :: rest => Inner54 w p loose mean mg mb n ((f, fn) :: y :: rest) f D | _ => True) N1 ?key ?rest
    case key =>
      clear N1
      intro Λ hΛ hD d
      simp only [List.forall_mem_cons] at hΛ
      obtain ⟨hm1, hm2, hm3, hm4, hm5, hm6, hm7, -⟩ := hΛ
      induction d with
      | zero =>
        intro x lo hi tx tl th vs ns _ h0 h1 h2 h3 h5 h6 h7 hi' h8 dp un gd cn cs a ccd cl outer A₀ base h₀ L m s Q E B _ F X N T hk hdp hun hret
        have h4 : lo + 1 = hi := by simp at h3; omega
        have e1 : (hi - lo).toNat = 1 := by omega
        rw [e1, Nat.mul_one] at h6
        have e2 := putD_one (n := n) (ns := ns) (lo := lo.toNat) (by omega) h5 h6
        refine wpAny_call ?_
        k_dflt (walk_at "my_nest")
        k_steps
        all_goals first | (exfalso; omega) | exact hret _ _ _ _ (by k_asm) (by k_asm) ⟨rfl, _, by rw [e1, ← e2]; assumption, rfl⟩
      | succ d ih =>
        intro x lo hi tx tl th vs ns _ h0 h1 h2 h3 h5 h6 h7 hi' h8 dp un gd cn cs a ccd cl outer A₀ base h₀ L m s Q E B _ F X N T hk hdp hun hret
        obtain ⟨hlen1, hlen2⟩ : lo.toNat < ns.length ∧ (hi : Int) ≤ 200 := by omega
        by_cases hne : lo + 1 = hi
        · have e1 : (hi - lo).toNat = 1 := by omega
          rw [e1, Nat.mul_one] at h6
          have e2 := putD_one (n := n) (ns := ns) (lo := lo.toNat) (by omega) h5 h6
          refine wpAny_call ?_
          k_dflt (walk_at "my_nest")
          k_steps
          all_goals first | (exfalso; omega) | exact hret _ _ _ _ (by k_asm) (by k_asm) ⟨rfl, _, by rw [e1, ← e2]; assumption, rfl⟩
        · obtain ⟨f1, f2, f3, f4⟩ := mid_facts h1 hne h0 h3
          obtain ⟨g1, g2⟩ := shift_facts2 h0 f1 f2 (by omega) hn1
          obtain ⟨y1, y2, y3, y4, y5, y6, y7, y8⟩ := low_facts h5 h7 f1 f2 h6
          have y9 := y8; rw [← y5] at y9
          refine wpAny_call ?_
          k_dflt (walk_at "my_nest")
          k_steps
          case' _ => exfalso; omega
          k_dflt (refine' ih _ _ _ _ _ _ _ _ (by omega) h0 f1 (by omega) f4 (by rw [y1]; exact y2) (by rw [y1]; exact y3) (by rw [y1]; exact y4) hi' h8 _ _ _ _ _ _ _ _ _ _ _ _ _ _ _ _ _ ?k1 trivial ?k2 ?k3 ?k4 ?k5 ?k6 ?k7 ?k8 ?_; (case k1 => k_asm); (case k2 => k_asm); (case k3 => k_asm); (case k4 => k_asm); (case k5 => k_asm); (case k6 => first | exact rfl | assumption); (case k7 => ktr_room); (case k8 => ktr_units))
          intro v Λ' h' tk' F' N' hr
          obtain ⟨e, vs1, hi1, e2⟩ := hr
          subst e e2
          rw [y1] at hi1
          (try dsimp only)
          have hl1 := putD_length (n := n) (ns := ns) (lo := lo.toNat) (k := ((lo + hi).fdiv (2 ^ Int.toNat 1) - lo).toNat) (x := x % 2 ^ (n * ((lo + hi).fdiv (2 ^ Int.toNat 1) - lo).toNat)) (by omega)
          k_steps
          k_dflt (refine' ih _ _ _ _ _ _ _ _ (by omega) (by omega) f2 (by rw [hl1]; exact h2) f3 (by rw [y5]; exact y6) (by rw [y5]; exact y7) y9 hi1 (by rw [hl1]; exact h8) _ _ _ _ _ _ _ _ _ _ _ _ _ _ _ _ _ ?k1 trivial ?k2 ?k3 ?k4 ?k5 ?k6 ?k7 ?k8 ?_; (case k1 => k_asm); (case k2 => k_asm); (case k3 => k_asm); (case k4 => k_asm); (case k5 => k_asm); (case k6 => first | exact rfl | assumption); (case k7 => ktr_room); (case k8 => ktr_units))
          intro v Λ'' h' tk' F' N' hr
          obtain ⟨e, vs2, hi2, e2⟩ := hr
          subst e e2
          rw [y5, putD_mid h0 f1 f2 h2] at hi2
          (try dsimp only)
          k_steps
          exact hret _ _ _ _ (by k_asm) (by k_asm) ⟨rfl, _, hi2, rfl⟩
    case rest =>
      intro key
      dsimp only at key
      with_reducible (rename IntsAre _ (List.replicate _ _) => hws)
      rw [z1, Int.toNat_natCast] at hws
      generalize hns0 : List.replicate ((Builtin.Int.intBits x + n - 1) / n) (0 : Int) = ns0 at hws
      have hl0 : ns0.length = (Builtin.Int.intBits x + n - 1) / n := by rw [← hns0]; simp
      have e1 : ((ns0.length : Int) - 0).toNat = (Builtin.Int.intBits x + n - 1) / n := by omega
      k_steps
      · have z6 := z4 (by assumption)
        k_dflt (refine' key _ (fun q h => h) ?hD 8 _ _ _ _ _ _ _ _ (by decide) (by decide) (by omega) (by omega) (by omega) hx (by rw [e1]; exact z3) hb hws (by omega) _ _ _ _ _ _ _ _ _ _ _ _ _ _ _ _ _ ?k1 trivial ?k2 ?k3 ?k4 ?k5 ?k6 ?k7 ?k8 ?_; (case k1 => k_asm); (case k2 => k_asm); (case k3 => k_asm); (case k4 => exact perm3 (by k_asm)); (case k5 => k_asm); (case k6 => first | exact rfl | assumption); (case k7 => ktr_room); (case k8 => ktr_units))
        case hD => first | k_all | fail "hD"
        intro v Λ'' h' tk' F' N' hr
        obtain ⟨e, vs2, hi2, e2⟩ := hr
        subst e e2
        rw [e1, ← hns0, Int.toNat_zero, putD_all] at hi2
        (try dsimp only)
        k_steps
        exact hret _ _ _ _ (by k_asm) (ret59A (by k_asm)) ⟨_, _, _, rfl, by omega, hi2, ⟨.inr ⟨_, _, _, _, rfl, by omega, by assumption, by assumption⟩, fun h => absurd h (by decide)⟩, Nat.le_refl _, rfl⟩
      · have z6 := z5 (by assumption)
        rw [← hns0, z6] at hws
        exact hret _ _ _ _ (by k_asm) (ret59A (perm3 (by k_asm))) ⟨_, _, _, rfl, by omega, by rw [z6]; exact hws, ⟨.inr ⟨_, _, _, _, rfl, by omega, by assumption, by assumption⟩, fun h => absurd h (by decide)⟩, Nat.le_refl _, rfl⟩

  case inr =>
    refine wpAny_call ?_
    k_dflt (walk_at "my_enter")
    with_reducible (rename Frag.In _ _ => X9)
    with_reducible (rename Fr _ _ _ _ => F9)
    have hLhi := hi_of F9 (X9 165 _ (by k_is))
    iterate 28 walk1
    with_reducible (rename News _ _ _ _ => N1)
    refine use_led (C := fun LED => match LED with | (f, fn) :: (D, _) :: rest => Inner54 w p loose mean mg mb n ((f, fn) :: rest) f D | _ => True) N1 ?key ?rest
    case key =>
      clear N1
      intro Λ hΛ hD d
      simp only [List.forall_mem_cons] at hΛ
      obtain ⟨hm1, hm2, hm3, hm4, hm5, hm6, hm7, -⟩ := hΛ
      induction d with
      | zero =>
        intro x lo hi tx tl th vs ns _ h0 h1 h2 h3 h5 h6 h7 hi' h8 dp un gd cn cs a ccd cl outer A₀ base h₀ L m s Q E B _ F X N T hk hdp hun hret
        have h4 : lo + 1 = hi := by simp at h3; omega
        have e1 : (hi - lo).toNat = 1 := by omega
        rw [e1, Nat.mul_one] at h6
        have e2 := putD_one (n := n) (ns := ns) (lo := lo.toNat) (by omega) h5 h6
        refine wpAny_call ?_
        k_dflt (walk_at "my_nest")
        k_steps
        all_goals first | (exfalso; omega) | exact hret _ _ _ _ (by k_asm) (by k_asm) ⟨rfl, _, by rw [e1, ← e2]; assumption, rfl⟩
      | succ d ih =>
        intro x lo hi tx tl th vs ns _ h0 h1 h2 h3 h5 h6 h7 hi' h8 dp un gd cn cs a ccd cl outer A₀ base h₀ L m s Q E B _ F X N T hk hdp hun hret
        obtain ⟨hlen1, hlen2⟩ : lo.toNat < ns.length ∧ (hi : Int) ≤ 200 := by omega
        by_cases hne : lo + 1 = hi
        · have e1 : (hi - lo).toNat = 1 := by omega
          rw [e1, Nat.mul_one] at h6
          have e2 := putD_one (n := n) (ns := ns) (lo := lo.toNat) (by omega) h5 h6
          refine wpAny_call ?_
          k_dflt (walk_at "my_nest")
          k_steps
          all_goals first | (exfalso; omega) | exact hret _ _ _ _ (by k_asm) (by k_asm) ⟨rfl, _, by rw [e1, ← e2]; assumption, rfl⟩
        · obtain ⟨f1, f2, f3, f4⟩ := mid_facts h1 hne h0 h3
          obtain ⟨g1, g2⟩ := shift_facts2 h0 f1 f2 (by omega) hn1
          obtain ⟨y1, y2, y3, y4, y5, y6, y7, y8⟩ := low_facts h5 h7 f1 f2 h6
          have y9 := y8; rw [← y5] at y9
          refine wpAny_call ?_
          k_dflt (walk_at "my_nest")
          k_steps
          case' _ => exfalso; omega
          k_dflt (refine' ih _ _ _ _ _ _ _ _ (by omega) h0 f1 (by omega) f4 (by rw [y1]; exact y2) (by rw [y1]; exact y3) (by rw [y1]; exact y4) hi' h8 _ _ _ _ _ _ _ _ _ _ _ _ _ _ _ _ _ ?k1 trivial ?k2 ?k3 ?k4 ?k5 ?k6 ?k7 ?k8 ?_; (case k1 => k_asm); (case k2 => k_asm); (case k3 => k_asm); (case k4 => k_asm); (case k5 => k_asm); (case k6 => first | exact rfl | assumption); (case k7 => ktr_room); (case k8 => ktr_units))
          intro v Λ' h' tk' F' N' hr
          obtain ⟨e, vs1, hi1, e2⟩ := hr
          subst e e2
          rw [y1] at hi1
          (try dsimp only)
          have hl1 := putD_length (n := n) (ns := ns) (lo := lo.toNat) (k := ((lo + hi).fdiv (2 ^ Int.toNat 1) - lo).toNat) (x := x % 2 ^ (n * ((lo + hi).fdiv (2 ^ Int.toNat 1) - lo).toNat)) (by omega)
          k_steps
          k_dflt (refine' ih _ _ _ _ _ _ _ _ (by omega) (by omega) f2 (by rw [hl1]; exact h2) f3 (by rw [y5]; exact y6) (by rw [y5]; exact y7) y9 hi1 (by rw [hl1]; exact h8) _ _ _ _ _ _ _ _ _ _ _ _ _ _ _ _ _ ?k1 trivial ?k2 ?k3 ?k4 ?k5 ?k6 ?k7 ?k8 ?_; (case k1 => k_asm); (case k2 => k_asm); (case k3 => k_asm); (case k4 => k_asm); (case k5 => k_asm); (case k6 => first | exact rfl | assumption); (case k7 => ktr_room); (case k8 => ktr_units))
          intro v Λ'' h' tk' F' N' hr
          obtain ⟨e, vs2, hi2, e2⟩ := hr
          subst e e2
          rw [y5, putD_mid h0 f1 f2 h2] at hi2
          (try dsimp only)
          k_steps
          exact hret _ _ _ _ (by k_asm) (by k_asm) ⟨rfl, _, hi2, rfl⟩
    case rest =>
      intro key
      dsimp only at key
      with_reducible (rename IntsAre _ (List.replicate _ _) => hws)
      rw [z1, Int.toNat_natCast] at hws
      generalize hns0 : List.replicate ((Builtin.Int.intBits x + n - 1) / n) (0 : Int) = ns0 at hws
      have hl0 : ns0.length = (Builtin.Int.intBits x + n - 1) / n := by rw [← hns0]; simp
      have e1 : ((ns0.length : Int) - 0).toNat = (Builtin.Int.intBits x + n - 1) / n := by omega
      k_steps
      · have z6 := z4 (by assumption)
        k_dflt (refine' key _ (fun q h => h) ?hD 8 _ _ _ _ _ _ _ _ (by decide) (by decide) (by omega) (by omega) (by omega) hx (by rw [e1]; exact z3) hb hws (by omega) _ _ _ _ _ _ _ _ _ _ _ _ _ _ _ _ _ ?k1 trivial ?k2 ?k3 ?k4 ?k5 ?k6 ?k7 ?k8 ?_; (case k1 => k_asm); (case k2 => k_asm); (case k3 => k_asm); (case k4 => exact perm2 (by k_asm)); (case k5 => k_asm); (case k6 => first | exact rfl | assumption); (case k7 => ktr_room); (case k8 => ktr_units))
        case hD => first | k_all | fail "hD"
        intro v Λ'' h' tk' F' N' hr
        obtain ⟨e, vs2, hi2, e2⟩ := hr
        subst e e2
        rw [e1, ← hns0, Int.toNat_zero, putD_all] at hi2
        (try dsimp only)
        k_steps
        exact hret _ _ _ _ (by k_asm) (ret59B (by k_asm)) ⟨_, _, _, rfl, by omega, hi2, ⟨.inr ⟨_, _, _, _, rfl, by omega, by assumption, by assumption⟩, fun _ => rfl⟩, Nat.le_refl _, rfl⟩
      · have z6 := z5 (by assumption)
        rw [← hns0, z6] at hws
        exact hret _ _ _ _ (by k_asm) (ret59B (perm2 (by k_asm))) ⟨_, _, _, rfl, by omega, by rw [z6]; exact hws, ⟨.inr ⟨_, _, _, _, rfl, by omega, by assumption, by assumption⟩, fun _ => rfl⟩, Nat.le_refl _, rfl⟩
end

section
theorem off3 : True := by
  w_top off
  trivial
def Inner61 (w : World) (p : Program) (loose : List Str) (mean : ExcName → Option Value) (mg mb : Str → Option Value) (ns : List Int) (n : Nat) (LED : List (Addr × Obj)) (f : Addr) : Prop :=
  ∀ (Λ : List (Addr × Obj)), (∀ q ∈ LED, q ∈ Λ) → ∀ (d : Nat) (lo hi : Int) (tl th : Tok), d ≤ 8 → 0 ≤ lo → lo < hi → hi ≤ ns.length → hi - lo ≤ 2 ^ d →
    CallsTo w p loose mean mg mb (fun _ => True) Λ f [.int lo tl, .int hi th] (d + 2) (8 * (d + 2)) (fun v Λ' => Λ' = Λ ∧ ∃ t, v = .int (dval n ((ns.drop lo.toNat).take (hi - lo).toNat)) t)
theorem c66 {w : World} {p : Program} {loose : List Str} {mean : ExcName → Option Value} {mg mb : Str → Option Value} {T61 : List (Addr × Obj)} {news : List (Addr × Obj)} {l : Addr} {vs : List Value} {ns : List Int} {nl : Nat} {n : Nat} {tn : Tok}
  (hT : TabIs "_digits2int.<locals>.inner" 51 4 61 T61) (hn61 : ∀ q ∈ news, q.1 ≠ 61) (hl61 : l ≠ 61)
  (hi : IntsAre vs ns) (hn0 : 0 < n) (hn1 : n < 100) (hln2 : ns.length < 100) (hns : ∀ x ∈ ns, 0 ≤ x ∧ x < 2 ^ n) :
  CallsTo w p loose mean mg mb (fun base => CodeHd base 65 61) (T61 ++ (l, W.listOf vs.toArray nl) :: news) 66 [.ref l, .int n tn] 20 200
    (fun v Λ' => (∃ t, v = .int (dval n ns) t) ∧ ∃ T61', To61 T61 T61' ∧ 2 ≤ T61'.length ∧ Λ' = T61' ++ (l, W.listOf vs.toArray nl) :: news) := by
  intro dp un gd cn cs a ccd cl outer A₀ base h₀ L m s Q E B C61 F X N T hk hdp hun hret
  (revert X; k_fill; intro X)
  rcases hT with rfl | ⟨c', oc, vs', t', rfl, hc9, hoc, hvs⟩
  all_goals simp only [List.cons_append, List.nil_append] at N
  all_goals (
  refine wpAny_call ?_
  k_dflt (walk_at "my_enter")
  with_reducible (rename Frag.In _ _ => X9)
  with_reducible (rename Fr _ _ _ _ => F9)
  have hLhi := hi_of F9 (X9 165 _ (by k_is))
  iterate 4 walk1
  with_reducible (rename News _ _ _ _ => N1)
  refine use_led (C := fun LED => match LED with | (f, _) :: _ => Inner61 w p loose mean mg mb ns n LED f | _ => True) N1 ?key ?rest
  case key =>
    clear N1
    intro Λ hΛ
    simp only [List.forall_mem_cons] at hΛ
    obtain ⟨hm1, hm2, hm3, hm4, hm5, hm6, hm7, -⟩ := hΛ
    intro d
    induction d with
    | zero =>
      intro lo hi tl th _ h0 h1 h2 h3 dp un gd cn cs a ccd cl outer A₀ base h₀ L m s Q E B _ F X N T hk hdp hun hret
      have h4 : lo + 1 = hi := by simp at h3; omega
      refine wpAny_call ?_
      k_dflt (walk_at "my_nest")
      k_steps
      all_goals first | exact hret _ _ _ _ (by k_asm) (by k_asm) ⟨rfl, _, by rw [dval_one h0 h4 h2]⟩ | (exfalso; omega)
    | succ d ih =>
      intro lo hi tl th _ h0 h1 h2 h3 dp un gd cn cs a ccd cl outer A₀ base h₀ L m s Q E B _ F X N T hk hdp hun hret
      refine wpAny_call ?_
      k_dflt (walk_at "my_nest")
      k_steps
      case' _ => exact hret _ _ _ _ (by k_asm) (by k_asm) ⟨rfl, _, by rw [dval_one h0 (by assumption) h2]⟩
      with_reducible (rename _ ≠ hi => hne)
      obtain ⟨f1, f2, f3, f4⟩ := mid_facts h1 hne h0 h3
      obtain ⟨g1, g2⟩ := shift_facts h0 f1 f2 (by omega) hn1
      have g3 := dval_bits hns hn1 hln2 ((lo + hi).fdiv (2 ^ Int.toNat 1)).toNat (hi - (lo + hi).fdiv (2 ^ Int.toNat 1)).toNat
      k_dflt (refine' ih _ _ _ _ (by omega) (by omega) f2 h2 f3 _ _ _ _ _ _ _ _ _ _ _ _ _ _ _ _ _ ?k1 trivial ?k2 ?k3 ?k4 ?k5 ?k6 ?k7 ?k8 ?_; (case k1 => k_asm); (case k2 => k_asm); (case k3 => k_asm); (case k4 => k_asm); (case k5 => k_asm); (case k6 => first | exact rfl | assumption); (case k7 => ktr_room); (case k8 => ktr_units))
      intro v Λ' h' tk' F' N' hr
      obtain ⟨e, t, e2⟩ := hr
      subst e e2
      (try dsimp only)
      k_steps
      k_dflt (refine' ih _ _ _ _ (by omega) h0 f1 (by omega) f4 _ _ _ _ _ _ _ _ _ _ _ _ _ _ _ _ _ ?k1 trivial ?k2 ?k3 ?k4 ?k5 ?k6 ?k7 ?k8 ?_; (case k1 => k_asm); (case k2 => k_asm); (case k3 => k_asm); (case k4 => k_asm); (case k5 => k_asm); (case k6 => first | exact rfl | assumption); (case k7 => ktr_room); (case k8 => ktr_units))
      intro v Λ'' h' tk' F' N' hr
      obtain ⟨e, t, e2⟩ := hr
      subst e e2
      (try dsimp only)
      k_steps
      exact hret _ _ _ _ (by k_asm) (by k_asm) ⟨rfl, _, by rw [dval_mid h0 f1 f2 h2]⟩
  case rest =>
    intro key
    dsimp only at key
    k_steps
    · have hlen := IntsAre.length hi
      k_dflt (refine' key _ (fun q h => h) 7 _ _ _ _ (by omega) (by omega) (by omega) (by omega) (by omega) _ _ _ _ _ _ _ _ _ _ _ _ _ _ _ _ _ ?k1 trivial ?k2 ?k3 ?k4 ?k5 ?k6 ?k7 ?k8 ?_; (case k1 => k_asm); (case k2 => k_asm); (case k3 => k_asm); (case k4 => k_asm); (case k5 => k_asm); (case k6 => first | exact rfl | assumption); (case k7 => ktr_room); (case k8 => ktr_units))
      intro v Λ'' h' tk' F' N' hr
      obtain ⟨e, t, e2⟩ := hr
      subst e e2
      (try dsimp only)
      k_steps
      first
      | exact hret _ _ _ _ (by k_asm) (ret66A (by k_asm)) ⟨⟨t, by simp⟩, _, ⟨.inr ⟨_, _, _, _, rfl, by omega, by assumption, by assumption⟩, fun h => absurd h (by decide)⟩, Nat.le_refl _, rfl⟩
      | exact hret _ _ _ _ (by k_asm) (ret66B (by k_asm)) ⟨⟨t, by simp⟩, _, ⟨.inr ⟨_, _, _, _, rfl, by omega, by assumption, by assumption⟩, fun _ => rfl⟩, Nat.le_refl _, rfl⟩
    · have hlen := IntsAre.length hi
      have h0 : ns = [] := List.length_eq_zero_iff.mp (by omega)
      first
      | exact hret _ _ _ _ (by k_asm) (ret66A (by k_asm)) ⟨⟨_, by rw [h0]; rfl⟩, _, ⟨.inr ⟨_, _, _, _, rfl, by omega, by assumption, by assumption⟩, fun h => absurd h (by decide)⟩, Nat.le_refl _, rfl⟩
      | exact hret _ _ _ _ (by k_asm) (ret66B (by k_asm)) ⟨⟨_, by rw [h0]; rfl⟩, _, ⟨.inr ⟨_, _, _, _, rfl, by omega, by assumption, by assumption⟩, fun _ => rfl⟩, Nat.le_refl _, rfl⟩)
end

section
theorem off4 : True := by
  w_top off
  trivial
theorem c73 {w : World} {p : Program} {loose : List Str} {mean : ExcName → Option Value} {mg mb : Str → Option Value} {T54 T61 news : List (Addr × Obj)} {x y : Int} {tx ty : Tok}
  (hT : Tab54 T54) (hT' : Tab61 T61) (hH : Hi news)
  (hx : 0 ≤ x) (hb : Builtin.Int.intBits x ≤ 200) (hy : 0 < y) (hby : Builtin.Int.intBits y < 100) (hDn : (Builtin.Int.intBits x + Builtin.Int.intBits y - 1) / Builtin.Int.intBits y < 100) :
  CallsTo w p loose mean mg mb (fun base => CodeHd base 58 54 ∧ CodeHd base 65 61) (T54 ++ (T61 ++ news)) 73 [.int x tx, .int y ty] 40 600
    (fun v Λ' => ∃ D t1 t2 k T54' T61', v = .ref D ∧ @LT.lt Nat _ 160 D ∧ To54 T54 T54' ∧ To61 T61 T61' ∧ Λ' = (D, tup2 (.int (x / y) t1) (.int (x % y) t2) k) :: (T54' ++ (T61' ++ news))) := by
  intro dp un gd cn cs a ccd cl outer A₀ base h₀ L m s Q E B hC F X N T hk hdp hun hret
  obtain ⟨C54, C61⟩ := hC
  (revert X; k_fill; intro X)
  have hby0 : 0 < Builtin.Int.intBits y := by
    rcases Nat.eq_zero_or_pos (Builtin.Int.intBits y) with h | h
    · have := intBits_le_iff.mp (Nat.le_of_eq h); omega
    · exact h
  refine wpAny_call ?_
  k_dflt (walk_at "my_enter")
  k_steps
  k_dflt (refine' c59 hT (ne_app (hT'.ne (by decide) (by decide)) (hH.ne (by decide))) hx hb hby0 hby _ _ _ _ _ _ _ _ _ _ _ _ _ _ _ _ _ ?k1 ?kB ?k2 ?k3 ?k4 ?k5 ?k6 ?k7 ?k8 ?_; (case k1 => k_asm); (case kB => assumption); (case k2 => k_asm); (case k3 => k_asm); (case k4 => k_asm); (case k5 => k_asm); (case k6 => first | exact rfl | assumption); (case k7 => ktr_room); (case k8 => ktr_units))
  intro v Λ' h' tk' F' N' hr
  obtain ⟨D, vs, T54', e, hD1, hvs, hT2q, hf54, e2⟩ := hr
  have hT2 := hT2q.1
  subst e e2
  simp only [List.cons_append] at N'
  obtain ⟨R, hR⟩ : ∃ R, R = T54' ++ (T61 ++ news) := ⟨_, rfl⟩
  rw [← hR] at N'
  (try dsimp only)
  have hlen := hvs.length
  rw [digs_length] at hlen
  k_steps
  with_reducible (rename News _ _ _ _ => N1)
  refine led_name2 N1 ?_
  intro lq hlq
  subst hlq
  with_reducible (rename D < lq ∧ AllLt lq R => lA)
  have hlqR : ∀ p ∈ R, p.1 ≠ lq := allLt_ne lA.2 (Nat.le_refl _)
  with_reducible (rename Fr _ _ _ _ => F1)
  refine use_fr F1 ?_
  intro m0 hm0 F2
  clear F1
  have hD3 := (nd_facts hx hb hby0 hby).2.2.1
  have hD2 := (nd_facts hx hb hby0 hby).2.1
  generalize hDnn : (Builtin.Int.intBits x + Builtin.Int.intBits y - 1) / Builtin.Int.intBits y = Dn at hvs hlen hD3 hD2 hDn
  k_dflt (refine' iter_revUnr (lo := W.listOf vs.toArray 0) (vs := vs) (n := 0) rfl F2 N1 (offI_of ?ha) ?hb rfl rfl ?_)
  case ha => first | k_all | fail "ha"
  case hb => k_mem
  refine revRest_inv vs.reverse (fun i m nw => ∃ r t qs qv k, m "r" = some (.int r t) ∧ (∀ z : Str, z ≠ "a_digit" → z ≠ "q_digit" → z ≠ "r" → m z = m0 z) ∧ nw = (lq, W.listOf (List.toArray qv) k) :: (D, W.listOf vs.toArray 0) :: R ∧ IntsAre qv qs ∧ DivInv (Builtin.Int.intBits y) Dn x y i r qs) ?turn ?done vs.reverse 0 _ _ rfl (Nat.zero_le _) ?init ?mem
  case mem => k_mem
  case init => exact ⟨0, _, [], [], _, by rw [hm0]; rfl, fun _ _ _ _ => rfl, rfl, .nil, .start hx hD3 hy⟩
  case turn =>
    intro i v m nw it h tk hv hlp hJ hc F N
    obtain ⟨r, t, qs, qv, k, hr, hm, hnw, hqv, hinv⟩ := hJ
    subst hnw
    obtain ⟨hil, d, td, hd, rfl⟩ := rev_item hvs hv
    rw [digs_length] at hil hd
    rw [digs_get _ _ _ _ (by omega)] at hd
    obtain ⟨hinv', d0, d1, hrd⟩ := hinv.turn hil d (Option.some.inj hd).symm
    obtain ⟨b1, b2⟩ := step_bits hinv.1 hinv.2.1 hby hby d0 d1
    subst hm0
    have em := frame3 hm
    rw [hr] at em
    generalize m "a_digit" = u1 at em
    generalize m "q_digit" = u2 at em
    clear hr hm
    subst em
    dsimp only at F
    k_steps
    (try simp only [Int.toNat_natCast])
    k_dflt (refine' c45 hrd hy b1 (by omega) _ _ _ _ _ _ _ _ _ _ _ _ _ _ _ _ _ ?k1 ?kB ?k2 ?k3 ?k4 ?k5 ?k6 ?k7 ?k8 ?_; (case k1 => k_asm); (case kB => exact trivial); (case k2 => k_asm); (case k3 => k_asm); (case k4 => k_asm); (case k5 => k_asm); (case k6 => first | exact rfl | assumption); (case k7 => ktr_room); (case k8 => ktr_units))
    intro v' Λ' h' tk' F' N' hr'
    obtain ⟨Dt, t1, t2, k2, e, _, e2⟩ := hr'
    subst e e2
    (try dsimp only)
    k_steps
    with_reducible (rename News _ _ _ _ => N8)
    replace N8 := News.drop1 N8
    have hql : qv.toArray.size ≤ 1000 := by
      have := hqv.length; have := hinv.2.2.1; simp only [List.size_toArray]; omega
    k_steps
    with_reducible (rename News _ _ _ _ => N9)
    rw [List.push_toArray] at N9
    refine' UnrEnd.intro ?oF N9 _ (fun p hp => hp) ?off ⟨?om, _, _, _, _, _, ?or, ?oz, rfl, ints_snoc hqv, hinv'⟩
    case oF => k_asm
    case or => rfl
    case off => first | k_all | fail "off"
    case om => k_mem
    case oz => intro z h1 h2 h3; simp only [if_neg h1, if_neg h2, if_neg h3]
  case done =>
    intro m nw h tk hJ hlp F N
    obtain ⟨r, t, qs, qv, k, hr, hm, hnw, hqv, hinv⟩ := hJ
    subst hnw
    subst hm0
    have em := frame3 hm
    rw [hr] at em
    generalize m "a_digit" = u1 at em
    generalize m "q_digit" = u2 at em
    clear hr hm
    subst em
    rw [List.length_reverse, hlen] at hinv
    have hql := hinv.2.2.1
    have hql2 := hqv.length
    obtain ⟨v1, v2⟩ := hinv.fin hy
    subst v2
    k_steps
    dsimp only
    k_dflt (refine' kl_reverse (l := qv.reverse) ?F ?N rfl ?U ?z ?_; (case F => k_asm); (case N => k_asm); (case U => k_upd); (case z => (show qv.length ≤ sizeLine; rw [sizeLine_eq]; omega)))
    intro h' F' N'
    (try dsimp only)
    k_steps
    k_dflt (refine' c66 (T61 := T61) (news := (D, W.listOf vs.toArray 0) :: (T54' ++ news)) (l := lq) (vs := qv.reverse) (ns := qs.reverse) (nl := k) hT' ?u1 ?u2 (ints_rev hqv) hby0 hby ?u3 ?u4 _ _ _ _ _ _ _ _ _ _ _ _ _ _ _ _ _ ?k1 ?kB ?k2 ?k3 ?k4 ?k5 ?k6 ?k7 ?k8 ?_; (case k1 => k_asm); (case kB => exact C61); (case k2 => k_asm); (case k3 => k_asm); (case k4 => exact cb_drop (by k_asm) (by rw [hR]; intro p hp; simp only [List.mem_append, List.mem_cons] at hp ⊢; grind)); (case k5 => k_asm); (case k6 => first | exact rfl | assumption); (case k7 => ktr_room); (case k8 => ktr_units))
    case u1 => exact ne_cons (neN (by omega)) (ne_app (hT2.ne (by decide) (by decide)) (hH.ne (by decide)))
    case u2 => exact neN (by have h1 := lA.1; omega)
    case u3 => rw [List.length_reverse]; omega
    case u4 => exact fun q hq => hinv.2.2.2.1 q (List.mem_reverse.mp hq)
    intro v' Λ' h' tk' F' N' hr'
    obtain ⟨⟨t9, e⟩, T61', hT3q, hf61, e2⟩ := hr'
    have hT3 := hT3q.1
    subst e e2
    rw [v1]
    (try dsimp only)
    k_steps
    with_reducible (rename ∀ p : Addr × Obj, p ∈ _ → _ => l9)
    have h8 := l9 (lq, W.listOf qv.reverse.toArray k) (by simp)
    have h7 := lA.1
    with_reducible (rename News _ _ _ _ => N5)
    refine led_name1 N5 ?_
    intro D9 h9
    subst h9
    exact hret _ ((D9, tup2 (.int (x / y) t9) (.int (x % y) t) 0) :: (T54' ++ (T61' ++ news))) _ _ (by k_asm) (cb_drop N5 (by intro p hp; simp only [List.mem_append, List.mem_cons] at hp ⊢; grind)) ⟨_, _, _, _, _, _, rfl, Nat.lt_trans hD1 (Nat.lt_trans h7 h8), hT2q, hT3q, rfl⟩
end

section
theorem off5 : True := by
  w_top off
  trivial
theorem c80 {w : World} {p : Program} {loose : List Str} {mean : ExcName → Option Value} {mg mb : Str → Option Value} {T54 T61 news : List (Addr × Obj)} {x y : Int} {tx ty : Tok}
  (hT : Tab54 T54) (hT' : Tab61 T61) (hH : Hi news)
  (hx : 0 ≤ x) (hb : Builtin.Int.intBits x ≤ 200) (hy : 0 < y) (hby : Builtin.Int.intBits y < 100) (hDn : (Builtin.Int.intBits x + Builtin.Int.intBits y - 1) / Builtin.Int.intBits y < 100) :
  CallsTo w p loose mean mg mb (fun base => CodeHd base 58 54 ∧ CodeHd base 65 61) (T54 ++ (T61 ++ news)) 80 [.int x tx, .int y ty] 60 900
    (fun v Λ' => ∃ D t1 t2 k T54' T61', v = .ref D ∧ @LT.lt Nat _ 160 D ∧ To54 T54 T54' ∧ To61 T61 T61' ∧ Λ' = (D, tup2 (.int (x / y) t1) (.int (x % y) t2) k) :: (T54' ++ (T61' ++ news))) := by
  intro dp un gd cn cs a ccd cl outer A₀ base h₀ L m s Q E B hC F X N T hk hdp hun hret
  (revert X; k_fill; intro X)
  have q1 : ¬ y = 0 := by omega
  have q2 : ¬ y < 0 := by omega
  have q3 : ¬ x < 0 := by omega
  refine wpAny_call ?_
  k_dflt (walk_at "my_enter")
  k_steps
  case' _ => (exfalso; omega)
  k_dflt (refine' c73 hT hT' hH hx hb hy hby hDn _ _ _ _ _ _ _ _ _ _ _ _ _ _ _ _ _ ?k1 ?kB ?k2 ?k3 ?k4 ?k5 ?k6 ?k7 ?k8 ?_; (case k1 => k_asm); (case kB => exact hC); (case k2 => k_asm); (case k3 => k_asm); (case k4 => k_asm); (case k5 => k_asm); (case k6 => first | exact rfl | assumption); (case k7 => ktr_room); (case k8 => ktr_units))
  intro v Λ' h' tk' F' N' hr
  obtain ⟨D, t1, t2, k, T54', T61', e, h1, h2, h3, e2⟩ := hr
  subst e e2
  (try dsimp only)
  k_steps
  exact hret _ _ _ _ (by k_asm) (by k_asm) ⟨_, _, _, _, _, _, rfl, h1, h2, h3, rfl⟩
end

section
theorem off6 : True := by
  w_top off
  trivial
theorem c141 {w : World} {p : Program} {loose : List Str} {mean : ExcName → Option Value} {mg mb : Str → Option Value} {T54 T61 news : List (Addr × Obj)} {x y : Int} {tx ty : Tok}
  (hT : Tab54 T54) (hT' : Tab61 T61) (hH : Hi news)
  (hx : 0 ≤ x) (hx1 : x ≤ 12) (hy : 0 ≤ y) (hy1 : y ≤ 12) :
  CallsTo w p loose mean mg mb (fun base => CodeHd base 58 54 ∧ CodeHd base 65 61) (T54 ++ (T61 ++ news)) 141 [.int x tx, .int y ty] 80 1200
    (fun v Λ' => ∃ t T54' T61', v = .int (Int.gcd x y) t ∧ To54 T54 T54' ∧ To61 T61 T61' ∧ Λ' = T54' ++ (T61' ++ news)) := by
  intro dp un gd cn cs a ccd cl outer A₀ base h₀ L m s Q E B hC F X N T hk hdp hun hret
  (revert X; k_fill; intro X)
  refine wpAny_call ?_
  k_dflt (walk_at "my_enter")
  iterate 2 walk1
  with_reducible (rename Fr _ _ _ _ => F1)
  refine use_frN F1 ?_
  intro g0 L0 m0 hg0 hL0 hm0 F2
  clear F1
  subst hg0 hL0
  k_dflt (refine whl_start 1 ?_)
  refine whl_inv (by first | passes_own | with_unfolding_all passes_own) (fun n s' => ∃ h tk m' x' y' tx' ty' T54' T61', s' = { s with heap := h, toks := tk } ∧ Fr g0 L0 h m' ∧ m' "one" = some (.int x' tx') ∧ m' "other" = some (.int y' ty') ∧ (∀ z : Str, z ≠ "one" → z ≠ "other" → m' z = m0 z) ∧ News g0 L0 h (T54' ++ (T61' ++ news)) ∧ To54 T54 T54' ∧ To61 T61 T61' ∧ 0 ≤ x' ∧ x' ≤ 12 ∧ 0 ≤ y' ∧ y' ≤ 12 ∧ Int.gcd x' y' = Int.gcd x y ∧ n = y'.toNat) ?turn y.toNat _ ?init
  case init => exact ⟨_, _, m0, x, y, _, _, T54, T61, rfl, F2, by rw [hm0]; rfl, by rw [hm0]; rfl, fun _ _ _ => rfl, by k_asm, .refl hT, .refl hT', hx, hx1, hy, hy1, rfl, rfl⟩
  case turn =>
    rintro n s' ⟨h, tk, m', x', y', tx', ty', T54', T61', rfl, F, e1, e2, hm, N, hT2, hT3, b1, b2, b3, b4, hg, rfl⟩
    subst hm0
    have em := frame2 hm
    rw [e1, e2] at em
    clear e1 e2 hm
    subst em
    k_steps
    by_cases hy0 : y' = 0
    · refine WhlIf.no (by simp [hy0]) ?_
      k_steps
      subst hy0
      have e : x' = (Int.gcd x y : Int) := by rw [← hg, Int.gcd_zero_right]; omega
      exact hret _ _ _ _ (by k_asm) (by k_asm) ⟨tx', _, _, by rw [e], hT2, hT3, rfl⟩
    · refine WhlIf.yes (by simp [hy0]) ?_
      have k1 : Builtin.Int.intBits x' ≤ 4 := intBits_lt b1 (by omega)
      have k2 : Builtin.Int.intBits y' ≤ 4 := intBits_lt b3 (by omega)
      have k3 : (Builtin.Int.intBits x' + Builtin.Int.intBits y' - 1) / Builtin.Int.intBits y' < 100 := Nat.lt_of_le_of_lt (Nat.div_le_self _ _) (by omega)
      k_steps
      k_dflt (refine' c80 hT2.1 hT3.1 hH b1 (by omega) (by omega) (by omega) k3 _ _ _ _ _ _ _ _ _ _ _ _ _ _ _ _ _ ?k1 ?kB ?k2 ?k3 ?k4 ?k5 ?k6 ?k7 ?k8 ?_; (case k1 => k_asm); (case kB => exact hC); (case k2 => k_asm); (case k3 => k_asm); (case k4 => k_asm); (case k5 => k_asm); (case k6 => first | exact rfl | assumption); (case k7 => ktr_room); (case k8 => ktr_units))
      intro v Λ' h' tk' F' N' hr
      obtain ⟨D, t1, t2, k, T54'', T61'', e, h1, h2, h3, e2⟩ := hr
      subst e e2
      (try dsimp only)
      k_steps
      have z1 := Int.emod_nonneg x' hy0
      have z2 := Int.emod_lt_of_pos x' (show 0 < y' by omega)
      refine ⟨(x' % y').toNat, by omega, _, _, _, y', x' % y', _, _, T54'', T61'', rfl, by k_asm, rfl, rfl, ?oz, News.drop2 (by k_asm), hT2.trans h2, hT3.trans h3, b3, b4, z1, by omega, by rw [gcd_step b1 b3, hg], rfl⟩
      intro z h1 h2; simp only [if_neg h1, if_neg h2]
end
end
section
local macro_rules | `(tactic| walk_at "binaryOp Mult ref int") => `(tactic| (k_here; (with_reducible show wpAny _ _ (binaryOp Operator.Mult (Value.ref _) (Value.int _ _)) _ _ _); k_dflt (refine' mul_rep ?F ?N ?m ?lo ?hi ?_; (case F => k_asm); (case N => k_asm); (case m => k_mem); (case lo => first | with_reducible assumption | omega); (case hi => first | with_reducible assumption | omega)); intro D' ws' h' F' N' l1 hws'; (try k_lt l1)))
local macro_rules | `(tactic| walk_at "call type:type") => `(tactic| ((with_reducible show wpAny _ _ (call _ [Value.bytes _ _]) _ _ _); refine call_type_of (Tx := "bytes") rfl (by decide +kernel) ?_))
local macro_rules | `(tactic| walk_at "exec For") => `(tactic| (k_here; (with_reducible (rename Fr _ _ _ _ => lF')); (with_unfolding_all refine' For_invVF lF' ?k1 ?k2 ?_; (case k1 => exact rfl); (case k2 => exact rfl); k_whole)))
local macro_rules | `(tactic| walk_at "exec For Name Name cons nil") => `(tactic| (k_here; (with_reducible (rename Fr _ _ _ _ => lF')); (with_unfolding_all refine' For_invVF lF' ?k1 ?k2 ?_; (case k1 => exact rfl); (case k2 => exact rfl); k_whole)))
local macro_rules | `(tactic| walk_at "exec For Name Call cons nil") => `(tactic| (k_here; (with_reducible (rename Fr _ _ _ _ => lF')); (with_unfolding_all refine' For_invVF lF' ?k1 ?k2 ?_; (case k1 => exact rfl); (case k2 => exact rfl); k_whole)))
section
theorem off7 : True := by
  w_top off
  trivial
theorem c148 {w : World} {p : Program} {loose : List Str} {mean : ExcName → Option Value} {mg mb : Str → Option Value} {news : List (Addr × Obj)} {many : Nat} {tm : Tok} {ll : Addr} {lvs : List Value} {l1 l2 : Int} {lk : Nat}
  (hm0 : 1 ≤ many) (hm1 : many ≤ 12) (hl : IntsAre lvs [l1, l2]) (h11 : 1 ≤ l1) (h12 : l1 ≤ many) (h21 : 1 ≤ l2) (h22 : l2 ≤ many) :
  CallsTo w p loose mean mg mb (fun base => True) ((ll, W.listOf lvs.toArray lk) :: news) 148 [.int many tm, .ref ll] 80 1200
    (fun v Λ' => ∃ D vs k, v = .ref D ∧ (∀ p ∈ (ll, W.listOf lvs.toArray lk) :: news, @LT.lt Nat _ p.1 D) ∧ IntsAre vs (tieRounds many [l1, l2] (rangeKs 0 many) many) ∧ Λ' = (D, W.listOf (List.toArray vs) k) :: (ll, W.listOf lvs.toArray lk) :: news) := by
  intro dp un gd cn cs a ccd cl outer A₀ base h₀ L m s Q E B hC F X N T hk hdp hun hret
  (revert X; k_fill; intro X)
  refine wpAny_call ?_
  k_dflt (walk_at "my_enter")
  iterate 15 walk1
  with_reducible (rename IsRange _ _ _ _ _ _ _ _ => rgX)
  k_dflt (refine' kll_range ?k0 ?k1 ?k2 rgX ?k4 ?k5 ?k6 ?_)
  case k0 => rfl
  case k1 => k_asm
  case k2 => k_asm
  case k4 => exact small_one (by omega) (by omega) (by omega) (by omega)
  case k5 => exact rangeSize_nat _ _
  case k6 => omega
  intro D us c h' tk F' N' lz1 hus
  have l1D : ∀ p ∈ news, p.1 ≠ D := fun p hp => Nat.ne_of_lt (lz1 p (List.mem_cons_of_mem _ hp))
  have l1L : ll ≠ D := Nat.ne_of_lt (lz1 _ (List.mem_cons_self))
  clear rgX
  (try dsimp only)
  iterate 11 walk1
  with_reducible (rename IsRange _ _ _ _ _ _ _ _ => rg1)
  with_reducible (rename Fr _ _ _ _ => F1)
  with_reducible (rename News _ _ _ _ => N1)
  refine use_frN F1 ?_
  intro g0 L0 m0 hg0 hL0 hm0 F2
  clear F1
  subst hg0 hL0
  k_dflt (refine' iter_rangeUnr rfl rg1 ?sm ?sz F2 N1 (fun I hI => ?_))
  case sm => exact small_one (by omega) (by omega) (by omega) (by omega)
  case sz => exact rangeSize_nat _ _
  refine rangeRest_inv (fun i m nw => ∃ vs k, (∀ z : Str, z ≠ "again" → z ≠ "length" → z ≠ "k" → z ≠ "less" → m z = m0 z) ∧ nw = (D, W.listOf (List.toArray vs) k) :: (ll, W.listOf lvs.toArray lk) :: news ∧ IntsAre vs (tieRounds many [l1, l2] (rangeKs 0 ((many : Int) - 0).toNat) i)) ?turn ?done _ 0 _ _ (Nat.zero_add _) ?init
  case init => exact ⟨_, _, fun _ _ _ _ _ => rfl, rfl, hus⟩
  case done =>
    intro m nw h tk hJ F N
    obtain ⟨vs, k, hm, hnw, hvs⟩ := hJ
    subst hnw
    subst hm0
    have em := frame4 hm
    generalize m "again" = u1 at em
    generalize m "length" = u2 at em
    generalize m "k" = u3 at em
    generalize m "less" = u4 at em
    clear hm
    subst em
    k_steps
    have e : (((many : Int) - 0).toNat) = many := by omega
    rw [e] at hvs
    exact hret _ _ _ _ (by k_asm) (by k_asm) ⟨_, _, _, rfl, lz1, hvs, rfl⟩
  case turn =>
    intro i m nw t h tk hlt hJ F N
    obtain ⟨vs, k, hm, hnw, hvs⟩ := hJ
    subst hnw
    subst hm0
    have em := frame4 hm
    generalize m "again" = u1 at em
    generalize m "length" = u2 at em
    generalize m "k" = u3 at em
    generalize m "less" = u4 at em
    clear hm
    subst em
    iterate 3 walk1
    with_reducible (rename Fr _ _ _ _ => F3)
    with_reducible (rename News _ _ _ _ => N3)
    refine use_fr F3 ?_
    intro m2 hm2 F4
    clear F3
    k_dflt (refine' iter_listUnr (lo := W.listOf lvs.toArray lk) (vs := lvs) rfl F4 N3 ?hb rfl rfl (fun I2 hI2 => ?_))
    case hb => k_mem
    refine listRest_inv lvs (fun j m nw => ∃ vs k, (∀ z : Str, z ≠ "length" → z ≠ "k" → z ≠ "less" → m z = m2 z) ∧ nw = (I, itR (0 + ((i + 1 : Nat) : Int)) ((((many : Int) - 0).toNat : Int) - ((i + 1 : Nat) : Int))) :: (D, W.listOf (List.toArray vs) k) :: (ll, W.listOf lvs.toArray lk) :: news ∧ IntsAre vs (tieLens many (tieRounds many [l1, l2] (rangeKs 0 ((many : Int) - 0).toNat) i) ([l1, l2].take j))) ?turn2 ?done2 lvs 0 _ _ rfl (Nat.zero_le _) ?init2 ?mem2
    case mem2 => k_mem
    case init2 => exact ⟨_, _, fun _ _ _ _ => rfl, rfl, hvs⟩
    case done2 =>
      intro m nw h tk hJ hlp F N
      obtain ⟨vs, k, hm, hnw, hvs⟩ := hJ
      subst hnw
      k_steps
      refine' UnrEnd.intro ?oF N _ (fun p hp => hp) ?off ⟨_, _, ?oz, rfl, ?oi⟩
      case oF => k_asm
      case off => exact off_map hI rfl
      case oz => intro z h1 h2 h3 h4; rw [hm z h2 h3 h4, hm2]; simp only [if_neg h1, if_neg h2, if_neg h3, if_neg h4]
      case oi =>
        have e : [l1, l2].take lvs.length = [l1, l2] := by rw [hl.length]; rfl
        rw [e] at hvs
        exact hvs
    case turn2 =>
      intro j v m nw it h tk hv hlp hJ hc F N
      obtain ⟨vs, k, hm, hnw, hvs⟩ := hJ
      subst hnw
      subst hm2
      have em := frame3 hm
      generalize m "length" = u5 at em
      generalize m "k" = u6 at em
      generalize m "less" = u7 at em
      clear hm
      subst em
      obtain ⟨len, tl, hlen, rfl⟩ := ints_item hl hv
      have hlen1 : 1 ≤ len ∧ len ≤ many := by
        rcases j with _ | _ | j
        · simp at hlen; omega
        · simp at hlen; omega
        · simp at hlen
      iterate 12 walk1
      with_reducible (rename IsRange _ _ _ _ _ _ _ _ => rg3)
      with_reducible (rename Fr _ _ _ _ => F5)
      with_reducible (rename News _ _ _ _ => N5)
      refine use_fr F5 ?_
      intro m3 hm3 F6
      clear F5
      k_dflt (refine' iter_rangeUnr rfl rg3 ?sm3 ?sz3 F6 N5 (fun I3 hI3 => ?_))
      case sm3 => exact small_one (by omega) (by omega) (by omega) (by omega)
      case sz3 => exact rangeSize_nat _ _
      generalize hls : tieLens many (tieRounds many [l1, l2] (rangeKs 0 ((many : Int) - 0).toNat) i) (List.take j [l1, l2]) = ls at hvs
      have hlsl : ls.length = many := by rw [← hls, tieLens_length, tieRounds_length, rangeKs_length]; omega
      refine rangeRest_inv (fun q m nw => ∃ vs k, (∀ z : Str, z ≠ "k" → z ≠ "less" → m z = m3 z) ∧ nw = (I2, it) :: (I, itR (0 + ((i + 1 : Nat) : Int)) ((((many : Int) - 0).toNat : Int) - ((i + 1 : Nat) : Int))) :: (D, W.listOf (List.toArray vs) k) :: (ll, W.listOf lvs.toArray lk) :: news ∧ IntsAre vs (tieSteps len ls q)) ?turn3 ?done3 _ 0 _ _ (Nat.zero_add _) ?init3
      case init3 => exact ⟨_, _, fun _ _ _ => rfl, rfl, hvs⟩
      case done3 =>
        intro m nw h tk hJ F N
        obtain ⟨vs, k, hm, hnw, hvs⟩ := hJ
        subst hnw
        have dI : @LT.lt Nat _ D I := hI _ List.mem_cons_self
        have dI2 : @LT.lt Nat _ D I2 := hI2 _ (List.mem_cons_of_mem _ List.mem_cons_self)
        k_steps
        refine' UnrEnd.intro ?oF N _ (fun p hp => hp) ?off ⟨?om, _, _, ?oz, rfl, ?oi⟩
        case oF => k_asm
        case off => exact off_map hI2 rfl
        case om => k_mem
        case oz => intro z h1 h2 h3; rw [hm z h2 h3, hm3]; simp only [if_neg h1, if_neg h2, if_neg h3]
        case oi =>
          rw [take_snoc hlen, tieLens_snoc, hls]
          have e : ((many : Int) - len - 0).toNat = many - len.toNat := by omega
          rw [e] at hvs
          exact hvs
      case turn3 =>
        intro q m nw t h tk hq hJ F N
        obtain ⟨vs, k, hm, hnw, hvs⟩ := hJ
        subst hnw
        subst hm3
        have em := frame2 hm
        generalize m "k" = u8 at em
        generalize m "less" = u9 at em
        clear hm
        subst em
        have hl9 := tieSteps_length len ls q
        generalize hl8 : tieSteps len ls q = ls2 at hvs hl9
        dsimp only at F
        have dI : @LT.lt Nat _ D I := hI _ List.mem_cons_self
        have dI2 : @LT.lt Nat _ D I2 := hI2 _ (List.mem_cons_of_mem _ List.mem_cons_self)
        have dI3 : @LT.lt Nat _ D I3 := hI3 _ (List.mem_cons_of_mem _ (List.mem_cons_of_mem _ List.mem_cons_self))
        k_steps
        with_reducible (rename IntsAre _ _ => hI9)
        with_reducible (rename News _ _ _ _ => N9)
        have et := tieStep_eq hl8 (by omega : (0 : Int) ≤ len)
        refine' UnrEnd.intro ?oF N9 _ (fun p hp => hp) ?off ⟨_, _, ?oz, rfl, ?oi⟩
        case oF => k_asm
        case off => exact off_map hI3 rfl
        case oz => intro z h1 h2; simp only [if_neg h1, if_neg h2]
        case oi => rw [et]; exact hI9
end

section
theorem off8 : True := by
  w_top off
  trivial
theorem c87 {w : World} {p : Program} {loose : List Str} {mean : ExcName → Option Value} {mg mb : Str → Option Value} {news : List (Addr × Obj)} {b : Array UInt8} {tb : Tok} :
  CallsTo w p loose mean mg mb (fun base => True) news 87 [.bytes b tb] 20 300
    (fun v Λ' => v = .bytes b tb ∧ Λ' = news) := by
  intro dp un gd cn cs a ccd cl outer A₀ base h₀ L m s Q E B hC F X N T hk hdp hun hret
  (revert X; k_fill; intro X)
  refine wpAny_call ?_
  k_dflt (walk_at "my_enter")
  k_steps
  exact hret _ _ _ _ (by k_asm) (by k_asm) ⟨rfl, rfl⟩
theorem c94 {w : World} {p : Program} {loose : List Str} {mean : ExcName → Option Value} {mg mb : Str → Option Value} {news : List (Addr × Obj)} :
  CallsTo w p loose mean mg mb (fun base => True) news 94 [.bool false] 20 300
    (fun v Λ' => v = .bool false ∧ Λ' = news) := by
  intro dp un gd cn cs a ccd cl outer A₀ base h₀ L m s Q E B hC F X N T hk hdp hun hret
  (revert X; k_fill; intro X)
  refine wpAny_call ?_
  k_dflt (walk_at "my_enter")
  k_steps
  exact hret _ _ _ _ (by k_asm) (by k_asm) ⟨rfl, rfl⟩
end

section
theorem off9 : True := by
  w_top off
  trivial
theorem c102 {w : World} {p : Program} {loose : List Str} {mean : ExcName → Option Value} {mg mb : Str → Option Value} {news : List (Addr × Obj)} {b : Array UInt8} {tb : Tok} (hbs : b.size ≤ 30) (hb3 : b.size % 3 = 0) :
  CallsToK w p loose mean mg mb (fun base => True) news 102 [.bytes b tb] [(Str.ofString "newline", .bool false)] 60 900
    (fun v Λ' => (∃ t, v = .bytes (byteArr (sexts b64n (bval (KBw.bInts b)) (8 * b.size) (8 * b.size / 6))) t) ∧ Λ' = news) := by
  intro dp un gd cn cs a ccd cl outer A₀ base h₀ L m s Q E B hC F X N T hk hdp hun hret
  (revert X; k_fill; intro X)
  refine wpAny_call ?_
  k_dflt (walk_at "my_enter")
  k_steps
  k_dflt (refine' c87 _ _ _ _ _ _ _ _ _ _ _ _ _ _ _ _ _ ?k1 ?kB ?k2 ?k3 ?k4 ?k5 ?k6 ?k7 ?k8 ?_; (case k1 => k_asm); (case kB => exact trivial); (case k2 => k_asm); (case k3 => k_asm); (case k4 => k_asm); (case k5 => k_asm); (case k6 => first | exact rfl | assumption); (case k7 => ktr_room); (case k8 => ktr_units))
  intro v Λ' h' tk' F' N' hr
  obtain ⟨e, e2⟩ := hr
  subst e
  rw [e2] at N'
  clear e2
  (try dsimp only)
  k_steps
  k_dflt (refine' c94 _ _ _ _ _ _ _ _ _ _ _ _ _ _ _ _ _ ?k1 ?kB ?k2 ?k3 ?k4 ?k5 ?k6 ?k7 ?k8 ?_; (case k1 => k_asm); (case kB => exact trivial); (case k2 => k_asm); (case k3 => k_asm); (case k4 => k_asm); (case k5 => k_asm); (case k6 => first | exact rfl | assumption); (case k7 => ktr_room); (case k8 => ktr_units))
  intro v Λ' h' tk' F' N' hr
  obtain ⟨e, e2⟩ := hr
  subst e
  rw [e2] at N'
  clear e2
  (try dsimp only)
  iterate 20 walk1
  with_reducible (rename Fr _ _ _ _ => F1)
  with_reducible (rename News _ _ _ _ => N1)
  refine led_name1 N1 ?_
  intro lq hlq
  subst hlq
  with_reducible (rename ∀ p : Addr × Obj, p ∈ news → _ => lA)
  have hlqn : ∀ p ∈ news, p.1 ≠ lq := fun p hp => Nat.ne_of_lt (lA p hp)
  refine use_frN F1 ?_
  intro g0 L0 m0 hg0 hL0 hm0 F2
  clear F1
  subst hg0 hL0
  k_dflt (refine' iter_bytesUnr rfl F2 N1 rfl (fun I hI => ?_))
  refine bytesRest_inv (KBw.bInts b) (fun i m nw => ∃ lc lb tc tl ov os k, m "leftchar" = some (.int lc tc) ∧ m "leftbits" = some (.int lb tl) ∧ (∀ z : Str, z ≠ "b" → z ≠ "leftchar" → z ≠ "leftbits" → m z = m0 z) ∧ nw = (lq, W.listOf (List.toArray ov) k) :: news ∧ IntsAre ov os ∧ 0 ≤ lc ∧ lc < 65536 ∧ lb = ((8 * i) % 6 : Nat) ∧ lc % 2 ^ (8 * i % 6) = bval ((KBw.bInts b).take i) % 2 ^ (8 * i % 6) ∧ os = sexts b64n (bval ((KBw.bInts b).take i)) (8 * i) (8 * i / 6)) ?turn ?done _ 0 _ _ rfl (Nat.zero_le _) ?init
  case init => exact ⟨0, 0, _, _, [], [], _, by rw [hm0]; rfl, by rw [hm0]; rfl, fun _ _ _ _ => rfl, rfl, .nil, by omega, by omega, rfl, rfl, rfl⟩
  case done =>
    intro m nw h tk hJ F N
    obtain ⟨lc, lb, tc, tl, ov, os, k, e1, e2, hm, hnw, hov, q1, q2, q3, q4, q5⟩ := hJ
    subst hnw
    subst hm0
    have em := frame3 hm
    rw [e1, e2] at em
    generalize m "b" = u1 at em
    clear hm e1 e2
    subst em
    have hbl : (KBw.bInts b).length = b.size := KBw.ints_length b
    rw [hbl] at q3 q5
    have hlb0 : lb = 0 := by omega
    subst hlb0
    have hql : os.length ≤ 100 := by rw [q5, sexts_length]; omega
    dsimp only at F
    have hob : ∀ n ∈ os, 0 ≤ n ∧ n < 256 := by rw [q5]; exact sexts_byte _ _ _
    k_steps
    have htk : List.take b.size (KBw.bInts b) = KBw.bInts b := List.take_of_length_le (by omega)
    rw [htk] at q5
    exact hret _ _ _ _ (by k_asm) (News.drop1 (by k_asm)) ⟨⟨_, by rw [q5]⟩, rfl⟩
  case turn =>
    intro i c m nw it u h tk hc c0 c1 hJ F N
    obtain ⟨lc, lb, tc, tl, ov, os, k, e1, e2, hm, hnw, hov, q1, q2, q3, q4, q5⟩ := hJ
    subst hnw
    subst hm0
    have em := frame3 hm
    rw [e1, e2] at em
    generalize m "b" = u1 at em
    clear hm e1 e2
    subst em
    dsimp only at F
    have hbits : Builtin.Int.intBits lc ≤ 16 := intBits_lt q1 (by omega)
    have hil : i < (KBw.bInts b).length := (List.getElem?_eq_some_iff.mp hc).1
    iterate 21 walk1
    rw [or_shift q1 c0 c1, and_low16, q3] at *
    have hilb : i < 30 := by rw [KBw.ints_length] at hil; omega
    have hV : bval ((KBw.bInts b).take (i + 1)) = bval ((KBw.bInts b).take i) * 256 + c := by rw [List.take_add_one, hc]; exact bval_snoc _ _
    have hlow := b64_turn (lc := lc) (V := bval ((KBw.bInts b).take i)) c0 c1 (lb := 8 * i % 6) (by omega) q4
    rw [← hV] at hlow
    have hsx := sexts_ext b64n (V := bval ((KBw.bInts b).take i)) (c := c) (nb := 8 * i) (t := 8 * i / 6) (by omega) c0 c1
    rw [← hV] at hsx
    have hlc0 : 0 ≤ (lc * 256 + c) % 65536 := Int.emod_nonneg _ (by decide)
    have hlc1 : (lc * 256 + c) % 65536 < 65536 := Int.emod_lt_of_pos _ (by decide)
    generalize hlc : (lc * 256 + c) % 65536 = lc2 at *
    generalize hVV : bval ((KBw.bInts b).take (i + 1)) = V2 at *
    with_reducible (rename Fr _ _ _ _ => F3)
    refine use_fr F3 ?_
    intro m4 hm4 F4
    clear F3
    k_dflt (refine whl_start 1 ?_)
    refine whl_inv (by first | passes_own | with_unfolding_all passes_own) (fun n s' => ∃ h tk m' lbk, ∃ (t : Nat), ∃ tl ov os k, s' = { s with heap := h, toks := tk } ∧ Fr g0 L0 h m' ∧ m' "leftbits" = some (.int lbk tl) ∧ (∀ z : Str, z ≠ "leftbits" → m' z = m4 z) ∧ News g0 L0 h ((I, it) :: (lq, W.listOf (List.toArray ov) k) :: news) ∧ IntsAre ov os ∧ 0 ≤ lbk ∧ lbk ≤ ((8 * i % 6 + 8 : Nat) : Int) ∧ lbk + 6 * (t : Int) = 8 * i + 8 ∧ os = sexts b64n V2 (8 * i + 8) t ∧ n = lbk.toNat) ?wturn (8 * i % 6 + 8) _ ?winit
    case winit => exact ⟨_, _, _, (((8 * i % 6 : Nat) : Int) + 8), 8 * i / 6, _, ov, os, _, rfl, F4, by rw [hm4]; rfl, fun _ _ => rfl, by k_asm, hov, by omega, by omega, by omega, by rw [hsx]; exact q5, by omega⟩
    case wturn =>
      rintro n s' ⟨h, tk, m', lbk, t, tl, ov, os, k, rfl, F, e1, hm, N, hov, b1, b2, b3, hos, rfl⟩
      subst hm4
      have em := frame1 hm
      rw [e1] at em
      clear hm e1
      subst em
      k_steps
      by_cases hge : 6 ≤ lbk
      · refine WhlIf.yes (by simp [hge]) ?_
        obtain ⟨kk, hkk⟩ : ∃ kk : Nat, lbk = kk := ⟨lbk.toNat, by omega⟩
        subst hkk
        have ek : ((kk : Int) - 6).toNat = kk - 6 := by omega
        have hidx := b64_idx (lc := lc2) (V := V2) (lb := 8 * i % 6 + 8) (k := kk) hlow (by omega) (by omega)
        rw [← ek] at hidx
        have hix0 : 0 ≤ Builtin.bitAnd (lc2.fdiv (2 ^ ((kk : Int) - 6).toNat)) 63 ∧ Builtin.bitAnd (lc2.fdiv (2 ^ ((kk : Int) - 6).toNat)) 63 < 64 := by
          rw [hidx]; exact ⟨Int.emod_nonneg _ (by decide), Int.emod_lt_of_pos _ (by decide)⟩
        have dI : @LT.lt Nat _ lq I := hI _ List.mem_cons_self
        have hql : ov.toArray.size ≤ 1000 := by
          have h1 := hov.length
          rw [hos, sexts_length] at h1
          simp only [List.size_toArray]; omega
        k_steps
        with_reducible (rename News _ _ _ _ => N9)
        rw [List.push_toArray] at N9
        refine ⟨((kk : Int) - 6).toNat, by omega, _, _, _, (kk : Int) - 6, t + 1, _, _, _, _, rfl, by k_asm, rfl, ?oz, N9, ints_snoc hov, by omega, by omega, by omega, ?oh, rfl⟩
        case oz => intro z h1; simp only [if_neg h1]
        case oh =>
          rw [sexts_succ, ← hos]
          have e : 8 * i + 8 - 6 * (t + 1) = ((kk : Int) - 6).toNat := by omega
          rw [e, ← hidx]
          rfl
      · refine WhlIf.no (by simp [hge]) ?_
        have hq : t = 8 * (i + 1) / 6 ∧ lbk = ((8 * (i + 1)) % 6 : Nat) := by omega
        obtain ⟨hq1, hq2⟩ := hq
        k_steps
        refine' UnrEnd.intro ?oF N _ (fun p hp => hp) ?off ⟨lc2, lbk, _, _, _, _, _, ?o1, ?o2, ?oz, rfl, hov, hlc0, hlc1, hq2, ?o3, ?o4⟩
        case oF => k_asm
        case off => exact off_map hI rfl
        case o1 => rfl
        case o2 => rfl
        case oz => intro z h1 h2 h3; simp only [if_neg h1, if_neg h2, if_neg h3]
        case o3 => exact low_of_low hlow (by omega)
        case o4 => rw [hos, hq1]; rfl
theorem c110 {w : World} {p : Program} {loose : List Str} {mean : ExcName → Option Value} {mg mb : Str → Option Value} {news : List (Addr × Obj)} {b : Array UInt8} {tb : Tok} (hbs : b.size ≤ 30) (hb3 : b.size % 3 = 0) :
  CallsTo w p loose mean mg mb (fun base => True) news 110 [.bytes b tb] 80 1200
    (fun v Λ' => (∃ t, v = .bytes (byteArr (sexts b64n (bval (KBw.bInts b)) (8 * b.size) (8 * b.size / 6))) t) ∧ Λ' = news) := by
  intro dp un gd cn cs a ccd cl outer A₀ base h₀ L m s Q E B hC F X N T hk hdp hun hret
  (revert X; k_fill; intro X)
  refine wpAny_call ?_
  k_dflt (walk_at "my_enter")
  k_steps
  k_dflt (refine' c102 hbs hb3 _ _ _ _ _ _ _ _ _ _ _ _ _ _ _ _ _ ?k1 ?kB ?k2 ?k3 ?k4 ?k5 ?k6 ?k7 ?k8 ?_; (case k1 => k_asm); (case kB => exact trivial); (case k2 => k_asm); (case k3 => k_asm); (case k4 => k_asm); (case k5 => k_asm); (case k6 => first | exact rfl | assumption); (case k7 => ktr_room); (case k8 => ktr_units))
  intro v Λ' h' tk' F' N' hr
  obtain ⟨⟨t9, e⟩, e2⟩ := hr
  subst e
  rw [e2] at N'
  clear e2
  (try dsimp only)
  k_steps
  exact hret _ _ _ _ (by k_asm) (by k_asm) ⟨⟨_, rfl⟩, rfl⟩
end

section
theorem off10 : True := by
  w_top off
  trivial
theorem c155 {w : World} {p : Program} {loose : List Str} {mean : ExcName → Option Value} {mg mb : Str → Option Value} {T54 news : List (Addr × Obj)} {x : Int} {k : Nat} {tx tk : Tok}
  (hT : Tab54 T54) (hn54 : ∀ q ∈ news, q.1 ≠ 54) (hx : 0 ≤ x) (hxk : x < 2 ^ (8 * k)) (hk0 : 0 < k) (hk1 : k ≤ 20) (hk3 : k % 3 = 0) :
  CallsTo w p loose mean mg mb (fun base => CodeHd base 58 54) (T54 ++ news) 155 [.int x tx, .int k tk] 120 1800
    (fun v Λ' => ∃ t T54', v = .str (txt (sexts (fun i => i) x (8 * k) (8 * k / 6))) t ∧ To54 T54 T54' ∧ 2 ≤ T54'.length ∧ Λ' = T54' ++ news) := by
  intro dp un gd cn cs a ccd cl outer A₀ base h₀ L m s Q E B hC F X N T hk hdp hun hret
  (revert X; k_fill; intro X)
  have hb := intBits_lt hx hxk
  refine wpAny_call ?_
  k_dflt (walk_at "my_enter")
  k_steps
  k_dflt (refine' c59 (n := 8) hT hn54 hx (by omega) (by decide) (by decide) _ _ _ _ _ _ _ _ _ _ _ _ _ _ _ _ _ ?k1 ?kB ?k2 ?k3 ?k4 ?k5 ?k6 ?k7 ?k8 ?_; (case k1 => k_asm); (case kB => exact hC); (case k2 => k_asm); (case k3 => k_asm); (case k4 => k_asm); (case k5 => k_asm); (case k6 => first | exact rfl | assumption); (case k7 => ktr_room); (case k8 => ktr_units))
  intro v Λ' h' tk' F' N' hr
  obtain ⟨D, vs, T54', e, hD1, hvs, hT2, hf54, e2⟩ := hr
  subst e e2
  simp only [List.cons_append] at N'
  obtain ⟨R, hR⟩ : ∃ R, R = T54' ++ news := ⟨_, rfl⟩
  rw [← hR] at N'
  (try dsimp only)
  have hlen := hvs.length
  rw [digs_length] at hlen
  have hDk : (Builtin.Int.intBits x + 8 - 1) / 8 ≤ k := by omega
  generalize hDn : (Builtin.Int.intBits x + 8 - 1) / 8 = Dn at hvs hlen hDk
  have hdl : (digs 8 Dn x).length = Dn := digs_length _ _ _
  have hdm := digs_mem 8 Dn x
  generalize hds : digs 8 Dn x = ds at hvs hdl hdm
  k_steps
  with_reducible (rename IntsAre _ (List.reverse _) => hI9)
  have hos1 : bval (ds ++ List.replicate ((k : Int) - (ds.length : Int)).toNat 0).reverse = x := by
    rw [bval_rev, dval_zeros, ← hds, dval_digs 8 Dn x hx (by rw [← hDn]; exact (nd_facts (n := 8) hx (by omega) (by decide) (by decide)).2.2.1)]
  have hos2 : (ds ++ List.replicate ((k : Int) - (ds.length : Int)).toNat 0).reverse.length = k := by
    rw [List.length_reverse, List.length_append, List.length_replicate]; omega
  have hos3 : ∀ n ∈ (ds ++ List.replicate ((k : Int) - (ds.length : Int)).toNat 0).reverse, 0 ≤ n ∧ n < 256 := by
    intro n hn
    rcases List.mem_append.mp (List.mem_reverse.mp hn) with h | h
    · exact hdm n h
    · rw [(List.mem_replicate.mp h).2]; omega
  generalize (ds ++ List.replicate ((k : Int) - (ds.length : Int)).toNat 0).reverse = os at hI9 hos1 hos2 hos3
  k_steps
  k_dflt (refine' c110 (by rw [byteArr_size]; omega) (by rw [byteArr_size]; omega) _ _ _ _ _ _ _ _ _ _ _ _ _ _ _ _ _ ?k1 ?kB ?k2 ?k3 ?k4 ?k5 ?k6 ?k7 ?k8 ?_; (case k1 => k_asm); (case kB => exact trivial); (case k2 => k_asm); (case k3 => k_asm); (case k4 => k_asm); (case k5 => k_asm); (case k6 => first | exact rfl | assumption); (case k7 => ktr_room); (case k8 => ktr_units))
  intro v Λ' h' tk' F' N' hr
  obtain ⟨⟨t9, e⟩, e2⟩ := hr
  subst e
  rw [e2] at N'
  clear e2
  (try dsimp only)
  k_steps
  refine decode_ascii (sexts_ascii _ _ _) (by rw [byteArr_size, sexts_length, byteArr_size]; omega) (by rw [byteArr_size, sexts_length, byteArr_size]; omega) ?_
  intro t8 k8
  rw [txt_dec, bInts_byteArr hos3, hos1, byteArr_size, hos2]
  k_steps
  exact hret _ (T54' ++ news) _ _ (by k_asm) (hR ▸ News.drop1 (News.drop1 (News.drop1 (News.drop1 (News.drop1 (by k_asm)))))) ⟨_, _, rfl, hT2, hf54, rfl⟩
end

section
theorem off11 : True := by
  w_top off
  trivial
theorem tr_method {M : Model} {A : Around} {E : Value → Shared → Prop} {s : Shared} {pl : Sem Bool} {x : PySem.Str} {t : Tok} {Q : Value × List Value → Shared → Prop} (h : Q (.builtin "str.translate", [.str x t]) s) : wpAny M A (getMethod (.str x t) "translate" pl) Q E s := by
  with_reducible exact GM.of (.str x t) (typeIs_str _ _ _) F.slot_str_translate F.type_str_translate GM.noRef h
theorem c127 {w : World} {p : Program} {loose : List Str} {mean : ExcName → Option Value} {mg mb : Str → Option Value} {news : List (Addr × Obj)} {q : Nat} {tb : Tok} (hq : q < 128) (hqm : b64t.any (fun c => c.toNat == q) = true) :
  CallsTo w p loose mean mg mb (fun base => True) news 127 [.str ⟨#[q]⟩ tb] 80 1200
    (fun v Λ' => (∃ t, v = .str (if q = 43 then PySem.Str.ofString "\\+" else ⟨#[q]⟩) t) ∧ Λ' = news) := by
  intro dp un gd cn cs a ccd cl outer A₀ base h₀ L m s Q E B hC F X N T hk hdp hun hret
  (revert X; k_fill; intro X)
  refine wpAny_call ?_
  k_dflt (walk_at "my_enter")
  k_steps
  refine tr_method ?_
  (try dsimp only)
  k_steps
  obtain ⟨es, n9, hl, hke, ⟨t0, hp⟩, hno⟩ := tab117 w
  with_reducible (rename Fr _ _ _ _ => F1)
  with_reducible (rename News _ _ _ _ => N1)
  with_reducible (rename Frag.In _ _ => X1)
  have hm0 := mapInt_K (prog := Challenge.rw_ku0024_02.row.prog) (w := w) X1 hl hke
  by_cases h43 : q = 43
  · subst h43
    refine call_trans_text (x := Str.ofString "\\+") (t2 := t0) (let ⟨o, es, ep, ho, r⟩ := hm0; ⟨o, es, ep, F1.keep _ _ ho, r⟩) hp hq (by decide +kernel) (by decide +kernel) ?_
    intro k9 t9
    k_steps
    exact hret _ _ _ _ (by k_asm) (by k_asm) ⟨⟨_, rfl⟩, rfl⟩
  · refine call_trans_keep (by decide +kernel) rfl (let ⟨o, es, ep, ho, r⟩ := hm0; ⟨o, es, ep, F1.keep _ _ ho, r⟩) ?_ hq ?_
    · obtain ⟨c, hc, hcq⟩ := List.any_eq_true.mp hqm
      have h1 := List.all_eq_true.mp hno c hc
      have h2 : c.toNat = q := by simpa using hcq
      have h3 : (c == 43) = false := by
        cases hcc : c == 43 with
        | false => rfl
        | true => exfalso; rw [eq_of_beq hcc] at h2; exact h43 h2.symm
      rw [h3, Bool.false_or, h2] at h1
      exact Option.isNone_iff_eq_none.mp h1
    · intro h9 k9 t9 hk9
      have F9 := F1.keptAll hk9
      have N9 := N1.keepsAll hk9
      k_steps
      rw [if_neg h43] at hret
      exact hret _ _ _ _ (by k_asm) (by k_asm) ⟨⟨_, rfl⟩, rfl⟩
end
section
theorem off12 : True := by
  w_top off
  trivial
/-- signs of a glob: a question mark or a sign of the alphabet -/
def signOk (q : Nat) : Bool := q == 63 || b64t.any (fun c => c.toNat == q)
def partOf (q : Nat) : Str := if q = 63 then PySem.Str.ofString "." else if q = 43 then PySem.Str.ofString "\\+" else ⟨#[q]⟩
def TxtsAre (vs : List Value) (xs : List Str) : Prop := vs.length = xs.length ∧ ∀ (i : Nat) (h : i < vs.length), ∃ t, vs[i]? = some (Value.str (xs.getD i ⟨#[]⟩) t)
theorem len_txt {prog : Program} {w : World} {A : Around} {E : Value → Shared → Prop} {s : Shared} {l : List Nat} {t : Tok} {Q : Value → Shared → Prop} (hs : l.length ≤ 1000) (h : Q (.int (l.length : Int) (s.toks + 1)) { s with toks := s.toks + 1 + 1 }) :
    wpAny (model prog w) A (call (.builtin "len") [.str ⟨l.toArray⟩ t]) Q E s := by
  have e : (⟨l.toArray⟩ : Str).length = l.length := by simp [Str.length]
  refine P.len_str (by rw [e]; omega) ?_
  rw [e]
  exact h
local macro_rules | `(tactic| walk_at "call builtin:len") => `(tactic| ((with_reducible show wpAny _ _ (call (Value.builtin "len") [Value.str _ _]) _ _ _); refine len_txt (by omega) ?_))
theorem app_attrK {prog : Program} {w : World} {A : Around} {E : Value → Shared → Prop} {s : Shared} {h₀ : Heap} {L l : Addr} {m : Str → Option Value} {news : List (Addr × Obj)} {xs : Array Value} {k : Nat} {Q : Value → Shared → Prop}
    (F : Fr h₀ L s.heap m) (N : News h₀ L s.heap ((l, listOf xs k) :: news))
    (h : ∀ b h', Fr h₀ L h' m → News h₀ L h' ((b, boundApp l) :: (l, listOf xs k) :: news) → (∀ p ∈ (l, listOf xs k) :: news, p.1 < b) → Q (.ref b) { s with heap := h', toks := s.toks + 1 }) :
    wpAny (model prog w) A (getAttr (.ref l) "append" true) Q E s := by
  obtain ⟨hh, g, d, t, os⟩ := s
  exact app_attr (N _ List.mem_cons_self).1 (h _ _ (F.push _) (N.push F _) fun p hp => Heap.lt_size (N p hp).1)
theorem strs_snoc {vs : List Value} {xs : List Str} {x : Str} {t : Tok} (h : StrsAre vs xs) : StrsAre (vs ++ [.str x t]) (xs ++ [x]) := by
  induction h with
  | nil => exact .cons x t .nil
  | cons y u _ ih => exact .cons y u ih
theorem strs_len {vs : List Value} {xs : List Str} (h : StrsAre vs xs) : vs.length = xs.length := by
  induction h with
  | nil => rfl
  | cons y u _ ih => simp [ih]
theorem strs_next {vs : List Value} {l : List Nat} {i : Int} {q : Nat} {t : Tok} {x : Str} (h : StrsAre vs ((l.take i.toNat).map partOf)) (h0 : 0 ≤ i) (hq : l[i.toNat]? = some q) (hx : x = partOf q) :
    StrsAre (vs ++ [.str x t]) ((l.take (i + 1).toNat).map partOf) := by
  have e : (i + 1).toNat = i.toNat + 1 := by omega
  rw [e, List.take_add_one, hq, hx]
  simp only [Option.toList_some, List.map_append, List.map_cons, List.map_nil]
  exact strs_snoc h
theorem c134 {w : World} {p : Program} {loose : List Str} {mean : ExcName → Option Value} {mg mb : Str → Option Value} {news : List (Addr × Obj)} {l : List Nat} {tb tq : Tok} (hl : l.all signOk = true) (hs : l.length ≤ 20) :
  CallsTo w p loose mean mg mb (fun base => CodeHd base 133 129) news 134 [.str ⟨l.toArray⟩ tb, .none, .str (PySem.Str.ofString ".") tq] 120 1800
    (fun v Λ' => ∃ D vs k, v = .ref D ∧ (∀ p ∈ news, @LT.lt Nat _ p.1 D) ∧ StrsAre vs (l.map partOf) ∧ Λ' = (D, listOf (List.toArray vs) k) :: news) := by
  intro dp un gd cn cs a ccd cl outer A₀ base h₀ L m s Q E B hC F X N T hk hdp hun hret
  (revert X; k_fill; intro X)
  refine wpAny_call ?_
  k_dflt (walk_at "my_enter")
  k_steps
  with_reducible (rename News _ _ _ _ => N1)
  with_reducible (rename Fr _ _ _ _ => F1)
  refine led_name1 N1 ?_
  intro l9 hl9
  subst hl9
  with_reducible (rename ∀ p : Addr × Obj, p ∈ news → _ => lA)
  have hA9 : ∀ p ∈ news, @LT.lt Nat _ p.1 l9 := lA
  refine app_attrK (xs := #[]) (k := 0) F1 N1 ?_
  intro lb hb5 F2 N2 lB
  have hlb9 : @LT.lt Nat _ l9 lb := lB _ List.mem_cons_self
  have hszl : (⟨l.toArray⟩ : Str).length = l.length := by simp [Str.length]
  iterate 26 walk1
  with_reducible (rename Fr _ _ _ _ => F3)
  refine use_frN F3 ?_
  intro g0 L0 m0 hg0 hL0 hm0 F4
  clear F3
  subst hg0 hL0
  with_reducible (rename News _ _ _ _ => N3)
  k_dflt (refine whl_start 1 ?_)
  refine whl_inv (by first | passes_own | with_unfolding_all passes_own) (fun n s' => ∃ h tk m' i ti vs k, s' = { s with heap := h, toks := tk } ∧ Fr g0 L0 h m' ∧ m' "i" = some (.int i ti) ∧ (∀ z : Str, z ≠ "i" → z ≠ "c" → m' z = m0 z) ∧ News g0 L0 h ((lb, boundApp l9) :: (l9, listOf (List.toArray vs) k) :: news) ∧ StrsAre vs ((l.take i.toNat).map partOf) ∧ 0 ≤ i ∧ i ≤ l.length ∧ n = (l.length - i).toNat) ?turn l.length _ ?init
  case init => exact ⟨_, _, m0, 0, _, [], 0, rfl, F4, by rw [hm0]; rfl, fun _ _ _ => rfl, News.drop1 N3, .nil, by omega, by omega, by omega⟩
  case turn =>
    rintro n s' ⟨h, tk, m', i, ti, vs, k, rfl, F, e1, hm, N, hvs, b1, b2, rfl⟩
    subst hm0
    have em := frame2 hm
    rw [e1] at em
    generalize m' "c" = u1 at em
    clear e1 hm
    subst em
    k_steps
    by_cases hin : i = l.length
    · refine WhlIf.no (by simp [hin]) ?_
      k_steps
      · refine hret _ ((l9, listOf (List.toArray vs) k) :: news) _ _ (by k_asm) (News.drop1 (by k_asm)) ⟨_, _, _, rfl, hA9, ?_, rfl⟩
        rw [List.take_of_length_le (by omega)] at hvs
        exact hvs
      · exact absurd hin (by assumption)
    · refine WhlIf.yes (by simp; omega) ?_
      iterate 6 walk1
      have hlt : i.toNat < l.length := by omega
      have hvl : vs.toArray.size ≤ 1000 := by rw [List.size_toArray, strs_len hvs, List.length_map, List.length_take]; omega
      obtain ⟨q, hq⟩ : ∃ q, l[i.toNat]? = some q := ⟨_, List.getElem?_eq_getElem hlt⟩
      have hit : Txt.item (⟨l.toArray⟩ : Str) i = ⟨#[q]⟩ := by
        rw [PySem.W.item_meets (by constructor; omega; simp [Str.length]; omega)]
        simp [Array.getD_eq_getD_getElem?, hq]
      rw [hit]
      have hqs : signOk q = true := List.all_eq_true.mp hl q (List.mem_of_getElem? hq)
      by_cases h63 : q = 63
      · subst h63
        iterate 30 walk1
        k_dflt (refine callWith_app l9 ?_)
        iterate 3 walk1
        with_reducible (rename News _ _ _ _ => N5)
        with_reducible (rename Fr _ _ _ _ => F5)
        refine ⟨(N5 _ List.mem_cons_self).1, ?_⟩
        refine call_app F5 N5 List.mem_cons_self (by k_upd) ?_ (by rw [sizeLine_eq]; omega)
        intro h6 F6 N6
        rw [List.push_toArray] at N6
        k_steps
        refine ⟨(l.length - (i + 1)).toNat, by omega, _, _, _, i + 1, _, _, _, rfl, by k_asm, rfl, ?_, N6, strs_next hvs b1 hq (by decide +kernel), by omega, by omega, rfl⟩
        intro z h1 h2
        simp only [if_neg h1, if_neg h2]
      · have e42 : ((⟨#[q]⟩ : Str) == PySem.Str.ofString "*") = false := by
          cases hh : ((⟨#[q]⟩ : Str) == PySem.Str.ofString "*") with
          | false => rfl
          | true =>
            have e : (⟨#[q]⟩ : Str) = ⟨#[42]⟩ := eq_of_beq hh
            injection e with e; injection e with e; injection e with e
            subst e
            first | exact absurd hqs (by decide +kernel) | exact absurd rfl h63
        have e63 : ((⟨#[q]⟩ : Str) == PySem.Str.ofString "?") = false := by
          cases hh : ((⟨#[q]⟩ : Str) == PySem.Str.ofString "?") with
          | false => rfl
          | true =>
            have e : (⟨#[q]⟩ : Str) = ⟨#[63]⟩ := eq_of_beq hh
            injection e with e; injection e with e; injection e with e
            subst e
            first | exact absurd hqs (by decide +kernel) | exact absurd rfl h63
        have e91 : ((⟨#[q]⟩ : Str) == PySem.Str.ofString "[") = false := by
          cases hh : ((⟨#[q]⟩ : Str) == PySem.Str.ofString "[") with
          | false => rfl
          | true =>
            have e : (⟨#[q]⟩ : Str) = ⟨#[91]⟩ := eq_of_beq hh
            injection e with e; injection e with e; injection e with e
            subst e
            first | exact absurd hqs (by decide +kernel) | exact absurd rfl h63
        iterate 14 walk1
        rw [e42]
        iterate 9 walk1
        rw [e63]
        iterate 9 walk1
        rw [e91]
        iterate 7 walk1
        k_dflt (refine callWith_app l9 ?_)
        iterate 8 walk1
        have hqm : b64t.any (fun c => c.toNat == q) = true := by
          unfold signOk at hqs
          rw [show (q == 63) = false by simp [h63], Bool.false_or] at hqs
          exact hqs
        have hq128 : q < 128 := by
          obtain ⟨c, hc, hcq⟩ := List.any_eq_true.mp hqm
          have key : ∀ c ∈ b64t, c.toNat < 128 := by decide +kernel
          have e : c.toNat = q := by simpa using hcq
          rw [← e]; exact key c hc
        k_dflt (refine' c127 hq128 hqm _ _ _ _ _ _ _ _ _ _ _ _ _ _ _ _ _ ?k1 ?kB ?k2 ?k3 ?k4 ?k5 ?k6 ?k7 ?k8 ?_; (case k1 => k_asm); (case kB => exact trivial); (case k2 => k_asm); (case k3 => k_asm); (case k4 => k_asm); (case k5 => k_asm); (case k6 => first | exact rfl | assumption); (case k7 => ktr_room); (case k8 => ktr_units))
        intro v Λ' h' tk' F' N' hr
        obtain ⟨⟨t9, e⟩, e2⟩ := hr
        subst e
        rw [e2] at N'
        clear e2
        (try dsimp only)
        iterate 1 walk1
        with_reducible (rename News _ _ _ _ => N5)
        with_reducible (rename Fr _ _ _ _ => F5)
        refine ⟨(N5 _ List.mem_cons_self).1, ?_⟩
        refine call_app F5 N5 List.mem_cons_self (by k_upd) ?_ (by rw [sizeLine_eq]; omega)
        intro h6 F6 N6
        rw [List.push_toArray] at N6
        k_steps
        refine ⟨(l.length - (i + 1)).toNat, by omega, _, _, _, i + 1, _, _, _, rfl, by k_asm, rfl, ?_, N6, strs_next hvs b1 hq (by unfold partOf; rw [if_neg h63]), by omega, by omega, rfl⟩
        intro z h1 h2
        simp only [if_neg h1, if_neg h2]
end

section
theorem off13 : True := by
  w_top off
  trivial
local macro_rules | `(tactic| walk_at "call builtin:len") => `(tactic| ((with_reducible show wpAny _ _ (call (Value.builtin "len") [Value.str _ _]) _ _ _); refine len_txt (by omega) ?_))

/-- a part of a glob takes a sign -/
def partOk (p : Str) (q : Nat) : Bool := p == PySem.Str.ofString "." || p == (if q = 43 then PySem.Str.ofString "\\+" else ⟨#[q]⟩)
theorem strs_item {vs : List Value} {xs : List Str} {i : Nat} {v : Value} (h : StrsAre vs xs) (hv : vs[i]? = some v) : ∃ t, v = .str (xs.getD i ⟨#[]⟩) t := by
  induction h generalizing i with
  | nil => simp at hv
  | cons x u _ ih =>
    cases i with
    | zero => exact ⟨u, by simpa using hv.symm⟩
    | succ i => simpa using ih (by simpa using hv)
theorem part_snoc {xs : List Str} {l : List Nat} {i cp : Nat} {z : Str} (hl : xs.length = l.length) (hcp : l[i]? = some cp) (hz : z = if cp = 43 then PySem.Str.ofString "\\+" else ⟨#[cp]⟩) :
    ((xs.zip l).take i).map (fun q => Value.bool (partOk q.1 q.2)) ++ [Value.bool ([PySem.Str.ofString ".", z].any fun x => x == xs.getD i ⟨#[]⟩)] = ((xs.zip l).take (i + 1)).map (fun q => Value.bool (partOk q.1 q.2)) := by
  have hlt : i < l.length := (List.getElem?_eq_some_iff.mp hcp).1
  have hx : xs[i]? = some xs[i] := List.getElem?_eq_getElem (by omega)
  have hz' : (xs.zip l)[i]? = some (xs[i], cp) := by rw [List.getElem?_zip_eq_some]; exact ⟨hx, hcp⟩
  rw [List.take_add_one, hz', List.map_append]
  have e : xs.getD i ⟨#[]⟩ = xs[i] := by rw [List.getD_eq_getElem?_getD, hx]; rfl
  rw [e]
  have e2 : ([PySem.Str.ofString ".", z].any fun x => x == xs[i]) = partOk xs[i] cp := by
    unfold partOk
    rw [← hz]
    simp only [List.any_cons, List.any_nil, Bool.or_false]
    rw [BEq.comm, BEq.comm (a := z)]
  rw [e2]
  rfl
def takesB (xs : List Str) (l : List Nat) : Bool := (xs.zip l).all fun q => partOk q.1 q.2
theorem boolsAre_map {α : Type} (f : α → Bool) : ∀ l : List α, LSm.BoolsAre (l.map fun a => Value.bool (f a)) (l.map f)
  | [] => .nil
  | a :: r => .cons _ (boolsAre_map f r)
theorem c160 {w : World} {p : Program} {loose : List Str} {mean : ExcName → Option Value} {mg mb : Str → Option Value} {news : List (Addr × Obj)} {D : Addr} {vs : List Value} {xs : List Str} {k : Nat} {l : List Nat} {tb : Tok} (hvs : StrsAre vs xs) (hl : xs.length = l.length) (hs : l.length ≤ 20) (ha : l.all (· < 128) = true) :
  CallsTo w p loose mean mg mb (fun base => True) ((D, listOf (List.toArray vs) k) :: news) 160 [.ref D, .str ⟨l.toArray⟩ tb] 120 1800
    (fun v Λ' => v = .bool (takesB xs l) ∧ Λ' = (D, listOf (List.toArray vs) k) :: news) := by
  intro dp un gd cn cs a ccd cl outer A₀ base h₀ L m s Q E B hC F X N T hk hdp hun hret
  (revert X; k_fill; intro X)
  have hvl : vs.toArray.size ≤ 1000 := by rw [List.size_toArray, strs_len hvs]; omega
  have hvl2 : vs.length = l.length := by rw [strs_len hvs]; omega
  refine wpAny_call ?_
  k_dflt (walk_at "my_enter")
  iterate 26 walk1
  rotate_left
  · exfalso; omega
  k_dflt (refine spliced_more ?_)
  k_dflt (refine ListComp_P none (F₀ := by k_asm) (by rfl) (by decide) (by rfl) (by decide) (by rfl) (by rfl) (by decide) ?_)
  iterate 8 walk1
  k_dflt (refine zipSrcLS (J := fun i ys nw => nw = (D, listOf (List.toArray vs) k) :: news ∧ ys = ((xs.zip l).take i).map (fun q => Value.bool (partOk q.1 q.2))) (by rfl) (by k_asm) (by k_asm) (by k_mem) ?ha ?hkeep ?hJl ?J0 ?turn ?fin)
  case ha => simpa using ha
  case hkeep => rintro i ys nw ⟨rfl, -⟩; exact List.mem_cons_self
  case hJl =>
    rintro i ys nw ⟨-, rfl⟩ hi
    rw [List.length_map, List.length_take, sizeLine_eq]
    simp only [List.size_toArray] at hi
    omega
  case J0 => exact ⟨rfl, rfl⟩
  case turn =>
    intro i ys nw own x y C oC D' m₂ h tk' E' hlt hJ hg hC' hx' hy' F' N' off offC offD
    obtain ⟨rfl, rfl⟩ := hJ
    obtain ⟨hg1, cp, t9, hg2, rfl⟩ := hg
    with_reducible (rename StrsAre _ _ => hvs)
    obtain ⟨t8, rfl⟩ := strs_item hvs hg1
    (try dsimp only)
    simp only [List.cons_append] at N'
    obtain ⟨nw, hnw⟩ : ∃ nw, nw = news ++ own := ⟨_, rfl⟩
    rw [← hnw] at N'
    have hcp : l[i]? = some cp := by simpa using hg2
    iterate 12 walk1
    cases hb : ((⟨#[cp]⟩ : Str) == PySem.Str.ofString "+")
    · iterate 5 walk1
      subst hnw
      refine PEnd.intro (news' := (D, listOf (List.toArray vs) k) :: news) (by k_asm) (News.drop1 (by k_asm)) off ⟨rfl, ?_⟩
      exact part_snoc hl hcp (by rw [if_neg (fun e => by rw [e] at hb; revert hb; decide +kernel)])
    · iterate 5 walk1
      subst hnw
      refine PEnd.intro (news' := (D, listOf (List.toArray vs) k) :: news) (by k_asm) (News.drop1 (by k_asm)) off ⟨rfl, ?_⟩
      have e : (⟨#[cp]⟩ : Str) = ⟨#[43]⟩ := eq_of_beq hb
      injection e with e; injection e with e; injection e with e
      exact part_snoc hl hcp (by rw [if_pos e])
  case fin =>
    rintro h tk' ys news' ⟨rfl, rfl⟩
    intro D' h' tk'' F' N' o1'
    (try dsimp only)
    rw [List.take_of_length_le (by rw [List.length_zip, List.size_toArray]; omega)] at N'
    iterate 1 walk1
    k_dflt (refine' LSm.all_bools (bs := (xs.zip l).map fun q => partOk q.1 q.2) (vs := (xs.zip l).map fun q => Value.bool (partOk q.1 q.2)) ?F ?N ?hh ?hl (boolsAre_map _ _) ?_)
    case F => exact F'
    case N => exact N'
    case hh => rfl
    case hl => exact ⟨_, (N' _ List.mem_cons_self).1, rfl, _, rfl⟩
    intro h5 tk5 F5 N5
    have ev : ((xs.zip l).map fun q => partOk q.1 q.2).all id = takesB xs l := by rw [List.all_map]; rfl
    rw [ev]
    k_steps
    exact hret _ _ _ _ (by k_asm) (News.drop1 (by k_asm)) ⟨rfl, rfl⟩
end
end
section
open PySem PySem.W PyProof.Rows PyProof.Rows.LCg PySem.Calls

theorem globL_ok {places : List Int} (h : ∀ q ∈ places, 0 ≤ q ∧ q < 64) (t : Nat) : (globL places t).all signOk = true := by
  rw [List.all_eq_true]
  intro c hc
  rcases List.mem_append.mp hc with h1 | h1
  · rw [(List.mem_replicate.mp h1).2]; decide +kernel
  · obtain ⟨q, hq, rfl⟩ := List.mem_map.mp h1
    unfold signOk
    rw [b64n_code_ok (h q (List.mem_of_mem_take hq)), Bool.or_true]
theorem globL_len {places : List Int} {t : Nat} (h : t ≤ places.length) : (globL places t).length = places.length := by
  unfold globL
  rw [List.length_append, List.length_replicate, List.length_map, List.length_take]
  omega
theorem partOk_dot (q : Nat) : partOk (partOf 63) q = true := by
  unfold partOk partOf
  simp
theorem partOk_sign {a b : Int} (ha : 0 ≤ a ∧ a < 64) (hb : 0 ≤ b ∧ b < 64) : partOk (partOf (b64n a).toNat) (b64n b).toNat = decide (a = b) := by
  have key : ∀ i : Nat, i < 64 → ∀ j : Nat, j < 64 → partOk (partOf (b64n (i : Int)).toNat) (b64n (j : Int)).toNat = decide (i = j) := by decide +kernel
  have := key a.toNat (by omega) b.toNat (by omega)
  rw [Int.toNat_of_nonneg ha.1, Int.toNat_of_nonneg hb.1] at this
  rw [this]
  by_cases e : a = b
  · rw [decide_eq_true e, decide_eq_true (by rw [e])]
  · rw [decide_eq_false e, decide_eq_false (by omega)]
theorem takes_signs : ∀ {x y : List Int}, (∀ q ∈ x, 0 ≤ q ∧ q < 64) → (∀ q ∈ y, 0 ≤ q ∧ q < 64) → x.length = y.length → takesB ((x.map fun i => (b64n i).toNat).map partOf) (y.map fun i => (b64n i).toNat) = decide (x = y)
  | [], [], _, _, _ => rfl
  | [], _ :: _, _, _, h => by simp at h
  | _ :: _, [], _, _, h => by simp at h
  | a :: x, b :: y, hx, hy, h => by
    have ih := takes_signs (x := x) (y := y) (fun q hq => hx q (.tail _ hq)) (fun q hq => hy q (.tail _ hq)) (by simpa using h)
    unfold takesB at ih ⊢
    simp only [List.map_cons, List.zip_cons_cons, List.all_cons]
    rw [ih, partOk_sign (hx a (.head _)) (hy b (.head _))]
    by_cases e : a = b
    · subst e
      simp
    · simp [e]
theorem takes_dots : ∀ (t : Nat) (xs : List Str) (l : List Nat), t ≤ l.length → takesB ((List.replicate t 63).map partOf ++ xs) l = takesB xs (l.drop t)
  | 0, _, _, _ => rfl
  | t + 1, xs, [], h => by simp at h
  | t + 1, xs, c :: l, h => by
    have ih := takes_dots t xs l (by simpa using h)
    unfold takesB at ih ⊢
    rw [List.replicate_succ, List.map_cons, List.cons_append, List.zip_cons_cons, List.all_cons, partOk_dot, Bool.true_and, ih]
    rfl
theorem takes_per {places : List Int} (h : ∀ q ∈ places, 0 ≤ q ∧ q < 64) {t : Nat} (ht : t ≤ places.length) : takesB ((globL places t).map partOf) (codes places) = isPer places t := by
  unfold globL codes
  rw [List.map_append, takes_dots _ _ _ (by rw [List.length_map]; exact ht), ← List.map_drop,
    takes_signs (fun q hq => h q (List.mem_of_mem_take hq)) (fun q hq => h q (List.mem_of_mem_drop hq)) (by rw [List.length_take, List.length_drop]; omega)]
  unfold isPer
  by_cases e : places.drop t = places.take (places.length - t)
  · rw [decide_eq_true e.symm, decide_eq_true e]
  · rw [decide_eq_false (fun e' => e e'.symm), decide_eq_false e]
end

section
open PySem PySem.W PyProof.Rows PyProof.Rows.LCg PySem.Calls

theorem pow64 (k : Nat) : (64 : Int) ^ k = 2 ^ (6 * k) := by
  rw [Int.pow_mul]; rfl
theorem dval_inj {a b : List Int} (ha : ∀ q ∈ a, 0 ≤ q ∧ q < 64) (hb : ∀ q ∈ b, 0 ≤ q ∧ q < 64) (hl : a.length = b.length) (h : dval 6 a = dval 6 b) : a = b := by
  have h1 := sexts_rev a ha
  have h2 := sexts_rev b hb
  rw [h, hl, h2] at h1
  have := congrArg List.reverse h1
  simpa using this.symm
theorem dval_bd {a : List Int} (ha : ∀ q ∈ a, 0 ≤ q ∧ q < 64) : 0 ≤ dval 6 a ∧ dval 6 a < 64 ^ a.length := by
  rw [pow64]
  exact ⟨dval_nonneg _ _ fun q hq => (ha q hq).1, dval_lt 6 _ fun q hq => ha q hq⟩
theorem rev_split (l : List Int) (k : Nat) : l.reverse = (l.drop k).reverse ++ (l.take k).reverse := by
  rw [← List.reverse_append, List.take_append_drop]
theorem bd_rev_drop {l : List Int} (h : ∀ q ∈ l, 0 ≤ q ∧ q < 64) (k : Nat) : ∀ q ∈ (l.drop k).reverse, 0 ≤ q ∧ q < 64 := fun q hq => h q (List.mem_of_mem_drop (List.mem_reverse.mp hq))
theorem bd_rev_take {l : List Int} (h : ∀ q ∈ l, 0 ≤ q ∧ q < 64) (k : Nat) : ∀ q ∈ (l.take k).reverse, 0 ≤ q ∧ q < 64 := fun q hq => h q (List.mem_of_mem_take (List.mem_reverse.mp hq))
theorem num_split {l : List Int} (h : ∀ q ∈ l, 0 ≤ q ∧ q < 64) {k : Nat} (hk : k ≤ l.length) :
    dval 6 l.reverse / 64 ^ (l.length - k) = dval 6 (l.take k).reverse ∧ dval 6 l.reverse % 64 ^ (l.length - k) = dval 6 (l.drop k).reverse := by
  have e : dval 6 l.reverse = dval 6 (l.drop k).reverse + 64 ^ (l.length - k) * dval 6 (l.take k).reverse := by
    rw [rev_split l k, dval_append, List.length_reverse, List.length_drop, pow64, Int.mul_comm]
  have hb := dval_bd (bd_rev_drop h k)
  rw [List.length_reverse, List.length_drop] at hb
  have hp : (0 : Int) < 64 ^ (l.length - k) := Int.pow_pos (by decide)
  rw [e]
  constructor
  · rw [Int.add_mul_ediv_left _ _ (by omega), Int.ediv_eq_zero_of_lt hb.1 hb.2, Int.zero_add]
  · rw [Int.add_mul_emod_self_left, Int.emod_eq_of_lt hb.1 hb.2]
theorem per_num {l : List Int} (h : ∀ q ∈ l, 0 ≤ q ∧ q < 64) {t : Nat} (ht : t ≤ l.length) : (dval 6 l.reverse / 64 ^ t == dval 6 l.reverse % 64 ^ (l.length - t)) = isPer l t := by
  have h1 := (num_split h (k := l.length - t) (by omega)).1
  have h2 := (num_split h (k := t) ht).2
  rw [show l.length - (l.length - t) = t from by omega] at h1
  rw [h1, h2]
  unfold isPer
  by_cases e : l.drop t = l.take (l.length - t)
  · rw [decide_eq_true e, e]; simp
  · rw [decide_eq_false e]
    cases hb : (dval 6 (l.take (l.length - t)).reverse == dval 6 (l.drop t).reverse) with
    | false => rfl
    | true =>
      have := dval_inj (bd_rev_take h _) (bd_rev_drop h _) (by rw [List.length_reverse, List.length_reverse, List.length_take, List.length_drop]; omega) (eq_of_beq hb)
      have := congrArg List.reverse this
      simp only [List.reverse_reverse] at this
      exact absurd this.symm e

theorem pow64_facts {t : Nat} (h1 : 1 ≤ t) (h2 : t ≤ 12) : (0 : Int) < 64 ^ t ∧ Builtin.Int.intBits ((64 : Int) ^ t) < 100 ∧ 1 ≤ Builtin.Int.intBits ((64 : Int) ^ t) := by
  have hp : (0 : Int) < 64 ^ t := Int.pow_pos (by decide)
  refine ⟨hp, ?_, ?_⟩
  · have : Builtin.Int.intBits ((64 : Int) ^ t) ≤ 6 * t + 1 := intBits_lt (by omega) (by rw [pow64]; exact_mod_cast Nat.pow_lt_pow_right (by decide : 1 < 2) (Nat.lt_succ_self (6 * t)))
    omega
  · refine Nat.pos_of_ne_zero fun e => ?_
    have : ((64 : Int) ^ t).natAbs < 2 ^ 0 := PySem.intBits_le_iff.mp (by omega)
    omega
theorem digs_few {a b : Nat} (ha : a ≤ 90) (hb : 1 ≤ b) : (a + b - 1) / b < 100 := Nat.div_lt_of_lt_mul (by omega)
theorem num_bits {l : List Int} (h : ∀ q ∈ l, 0 ≤ q ∧ q < 64) (hl : l.length ≤ 12) : 0 ≤ dval 6 l.reverse ∧ Builtin.Int.intBits (dval 6 l.reverse) ≤ 72 := by
  have hb := dval_bd (a := l.reverse) fun q hq => h q (List.mem_reverse.mp hq)
  rw [List.length_reverse, pow64] at hb
  have := intBits_lt hb.1 hb.2
  exact ⟨hb.1, by omega⟩
end

section
open PySem PySem.W PyProof.Rows PyProof.Rows.LCg PySem.Calls

def nget : List Nat → Nat → Nat
  | [], _ => 0
  | a :: _, 0 => a
  | _ :: r, n + 1 => nget r n
def nput : List Nat → Nat → Nat → List Nat
  | [], _, _ => []
  | _ :: r, 0, v => v :: r
  | a :: r, n + 1, v => a :: nput r n v
def nlow (a b : Nat) : Nat := bif Nat.ble a b then a else b
def nStep (len : Nat) (ls : List Nat) (q : Nat) : List Nat := nput (nput ls q (nlow (nget ls q) (nget ls (q + len)))) (q + len) (nlow (nget ls q) (nget ls (q + len)))
def nSteps (len : Nat) (ls : List Nat) : Nat → List Nat
  | 0 => ls
  | q + 1 => nStep len (nSteps len ls q) q
def nRounds (n l1 l2 : Nat) (ls : List Nat) : Nat → List Nat
  | 0 => ls
  | i + 1 => nSteps l2 (nSteps l1 (nRounds n l1 l2 ls i) (n - l1)) (n - l2)
theorem nget_cast : ∀ (l : List Nat) (i : Nat), (l.map fun x : Nat => (x : Int)).getD i 0 = (nget l i : Int)
  | [], _ => rfl
  | _ :: _, 0 => rfl
  | _ :: r, i + 1 => nget_cast r i
theorem nput_cast : ∀ (l : List Nat) (i v : Nat), (l.map fun x : Nat => (x : Int)).set i (v : Int) = (nput l i v).map fun x : Nat => (x : Int)
  | [], _, _ => rfl
  | _ :: _, 0, _ => rfl
  | a :: r, i + 1, v => by simp only [List.map_cons, List.set_cons_succ, nput, nput_cast r i v]
theorem nlow_cast (a b : Nat) : min (a : Int) (b : Int) = (nlow a b : Int) := by
  unfold nlow
  cases h : Nat.ble a b with
  | true => have := Nat.le_of_ble_eq_true h; simp only [cond_true]; omega
  | false => have : ¬ a ≤ b := fun e => by rw [Nat.ble_eq_true_of_le e] at h; cases h
             simp only [cond_false]; omega
theorem nStep_cast (len : Nat) (ls : List Nat) (q : Nat) : tieStep (len : Int) (ls.map fun x : Nat => (x : Int)) q = (nStep len ls q).map fun x : Nat => (x : Int) := by
  unfold tieStep nStep
  rw [Int.toNat_natCast, nget_cast, nget_cast, nlow_cast, nput_cast, nput_cast]
theorem nSteps_cast (len : Nat) (ls : List Nat) : ∀ q, tieSteps (len : Int) (ls.map fun x : Nat => (x : Int)) q = (nSteps len ls q).map fun x : Nat => (x : Int)
  | 0 => rfl
  | q + 1 => by
    show tieStep _ (tieSteps _ _ q) q = _
    rw [nSteps_cast len ls q, nStep_cast]; rfl
theorem nRounds_cast (n l1 l2 : Nat) (ls : List Nat) : ∀ i, tieRounds n [(l1 : Int), (l2 : Int)] (ls.map fun x : Nat => (x : Int)) i = (nRounds n l1 l2 ls i).map fun x : Nat => (x : Int)
  | 0 => rfl
  | i + 1 => by
    show tieLens n (tieRounds n _ _ i) [(l1 : Int), (l2 : Int)] = _
    rw [nRounds_cast n l1 l2 ls i]
    show tieSteps (l2 : Int) (tieSteps (l1 : Int) _ (n - (l1 : Int).toNat)) (n - (l2 : Int).toNat) = _
    rw [Int.toNat_natCast, Int.toNat_natCast, nSteps_cast, nSteps_cast]; rfl
def nmem (x : Nat) : List Nat → Bool
  | [] => false
  | a :: r => Nat.beq a x || nmem x r
/-- how many kinds -/
def nkinds : List Nat → List Nat → Nat
  | [], _ => 0
  | a :: r, seen => bif nmem a seen then nkinds r seen else (nkinds r (a :: seen)) + 1
def nsame : List Nat → List Nat → Bool
  | [], [] => true
  | a :: r, b :: q => Nat.beq a b && nsame r q
  | _, _ => false
def strict {α : Type} (s : Nat) (f : Nat → α) : α := match s with
  | 0 => f 0
  | Nat.succ n => f (Nat.succ n)
theorem strict_eq {α : Type} (s : Nat) (f : Nat → α) : strict s f = f s := by cases s <;> rfl
def force {α : Type} : List Nat → (List Nat → α) → α
  | [], k => k []
  | a :: r, k => strict a fun a' => force r fun r' => k (a' :: r')
theorem force_eq {α : Type} : ∀ (l : List Nat) (k : List Nat → α), force l k = k l
  | [], _ => rfl
  | a :: r, k => by
    show strict a (fun a' => force r fun r' => k (a' :: r')) = _
    rw [strict_eq, force_eq r]
def runC (len : Nat) : Nat → Nat → List Nat → (List Nat → Bool) → Bool
  | 0, _, ls, k => k ls
  | f + 1, q, ls, k => force (nStep len ls q) fun ls' => runC len f (Nat.succ q) ls' k
theorem runC_eq (len : Nat) (ls : List Nat) (k : List Nat → Bool) : ∀ f q, runC len f q (nSteps len ls q) k = k (nSteps len ls (q + f))
  | 0, _ => rfl
  | f + 1, q => by
    show force (nStep len (nSteps len ls q) q) (fun ls' => runC len f (Nat.succ q) ls' k) = _
    rw [force_eq]
    show runC len f (q + 1) (nSteps len ls (q + 1)) k = _
    rw [runC_eq len ls k f (q + 1)]
    congr 2; omega
theorem nsame_eq : ∀ {a b : List Nat}, nsame a b = true → a = b
  | [], [], _ => rfl
  | [], _ :: _, h => by simp [nsame] at h
  | _ :: _, [], h => by simp [nsame] at h
  | x :: a, y :: b, h => by
    have h' : Nat.beq x y = true ∧ nsame a b = true := by simpa [nsame] using h
    rw [Nat.eq_of_beq_eq_true h'.1, nsame_eq h'.2]
theorem nRounds_stay {n l1 l2 : Nat} {ls : List Nat} {i : Nat} (h : nRounds n l1 l2 ls (i + 1) = nRounds n l1 l2 ls i) : ∀ f, nRounds n l1 l2 ls (i + f) = nRounds n l1 l2 ls i
  | 0 => rfl
  | f + 1 => by
    have e := nRounds_stay h f
    show nSteps l2 (nSteps l1 (nRounds n l1 l2 ls (i + f)) (n - l1)) (n - l2) = _
    rw [e]
    exact h
def roundsC (n l1 l2 : Nat) : Nat → List Nat → (List Nat → Bool) → Bool
  | 0, ls, k => k ls
  | f + 1, ls, k => runC l1 (n - l1) 0 ls fun a => runC l2 (n - l2) 0 a fun b => bif nsame b ls then k b else roundsC n l1 l2 f b k
theorem roundsC_eq (n l1 l2 : Nat) (ls : List Nat) (k : List Nat → Bool) : ∀ f i, roundsC n l1 l2 f (nRounds n l1 l2 ls i) k = k (nRounds n l1 l2 ls (i + f))
  | 0, _ => rfl
  | f + 1, i => by
    show runC l1 (n - l1) 0 (nSteps l1 (nRounds n l1 l2 ls i) 0) (fun a => runC l2 (n - l2) 0 (nSteps l2 a 0) fun b => bif nsame b (nRounds n l1 l2 ls i) then k b else roundsC n l1 l2 f b k) = _
    rw [runC_eq, runC_eq, Nat.zero_add, Nat.zero_add]
    show (bif nsame (nRounds n l1 l2 ls (i + 1)) (nRounds n l1 l2 ls i) then k (nRounds n l1 l2 ls (i + 1)) else roundsC n l1 l2 f (nRounds n l1 l2 ls (i + 1)) k) = _
    cases h : nsame (nRounds n l1 l2 ls (i + 1)) (nRounds n l1 l2 ls i) with
    | true =>
      have e := nsame_eq h
      rw [nRounds_stay e (f + 1), cond_true, e]
    | false =>
      rw [cond_false, roundsC_eq n l1 l2 ls k f (i + 1)]
      congr 2; omega
def endC (n l1 l2 : Nat) (t : List Nat) : Bool :=
  Nat.beq (nkinds t []) (bif Nat.ble (Nat.gcd l1 l2) (l1 + l2 - n) then l1 + l2 - n else Nat.gcd l1 l2) && (!(Nat.ble (l1 + l2) (n + Nat.gcd l1 l2) && Nat.ble (Nat.gcd l1 l2 + 1) n) || nsame (t.drop (Nat.gcd l1 l2)) (t.take (n - Nat.gcd l1 l2)))
def nCheck (n l1 l2 : Nat) : Bool := roundsC n l1 l2 n (List.range n) (endC n l1 l2)
theorem n8 : ∀ a : Nat, a < 8 → ∀ b : Nat, b < 8 → nCheck 8 (a + 1) (b + 1) = true := by decide +kernel
theorem n12 : ∀ a : Nat, a < 12 → ∀ b : Nat, b < 12 → nCheck 12 (a + 1) (b + 1) = true := by decide +kernel
end

section
open PySem PySem.W PyProof.Rows PyProof.Rows.LCg PySem.Calls

def kinds (ns : List Int) : Nat := (ns.foldl step_dedup []).length
theorem range_getD (ns : List Int) : (List.range ns.length).map (fun i => ns.getD i 0) = ns := by
  apply List.ext_getElem?
  intro i
  rw [List.getElem?_map]
  by_cases h : i < ns.length
  · rw [List.getElem?_range h, List.getElem?_eq_getElem h]
    simp [List.getD_eq_getElem?_getD, List.getElem?_eq_getElem h]
  · have e1 : (List.range ns.length)[i]? = none := List.getElem?_eq_none (by rw [List.length_range]; omega)
    have e2 : ns[i]? = none := List.getElem?_eq_none (by omega)
    rw [e1, e2]; rfl
theorem firstMet_kinds (ns : List Int) : (firstMet (fun i => ns.getD i 0) ns.length).length = kinds ns := by
  unfold firstMet kinds; rw [range_getD]
section
variable {prog : Program} {w : World} {A : Around} {E : Value → Shared → Prop} {s : Shared} {h₀ : Heap} {L : Addr} {m : Str → Option Value} {news : List (Addr × Obj)}
theorem set_news {l : Addr} {vs : List Value} {ns : List Int} {k : Nat} {Q : Value → Shared → Prop} (F : Fr h₀ L s.heap m) (N : News h₀ L s.heap news)
    (hh : A.handled = none) (hm : (l, W.listOf vs.toArray k) ∈ news) (hi : IntsAre vs ns) (hb : ns.length ≤ 100)
    (h : ∀ D h' (tk : Nat) o S, Fr h₀ L h' m → News h₀ L h' ((D, o) :: news) → o.SetObjOf (intKind prog w) S (kinds ns) → Q (.ref D) { s with heap := h', toks := tk }) :
    wpAny (model prog w) A (call (.type "set") [.ref l]) Q E s := by
  have hl' : s.heap.IsList l vs.toArray := ⟨_, (N _ hm).1, rfl, _, rfl⟩
  have hvn : vs.length = ns.length := IntsAre.length hi
  have hsz : vs.toArray.size = ns.length := by rw [List.size_toArray, hvn]
  refine PySem.call_set_list (items := vs.toArray) (ns := ns) hh hl' (by simpa using hi) (by rw [hsz]; unfold scanBound; omega) fun h' tk hS hk => ?_
  rw [hsz, firstMet_kinds] at hS
  obtain ⟨o, ho, hso⟩ := hS.objOf
  obtain ⟨oL, _, _, hL, _⟩ := F.ns
  have hLlt : L < s.heap.objs.size := Heap.lt_size hL
  refine h _ h' tk o _ ⟨F.ns.at' fun o' e => hk L o' hLlt e, fun b o' e => hk b o' (Heap.lt_size (F.keep b o' e)) (F.keep b o' e), F.above⟩ (fun p hp => ?_) hso
  rcases List.mem_cons.mp hp with rfl | hp
  · refine ⟨ho, Nat.ne_of_gt hLlt, ?_⟩
    cases hq : h₀.get? s.heap.objs.size with
    | none => rfl
    | some o' => exact absurd (Heap.lt_size (F.keep _ _ hq)) (Nat.lt_irrefl _)
  · exact ⟨hk _ _ (Heap.lt_size (N p hp).1) (N p hp).1, (N p hp).2.1, (N p hp).2.2⟩
theorem set_len {D : Addr} {o : Obj} {S : Int → Bool} {n : Nat} {Q : Value → Shared → Prop} (N : News h₀ L s.heap ((D, o) :: news)) (hso : o.SetObjOf (intKind prog w) S n) (hn : n ≤ 100)
    (h : Q (.int (n : Int) (s.toks + 1)) { s with toks := s.toks + 1 + 1 }) : wpAny (model prog w) A (call (.builtin "len") [.ref D]) Q E s :=
  len_sl1 (own := []) N hso (by omega) h
end
theorem kinds_nat : ∀ (T : List Nat) (σ : List Int) (seen : List Nat), (∀ x : Nat, σ.any (· == (x : Int)) = nmem x seen) → ((T.map fun x : Nat => (x : Int)).foldl step_dedup σ).length = σ.length + nkinds T seen
  | [], σ, seen, _ => rfl
  | a :: r, σ, seen, h => by
    rw [List.map_cons, List.foldl_cons]
    cases hm : nmem a seen with
    | true =>
      have e : step_dedup σ (a : Int) = σ := by unfold step_dedup; rw [if_pos (by rw [h a, hm])]
      rw [e, kinds_nat r σ seen h]
      simp [nkinds, hm]
    | false =>
      have e : step_dedup σ (a : Int) = σ ++ [(a : Int)] := by unfold step_dedup; rw [if_neg (by rw [h a, hm]; decide)]
      rw [e, kinds_nat r (σ ++ [(a : Int)]) (a :: seen) fun x => ?_]
      · simp [nkinds, hm]; omega
      · rw [List.any_append, h x]
        show (nmem x seen || [(a : Int)].any (· == (x : Int))) = (Nat.beq a x || nmem x seen)
        rw [Bool.or_comm]
        congr 1
        simp only [List.any_cons, List.any_nil, Bool.or_false]
        by_cases e : a = x
        · subst e; simp
        · have h1 : ((a : Int) == (x : Int)) = false := by simp; omega
          have h2 : Nat.beq a x = false := by cases hb : Nat.beq a x with
            | false => rfl
            | true => exact absurd (Nat.eq_of_beq_eq_true hb) e
          rw [h1, h2]
theorem rangeKs_nat (n : Nat) : rangeKs 0 n = (List.range n).map fun x : Nat => (x : Int) := by
  apply List.ext_getElem?
  intro i
  unfold rangeKs
  simp
set_option profiler true in
set_option profiler.threshold 500 in
theorem law_ties {many : Nat} {l1 l2 : Int} (hm : many = 8 ∨ many = 12) (h1 : 1 ≤ l1 ∧ l1 ≤ many) (h2 : 1 ≤ l2 ∧ l2 ≤ many) :
    ((kinds (tieRounds many [l1, l2] (rangeKs 0 many) many) : Nat) : Int) = max (Int.gcd l1 l2 : Int) (l1 + l2 - many) ∧
    (l1 + l2 - (Int.gcd l1 l2 : Int) ≤ many → (Int.gcd l1 l2 : Int) < many → (tieRounds many [l1, l2] (rangeKs 0 many) many).drop (Int.gcd l1 l2) = (tieRounds many [l1, l2] (rangeKs 0 many) many).take (many - Int.gcd l1 l2)) ∧ 1 ≤ Int.gcd l1 l2 := by
  obtain ⟨a, rfl⟩ : ∃ a : Nat, l1 = (a : Int) := ⟨l1.toNat, by omega⟩
  obtain ⟨b, rfl⟩ : ∃ b : Nat, l2 = (b : Int) := ⟨l2.toNat, by omega⟩
  have hc : nCheck many a b = true := by
    rcases hm with rfl | rfl
    · have := n8 (a - 1) (by omega) (b - 1) (by omega)
      rwa [Nat.sub_add_cancel (by omega), Nat.sub_add_cancel (by omega)] at this
    · have := n12 (a - 1) (by omega) (b - 1) (by omega)
      rwa [Nat.sub_add_cancel (by omega), Nat.sub_add_cancel (by omega)] at this
  have hg : Int.gcd (a : Int) (b : Int) = Nat.gcd a b := by simp [Int.gcd]
  have hg1 : 1 ≤ Nat.gcd a b := Nat.gcd_pos_of_pos_left _ (by omega)
  rw [hg, rangeKs_nat, nRounds_cast]
  unfold nCheck at hc
  have hr := roundsC_eq many a b (List.range many) (endC many a b) many 0
  rw [Nat.zero_add] at hr
  have hc' : endC many a b (nRounds many a b (List.range many) many) = true := hr.symm.trans hc
  generalize nRounds many a b (List.range many) many = T at hc'
  unfold endC at hc'
  rw [Bool.and_eq_true] at hc'
  obtain ⟨k1, k2⟩ := hc'
  refine ⟨?_, fun e1 e2 => ?_, hg1⟩
  · have e := Nat.eq_of_beq_eq_true k1
    unfold kinds
    rw [kinds_nat T [] [] (fun x => rfl), List.length_nil, Nat.zero_add, e]
    cases hb : Nat.ble (Nat.gcd a b) (a + b - many) with
    | true => have := Nat.le_of_ble_eq_true hb; simp only [cond_true]; omega
    | false =>
      have : ¬ Nat.gcd a b ≤ a + b - many := fun e => by rw [Nat.ble_eq_true_of_le e] at hb; cases hb
      simp only [cond_false]; omega
  · have x1 : Nat.ble (a + b) (many + Nat.gcd a b) = true := Nat.ble_eq_true_of_le (by omega)
    have x2 : Nat.ble (Nat.gcd a b + 1) many = true := Nat.ble_eq_true_of_le (by omega)
    rw [x1, x2] at k2
    have := nsame_eq (by simpa using k2)
    rw [← List.map_drop, ← List.map_take, this]
theorem meas_in {ties places : List Int} {f : Int → Int} {g many : Nat} (hp : places = ties.map f) (hl : places.length = many) (h : ties.drop g = ties.take (many - g)) (h1 : 1 ≤ g) (h2 : g < many) : (pers places (many - 1)).any (· == (g : Int)) = true := by
  rw [List.any_eq_true]
  refine ⟨(g : Int), ?_, by simp⟩
  unfold pers
  rw [List.mem_map]
  refine ⟨g - 1, ?_, by omega⟩
  rw [List.mem_filter, List.mem_range]
  refine ⟨by omega, ?_⟩
  rw [Nat.sub_add_cancel h1]
  unfold isPer
  rw [hl]
  apply decide_eq_true
  rw [hp, ← List.map_drop, h, List.map_take]
theorem kinds_le (ns : List Int) : kinds ns ≤ ns.length := by
  rw [← firstMet_kinds]; exact firstMet_length_le _ _

theorem tab_grown {q : Str} {ln col : Nat} {P L : Addr} {T Λ : List (Addr × Obj)} {g h : Heap} (hT : TabIs q ln col P T) (N : News g L h Λ) (hs : ∀ p ∈ T, p ∈ Λ) : GrownAt P h := by
  rcases hT with rfl | ⟨c', oc, vs, t, rfl, _⟩
  · exact GrownAt.of N (hs _ (List.mem_singleton.mpr rfl))
  · exact GrownAt.of N (hs _ List.mem_cons_self)

theorem sum2_news {prog : Program} {w : World} {A : Around} {E : Value → Shared → Prop} {s : Shared} {h₀ : Heap} {L : Addr} {m : Str → Option Value} {news : List (Addr × Obj)} {l : Addr} {vs : List Value} {a b : Int} {k : Nat} {Q : Value → Shared → Prop}
    (F : Fr h₀ L s.heap m) (N : News h₀ L s.heap news) (hh : A.handled = none) (hi : IntsAre vs [a, b]) (hm : (l, W.listOf vs.toArray k) ∈ news)
    (h : ∀ h' tk t', Fr h₀ L h' m → News h₀ L h' news → Q (.int (a + (b + 0)) t') { s with heap := h', toks := tk }) : wpAny (model prog w) A (call (.builtin "sum") [.ref l]) Q E s :=
  LSm.sum_ints F N hh ⟨_, (N _ hm).1, rfl, _, rfl⟩ hi h
end
section
open PyProof.Rows.LCg PySem.Calls
local macro_rules | `(tactic| walk_at "call type:type") => `(tactic| ((with_reducible show wpAny _ _ (call _ [Value.bytes _ _]) _ _ _); refine call_type_of (Tx := "bytes") rfl (by decide +kernel) ?_))
local macro_rules | `(tactic| walk_at "exec For") => `(tactic| (k_here; (with_reducible (rename Fr _ _ _ _ => lF')); (with_unfolding_all refine' For_invVF lF' ?k1 ?k2 ?_; (case k1 => exact rfl); (case k2 => exact rfl); k_whole)))
local macro_rules | `(tactic| walk_at "exec For Name Name cons nil") => `(tactic| (k_here; (with_reducible (rename Fr _ _ _ _ => lF')); (with_unfolding_all refine' For_invVF lF' ?k1 ?k2 ?_; (case k1 => exact rfl); (case k2 => exact rfl); k_whole)))
local macro_rules | `(tactic| walk_at "exec For Name Call cons nil") => `(tactic| (k_here; (with_reducible (rename Fr _ _ _ _ => lF')); (with_unfolding_all refine' For_invVF lF' ?k1 ?k2 ?_; (case k1 => exact rfl); (case k2 => exact rfl); k_whole)))
local macro_rules | `(tactic| walk_at "call builtin:len") => `(tactic| ((with_reducible show wpAny _ _ (call (Value.builtin "len") [Value.str _ _]) _ _ _); refine len_txt (by omega) ?_))
local macro_rules | `(tactic| walk_at "call builtin:len") => `(tactic| ((with_reducible show wpAny _ _ (call (Value.builtin "len") [Value.ref _]) _ _ _); k_dflt (refine' len_base ?F ?hl ?hi ?hn ?_; (case F => k_asm); (case hl => assumption); (case hi => assumption); (case hn => omega))))
local macro_rules | `(tactic| k_ne) => `(tactic| (refine neN ?_; (try dsimp only); first | with_reducible assumption | (refine Ne.symm ?_; with_reducible assumption) | fail "k_ne: mine"))
local macro_rules | `(tactic| walk_at "subscriptTail Name Slice str ref") => `(tactic| (k_here; (with_reducible rename Fr _ _ _ _ => F'); (with_reducible rename News _ _ _ _ => N'); (first
  | (k_dflt (refine' slice_txt_sn (s := ⟨_, _, _, _, _⟩) F' N' ?g0 ?gl ?_ ?gs ?gt; (case g0 => omega); (case gl => omega); (case gs => with_unfolding_all rfl); (case gt => (intro _; with_unfolding_all rfl))))
  | (k_dflt (refine' slice_txt_ns (s := ⟨_, _, _, _, _⟩) F' N' ?g0 ?gl ?_ ?gs ?gt; (case g0 => omega); (case gl => omega); (case gs => with_unfolding_all rfl); (case gt => (intro _; with_unfolding_all rfl))))); intro h' t' k' F' N'))
local macro_rules | `(tactic| walk_at "call builtin:sum") => `(tactic| ((with_reducible show wpAny _ _ (call (Value.builtin "sum") [Value.ref _]) _ _ _); k_dflt (refine' sum2_news ?smF ?smN ?smh ?smi ?smm ?_; (case smF => k_asm); (case smN => k_asm); (case smh => rfl); (case smi => assumption); (case smm => k_mem)); intro h' tk' t' F' N'))
theorem off14 : True := by
  w_top off
  trivial
theorem whole : PySem.Challenge.rw_ku0024_02.Holds := by
  refine ex2.2.2.2.2.2 way1 way2 way3 way4 ?_
  conv => whnf
  k_go0
  all_goals try k_fold
  rename_i w s₀ s₁ mg mb G Y fa o pm cd doc ho hcd hg X V T B TE TW ns hs hlay0 hL0 hr0 hl2 a1 a2 l vs a3 hL ra w1 r0 hI hr hcond1 hcond2 hD h₁ tk₁ o1 o2 o3 o4 o5 e1 e2 e3 e4 e5 X0 X' T' K' F' c1 c2 N' l0
  have c3 := codeHd
  clear codeHd
  clear X0 hD hr r0 w1 ra hL hl2 hr0 hL0 hlay0 hs hT9 TW TE B T V X hT8 hcd ho Y G hcond2
  replace e1 : o1.data = .cell none := e1
  replace e2 : o2.data = .cell none := e2
  replace e3 : o3.data = .cell none := e3
  replace e4 : o4.data = .cell none := e4
  replace e5 : o5.data = .cell none := e5
  clear o
  generalize hgg : ghostOf s₁.heap [(133, 129), (58, 54), (65, 61)] = g at *
  generalize hLL : s₁.heap.objs.size = L at *
  refine use_fr F' ?_
  intro m0 hm0 F0
  clear F'
  have em : m0 = fun z => if z = PySem.Str.ofString "script" then some (.ref l) else none := by rw [hm0]; with_unfolding_all rfl
  clear hm0
  subst em
  dsimp only at c1 c2 c3
  obtain ⟨p, loose, mean, T2⟩ : ∃ p loose mean, Top p loose mean mg mb g := ⟨_, _, _, T'⟩
  clear T'
  clear hLL hgg
  dsimp only
  have hn63 : ns.length ≤ 1000 := by omega
  iterate 24 walk1
  with_reducible (rename News _ _ _ _ => N1)
  k_dflt (refine pick2 (a := 8) (b := 12) N1 ?hk ?_ ?hs)
  case hs => with_unfolding_all rfl
  case hk =>
    have q1 := Int.fmod_nonneg_of_pos (ns.length : Int) (show (0 : Int) < 2 by decide)
    have q2 := Int.fmod_lt_of_pos (ns.length : Int) (show (0 : Int) < 2 by decide)
    omega
  intro tm many hmany
  iterate 3 walk1
  iterate 30 walk1
  with_reducible (rename IntsAre _ _ => hI8)
  with_reducible (rename News _ _ _ _ => N2)
  refine abs_head (ns := [5, 4, 27, 0, 0, 62, 63, 1]) N2 (by repeat constructor) ?_
  intro w8 hI9 N3
  clear N2
  iterate 11 walk1
  have hsg : (0 : Int) ≤ (ns.length : Int) := by omega
  k_dflt (refine kba_turn (value' := nam0) (fun _ => rfl) ?_)
  k_dflt (refine' kmk_slice_ints ?sF ?sN ?sl ?sp ?sq hI9 (kmk_from hI9 hsg) rfl ?_ ?ss ?st ?sz; (case sF => k_asm); (case sN => k_asm); (case sl => kmk_list); (case sp => kmk_part); (case sq => kmk_part); (case ss => with_unfolding_all rfl); (case st => kmk_pure); (case sz => (rw [List.size_toArray, hI9.length, sizeLine_eq]; decide)))
  intro D' ws' h' F' N' l1 hI' hC' hL'
  (try k_lt l1)
  dsimp only
  iterate 3 walk1
  rename_i h1 oS dS lA hA lt1 h2 oM dM tk2 D1 ws1 h3 hc1 hl1 lt2 l2 h4 lt3 D3 ws3 h5 hI3 lt4 h6 oN F4 N4 dN
  have N5 := News.drop_mid4 N4
  clear N4
  obtain ⟨nums, hnums⟩ : ∃ nums, nums = List.take 8 ns ++ List.drop (ns.length : Int).toNat [5, 4, 27, 0, 0, 62, 63, 1] := ⟨_, rfl⟩
  rw [← hnums] at hI3
  have hnl : nums.length = 8 := by
    rw [hnums, List.length_append, List.length_take, List.length_drop]
    simp only [List.length_cons, List.length_nil]
    omega
  have hm8 : many = 8 ∨ many = 12 := by omega
  have hD3 : @LT.lt Nat _ (L + 1 + 1 + 1 + 1 + 1) D3 ∧ @LT.lt Nat _ 129 D3 ∧ @LT.lt Nat _ 54 D3 ∧ @LT.lt Nat _ 61 D3 := by omega
  clear hnums hL' hC' hI' l1 hI9 hl1 hc1 hI8 hmany hsg lt4 lt3 lt2 lt1
  dsimp only
  clear lifted hI hcond1 hn63 h1 lA hA h2 D1 ws1 h3 l2 h4 w8 D' ws' h' h5 tk2
  w_top off
  iterate 1 walk1
  k_dflt (refine LCg.Assign_ListComp_U (F₀ := by k_asm) (by rfl) (by with_unfolding_all rfl) (by with_unfolding_all rfl) (by decide) (by rfl) (by decide) (by rfl) (by rfl) (by rfl) ?_)
  iterate 8 walk1
  rename_i D4 ws4 h7 F5 N6 hI4 hC4 hL4 l4
  k_dflt (refine' LCg.CompSrc.ledger (by rfl) ?sF ?sN ?sm ?sz ?_; (case sF => k_asm); (case sN => k_asm); (case sm => k_mem); (case sz => (rw [List.size_toArray, hI4.length, sizeLine_eq]; omega)))
  intro g9
  refine compRest_inv (J := fun i ys nw => nw = _ ∧ IntsAre ys (((nums.take 2).take i).map fun v => 1 + v.fmod (many : Int))) ?turn ?done1 _ 0 [] _ (Nat.zero_add _) ⟨rfl, .nil⟩
  case turn =>
    rintro i ys nw hi ⟨rfl, hys⟩ v I oI C oC D m₂ h tk' E' hv hC hx F N off ⟨q1, q2, q3⟩
    obtain ⟨x, tx, hx2, rfl⟩ := ints_item hI4 (by simpa using hv)
    iterate 7 walk1
    exact LCg.CompEnd.intro (by k_asm) N _ (fun p hp => hp) off (.inr ⟨_, List.mem_cons_self, rfl, _, rfl⟩) ⟨rfl, by rw [map_take_snoc _ hx2]; exact ints_snoc hys⟩
  rintro ys nw ⟨rfl, hys⟩
  intro D5 h8 tk8 F8 N8 o8
  obtain ⟨n0, n1, n2, n3, n4, n5, n6, n7, hne⟩ := eight hnl
  have hys2 : IntsAre ys [1 + n0.fmod (many : Int), 1 + n1.fmod (many : Int)] := by
    have e : ws4.toArray.size = 2 := by rw [List.size_toArray, hI4.length, hne]; rfl
    rw [e, hne] at hys
    exact hys
  have hb1 := fmod_bounds n0 (n := many) (by omega)
  have hb2 := fmod_bounds n1 (n := many) (by omega)
  obtain ⟨l1, hl1⟩ : ∃ l1, l1 = 1 + n0.fmod (many : Int) := ⟨_, rfl⟩
  obtain ⟨l2, hl2⟩ : ∃ l2, l2 = 1 + n1.fmod (many : Int) := ⟨_, rfl⟩
  rw [← hl1, ← hl2] at hys2
  have hl11 : 1 ≤ l1 ∧ l1 ≤ many := by omega
  have hl22 : 1 ≤ l2 ∧ l2 ≤ many := by omega
  have N9 := News.drop1_2 N8
  simp only [LCg.Off1, and_true] at o8
  replace o8 := o8.2
  have d5a : @Ne Nat D5 54 ∧ @Ne Nat D5 61 := ⟨Ne.symm o8.2.2.2.2.2.2.2.1, Ne.symm o8.2.2.2.2.2.2.2.2⟩
  have o8b := o8.2.1
  have o8c := o8.2.2.1
  have hl1b := hl11
  have hl2b := hl22
  clear N8 N6 hys hI4 hC4 hL4 l4 hl1 hl2 hb1 hb2
  dsimp only
  clear ws4 D4
  iterate 10 walk1
  have hm1 : 1 ≤ many := by omega
  have hm2 : many ≤ 12 := hm8.elim (fun h => Nat.le_trans (Nat.le_of_eq h) (by decide)) (fun h => Nat.le_of_eq h)
  refine ⟨X'.keeps F8.keep, ?_⟩
  k_dflt (refine' c148 hm1 hm2 hys2 hl11.1 hl11.2 hl22.1 hl22.2 _ _ _ _ _ _ _ _ _ _ _ _ _ _ _ _ _ ?k1 ?kB ?k2 ?k3 ?k4 ?k5 ?k6 ?k7 ?k8 ?_; (case k1 => exact K'); (case kB => exact trivial); (case k2 => k_asm); (case k3 => exact X'); (case k4 => k_asm); (case k5 => exact T2); (case k6 => exact rfl); (case k7 => first | ktr_room | decide | decide +kernel); (case k8 => first | ktr_units | decide | decide +kernel))
  intro v Λ' h' tk' F' N' hr
  obtain ⟨D6, ws6, k6, e, lt6, hI6, e2⟩ := hr
  subst e e2
  (try dsimp only)
  k_lt lt6
  obtain ⟨ties, hties⟩ : ∃ ties, ties = tieRounds many [l1, l2] (rangeKs 0 many) many := ⟨_, rfl⟩
  rw [← hties] at hI6
  have htl : ties.length = many := by rw [hties, tieRounds_length, rangeKs_length]
  iterate 2 walk1
  rename_i h9 F9 N9
  try clear F5
  try clear F8
  clear hl11 hl22
  dsimp only
  iterate 1 walk1
  k_dflt (refine LCg.Assign_ListComp_U (F₀ := by k_asm) (by rfl) (by with_unfolding_all rfl) (by with_unfolding_all rfl) (by decide) (by rfl) (by decide) (by rfl) (by rfl) (by rfl) ?_)
  iterate 1 walk1
  k_dflt (refine' LCg.CompSrc.ledger (by rfl) ?sF ?sN ?sm ?sz ?_; (case sF => k_asm); (case sN => k_asm); (case sm => k_mem); (case sz => (rw [List.size_toArray, hI6.length, sizeLine_eq]; omega)))
  intro g10
  refine compRest_inv (J := fun i ys nw => nw = _ ∧ IntsAre ys ((ties.take i).map fun tie => (nums.getD (2 + tie.fmod 6).toNat 0).fmod 64)) ?turn ?done2 _ 0 [] _ (Nat.zero_add _) ⟨rfl, .nil⟩
  case turn =>
    rintro i ys nw hi ⟨rfl, hys⟩ v I oI C oC D m₂ h tk' E' hv hC hx F N off ⟨q1, q2, q3⟩
    obtain ⟨x, tx, hx2, rfl⟩ := ints_item hI6 (by simpa using hv)
    have hb := fmod_bounds x (n := 6) (by decide)
    rw [show ((6 : Nat) : Int) = 6 from rfl] at hb
    iterate 13 walk1
    exact LCg.CompEnd.intro (by k_asm) N _ (fun p hp => hp) off (.inr ⟨_, List.mem_cons_self, rfl, _, rfl⟩) ⟨rfl, by rw [map_take_snoc _ hx2]; exact ints_snoc hys⟩
  rintro ps nw ⟨rfl, hps⟩
  intro D7 h10 tk10 F10 N10 o10
  rw [List.take_of_length_le (by rw [List.size_toArray, hI6.length]; exact Nat.le_refl _)] at hps
  obtain ⟨places, hpl⟩ : ∃ places, places = ties.map fun tie => (nums.getD (2 + tie.fmod 6).toNat 0).fmod 64 := ⟨_, rfl⟩
  rw [← hpl] at hps
  have hplen : places.length = many := by rw [hpl, List.length_map, htl]
  have hplb : ∀ q ∈ places, 0 ≤ q ∧ q < 64 := by
    intro q hq
    rw [hpl] at hq
    obtain ⟨tie, _, rfl⟩ := List.mem_map.mp hq
    exact fmod_bounds _ (n := 64) (by decide)
  simp only [LCg.Off1, and_true] at o10
  dsimp only
  iterate 19 walk1
  rename_i D8 ws8 h11 F11 N11 hI11 hC11 l11
  have hpr : ∀ q ∈ places.reverse, 0 ≤ q ∧ q < 2 ^ 6 := fun q hq => hplb q (List.mem_reverse.mp hq)
  have hprl : places.reverse.length < 100 := by rw [List.length_reverse]; omega
  refine ⟨X'.keeps F11.keep, ?_⟩
  k_dflt (refine' c66 (n := 6) (T61 := [(61, tabObj #[])]) (l := D8) (vs := ws8) (ns := places.reverse) (nl := 0) (news := [(D7, LCg.lst ps), (D6, W.listOf ws6.toArray k6), (D5, W.listOf ys.toArray ys.length), (D3, W.listOf ws3.toArray 0), (L + 1 + 1 + 1 + 1 + 1, o1), (L + 1 + 1 + 1 + 1, o2), (L + 1 + 1 + 1, oN), (L + 1 + 1, oM), (L + 1, oS), (129, tabObj #[]), (54, tabObj #[])]) (.inl rfl) ?hn61 ?hl61 hI11 (by decide) (by decide) hprl hpr _ _ _ _ _ _ _ _ _ _ _ _ _ _ _ _ _ ?k1 ?kB ?k2 ?k3 ?k4 ?k5 ?k6 ?k7 ?k8 ?_; (case k1 => exact K'); (case kB => exact c3); (case k2 => k_asm); (case k3 => exact X'); (case k4 => exact led_sub N11 (by lcg_sub)); (case k5 => exact T2); (case k6 => exact rfl); (case k7 => first | ktr_room | decide | decide +kernel); (case k8 => first | ktr_units | decide | decide +kernel))
  case hn61 =>
    intro q hq
    simp only [List.mem_cons, List.not_mem_nil, or_false] at hq
    rcases hq with rfl | rfl | rfl | rfl | rfl | rfl | rfl | rfl | rfl | rfl | rfl <;> first | k_ne | decide
  case hl61 => k_ne
  intro v Λ' h' tk' F' N' hr
  obtain ⟨⟨t12, e⟩, T61, hT61, hf61, e2⟩ := hr
  subst e e2
  (try dsimp only)
  have t61a : ∀ p ∈ T61, @Ne Nat p.1 (L + 1 + 1 + 1 + 1) := tabs_ne (o := o2) (v := none) hT61.1 N' (fun p hp => List.mem_append_left _ hp) (List.mem_append_right _ (by k_mem)) e2 (by omega)
  have t61b : ∀ p ∈ T61, @Ne Nat p.1 (L + 1 + 1 + 1 + 1 + 1) := tabs_ne (o := o1) (v := none) hT61.1 N' (fun p hp => List.mem_append_left _ hp) (List.mem_append_right _ (by k_mem)) e1 (by omega)
  have N12 : News g L h' ((D7, LCg.lst ps) :: (D6, W.listOf ws6.toArray k6) :: (D5, W.listOf ys.toArray ys.length) :: (D3, W.listOf ws3.toArray 0) :: (L + 1 + 1 + 1 + 1 + 1, o1) :: (L + 1 + 1 + 1 + 1, o2) :: (L + 1 + 1 + 1, oN) :: (L + 1 + 1, oM) :: (L + 1, oS) :: (129, tabObj #[]) :: (54, tabObj #[]) :: T61) := led_sub N' (led_swap1 (T := T61) (r := [(D7, LCg.lst ps), (D6, W.listOf ws6.toArray k6), (D5, W.listOf ys.toArray ys.length), (D3, W.listOf ws3.toArray 0), (L + 1 + 1 + 1 + 1 + 1, o1), (L + 1 + 1 + 1 + 1, o2), (L + 1 + 1 + 1, oN), (L + 1 + 1, oM), (L + 1, oS), (129, tabObj #[]), (54, tabObj #[])]) _)
  clear N'
  try clear N11
  iterate 2 walk1
  rename_i h13 oU F13 N13 dU
  obtain ⟨number, hnum⟩ : ∃ number, number = dval 6 places.reverse := ⟨_, rfl⟩
  rw [← hnum] at dU
  clear e2 o2 t61a hI11 hC11 l11 hpr hprl D8 ws8
  dsimp only
  try clear h11
  iterate 7 walk1
  k_dflt (refine LCg.ListComp_U (F₀ := by k_asm) (by with_unfolding_all rfl) (by decide) (by rfl) (by decide) (by rfl) ?_)
  iterate 1 walk1
  k_dflt (refine' LCg.CompSrc.ledger (by rfl) ?sF ?sN ?sm ?sz ?_; (case sF => k_asm); (case sN => k_asm); (case sm => k_mem); (case sz => (rw [List.size_toArray, hps.length, sizeLine_eq]; omega)))
  intro g11
  refine compRest_inv (J := fun i ys nw => nw = _ ∧ StrsAre ys ((places.take i).map fun p => txt [p])) ?turn ?done3 _ 0 [] _ (Nat.zero_add _) ⟨rfl, .nil⟩
  case turn =>
    rintro i ys nw hi ⟨rfl, hys⟩ v I oI C oC D m₂ h tk' E' hv hC hx F N off ⟨q1, q2, q3⟩
    obtain ⟨x, tx, hx2, rfl⟩ := ints_item hps (by simpa using hv)
    have hb := hplb x (List.mem_of_getElem? hx2)
    have hs64 : (PySem.Str.ofString "ABCDEFGHIJKLMNOPQRSTUVWXYZabcdefghijklmnopqrstuvwxyz0123456789+/").length = 64 := by decide +kernel
    iterate 4 walk1
    refine LCg.CompEnd.intro (by k_asm) N _ (fun p hp => hp) off (.inr ⟨_, List.mem_cons_self, rfl, _, rfl⟩) ⟨rfl, ?_⟩
    rw [map_take_snoc _ hx2, sign_item hb.1 hb.2]
    exact strs_snoc hys
  rintro ss nw ⟨rfl, hss⟩
  intro D9 h14 tk14 F14 N14 o14
  rw [List.take_of_length_le (by rw [List.size_toArray, hps.length]; exact Nat.le_refl _)] at hss
  (try dsimp only)
  iterate 1 walk1
  k_dflt (refine' join_list (ys := places.map fun p => txt [p]) ?jl ?ji ?jok ?_)
  case jl => exact ⟨_, (N14 _ List.mem_cons_self).1, rfl, _, rfl⟩
  case ji => simpa using hss
  case jok => exact join_txt_ok places (by omega)
  intro t15 tk15
  rw [join_txt]
  have N15 := News.drop1 N14
  clear N14 o14 hss
  (try dsimp only)
  iterate 2 walk1
  rename_i h16 oT F16 N16 dT
  clear e1 o1 t61b
  dsimp only
  iterate 17 walk1
  refine ⟨X'.keeps F16.keep, ?_⟩
  have ek : (many : Int).fdiv 4 * 3 = ((many / 4 * 3 : Nat) : Int) := by rcases hm8 with e | e <;> subst e <;> rfl
  have ek8 : 8 * (many / 4 * 3) = 6 * many := by rcases hm8 with e | e <;> subst e <;> rfl
  rw [ek]
  obtain ⟨hn0, hn1⟩ := number_lt hplb hplen ek8
  rw [← hnum] at hn0 hn1
  k_dflt (refine' c155 (T54 := [(54, tabObj #[])]) (news := (D7, LCg.lst ps) :: (D6, W.listOf ws6.toArray k6) :: (D5, W.listOf ys.toArray ys.length) :: (D3, W.listOf ws3.toArray 0) :: (L + 1 + 1 + 1 + 1 + 1, oT) :: (L + 1 + 1 + 1 + 1, oU) :: (L + 1 + 1 + 1, oN) :: (L + 1 + 1, oM) :: (L + 1, oS) :: (129, tabObj #[]) :: T61) (.inl rfl) ?hn54 hn0 hn1 ?hk0 ?hk1 ?hk3 _ _ _ _ _ _ _ _ _ _ _ _ _ _ _ _ _ ?k1 ?kB ?k2 ?k3 ?k4 ?k5 ?k6 ?k7 ?k8 ?_; (case k1 => exact K'); (case kB => exact c2); (case k2 => k_asm); (case k3 => exact X'); (case k4 => exact led_sub N16 (led_54 (r := [(D7, LCg.lst ps), (D6, W.listOf ws6.toArray k6), (D5, W.listOf ys.toArray ys.length), (D3, W.listOf ws3.toArray 0), (L + 1 + 1 + 1 + 1 + 1, oT), (L + 1 + 1 + 1 + 1, oU), (L + 1 + 1 + 1, oN), (L + 1 + 1, oM), (L + 1, oS), (129, tabObj #[])]))); (case k5 => exact T2); (case k6 => exact rfl); (case k7 => first | ktr_room | decide | decide +kernel); (case k8 => first | ktr_units | decide | decide +kernel))
  case hn54 =>
    intro q hq
    simp only [List.mem_cons] at hq
    rcases hq with rfl | rfl | rfl | rfl | rfl | rfl | rfl | rfl | rfl | rfl | hq
    all_goals first | exact hT61.1.ne (by decide) (by decide) q hq | k_ne | decide
  case hk0 => omega
  case hk1 => omega
  case hk3 => omega
  intro v Λ' h' tk' F' N' hr
  obtain ⟨t17, T54, e, hT54, hf54, e2⟩ := hr
  subst e e2
  (try dsimp only)
  have es : sexts (fun i => i) number (8 * (many / 4 * 3)) (8 * (many / 4 * 3) / 6) = places := by rw [hnum]; exact sexts_places hplb hplen ek8
  rw [es]
  have N17 : News g L h' ((D7, LCg.lst ps) :: (D6, W.listOf ws6.toArray k6) :: (D5, W.listOf ys.toArray ys.length) :: (D3, W.listOf ws3.toArray 0) :: (L + 1 + 1 + 1 + 1 + 1, oT) :: (L + 1 + 1 + 1 + 1, oU) :: (L + 1 + 1 + 1, oN) :: (L + 1 + 1, oM) :: (L + 1, oS) :: (129, tabObj #[]) :: (T54 ++ T61)) := led_sub N' (led_mid (r := [(D7, LCg.lst ps), (D6, W.listOf ws6.toArray k6), (D5, W.listOf ys.toArray ys.length), (D3, W.listOf ws3.toArray 0), (L + 1 + 1 + 1 + 1 + 1, oT), (L + 1 + 1 + 1 + 1, oU), (L + 1 + 1 + 1, oN), (L + 1 + 1, oM), (L + 1, oS), (129, tabObj #[])]))
  clear N' es hn0 hn1 ek ek8
  iterate 3 walk1
  rw [show (txt places != txt places) = false from by simp]
  iterate 3 walk1
  have q54 := hT54.1
  have q61 := hT61.1
  clear hT54 hT61
  obtain ⟨TT, hTT⟩ : ∃ TT, TT = T54 ++ T61 := ⟨_, rfl⟩
  rw [← hTT] at N17
  k_dflt (refine LCt.Assign_ListComp_T (F₀ := by k_asm) (by rfl) (by with_unfolding_all rfl) (by with_unfolding_all rfl) (by decide) (by rfl) (by decide) (by rfl) (by rfl) (by rfl) ?_)
  iterate 9 walk1
  with_reducible (rename IsRange _ _ _ _ _ _ _ _ => rgX)
  k_dflt (refine' LCt.CompSrcT.range (n := ((many : Int) - 1).toNat) (by rfl) ?sF ?sN rgX ?sm ?sn ?sz ?_; (case sF => k_asm); (case sN => k_asm); (case sm => exact small_one (by omega) (by omega) (by omega) (by omega)); (case sn => exact rangeSize_nat _ _); (case sz => (rw [sizeLine_eq]; omega)))
  intro g18
  refine compRestT_inv (J := fun i ys nw => nw = _ ∧ IntsAre ys (pers places i)) ?turn ?done4 _ 0 [] _ (Nat.zero_add _) ⟨rfl, .nil⟩
  case turn =>
    rintro i ys nw hi ⟨rfl, hys⟩ v I oI C oC D m₂ h tk' E' hv hC hx F N off ⟨q1, q2, q3⟩
    obtain ⟨tv, rfl⟩ := hv
    iterate 21 walk1
    have e1 : ((1 : Int) + (i : Int)).toNat = i + 1 := by omega
    have e2 : ((many : Int) - (1 + (i : Int))).toNat = many - (i + 1) := by omega
    rw [e1, e2, per_txt hplb (by omega)]
    cases hp : isPer places (i + 1)
    · iterate 1 walk1
      rw [if_neg (by decide)]
      exact LCg.CompEnd.intro (by k_asm) (by k_asm) _ (fun p hp => hp) off trivial ⟨rfl, by rw [pers_succ_f hp]; exact hys⟩
    · iterate 1 walk1
      rw [if_pos rfl]
      iterate 1 walk1
      exact LCg.CompEnd.intro (by k_asm) (by k_asm) _ (fun p hp => hp) off trivial ⟨rfl, by rw [pers_succ_t hp]; exact ints_snoc hys⟩
  rintro es nw ⟨rfl, hes⟩
  intro D10 h18 tk18 F18 N18 o18
  rw [show ((many : Int) - 1).toNat = many - 1 from by omega] at hes
  have oa18 := off1_mem o18
  have d10a : @Ne Nat D10 54 ∧ @Ne Nat D10 61 := by
    obtain ⟨oa, ha⟩ := tab_mem q54
    obtain ⟨ob, hb⟩ := tab_mem q61
    exact ⟨Ne.symm (oa18 (54, oa) (by rw [hTT]; simp [ha])), Ne.symm (oa18 (61, ob) (by rw [hTT]; simp [hb]))⟩
  clear o18 oa18
  dsimp only
  iterate 1 walk1
  k_dflt (refine LCg.Assign_ListComp_U (F₀ := by k_asm) (by rfl) (by with_unfolding_all rfl) (by with_unfolding_all rfl) (by decide) (by rfl) (by decide) (by rfl) (by rfl) (by rfl) ?_)
  iterate 9 walk1
  with_reducible (rename IsRange _ _ _ _ _ _ _ _ => rgX)
  k_dflt (refine' LCg.CompSrc.range (n := ((many : Int) - 1).toNat) (by rfl) ?sF ?sN rgX ?sm ?sn ?sz ?_; (case sF => k_asm); (case sN => k_asm); (case sm => exact small_one (by omega) (by omega) (by omega) (by omega)); (case sn => exact rangeSize_nat _ _); (case sz => (rw [sizeLine_eq]; omega)))
  intro g19
  refine compRest_inv (J := fun i ys nw => nw = _ ∧ StrsAre ys ((List.range i).map fun j => globOf places (j + 1))) ?turn ?done5 _ 0 [] _ (Nat.zero_add _) ⟨rfl, .nil⟩
  case turn =>
    rintro i ys nw hi ⟨rfl, hys⟩ v I oI C oC D m₂ h tk' E' hv hC hx F N off ⟨q1, q2, q3⟩
    obtain ⟨tv, rfl⟩ := hv
    iterate 4 walk1
    refine mul_qm (by omega) ?_
    intro t20 k20
    iterate 11 walk1
    have e2 : ((many : Int) - (1 + (i : Int))).toNat = places.length - (i + 1) := by omega
    rw [e2]
    refine PyProof.Rows.add_str ?_ ?hsz
    case hsz =>
      rw [txt_len, sizeLine_eq, List.length_take]
      have e3 : (⟨(List.replicate (i + 1) 63).toArray⟩ : Str).length = i + 1 := by simp [Str.length]
      rw [e3]
      omega
    intro t21 k21
    rw [glob_add (by omega)]
    refine LCg.CompEnd.intro (by k_asm) (by k_asm) _ (fun p hp => hp) off trivial ⟨rfl, ?_⟩
    rw [List.range_succ, List.map_append]
    exact strs_snoc hys
  rintro gs nw ⟨rfl, hgs⟩
  intro D11 h19 tk19 F19 N19 o19
  rw [show ((many : Int) - 1).toNat = many - 1 from by omega] at hgs
  have oa19 := off1_mem o19
  have d11a : @Ne Nat D11 54 ∧ @Ne Nat D11 61 := by
    obtain ⟨oa, ha⟩ := tab_mem q54
    obtain ⟨ob, hb⟩ := tab_mem q61
    exact ⟨Ne.symm (oa19 (54, oa) (by rw [hTT]; simp [ha])), Ne.symm (oa19 (61, ob) (by rw [hTT]; simp [hb]))⟩
  clear o19 oa19
  dsimp only
  iterate 1 walk1
  iterate 2 walk1
  k_dflt (refine ListComp_P (some _) (F₀ := by k_asm) (by with_unfolding_all rfl) (by decide) (by rfl) (by decide) (by rfl) (by rfl) (by decide) ?_)
  iterate 8 walk1
  have hgl : gs.length = many - 1 := by rw [hgs.length, List.length_map, List.length_range]
  refine use_news N19 ?_
  intro Λ hΛ NΛ
  k_dflt (refine enumSrc (xs := gs) (k1 := gs.length) (news := Λ) (J := fun i ys nw => nw = Λ ∧ IntsAre ys (pers places i)) (by rfl) ?sF ?sN ?sm ?hkeep ?hJl ⟨rfl, .nil⟩ ?turn ?fin; (case sF => k_asm); (case sN => exact NΛ); (case sm => (rw [hΛ]; exact List.mem_cons_self)))
  case hkeep => rintro i ys nw ⟨rfl, -⟩; rw [hΛ]; exact List.mem_cons_self
  case hJl =>
    rintro i ys nw ⟨-, hys⟩ hi
    have := pers_len places i
    rw [hys.length, sizeLine_eq]
    omega
  case turn =>
    intro i ys nw own x y C oC D m₂ h tk' E' hlt hJ hg hC hx hy F N off offC offD
    obtain ⟨rfl, hys⟩ := hJ
    subst hΛ
    clear NΛ
    obtain ⟨⟨t21, rfl⟩, hg2⟩ := hg
    have hgi : ((List.range (many - 1)).map fun j => globOf places (j + 1))[i]? = some (globOf places (i + 1)) := by
      rw [List.getElem?_map, List.getElem?_range (by omega)]; rfl
    obtain ⟨t22, rfl⟩ := strs_at hgs hg2 hgi
    dsimp only
    simp only [List.cons_append] at N
    obtain ⟨TO, hTO⟩ : ∃ TO, TO = TT ++ own := ⟨_, rfl⟩
    rw [← hTO] at N
    iterate 16 walk1
    have hgok := globL_ok hplb (i + 1)
    have hgln := globL_len (places := places) (t := i + 1) (by omega)
    refine ⟨X'.keeps F.keep, ?_⟩
    k_dflt (refine' c134 (l := globL places (i + 1)) hgok (by omega) _ _ _ _ _ _ _ _ _ _ _ _ _ _ _ _ _ ?k1 ?kB ?k2 ?k3 ?k4 ?k5 ?k6 ?k7 ?k8 ?_; (case k1 => exact K'); (case kB => exact c1); (case k2 => k_asm); (case k3 => exact X'); (case k4 => k_asm); (case k5 => exact T2); (case k6 => exact rfl); (case k7 => first | ktr_room | decide | decide +kernel); (case k8 => first | ktr_units | decide | decide +kernel))
    intro v Λ' h' tk' F' N' hr
    obtain ⟨D12, ws12, k12, e, lt12, hws, e2⟩ := hr
    subst e e2
    (try dsimp only)
    iterate 3 walk1
    have hcl : (codes places).length = many := by rw [codes, List.length_map, hplen]
    have hxl : ((globL places (i + 1)).map partOf).length = (codes places).length := by rw [List.length_map, hgln, hcl, hplen]
    refine ⟨X'.keeps F'.keep, ?_⟩
    k_dflt (refine' c160 (l := codes places) hws hxl (by omega) (codes_ascii hplb) _ _ _ _ _ _ _ _ _ _ _ _ _ _ _ _ _ ?k1 ?kB ?k2 ?k3 ?k4 ?k5 ?k6 ?k7 ?k8 ?_; (case k1 => exact K'); (case kB => exact trivial); (case k2 => k_asm); (case k3 => exact X'); (case k4 => k_asm); (case k5 => exact T2); (case k6 => exact rfl); (case k7 => first | ktr_room | decide | decide +kernel); (case k8 => first | ktr_units | decide | decide +kernel))
    intro v Λ' h' tk' F' N' hr
    obtain ⟨e, e2⟩ := hr
    subst e e2
    (try dsimp only)
    rw [takes_per hplb (by omega)]
    cases hp : isPer places (i + 1)
    · iterate 2 walk1
      subst hTO
      exact PEnd.intro (by k_asm) (News.drop1 (by k_asm)) off ⟨rfl, by rw [pers_succ_f hp]; exact hys⟩
    · iterate 3 walk1
      subst hTO
      exact PEnd.intro (by k_asm) (News.drop1 (by k_asm)) off ⟨rfl, by rw [pers_succ_t hp]; exact ints_snoc hys⟩
  rintro h22 tk22 fs nw ⟨rfl, hfs⟩
  rw [hgl] at hfs
  subst hΛ
  intro D13 h23 tk23 F23 N23 o23
  dsimp only
  iterate 6 walk1
  have N24 : News g L h23 ((D10, LCg.lst es) :: (D6, W.listOf ws6.toArray k6) :: (D5, W.listOf ys.toArray ys.length) :: (D3, W.listOf ws3.toArray 0) :: (L + 1 + 1 + 1 + 1 + 1, oT) :: (L + 1 + 1 + 1 + 1, oU) :: (L + 1 + 1 + 1, oN) :: (L + 1 + 1, oM) :: (L + 1, oS) :: (129, tabObj #[]) :: TT) := led_sub N23 (fun p hp => by
    simp only [List.mem_cons] at hp ⊢
    rcases hp with h | h | h | h | h | h | h | h | h | h <;> simp [h])
  clear N23 o23 d11a hgs hfs
  iterate 2 walk1
  k_dflt (refine LCt.ListComp_T (F₀ := by k_asm) (by with_unfolding_all rfl) (by decide) (by rfl) (by decide) (by rfl) ?_)
  iterate 9 walk1
  with_reducible (rename IsRange _ _ _ _ _ _ _ _ => rgX)
  k_dflt (refine' LCt.CompSrcT.range (n := ((many : Int) - 1).toNat) (by rfl) ?sF ?sN rgX ?sm ?sn ?sz ?_; (case sF => k_asm); (case sN => k_asm); (case sm => exact small_one (by omega) (by omega) (by omega) (by omega)); (case sn => exact rangeSize_nat _ _); (case sz => (rw [sizeLine_eq]; omega)))
  intro g24
  refine compRestT_inv (J := fun i ys nw => nw = _ ∧ IntsAre ys (pers places i)) ?turn ?done6 _ 0 [] _ (Nat.zero_add _) ⟨rfl, .nil⟩
  case turn =>
    rintro i zs nw hi ⟨rfl, hzs⟩ v I oI C oC D m₂ h tk' E' hv hC hx F N off ⟨q1, q2, q3⟩
    obtain ⟨tv, rfl⟩ := hv
    have o3 := off.mem
    have oI1 : ∃ o, (54, o) ∈ TT := by obtain ⟨o, h⟩ := tab_mem q54; exact ⟨o, by rw [hTT]; simp [h]⟩
    have oI2 : ∃ o, (61, o) ∈ TT := by obtain ⟨o, h⟩ := tab_mem q61; exact ⟨o, by rw [hTT]; simp [h]⟩
    obtain ⟨oa, hoa⟩ := oI1
    obtain ⟨ob, hob⟩ := oI2
    have o54 := o3 (54, oa) (by simp [hoa])
    have o61 := o3 (61, ob) (by simp [hob])
    have hHi : Hi [(I, oI), (C, oC), (D, LCg.lst zs), (D10, LCg.lst es), (D6, W.listOf ws6.toArray k6), (D5, W.listOf ys.toArray ys.length), (D3, W.listOf ws3.toArray 0), (L + 1 + 1 + 1 + 1 + 1, oT), (L + 1 + 1 + 1 + 1, oU), (L + 1 + 1 + 1, oN), (L + 1 + 1, oM), (L + 1, oS), (129, tabObj #[])] := by
      intro q hq
      simp only [List.mem_cons, List.not_mem_nil, or_false] at hq
      rcases hq with rfl | rfl | rfl | rfl | rfl | rfl | rfl | rfl | rfl | rfl | rfl | rfl | rfl
      · exact ⟨Ne.symm o54.1, Ne.symm o61.1⟩
      · exact ⟨Ne.symm o54.2.1, Ne.symm o61.2.1⟩
      · exact ⟨Ne.symm o54.2.2, Ne.symm o61.2.2⟩
      · exact d10a
      · exact ⟨by first | k_ne | decide, by first | k_ne | decide⟩
      · exact d5a
      all_goals exact ⟨by first | k_ne | decide, by first | k_ne | decide⟩
    obtain ⟨nb0, nb1⟩ := num_bits hplb (by omega)
    rw [← hnum] at nb0 nb1
    rw [hTT] at N
    iterate 14 walk1
    have et1 : (1 + (i : Int)).toNat = i + 1 := by omega
    rw [et1]
    obtain ⟨py1, py2, py3⟩ := pow64_facts (t := i + 1) (by omega) (by omega)
    refine ⟨X'.keeps F.keep, ?_⟩
    k_dflt (refine' c80 (T54 := T54) (T61 := T61) q54 q61 hHi nb0 (by omega) py1 py2 (digs_few (by omega) py3) _ _ _ _ _ _ _ _ _ _ _ _ _ _ _ _ _ ?k1 ?kB ?k2 ?k3 ?k4 ?k5 ?k6 ?k7 ?k8 ?_; (case k1 => exact K'); (case kB => exact ⟨c2, c3⟩); (case k2 => k_asm); (case k3 => exact X'); (case k4 => exact led_sub N (led_rot (r := [(I, oI), (C, oC), (D, LCg.lst zs), (D10, LCg.lst es), (D6, W.listOf ws6.toArray k6), (D5, W.listOf ys.toArray ys.length), (D3, W.listOf ws3.toArray 0), (L + 1 + 1 + 1 + 1 + 1, oT), (L + 1 + 1 + 1 + 1, oU), (L + 1 + 1 + 1, oN), (L + 1 + 1, oM), (L + 1, oS), (129, tabObj #[])]))); (case k5 => exact T2); (case k6 => exact rfl); (case k7 => first | ktr_room | decide | decide +kernel); (case k8 => first | ktr_units | decide | decide +kernel))
    intro v Λ' h' tk' F' N' hr
    obtain ⟨D14, t1, t2, k14, T54', T61', e, lt14, hA54, hA61, e2⟩ := hr
    rw [hA54.2 hf54, hA61.2 hf61] at e2
    subst e e2
    have N1 : News g L h' ((D14, tup2 (Value.int (number / 64 ^ (i + 1)) t1) (Value.int (number % 64 ^ (i + 1)) t2) k14) :: (I, oI) :: (C, oC) :: (D, LCg.lst zs) :: (D10, LCg.lst es) :: (D6, W.listOf ws6.toArray k6) :: (D5, W.listOf ys.toArray ys.length) :: (D3, W.listOf ws3.toArray 0) :: (L + 1 + 1 + 1 + 1 + 1, oT) :: (L + 1 + 1 + 1 + 1, oU) :: (L + 1 + 1 + 1, oN) :: (L + 1 + 1, oM) :: (L + 1, oS) :: (129, tabObj #[]) :: (T54 ++ T61)) := led_sub N' (led_rotc (r := [(I, oI), (C, oC), (D, LCg.lst zs), (D10, LCg.lst es), (D6, W.listOf ws6.toArray k6), (D5, W.listOf ys.toArray ys.length), (D3, W.listOf ws3.toArray 0), (L + 1 + 1 + 1 + 1 + 1, oT), (L + 1 + 1 + 1 + 1, oU), (L + 1 + 1 + 1, oN), (L + 1 + 1, oM), (L + 1, oS), (129, tabObj #[])]))
    clear N'
    (try dsimp only)
    iterate 1 walk1
    refine item_t0 N1 ?_ (by with_unfolding_all rfl)
    have N2 := News.drop1 N1
    clear N1
    (try dsimp only)
    iterate 16 walk1
    have et2 : ((many : Int) - (1 + (i : Int))).toNat = many - (i + 1) := by omega
    rw [et2]
    obtain ⟨pz1, pz2, pz3⟩ := pow64_facts (t := many - (i + 1)) (by omega) (by omega)
    refine ⟨X'.keeps F'.keep, ?_⟩
    k_dflt (refine' c80 (T54 := T54) (T61 := T61) q54 q61 hHi nb0 (by omega) pz1 pz2 (digs_few (by omega) pz3) _ _ _ _ _ _ _ _ _ _ _ _ _ _ _ _ _ ?k1 ?kB ?k2 ?k3 ?k4 ?k5 ?k6 ?k7 ?k8 ?_; (case k1 => exact K'); (case kB => exact ⟨c2, c3⟩); (case k2 => k_asm); (case k3 => exact X'); (case k4 => exact led_sub N2 (led_rot (r := [(I, oI), (C, oC), (D, LCg.lst zs), (D10, LCg.lst es), (D6, W.listOf ws6.toArray k6), (D5, W.listOf ys.toArray ys.length), (D3, W.listOf ws3.toArray 0), (L + 1 + 1 + 1 + 1 + 1, oT), (L + 1 + 1 + 1 + 1, oU), (L + 1 + 1 + 1, oN), (L + 1 + 1, oM), (L + 1, oS), (129, tabObj #[])]))); (case k5 => exact T2); (case k6 => exact rfl); (case k7 => first | ktr_room | decide | decide +kernel); (case k8 => first | ktr_units | decide | decide +kernel))
    intro v Λ' h' tk' F' N' hr
    obtain ⟨D15, t3, t4, k15, T54'', T61'', e, lt15, hB54, hB61, e2⟩ := hr
    rw [hB54.2 hf54, hB61.2 hf61] at e2
    subst e e2
    have N3 : News g L h' ((D15, tup2 (Value.int (number / 64 ^ (many - (i + 1))) t3) (Value.int (number % 64 ^ (many - (i + 1))) t4) k15) :: (I, oI) :: (C, oC) :: (D, LCg.lst zs) :: (D10, LCg.lst es) :: (D6, W.listOf ws6.toArray k6) :: (D5, W.listOf ys.toArray ys.length) :: (D3, W.listOf ws3.toArray 0) :: (L + 1 + 1 + 1 + 1 + 1, oT) :: (L + 1 + 1 + 1 + 1, oU) :: (L + 1 + 1 + 1, oN) :: (L + 1 + 1, oM) :: (L + 1, oS) :: (129, tabObj #[]) :: (T54 ++ T61)) := led_sub N' (led_rotc (r := [(I, oI), (C, oC), (D, LCg.lst zs), (D10, LCg.lst es), (D6, W.listOf ws6.toArray k6), (D5, W.listOf ys.toArray ys.length), (D3, W.listOf ws3.toArray 0), (L + 1 + 1 + 1 + 1 + 1, oT), (L + 1 + 1 + 1 + 1, oU), (L + 1 + 1 + 1, oN), (L + 1 + 1, oM), (L + 1, oS), (129, tabObj #[])]))
    clear N'
    (try dsimp only)
    iterate 1 walk1
    refine item_t1 N3 ?_ (by with_unfolding_all rfl)
    have N4 := News.drop1 N3
    rw [← hTT] at N4
    clear N3 N2
    (try dsimp only)
    iterate 1 walk1
    rw [hnum, show many - (i + 1) = places.length - (i + 1) from by rw [hplen], per_num hplb (by omega)]
    cases hp : isPer places (i + 1)
    · iterate 2 walk1
      exact LCg.CompEnd.intro (by k_asm) (by k_asm) _ (fun p hp => hp) off trivial ⟨rfl, by rw [pers_succ_f hp]; exact hzs⟩
    · iterate 3 walk1
      exact LCg.CompEnd.intro (by k_asm) (by k_asm) _ (fun p hp => hp) off trivial ⟨rfl, by rw [pers_succ_t hp]; exact ints_snoc hzs⟩
  rintro fs2 nw ⟨rfl, hfs2⟩
  intro D16 h25 tk25 F25 N25 o25
  rw [show ((many : Int) - 1).toNat = many - 1 from by omega] at hfs2
  dsimp only
  iterate 6 walk1
  have N26 : News g L h25 ((D10, LCg.lst es) :: (D6, W.listOf ws6.toArray k6) :: (D5, W.listOf ys.toArray ys.length) :: (D3, W.listOf ws3.toArray 0) :: (L + 1 + 1 + 1 + 1 + 1, oT) :: (L + 1 + 1 + 1 + 1, oU) :: (L + 1 + 1 + 1, oN) :: (L + 1 + 1, oM) :: (L + 1, oS) :: (129, tabObj #[]) :: (T54 ++ T61)) := by rw [hTT] at N25; exact News.drop1 N25
  clear N25 o25 hfs2
  iterate 15 walk1
  have hHi2 : Hi [(D10, LCg.lst es), (D6, W.listOf ws6.toArray k6), (D5, W.listOf ys.toArray ys.length), (D3, W.listOf ws3.toArray 0), (L + 1 + 1 + 1 + 1 + 1, oT), (L + 1 + 1 + 1 + 1, oU), (L + 1 + 1 + 1, oN), (L + 1 + 1, oM), (L + 1, oS), (129, tabObj #[])] := by
    intro q hq
    simp only [List.mem_cons, List.not_mem_nil, or_false] at hq
    rcases hq with rfl | rfl | rfl | rfl | rfl | rfl | rfl | rfl | rfl | rfl
    · exact d10a
    · exact ⟨by first | k_ne | decide, by first | k_ne | decide⟩
    · exact d5a
    all_goals exact ⟨by first | k_ne | decide, by first | k_ne | decide⟩
  refine ⟨X'.keeps F25.keep, ?_⟩
  simp only [List.getD_cons_zero, List.getD_cons_succ, Int.toNat_zero, Int.toNat_one]
  k_dflt (refine' c141 (T54 := T54) (T61 := T61) q54 q61 hHi2 (x := l1) (y := l2) (by omega) (by omega) (by omega) (by omega) _ _ _ _ _ _ _ _ _ _ _ _ _ _ _ _ _ ?k1 ?kB ?k2 ?k3 ?k4 ?k5 ?k6 ?k7 ?k8 ?_; (case k1 => exact K'); (case kB => exact ⟨c2, c3⟩); (case k2 => k_asm); (case k3 => exact X'); (case k4 => exact led_sub N26 (led_rot (r := [(D10, LCg.lst es), (D6, W.listOf ws6.toArray k6), (D5, W.listOf ys.toArray ys.length), (D3, W.listOf ws3.toArray 0), (L + 1 + 1 + 1 + 1 + 1, oT), (L + 1 + 1 + 1 + 1, oU), (L + 1 + 1 + 1, oN), (L + 1 + 1, oM), (L + 1, oS), (129, tabObj #[])]))); (case k5 => exact T2); (case k6 => exact rfl); (case k7 => first | ktr_room | decide | decide +kernel); (case k8 => first | ktr_units | decide | decide +kernel))
  intro v Λ' h' tk' F' N' hr
  obtain ⟨t27, T54', T61', e, hA54, hA61, e2⟩ := hr
  rw [hA54.2 hf54, hA61.2 hf61] at e2
  subst e e2
  have N27 : News g L h' ((D10, LCg.lst es) :: (D6, W.listOf ws6.toArray k6) :: (D5, W.listOf ys.toArray ys.length) :: (D3, W.listOf ws3.toArray 0) :: (L + 1 + 1 + 1 + 1 + 1, oT) :: (L + 1 + 1 + 1 + 1, oU) :: (L + 1 + 1 + 1, oN) :: (L + 1 + 1, oM) :: (L + 1, oS) :: (129, tabObj #[]) :: (T54 ++ T61)) := led_sub N' (led_rot' (r := [(D10, LCg.lst es), (D6, W.listOf ws6.toArray k6), (D5, W.listOf ys.toArray ys.length), (D3, W.listOf ws3.toArray 0), (L + 1 + 1 + 1 + 1 + 1, oT), (L + 1 + 1 + 1 + 1, oU), (L + 1 + 1 + 1, oN), (L + 1 + 1, oM), (L + 1, oS), (129, tabObj #[])]))
  rw [← hTT] at N27
  clear N' N26
  obtain ⟨meas, hmeas⟩ : ∃ meas : Nat, meas = Int.gcd l1 l2 := ⟨_, rfl⟩
  rw [← hmeas]
  (try dsimp only)
  obtain ⟨hk, hfw, hg1⟩ := law_ties hm8 hl1b hl2b
  rw [← hties, ← hmeas] at hk hfw
  rw [← hmeas] at hg1
  have hkl := kinds_le ties
  iterate 19 walk1
  by_cases hA : l1 + (l2 + 0) - (meas : Int) ≤ (many : Int)
  · rw [decide_eq_true hA]
    iterate 6 walk1
    by_cases hB : (meas : Int) < (many : Int)
    · rw [decide_eq_true hB]
      iterate 6 walk1
      with_reducible (rename News _ _ _ _ => N29)
      refine notin_list_ints (vs := es) (ns := pers places (many - 1)) ?hl hes ?_
      case hl => exact ⟨_, (N29 (D10, LCg.lst es) (by k_mem)).1, rfl, _, rfl⟩
      rw [meas_in hpl hplen (hfw (by omega) hB) hg1 (by omega), Bool.not_true]
      iterate 17 walk1
      iterate 1 walk1
      k_dflt (refine' set_news (ns := ties) ?sF ?sN ?sh ?sm hI6 ?sb ?_; (case sF => k_asm); (case sN => k_asm); (case sh => rfl); (case sm => k_mem); (case sb => omega))
      intro D17 h30 tk30 o30 S30 F30 N30 hso
      (try dsimp only)
      iterate 1 walk1
      k_dflt (refine' set_len N30 hso ?sb2 ?_; (case sb2 => omega))
      (try dsimp only)
      iterate 18 walk1
      rw [show (if l1 + (l2 + 0) - (many : Int) > (meas : Int) then l1 + (l2 + 0) - (many : Int) else (meas : Int)) = ((kinds ties : Nat) : Int) from by rw [hk]; split <;> omega]
      iterate 1 walk1
      rw [show (((kinds ties : Nat) : Int) == ((kinds ties : Nat) : Int)) = true from by simp]
      with_reducible (rename News _ _ _ _ => N31)
      have gT1 : GrownAt 54 _ := tab_grown q54 N31 (fun p hp => by rw [hTT]; simp [hp])
      have gT2 : GrownAt 61 _ := tab_grown q61 N31 (fun p hp => by rw [hTT]; simp [hp])
      exact ⟨goodW_bool (by k_asm) hg (fun _ => rfl) (by first | kc_post | wrow_post), GrownAt.of (ps := #[]) N31 (by k_mem), gT1, gT2, trivial⟩
    · rw [decide_eq_false hB]
      iterate 17 walk1
      iterate 1 walk1
      k_dflt (refine' set_news (ns := ties) ?sF ?sN ?sh ?sm hI6 ?sb ?_; (case sF => k_asm); (case sN => k_asm); (case sh => rfl); (case sm => k_mem); (case sb => omega))
      intro D17 h30 tk30 o30 S30 F30 N30 hso
      (try dsimp only)
      iterate 1 walk1
      k_dflt (refine' set_len N30 hso ?sb2 ?_; (case sb2 => omega))
      (try dsimp only)
      iterate 18 walk1
      rw [show (if l1 + (l2 + 0) - (many : Int) > (meas : Int) then l1 + (l2 + 0) - (many : Int) else (meas : Int)) = ((kinds ties : Nat) : Int) from by rw [hk]; split <;> omega]
      iterate 1 walk1
      rw [show (((kinds ties : Nat) : Int) == ((kinds ties : Nat) : Int)) = true from by simp]
      with_reducible (rename News _ _ _ _ => N31)
      have gT1 : GrownAt 54 _ := tab_grown q54 N31 (fun p hp => by rw [hTT]; simp [hp])
      have gT2 : GrownAt 61 _ := tab_grown q61 N31 (fun p hp => by rw [hTT]; simp [hp])
      exact ⟨goodW_bool (by k_asm) hg (fun _ => rfl) (by first | kc_post | wrow_post), GrownAt.of (ps := #[]) N31 (by k_mem), gT1, gT2, trivial⟩
  · rw [decide_eq_false hA]
    iterate 16 walk1
    iterate 1 walk1
    k_dflt (refine' set_news (ns := ties) ?sF ?sN ?sh ?sm hI6 ?sb ?_; (case sF => k_asm); (case sN => k_asm); (case sh => rfl); (case sm => k_mem); (case sb => omega))
    intro D17 h30 tk30 o30 S30 F30 N30 hso
    (try dsimp only)
    iterate 1 walk1
    k_dflt (refine' set_len N30 hso ?sb2 ?_; (case sb2 => omega))
    (try dsimp only)
    iterate 18 walk1
    rw [show (if l1 + (l2 + 0) - (many : Int) > (meas : Int) then l1 + (l2 + 0) - (many : Int) else (meas : Int)) = ((kinds ties : Nat) : Int) from by rw [hk]; split <;> omega]
    iterate 1 walk1
    rw [show (((kinds ties : Nat) : Int) == ((kinds ties : Nat) : Int)) = true from by simp]
    with_reducible (rename News _ _ _ _ => N31)
    have gT1 : GrownAt 54 _ := tab_grown q54 N31 (fun p hp => by rw [hTT]; simp [hp])
    have gT2 : GrownAt 61 _ := tab_grown q61 N31 (fun p hp => by rw [hTT]; simp [hp])
    exact ⟨goodW_bool (by k_asm) hg (fun _ => rfl) (by first | kc_post | wrow_post), GrownAt.of (ps := #[]) N31 (by k_mem), gT1, gT2, trivial⟩
end

end Mine

theorem PySem.Challenge.cw_ku0024_02_holds : PySem.Challenge.rw_ku0024_02.Holds :=
  Mine.whole
