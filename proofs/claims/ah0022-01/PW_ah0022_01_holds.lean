import PyProof.Rows.All
import Wide.All
import OpenK.AllK
import Wide.FinOn
import PySem.Challenge.RW_ah0022_01
open PySem PySem.W PyProof.Rows PySem.Spec PySem.Calls
set_option Elab.async false

namespace Mine

/-! ## The plain law -/

theorem fd (a b : Int) (h : 0 ≤ b) : a.fdiv b = a / b := Int.fdiv_eq_ediv_of_nonneg a h
theorem fm (a b : Int) (h : 0 ≤ b) : a.fmod b = a % b := Int.fmod_eq_emod_of_nonneg a h

def jC (x : Int) : Int := (20 * (x + 1524) - 2442).fdiv 7305
def jE (x : Int) : Int := ((x + 1524 - (1461 * jC x).fdiv 4) * 10000).fdiv 306001
def jM (x : Int) : Int := if jE x < 14 then jE x - 1 else jE x - 13
def jY (x : Int) : Int := if jE x < 14 then jC x - 4716 else jC x - 4715
def jD (x : Int) : Int := x + 1524 - (1461 * jC x).fdiv 4 - (306001 * jE x).fdiv 10000

def mL (y m : Int) : Int := if m = 2 then (if y.fmod 4 = 0 then 29 else 28) else if ([4, 6, 9, 11].any fun (x : Int) => x == m) = true then 30 else 31
def tJ (y m d : Int) : Int := (1461 * ((if m ≤ 2 then y - 1 else y) + 4716)).fdiv 4 + (306001 * ((if m ≤ 2 then m + 12 else m) + 1)).fdiv 10000 + d - 1524

theorem jC_lo (x : Int) : 7305 * jC x ≤ 20 * (x + 1524) - 2442 := by
  unfold jC; rw [fd _ _ (by decide)]; omega
theorem jC_hi (x : Int) : 20 * (x + 1524) - 2442 < 7305 * jC x + 7305 := by
  unfold jC; rw [fd _ _ (by decide)]; omega
theorem jC_of {x c : Int} (h₁ : 7305 * c ≤ 20 * (x + 1524) - 2442) (h₂ : 20 * (x + 1524) - 2442 < 7305 * c + 7305) : jC x = c := by
  have := jC_lo x
  have := jC_hi x
  omega
/-- the March year's first day: 1461 quarters of it -/
theorem quarter (q s : Int) (h₀ : 0 ≤ s) (h₁ : s ≤ 3) : (1461 * (4 * q + s)).fdiv 4 = 1461 * q + 365 * s := by
  rw [fd _ _ (by decide)]; omega

/-- the March year, its place among four, the day in it, the month's number -/
theorem core (x : Int) : ∃ q s n e : Int, 0 ≤ s ∧ s ≤ 3 ∧ jC x = 4 * q + s ∧ jE x = e ∧ (1461 * jC x).fdiv 4 = 1461 * q + 365 * s ∧ x + 1524 - (1461 * jC x).fdiv 4 = n ∧
    123 ≤ n ∧ n ≤ 488 ∧ (s < 3 → n ≤ 487) ∧ 306001 * e ≤ n * 10000 ∧ n * 10000 < 306001 * e + 306001 := by
  have h₀ : 0 ≤ jC x % 4 := Int.emod_nonneg _ (by decide)
  have h₁ : jC x % 4 ≤ 3 := by omega
  have hc : jC x = 4 * (jC x / 4) + jC x % 4 := by omega
  have hq := quarter (jC x / 4) (jC x % 4) h₀ h₁
  rw [← hc] at hq
  have hl := jC_lo x
  have hh := jC_hi x
  refine ⟨jC x / 4, jC x % 4, x + 1524 - (1461 * jC x).fdiv 4, jE x, h₀, h₁, hc, rfl, hq, rfl, ?_, ?_, ?_, ?_, ?_⟩
  · rw [hq]; omega
  · rw [hq]; omega
  · rw [hq]; omega
  · unfold jE; rw [fd _ 306001 (by decide)]; omega
  · unfold jE; rw [fd _ 306001 (by decide)]; omega

theorem jE_lo (x : Int) : 4 ≤ jE x := by
  obtain ⟨q, s, n, e, -, -, -, he, -, -, h1, h2, -, h3, h4⟩ := core x
  rw [he]; omega
theorem jE_hi (x : Int) : jE x ≤ 15 := by
  obtain ⟨q, s, n, e, -, -, -, he, -, -, h1, h2, -, h3, h4⟩ := core x
  rw [he]; omega
theorem jM_lo (x : Int) : 1 ≤ jM x := by
  have := jE_lo x; have := jE_hi x
  unfold jM; split <;> omega
theorem jM_hi (x : Int) : jM x ≤ 12 := by
  have := jE_lo x; have := jE_hi x
  unfold jM; split <;> omega
theorem jD_lo (x : Int) : 0 < jD x := by
  obtain ⟨q, s, n, e, -, -, -, he, -, hn, h1, h2, -, h3, h4⟩ := core x
  unfold jD
  rw [he, hn, fd _ 10000 (by decide)]
  have : 4 ≤ e := by omega
  have : e ≤ 15 := by omega
  have h : e = 4 ∨ e = 5 ∨ e = 6 ∨ e = 7 ∨ e = 8 ∨ e = 9 ∨ e = 10 ∨ e = 11 ∨ e = 12 ∨ e = 13 ∨ e = 14 ∨ e = 15 := by omega
  rcases h with h | h | h | h | h | h | h | h | h | h | h | h <;> subst h <;> omega
theorem jD_hi (x : Int) : jD x ≤ mL (jY x) (jM x) := by
  obtain ⟨q, s, n, e, h0, h0', hc, he, -, hn, h1, h2, h5, h3, h4⟩ := core x
  unfold jD mL jY jM
  rw [he, hn, fd _ 10000 (by decide), hc, fm _ 4 (by decide)]
  have : 4 ≤ e := by omega
  have : e ≤ 15 := by omega
  have h : e = 4 ∨ e = 5 ∨ e = 6 ∨ e = 7 ∨ e = 8 ∨ e = 9 ∨ e = 10 ∨ e = 11 ∨ e = 12 ∨ e = 13 ∨ e = 14 ∨ e = 15 := by omega
  rcases h with h | h | h | h | h | h | h | h | h | h | h | h <;> subst h <;> simp <;> (try split) <;> omega

theorem inv (x : Int) : tJ (jY x) (jM x) (jD x) = x := by
  have h1 := jE_lo x
  have h2 := jE_hi x
  unfold tJ jD jY jM
  by_cases h : jE x < 14
  · simp only [if_pos h]
    rw [if_neg (by omega), if_neg (by omega)]
    rw [show jC x - 4716 + 4716 = jC x by omega, show jE x - 1 + 1 = jE x by omega]
    omega
  · simp only [if_neg h]
    rw [if_pos (by omega), if_pos (by omega)]
    rw [show jC x - 4715 - 1 + 4716 = jC x by omega, show jE x - 13 + 12 + 1 = jE x by omega]
    omega

theorem jC_shift (x k : Int) : jC (x + 533265 * k) = jC x + 1460 * k := by
  have := jC_lo x
  have := jC_hi x
  exact jC_of (by omega) (by omega)
theorem q_shift (c k : Int) : (1461 * (c + 1460 * k)).fdiv 4 = (1461 * c).fdiv 4 + 533265 * k := by
  rw [fd _ _ (by decide), fd _ _ (by decide)]; omega
theorem n_shift (x k : Int) : x + 533265 * k + 1524 - (1461 * jC (x + 533265 * k)).fdiv 4 = x + 1524 - (1461 * jC x).fdiv 4 := by
  rw [jC_shift, q_shift]; omega
theorem jE_shift (x k : Int) : jE (x + 533265 * k) = jE x := by
  unfold jE; rw [n_shift]
theorem jM_shift (x k : Int) : jM (x + 533265 * k) = jM x := by
  unfold jM; rw [jE_shift]
theorem jD_shift (x k : Int) : jD (x + 533265 * k) = jD x := by
  unfold jD; rw [n_shift, jE_shift]
theorem jY_shift (x k : Int) : jY (x + 533265 * k) = jY x + 1460 * k := by
  unfold jY; rw [jE_shift, jC_shift]; split <;> omega

/-- what the walk's answers are when the March year and the day in it are known -/
theorem date_of {x c n e : Int} (h₁ : 7305 * c ≤ 20 * (x + 1524) - 2442) (h₂ : 20 * (x + 1524) - 2442 < 7305 * c + 7305) (hn : x + 1524 - 1461 * c / 4 = n) (h₃ : 306001 * e ≤ n * 10000) (h₄ : n * 10000 < 306001 * e + 306001) (he : e < 14) :
    jY x = c - 4716 ∧ jM x = e - 1 ∧ jD x = n - 306001 * e / 10000 := by
  have hc := jC_of h₁ h₂
  have hE : jE x = e := by
    unfold jE; rw [hc, fd _ 4 (by decide), hn, fd _ _ (by decide)]; omega
  refine ⟨?_, ?_, ?_⟩
  · unfold jY; rw [hE, if_pos he, hc]
  · unfold jM; rw [hE, if_pos he]
  · unfold jD; rw [hE, hc, fd _ 4 (by decide), hn, fd _ _ (by decide)]

/-- the moveable calendar's day number -/
def aJ (y m d : Int) : Int := 1922502 + 365 * y + ((m - 1) * 30 + d)
theorem aJ_shift (y m d k : Int) : aJ (y + 1461 * k) m d = aJ y m d + 533265 * k := by
  unfold aJ; omega
theorem aJ_lo {y m d : Int} (hy : 1 ≤ y) (hm : 1 ≤ m) (hd : 1 ≤ d) : 1922503 + 365 ≤ aJ y m d := by
  unfold aJ; omega
def aY (x : Int) : Int := (x - 1922502 - 1).fdiv 365
def aM (x : Int) : Int := ((x - 1922502 - 1).fmod 365).fdiv 30 + 1
def aD (x : Int) : Int := x - 1922502 - 365 * (x - 1922502 - 1).fdiv 365 - 30 * ((x - 1922502 - 1).fmod 365).fdiv 30
theorem year_lo (x : Int) : 533 ≤ x.fmod (10 ^ Int.toNat 12) + 533 := by
  have := Int.fmod_nonneg_of_pos x (b := 10 ^ Int.toNat 12) (by decide)
  omega
theorem aJ_back {y m d : Int} (hm : 1 ≤ m) (hm' : m ≤ 13) (hd : 1 ≤ d) (hd' : d ≤ 30) (h13 : 30 * m + d ≤ 395) : aY (aJ y m d) = y ∧ aM (aJ y m d) = m ∧ aD (aJ y m d) = d := by
  unfold aY aM aD aJ
  simp only [fd _ 365 (by decide), fd _ 30 (by decide), fm _ 365 (by decide)]
  have e1 : (1922502 + 365 * y + ((m - 1) * 30 + d) - 1922502 - 1) / 365 = y := by omega
  have e2 : (1922502 + 365 * y + ((m - 1) * 30 + d) - 1922502 - 1) % 365 = (m - 1) * 30 + d - 1 := by omega
  rw [e1, e2]
  have e3 : ((m - 1) * 30 + d - 1) / 30 = m - 1 := by omega
  rw [e3]
  omega

/-- Sarkawag's day number -/
def sJ (y m d : Int) : Int := 2117211 + 365 * (y - 533) + (y - 533).fdiv 4 + ((m - 1) * 30 + d)
theorem sJ_first (y : Int) : jY (sJ y 1 1) = y + 551 ∧ jM (sJ y 1 1) = 8 ∧ jD (sJ y 1 1) = 11 := by
  have h := date_of (x := sJ y 1 1) (c := y + 5267) (n := 286) (e := 9)
    (by unfold sJ; rw [fd _ 4 (by decide)]; omega) (by unfold sJ; rw [fd _ 4 (by decide)]; omega) (by unfold sJ; rw [fd _ 4 (by decide)]; omega) (by omega) (by omega) (by omega)
  omega
theorem sJ_last5 (y : Int) (hy : y.fmod 4 ≠ 0) : jY (sJ y 13 5) = y + 552 ∧ jM (sJ y 13 5) = 8 ∧ jD (sJ y 13 5) = 10 := by
  rw [fm _ 4 (by decide)] at hy
  have hr : ∃ p : Int, y = 533 + 4 * p ∨ y = 534 + 4 * p ∨ y = 535 + 4 * p := ⟨(y - 533) / 4, by omega⟩
  obtain ⟨p, hp⟩ := hr
  have h := date_of (x := sJ y 13 5) (c := y + 5268) (n := 285) (e := 9)
    (by unfold sJ; rw [fd _ 4 (by decide)]; omega) (by unfold sJ; rw [fd _ 4 (by decide)]; omega) (by unfold sJ; rw [fd _ 4 (by decide)]; rcases hp with h | h | h <;> subst h <;> omega) (by omega) (by omega) (by omega)
  omega
theorem sJ_last6 (y : Int) (hy : y.fmod 4 = 0) : jY (sJ y 13 6) = y + 552 ∧ jM (sJ y 13 6) = 8 ∧ jD (sJ y 13 6) = 10 := by
  rw [fm _ 4 (by decide)] at hy
  have h := date_of (x := sJ y 13 6) (c := y + 5268) (n := 285) (e := 9)
    (by unfold sJ; rw [fd _ 4 (by decide)]; omega) (by unfold sJ; rw [fd _ 4 (by decide)]; omega) (by unfold sJ; rw [fd _ 4 (by decide)]; omega) (by omega) (by omega) (by omega)
  omega

/-- the day number of the Coptic year's first day -/
def cJ (o : Int) : Int := 365 * o + o.fdiv 4 + 1824665
theorem cJ_date (o : Int) : jY (cJ o) = o + 283 ∧ jM (cJ o) = 8 ∧ jD (cJ o) = if o.fmod 4 = 0 then 30 else 29 := by
  rw [fm _ 4 (by decide)]
  by_cases h4 : o % 4 = 0
  · rw [if_pos h4]
    have h := date_of (x := cJ o) (c := o + 4999) (n := 305) (e := 9)
      (by unfold cJ; rw [fd _ 4 (by decide)]; omega) (by unfold cJ; rw [fd _ 4 (by decide)]; omega) (by unfold cJ; rw [fd _ 4 (by decide)]; omega) (by omega) (by omega) (by omega)
    omega
  · rw [if_neg h4]
    have h := date_of (x := cJ o) (c := o + 4999) (n := 304) (e := 9)
      (by unfold cJ; rw [fd _ 4 (by decide)]; omega) (by unfold cJ; rw [fd _ 4 (by decide)]; omega) (by unfold cJ; rw [fd _ 4 (by decide)]; omega) (by omega) (by omega) (by omega)
    omega
theorem cJ_next (o : Int) : cJ (o + 1) - cJ o = if o.fmod 4 = 3 then 366 else 365 := by
  unfold cJ
  rw [fm _ 4 (by decide), fd _ 4 (by decide), fd _ 4 (by decide)]
  split <;> omega
theorem first_day : jY (aJ 1 1 1) = 552 ∧ jM (aJ 1 1 1) = 7 ∧ jD (aJ 1 1 1) = 11 := by decide

theorem p_m1 (n : Int) : 1 ≤ 1 + n.fmod 13 := by rw [fm _ _ (by decide)]; omega
theorem p_m2 (n : Int) : 1 + n.fmod 13 ≤ 13 := by rw [fm _ _ (by decide)]; omega
theorem p_d1 (n : Int) : 1 ≤ 1 + n.fmod 5 := by rw [fm _ _ (by decide)]; omega
theorem p_d2 (n : Int) : 1 + n.fmod 5 ≤ 30 := by rw [fm _ _ (by decide)]; omega
theorem p_e1 (n : Int) : 1 ≤ 1 + n.fmod 30 := by rw [fm _ _ (by decide)]; omega
theorem p_e2 (n : Int) : 1 + n.fmod 30 ≤ 30 := by rw [fm _ _ (by decide)]; omega
theorem p_t (n : Int) : 0 ≤ 1 + n.fmod 1000000 := by rw [fm _ _ (by decide)]; omega
theorem p_13a (n k : Int) : 30 * (1 + n.fmod 13) + (1 + k.fmod 5) ≤ 395 := by rw [fm _ 13 (by decide), fm _ 5 (by decide)]; omega
theorem p_13b (n k : Int) (h : 1 + n.fmod 13 ≠ 13) : 30 * (1 + n.fmod 13) + (1 + k.fmod 30) ≤ 395 := by rw [fm _ 13 (by decide)] at *; rw [fm _ 30 (by decide)]; omega

theorem p_j1 (n k : Int) : 1 ≤ if 1 + n.fmod 13 = 13 then 1 + k.fmod 5 else 1 + k.fmod 30 := by
  split
  · exact p_d1 k
  · exact p_e1 k
theorem p_j2 (n k : Int) : (if 1 + n.fmod 13 = 13 then 1 + k.fmod 5 else 1 + k.fmod 30) ≤ 30 := by
  split
  · exact p_d2 k
  · exact p_e2 k
theorem p_j3 (n k : Int) : 30 * (1 + n.fmod 13) + (if 1 + n.fmod 13 = 13 then 1 + k.fmod 5 else 1 + k.fmod 30) ≤ 395 := by
  split
  · exact p_13a n k
  · exact p_13b n k (by assumption)

theorem cJ_end (o : Int) : (cJ (o + 1) - cJ o == if o.fmod 4 = 3 then 366 else 365) = true := by
  rw [cJ_next]; exact beq_self_eq_true _

/-! ## A call's contract -/

abbrev tup3 (a b c : Int) (t1 t2 t3 : Tok) (n : Nat) : Obj := { cls := .type "tuple", data := .seq #[.int a t1, .int b t2, .int c t3] n }

/-- a call's contract: three ints in a new tuple -/
def ClT (prog : Program) (w : World) (K : Frag) (p : Program) (loose : List Str) (mean : ExcName → Option Value) (mg mb : Str → Option Value) (f : Addr) (k : Nat) (vs : List Value) (r1 r2 r3 : Int) : Prop :=
  ∀ (dp un : Nat) (gd : Option (List Code)) (cn : Str) (cs : Scope) (a : Addr) (ccd : Value) (cl : List (Str × Addr)) (outer : List Env) (A₀ : Around) (base h₀ : Heap) (L : Addr) (m : Str → Option Value) (news : List (Addr × Obj)) (s : Shared) (Q E : Value → Shared → Prop),
    Below A₀ base outer h₀ → Fr h₀ L s.heap m → K.In h₀ → News h₀ L s.heap news → Top p loose mean mg mb h₀ → cs.kind = .function → dp + k < recursionLimit → un + 8 * k < cLine →
    (∀ (D : Addr) (t1 t2 t3 : Tok) (n : Nat) (h' : Heap) (tk' : Nat), Fr h₀ L h' m → News h₀ L h' ((D, tup3 r1 r2 r3 t1 t2 t3 n) :: news) → AllLt D news → Q (.ref D) { s with heap := h', toks := tk' }) →
      wpAny (model prog w) (ktrTop dp un gd cn cs L a ccd cl outer) (call (.ref f) vs) Q E s

/-- a call's contract: a value of which P is known -/
def ClI (prog : Program) (w : World) (K : Frag) (p : Program) (loose : List Str) (mean : ExcName → Option Value) (mg mb : Str → Option Value) (f : Addr) (k : Nat) (vs : List Value) (P : Value → Prop) : Prop :=
  ∀ (dp un : Nat) (gd : Option (List Code)) (cn : Str) (cs : Scope) (a : Addr) (ccd : Value) (cl : List (Str × Addr)) (outer : List Env) (A₀ : Around) (base h₀ : Heap) (L : Addr) (m : Str → Option Value) (news : List (Addr × Obj)) (s : Shared) (Q E : Value → Shared → Prop),
    Below A₀ base outer h₀ → Fr h₀ L s.heap m → K.In h₀ → News h₀ L s.heap news → Top p loose mean mg mb h₀ → cs.kind = .function → dp + k < recursionLimit → un + 8 * k < cLine →
    (∀ (v : Value) (h' : Heap) (tk' : Nat), Fr h₀ L h' m → News h₀ L h' news → P v → Q v { s with heap := h', toks := tk' }) →
      wpAny (model prog w) (ktrTop dp un gd cn cs L a ccd cl outer) (call (.ref f) vs) Q E s

def isB (b : Bool) (v : Value) : Prop := v = .bool b
def isI (x : Int) (v : Value) : Prop := ∃ t, v = .int x t

section
variable {prog : Program} {w : World} {K : Frag} {p : Program} {loose : List Str} {mean : ExcName → Option Value} {mg mb : Str → Option Value} {f : Addr} {k : Nat} {vs : List Value} {r1 r2 r3 x1 x2 x3 : Int}
  {dp un : Nat} {gd : Option (List Code)} {cn : Str} {cs : Scope} {a : Addr} {ccd : Value} {cl : List (Str × Addr)} {outer : List Env} {A₀ : Around} {base h₀ h' : Heap} {L D : Addr} {m : Str → Option Value} {news : List (Addr × Obj)} {s : Shared} {Q E : Value → Shared → Prop}
  {t1 t2 t3 t : Tok} {n tk' : Nat} {x y : Int} {P : Value → Prop} {v : Value}

theorem useT (C : ClT prog w K p loose mean mg mb f k vs r1 r2 r3) (B : Below A₀ base outer h₀) (F : Fr h₀ L s.heap m) (X : K.In h₀) (N : News h₀ L s.heap news) (T : Top p loose mean mg mb h₀) (hk : cs.kind = .function) (hd : dp + k < recursionLimit) (hu : un + 8 * k < cLine)
    (ret : ∀ (D : Addr) (t1 t2 t3 : Tok) (n : Nat) (h' : Heap) (tk' : Nat), Fr h₀ L h' m → News h₀ L h' ((D, tup3 r1 r2 r3 t1 t2 t3 n) :: news) → AllLt D news → Q (.ref D) { s with heap := h', toks := tk' }) :
    wpAny (model prog w) (ktrTop dp un gd cn cs L a ccd cl outer) (call (.ref f) vs) Q E s := C _ _ _ _ _ _ _ _ _ _ _ _ _ _ _ _ _ _ B F X N T hk hd hu ret
theorem useI (C : ClI prog w K p loose mean mg mb f k vs P) (B : Below A₀ base outer h₀) (F : Fr h₀ L s.heap m) (X : K.In h₀) (N : News h₀ L s.heap news) (T : Top p loose mean mg mb h₀) (hk : cs.kind = .function) (hd : dp + k < recursionLimit) (hu : un + 8 * k < cLine)
    (ret : ∀ (v : Value) (h' : Heap) (tk' : Nat), Fr h₀ L h' m → News h₀ L h' news → P v → Q v { s with heap := h', toks := tk' }) :
    wpAny (model prog w) (ktrTop dp un gd cn cs L a ccd cl outer) (call (.ref f) vs) Q E s := C _ _ _ _ _ _ _ _ _ _ _ _ _ _ _ _ _ _ B F X N T hk hd hu ret

theorem endT (hret : ∀ (D : Addr) (t1 t2 t3 : Tok) (n : Nat) (h' : Heap) (tk' : Nat), Fr h₀ L h' m → News h₀ L h' ((D, tup3 r1 r2 r3 t1 t2 t3 n) :: news) → AllLt D news → Q (.ref D) { s with heap := h', toks := tk' })
    (F : Fr h₀ L h' m) (N : News h₀ L h' ((D, tup3 x1 x2 x3 t1 t2 t3 n) :: news)) (hl : AllLt D news) (e1 : x1 = r1) (e2 : x2 = r2) (e3 : x3 = r3) : Q (.ref D) { s with heap := h', toks := tk' } := by
  subst e1 e2 e3
  exact hret _ _ _ _ _ _ _ F N hl
theorem endI (hret : ∀ (v : Value) (h' : Heap) (tk' : Nat), Fr h₀ L h' m → News h₀ L h' news → P v → Q v { s with heap := h', toks := tk' })
    (F : Fr h₀ L h' m) (N : News h₀ L h' news) (e : P v) : Q v { s with heap := h', toks := tk' } := hret _ _ _ F N e
theorem isI_of (e : x = y) : isI y (.int x t) := ⟨t, by rw [e]⟩
end

theorem claim {w : World} {K : Frag} {h : Heap} {G : Prop} (_X : K.In h) (prog : Program) (C : Program → World → Frag → Program → List Str → (ExcName → Option Value) → (Str → Option Value) → (Str → Option Value) → Prop)
  (c : ∀ p loose mean mg mb, C prog w K p loose mean mg mb) (rest : (∀ p loose mean mg mb, C prog w K p loose mean mg mb) → G) : G := rest c

/-- a reader with a default -/
def lawCell (ns : List Int) (k : Int) : Int := if k < ns.length then ns.getD k.toNat 0 else 0

/-- the law's word of True -/
theorem post_true (args : List WData) : PySem.Challenge.rw_ah0022_01.row.claim.post args (WData.bool true) args = true :=
  postW_of (by wrow_shape) (by wtm_val) (by first | rfl | (str_meet; first | done | w_fin))
theorem no_raise (args : List WData) : ∀ cls, PySem.Challenge.rw_ah0022_01.row.claim.raises args cls = false := fun cls => by rfl

end Mine
open Mine

/-! ## Lines of the walk: a call by its contract, a display's way joined -/

local macro_rules | `(tactic| walk_at "call ref") => `(tactic| (k_here; k_dflt (k_extra "my call")))
local macro_rules | `(tactic| walk_at "eval Call") => `(tactic| (k_here; k_dflt (refine Call_ ?_)))
local macro_rules | `(tactic| walk_at "eval IfExp") => `(tactic| (k_here; (with_reducible show wpAny _ _ (eval (Expr.IfExp _ (Expr.Constant _ _ _) (Expr.Constant _ _ _) _) _) _ _ _); k_extra "my join"))
local macro_rules | `(tactic| walk_at "eval BinOp Constant Add BinOp") => `(tactic| (k_here; (with_reducible show wpAny _ _ (eval (Expr.BinOp _ _ (Expr.BinOp _ _ (Expr.IfExp _ _ _ _) _) _) _) _ _ _); k_extra "my join"))
local macro_rules | `(tactic| walk_at "compareOp In int ref") => `(tactic| (k_here; k_dflt (k_extra "my in")))

set_option maxRecDepth 100000 in
set_option maxHeartbeats 0 in
theorem PySem.Challenge.cw_ah0022_01_holds : PySem.Challenge.rw_ah0022_01.Holds := by
  k_with "my enter" => (refine wpAny_call ?_; refine' code_def ?k1 ?k2 ?k3 ?k4 ?k5 ?kA ?kF ?kK ?k6 ?k7 ?k8 ?k9 ?kB ?_ ?c2 ?c3 ?c4 ?c5; (case kA => exact rfl); (case kF => exact rfl); (case kK => first | exact rfl | assumption); (case k1 => k_asm); (case k2 => k_asm); (case k3 => k_asm); (case k4 => k_asm); (case k5 => k_asm); (case k6 => k_is); (case k7 => k_is); (case k8 => cb_room); (case k9 => first | exact binds_K (by first | (with_reducible assumption) | exact Frag.In.keeps (by with_reducible assumption) (Fr.keep (by with_reducible assumption))) rfl (by k_is) rfl rfl rfl | exact BindsTo.of_eq rfl); (case c5 => decide); (case kB => exact locs rfl); (case c2 => exact rfl); (case c3 => exact rfl); (case c4 => exact rfl); k_whole; intro g' L' h' FG' F' N' B' X' T'; (try dsimp only); (try k_lift B'); (try k_fold))
  k_with "my in" => (refine' in_tuple_ints (kun_topT ?kF ?kX ?kO) ?kI ?_; (case kF => k_asm); (case kX => k_asm); (case kO => k_is); (case kI => l_intsW); k_whole)
  k_with "my call" => (k_extra "my enter")
  w_on
  o_law
  k_head
  (case hw => w_witness2)
  k_fill
  intro w s₀ s₁ mg mb G Y fa o pm cd doc dV kV ho hd hcd hD hmg hg args vals as hpre hlay hrd hwl hlo
  have KX := kIn_of Y
  refine claim (w := w) KX PySem.Challenge.rw_ah0022_01.row.prog (fun prog w K p loose mean mg mb => ∀ (x : Int) (t t' : Tok), (0 ≤ x) → ClI prog w K p loose mean mg mb (ktn_at% "trunc") 1 [.int x t, .int 4 t'] (isI (x.fdiv 4)) ∧ ClI prog w K p loose mean mg mb (ktn_at% "trunc") 1 [.int x t, .int 365 t'] (isI (x.fdiv 365)) ∧ ClI prog w K p loose mean mg mb (ktn_at% "trunc") 1 [.int x t, .int 30 t'] (isI (x.fdiv 30))) ?_ fun cTrunc => ?_
  · clear hlo hwl hrd hlay hpre as vals args hg hmg hD hcd hd ho kV dV doc cd pm o fa
    intro p loose mean mg' mb' x t t' hx
    clear KX Y G mb mg s₁ s₀
    refine ⟨?_, ?_, ?_⟩
    all_goals (
      unfold ClI
      intro dp un gd cn cs a ccd cl outer A₀ base h₀ L m₀ news s Q E B F X N T hk hd hu hret
      k_dflt k_extra "my enter"
      k_steps
    )
    all_goals (
      have hn : ¬ x < 0 := Int.not_lt.mpr hx
      refine endI hret (by assumption) (by assumption) (isI_of ?_)
      first
        | (rw [if_neg hn, if_neg (by decide)]; done)
        | (exfalso; simp_all; done)
    )
  refine claim (w := w) KX PySem.Challenge.rw_ah0022_01.row.prog (fun prog w K p loose mean mg mb => ∀ (x : Int) (t : Tok), ClT prog w K p loose mean mg mb (ktn_at% "from_jd_julian") 1 [.int x t] (jY x) (jM x) (jD x)) ?_ fun cFromJd => ?_
  · clear hlo hwl hrd hlay hpre as vals args hg hmg hD hcd hd ho kV dV doc cd pm o fa cTrunc
    intro p loose mean mg' mb' x t 
    clear KX Y G mb mg s₁ s₀
    unfold ClT
    intro dp un gd cn cs a ccd cl outer A₀ base h₀ L m₀ news s Q E B F X N T hk hd hu hret
    k_dflt k_extra "my enter"
    k_steps
    · refine endT hret (by assumption) (by assumption) (allLt_of (by assumption)) (if_pos (by assumption)).symm (if_pos (by assumption)).symm rfl
    · refine endT hret (by assumption) (by assumption) (allLt_of (by assumption)) (if_neg (by assumption)).symm (if_neg (by assumption)).symm rfl
  refine claim (w := w) KX PySem.Challenge.rw_ah0022_01.row.prog (fun prog w K p loose mean mg mb => ∀ (o : Int) (t : Tok), ClT prog w K p loose mean mg mb (ktn_at% "from_jd_julian") 1 [.int (cJ o) t] (o + 283) 8 (if o.fmod 4 = 0 then 30 else 29)) (by
    intro p loose mean mg mb o t
    have h := cFromJd p loose mean mg mb (cJ o) t
    have e := cJ_date o
    rw [e.1, e.2.1, e.2.2] at h
    exact h) fun mC => ?_
  refine claim (w := w) KX PySem.Challenge.rw_ah0022_01.row.prog (fun prog w K p loose mean mg mb => ∀ (y m : Int) (t t' : Tok), ClI prog w K p loose mean mg mb (ktn_at% "month_length_julian") 2 [.int y t, .int m t'] (isI (mL y m))) ?_ fun cML => ?_
  · clear hlo hwl hrd hlay hpre as vals args hg hmg hD hcd hd ho kV dV doc cd pm o fa cTrunc cFromJd mC
    intro p loose mean mg' mb' y m t t' 
    clear KX Y G mb mg s₁ s₀
    unfold ClI
    intro dp un gd cn cs a ccd cl outer A₀ base h₀ L m₀ news s Q E B F X N T hk hd hu hret
    k_dflt k_extra "my enter"
    k_steps
    all_goals (refine endI hret (by assumption) (by assumption) (isI_of ?_); (unfold mL; first | exact ((if_pos (by assumption)).trans (if_pos (by assumption))).symm | exact ((if_pos (by assumption)).trans (if_neg (by assumption))).symm | exact ((if_neg (by assumption)).trans (if_pos (by assumption))).symm | exact ((if_neg (by assumption)).trans (if_neg (by simp_all))).symm))
  refine claim (w := w) KX PySem.Challenge.rw_ah0022_01.row.prog (fun prog w K p loose mean mg mb => ∀ (y m d : Int) (t t' t'' : Tok), (1 ≤ m) → (m ≤ 12) → (0 < d) → (d ≤ mL y m) → ClI prog w K p loose mean mg mb (ktn_at% "to_jd_julian") 4 [.int y t, .int m t', .int d t''] (isI (tJ y m d))) ?_ fun cToJd => ?_
  · clear hlo hwl hrd hlay hpre as vals args hg hmg hD hcd hd ho kV dV doc cd pm o fa cTrunc cFromJd mC
    k_with "my call" => first
      | ((with_reducible show wpAny _ _ (call (Value.ref (ktn_at% "month_length_julian")) _) _ _ _); refine' useI (cML _ _ _ _ _ _ _ _ _) ?kB ?kF ?kX ?kN ?kT ?kK ?kd ?ku ?_; (case kB => k_asm); (case kF => k_asm); (case kX => k_asm); (case kN => k_asm); (case kT => k_asm); (case kK => first | exact rfl | assumption); (case kd => cb_room); (case ku => cb_units); intro v' h' tk' F' N' hv'; obtain ⟨t', rfl⟩ := hv'; (try k_sweep); (try dsimp only); (try k_fold))
      | (k_extra "my enter")
    intro p loose mean mg' mb' y m d t t' t'' hm hm' hd0 hd1
    unfold ClI
    intro dp un gd cn cs a ccd cl outer A₀ base h₀ L m₀ news s Q E B F X N T hk hd hu hret
    k_dflt k_extra "my enter"
    k_steps
    all_goals (refine endI hret (by assumption) (by assumption) (isI_of ?_); (unfold tJ; first | (have hq : m ≤ 2 := (by assumption); simp only [if_pos hq]; done) | (have hq : ¬ m ≤ 2 := (by assumption); simp only [if_neg hq]; done)))
  refine claim (w := w) KX PySem.Challenge.rw_ah0022_01.row.prog (fun prog w K p loose mean mg mb => ∀ (x : Int) (t t' t'' : Tok), ClI prog w K p loose mean mg mb (ktn_at% "to_jd_julian") 4 [.int (jY x) t, .int (jM x) t', .int (jD x) t''] (isI x)) (by
    intro p loose mean mg mb x t t' t''
    have h := cToJd p loose mean mg mb (jY x) (jM x) (jD x) t t' t'' (jM_lo x) (jM_hi x) (jD_lo x) (jD_hi x)
    rw [inv] at h
    exact h) fun cToJd2 => ?_
  refine claim (w := w) KX PySem.Challenge.rw_ah0022_01.row.prog (fun prog w K p loose mean mg mb => ∀ (y m d : Int) (t t' t'' : Tok), (1 ≤ y) → (1 ≤ m) → (m ≤ 13) → (1 ≤ d) → (d ≤ 30) → (30 * m + d ≤ 395) → ClI prog w K p loose mean mg mb (ktn_at% "to_jd_armenian") 4 [.int y t, .int m t', .int d t'', .none] (isI (aJ y m d))) ?_ fun cToJdA => ?_
  · clear hlo hwl hrd hlay hpre as vals args hg hmg hD hcd hd ho kV dV doc cd pm o fa cTrunc cFromJd mC cML cToJd cToJd2
    intro p loose mean mg' mb' y m d t t' t'' hy hm hm' hd0 hd1 h13
    clear KX Y G mb mg s₁ s₀
    unfold ClI
    intro dp un gd cn cs a ccd cl outer A₀ base h₀ L m₀ news s Q E B F X N T hk hd hu hret
    k_dflt k_extra "my enter"
    k_steps
    all_goals (refine endI hret (by assumption) (by assumption) (isI_of ?_); rfl)
  refine claim (w := w) KX PySem.Challenge.rw_ah0022_01.row.prog (fun prog w K p loose mean mg mb => ∀ (y : Int) (t : Tok), (533 ≤ y) → (y.fmod 4 = 0) → ClI prog w K p loose mean mg mb (ktn_at% "leap_armenian") 1 [.int y t] (isB true)) ?_ fun cLeapT => ?_
  · clear hlo hwl hrd hlay hpre as vals args hg hmg hD hcd hd ho kV dV doc cd pm o fa cTrunc cFromJd mC cML cToJd cToJd2 cToJdA
    intro p loose mean mg' mb' y t hy h4
    clear KX Y G mb mg s₁ s₀
    unfold ClI
    intro dp un gd cn cs a ccd cl outer A₀ base h₀ L m₀ news s Q E B F X N T hk hd hu hret
    k_dflt k_extra "my enter"
    k_steps
    all_goals (refine endI hret (by assumption) (by assumption) ?_; unfold isB; rw [h4]; rfl)
  refine claim (w := w) KX PySem.Challenge.rw_ah0022_01.row.prog (fun prog w K p loose mean mg mb => ∀ (y : Int) (t : Tok), (533 ≤ y) → (y.fmod 4 ≠ 0) → ClI prog w K p loose mean mg mb (ktn_at% "leap_armenian") 1 [.int y t] (isB false)) ?_ fun cLeapF => ?_
  · clear hlo hwl hrd hlay hpre as vals args hg hmg hD hcd hd ho kV dV doc cd pm o fa cTrunc cFromJd mC cML cToJd cToJd2 cToJdA cLeapT
    intro p loose mean mg' mb' y t hy h4
    clear KX Y G mb mg s₁ s₀
    unfold ClI
    intro dp un gd cn cs a ccd cl outer A₀ base h₀ L m₀ news s Q E B F X N T hk hd hu hret
    k_dflt k_extra "my enter"
    k_steps
    all_goals (refine endI hret (by assumption) (by assumption) ?_; unfold isB; rw [beq_eq_false_iff_ne.mpr h4])
  refine claim (w := w) KX PySem.Challenge.rw_ah0022_01.row.prog (fun prog w K p loose mean mg mb => ∀ (y : Int) (t t' t'' u : Tok), (533 ≤ y) → ClI prog w K p loose mean mg mb (ktn_at% "to_jd_armenian") 4 [.int y t, .int 1 t', .int 1 t'', .str (Str.ofString "sarkawag") u] (isI (sJ y 1 1))) ?_ fun cToJdS1 => ?_
  · clear hlo hwl hrd hlay hpre as vals args hg hmg hD hcd hd ho kV dV doc cd pm o fa cFromJd mC cML cToJd cToJd2 cToJdA cLeapT cLeapF
    k_with "my call" => first
      | ((with_reducible show wpAny _ _ (call (Value.ref (ktn_at% "trunc")) _) _ _ _); refine' useI ((cTrunc _ _ _ _ _ _ _ _ ?p0).1) ?kB ?kF ?kX ?kN ?kT ?kK ?kd ?ku ?_; (case kB => k_asm); (case kF => k_asm); (case kX => k_asm); (case kN => k_asm); (case kT => k_asm); (case kK => first | exact rfl | assumption); (case kd => cb_room); (case ku => cb_units); (case p0 => first | assumption | omega | l_fact); intro v' h' tk' F' N' hv'; obtain ⟨t', rfl⟩ := hv'; (try k_sweep); (try dsimp only); (try k_fold))
      | ((with_reducible show wpAny _ _ (call (Value.ref (ktn_at% "trunc")) _) _ _ _); refine' useI ((cTrunc _ _ _ _ _ _ _ _ ?p0).2.1) ?kB ?kF ?kX ?kN ?kT ?kK ?kd ?ku ?_; (case kB => k_asm); (case kF => k_asm); (case kX => k_asm); (case kN => k_asm); (case kT => k_asm); (case kK => first | exact rfl | assumption); (case kd => cb_room); (case ku => cb_units); (case p0 => first | assumption | omega | l_fact); intro v' h' tk' F' N' hv'; obtain ⟨t', rfl⟩ := hv'; (try k_sweep); (try dsimp only); (try k_fold))
      | ((with_reducible show wpAny _ _ (call (Value.ref (ktn_at% "trunc")) _) _ _ _); refine' useI ((cTrunc _ _ _ _ _ _ _ _ ?p0).2.2) ?kB ?kF ?kX ?kN ?kT ?kK ?kd ?ku ?_; (case kB => k_asm); (case kF => k_asm); (case kX => k_asm); (case kN => k_asm); (case kT => k_asm); (case kK => first | exact rfl | assumption); (case kd => cb_room); (case ku => cb_units); (case p0 => first | assumption | omega | l_fact); intro v' h' tk' F' N' hv'; obtain ⟨t', rfl⟩ := hv'; (try k_sweep); (try dsimp only); (try k_fold))
      | (k_extra "my enter")
    intro p loose mean mg' mb' y t t' t'' u hy
    unfold ClI
    intro dp un gd cn cs a ccd cl outer A₀ base h₀ L m₀ news s Q E B F X N T hk hd hu hret
    k_dflt k_extra "my enter"
    k_steps
    all_goals (refine endI hret (by assumption) (by assumption) (isI_of ?_); rfl)
  refine claim (w := w) KX PySem.Challenge.rw_ah0022_01.row.prog (fun prog w K p loose mean mg mb => ∀ (y : Int) (t t' t'' u : Tok), (533 ≤ y) → (y.fmod 4 ≠ 0) → ClI prog w K p loose mean mg mb (ktn_at% "to_jd_armenian") 4 [.int y t, .int 13 t', .int 5 t'', .str (Str.ofString "sarkawag") u] (isI (sJ y 13 5))) ?_ fun cToJdS5 => ?_
  · clear hlo hwl hrd hlay hpre as vals args hg hmg hD hcd hd ho kV dV doc cd pm o fa cFromJd mC cML cToJd cToJd2 cToJdA cLeapT cToJdS1
    k_with "my call" => first
      | ((with_reducible show wpAny _ _ (call (Value.ref (ktn_at% "trunc")) _) _ _ _); refine' useI ((cTrunc _ _ _ _ _ _ _ _ ?p0).1) ?kB ?kF ?kX ?kN ?kT ?kK ?kd ?ku ?_; (case kB => k_asm); (case kF => k_asm); (case kX => k_asm); (case kN => k_asm); (case kT => k_asm); (case kK => first | exact rfl | assumption); (case kd => cb_room); (case ku => cb_units); (case p0 => first | assumption | omega | l_fact); intro v' h' tk' F' N' hv'; obtain ⟨t', rfl⟩ := hv'; (try k_sweep); (try dsimp only); (try k_fold))
      | ((with_reducible show wpAny _ _ (call (Value.ref (ktn_at% "trunc")) _) _ _ _); refine' useI ((cTrunc _ _ _ _ _ _ _ _ ?p0).2.1) ?kB ?kF ?kX ?kN ?kT ?kK ?kd ?ku ?_; (case kB => k_asm); (case kF => k_asm); (case kX => k_asm); (case kN => k_asm); (case kT => k_asm); (case kK => first | exact rfl | assumption); (case kd => cb_room); (case ku => cb_units); (case p0 => first | assumption | omega | l_fact); intro v' h' tk' F' N' hv'; obtain ⟨t', rfl⟩ := hv'; (try k_sweep); (try dsimp only); (try k_fold))
      | ((with_reducible show wpAny _ _ (call (Value.ref (ktn_at% "trunc")) _) _ _ _); refine' useI ((cTrunc _ _ _ _ _ _ _ _ ?p0).2.2) ?kB ?kF ?kX ?kN ?kT ?kK ?kd ?ku ?_; (case kB => k_asm); (case kF => k_asm); (case kX => k_asm); (case kN => k_asm); (case kT => k_asm); (case kK => first | exact rfl | assumption); (case kd => cb_room); (case ku => cb_units); (case p0 => first | assumption | omega | l_fact); intro v' h' tk' F' N' hv'; obtain ⟨t', rfl⟩ := hv'; (try k_sweep); (try dsimp only); (try k_fold))
      | ((with_reducible show wpAny _ _ (call (Value.ref (ktn_at% "leap_armenian")) _) _ _ _); refine' useI (cLeapF _ _ _ _ _ _ _ ?p0 ?p1) ?kB ?kF ?kX ?kN ?kT ?kK ?kd ?ku ?_; (case kB => k_asm); (case kF => k_asm); (case kX => k_asm); (case kN => k_asm); (case kT => k_asm); (case kK => first | exact rfl | assumption); (case kd => cb_room); (case ku => cb_units); (case p0 => first | assumption | omega | l_fact); (case p1 => first | assumption | omega | l_fact); intro v' h' tk' F' N' hv'; unfold isB at hv'; subst hv'; (try k_sweep); (try dsimp only); (try k_fold))
      | (k_extra "my enter")
    intro p loose mean mg' mb' y t t' t'' u hy h4
    unfold ClI
    intro dp un gd cn cs a ccd cl outer A₀ base h₀ L m₀ news s Q E B F X N T hk hd hu hret
    k_dflt k_extra "my enter"
    k_steps
    all_goals (refine endI hret (by assumption) (by assumption) (isI_of ?_); rfl)
  refine claim (w := w) KX PySem.Challenge.rw_ah0022_01.row.prog (fun prog w K p loose mean mg mb => ∀ (y : Int) (t t' t'' u : Tok), (533 ≤ y) → (y.fmod 4 = 0) → ClI prog w K p loose mean mg mb (ktn_at% "to_jd_armenian") 4 [.int y t, .int 13 t', .int 6 t'', .str (Str.ofString "sarkawag") u] (isI (sJ y 13 6))) ?_ fun cToJdS6 => ?_
  · clear hlo hwl hrd hlay hpre as vals args hg hmg hD hcd hd ho kV dV doc cd pm o fa cFromJd mC cML cToJd cToJd2 cToJdA cLeapF cToJdS1 cToJdS5
    k_with "my call" => first
      | ((with_reducible show wpAny _ _ (call (Value.ref (ktn_at% "trunc")) _) _ _ _); refine' useI ((cTrunc _ _ _ _ _ _ _ _ ?p0).1) ?kB ?kF ?kX ?kN ?kT ?kK ?kd ?ku ?_; (case kB => k_asm); (case kF => k_asm); (case kX => k_asm); (case kN => k_asm); (case kT => k_asm); (case kK => first | exact rfl | assumption); (case kd => cb_room); (case ku => cb_units); (case p0 => first | assumption | omega | l_fact); intro v' h' tk' F' N' hv'; obtain ⟨t', rfl⟩ := hv'; (try k_sweep); (try dsimp only); (try k_fold))
      | ((with_reducible show wpAny _ _ (call (Value.ref (ktn_at% "trunc")) _) _ _ _); refine' useI ((cTrunc _ _ _ _ _ _ _ _ ?p0).2.1) ?kB ?kF ?kX ?kN ?kT ?kK ?kd ?ku ?_; (case kB => k_asm); (case kF => k_asm); (case kX => k_asm); (case kN => k_asm); (case kT => k_asm); (case kK => first | exact rfl | assumption); (case kd => cb_room); (case ku => cb_units); (case p0 => first | assumption | omega | l_fact); intro v' h' tk' F' N' hv'; obtain ⟨t', rfl⟩ := hv'; (try k_sweep); (try dsimp only); (try k_fold))
      | ((with_reducible show wpAny _ _ (call (Value.ref (ktn_at% "trunc")) _) _ _ _); refine' useI ((cTrunc _ _ _ _ _ _ _ _ ?p0).2.2) ?kB ?kF ?kX ?kN ?kT ?kK ?kd ?ku ?_; (case kB => k_asm); (case kF => k_asm); (case kX => k_asm); (case kN => k_asm); (case kT => k_asm); (case kK => first | exact rfl | assumption); (case kd => cb_room); (case ku => cb_units); (case p0 => first | assumption | omega | l_fact); intro v' h' tk' F' N' hv'; obtain ⟨t', rfl⟩ := hv'; (try k_sweep); (try dsimp only); (try k_fold))
      | ((with_reducible show wpAny _ _ (call (Value.ref (ktn_at% "leap_armenian")) _) _ _ _); refine' useI (cLeapT _ _ _ _ _ _ _ ?p0 ?p1) ?kB ?kF ?kX ?kN ?kT ?kK ?kd ?ku ?_; (case kB => k_asm); (case kF => k_asm); (case kX => k_asm); (case kN => k_asm); (case kT => k_asm); (case kK => first | exact rfl | assumption); (case kd => cb_room); (case ku => cb_units); (case p0 => first | assumption | omega | l_fact); (case p1 => first | assumption | omega | l_fact); intro v' h' tk' F' N' hv'; unfold isB at hv'; subst hv'; (try k_sweep); (try dsimp only); (try k_fold))
      | (k_extra "my enter")
    intro p loose mean mg' mb' y t t' t'' u hy h4
    unfold ClI
    intro dp un gd cn cs a ccd cl outer A₀ base h₀ L m₀ news s Q E B F X N T hk hd hu hret
    k_dflt k_extra "my enter"
    k_steps
    all_goals (refine endI hret (by assumption) (by assumption) (isI_of ?_); rfl)
  refine claim (w := w) KX PySem.Challenge.rw_ah0022_01.row.prog (fun prog w K p loose mean mg mb => ∀ (x : Int) (t : Tok), (1922503 ≤ x) → ClT prog w K p loose mean mg mb (ktn_at% "from_jd_armenian") 3 [.int x t, .none] (aY x) (aM x) (aD x)) ?_ fun cFromJdA => ?_
  · clear hlo hwl hrd hlay hpre as vals args hg hmg hD hcd hd ho kV dV doc cd pm o fa cFromJd mC cML cToJd cToJd2 cToJdA cLeapT cLeapF cToJdS1 cToJdS5 cToJdS6
    k_with "my call" => first
      | ((with_reducible show wpAny _ _ (call (Value.ref (ktn_at% "trunc")) _) _ _ _); refine' useI ((cTrunc _ _ _ _ _ _ _ _ ?p0).1) ?kB ?kF ?kX ?kN ?kT ?kK ?kd ?ku ?_; (case kB => k_asm); (case kF => k_asm); (case kX => k_asm); (case kN => k_asm); (case kT => k_asm); (case kK => first | exact rfl | assumption); (case kd => cb_room); (case ku => cb_units); (case p0 => first | assumption | omega | l_fact); intro v' h' tk' F' N' hv'; obtain ⟨t', rfl⟩ := hv'; (try k_sweep); (try dsimp only); (try k_fold))
      | ((with_reducible show wpAny _ _ (call (Value.ref (ktn_at% "trunc")) _) _ _ _); refine' useI ((cTrunc _ _ _ _ _ _ _ _ ?p0).2.1) ?kB ?kF ?kX ?kN ?kT ?kK ?kd ?ku ?_; (case kB => k_asm); (case kF => k_asm); (case kX => k_asm); (case kN => k_asm); (case kT => k_asm); (case kK => first | exact rfl | assumption); (case kd => cb_room); (case ku => cb_units); (case p0 => first | assumption | omega | l_fact); intro v' h' tk' F' N' hv'; obtain ⟨t', rfl⟩ := hv'; (try k_sweep); (try dsimp only); (try k_fold))
      | ((with_reducible show wpAny _ _ (call (Value.ref (ktn_at% "trunc")) _) _ _ _); refine' useI ((cTrunc _ _ _ _ _ _ _ _ ?p0).2.2) ?kB ?kF ?kX ?kN ?kT ?kK ?kd ?ku ?_; (case kB => k_asm); (case kF => k_asm); (case kX => k_asm); (case kN => k_asm); (case kT => k_asm); (case kK => first | exact rfl | assumption); (case kd => cb_room); (case ku => cb_units); (case p0 => first | assumption | omega | l_fact); intro v' h' tk' F' N' hv'; obtain ⟨t', rfl⟩ := hv'; (try k_sweep); (try dsimp only); (try k_fold))
      | (k_extra "my enter")
    intro p loose mean mg' mb' x t hx
    unfold ClT
    intro dp un gd cn cs a ccd cl outer A₀ base h₀ L m₀ news s Q E B F X N T hk hd hu hret
    k_dflt k_extra "my enter"
    k_steps
    all_goals (refine endT hret (by assumption) (by assumption) (by first | assumption | exact allLt_of (by assumption)) ?_ ?_ ?_ <;> rfl)
  refine claim (w := w) KX PySem.Challenge.rw_ah0022_01.row.prog (fun prog w K p loose mean mg mb => ∀ (y m d : Int) (t t' t'' : Tok), (1 ≤ y) → (1 ≤ m) → (m ≤ 13) → (1 ≤ d) → (d ≤ 30) → (30 * m + d ≤ 395) → ClT prog w K p loose mean mg mb (ktn_at% "to_julian") 6 [.int y t, .int m t', .int d t''] (jY (aJ y m d)) (jM (aJ y m d)) (jD (aJ y m d))) ?_ fun cToJu => ?_
  · clear hlo hwl hrd hlay hpre as vals args hg hmg hD hcd hd ho kV dV doc cd pm o fa cTrunc mC cML cToJd cToJd2 cLeapT cLeapF cToJdS1 cToJdS5 cToJdS6 cFromJdA
    k_with "my call" => first
      | ((with_reducible show wpAny _ _ (call (Value.ref (ktn_at% "to_jd_armenian")) _) _ _ _); refine' useI (cToJdA _ _ _ _ _ _ _ _ _ _ _ ?p0 ?p1 ?p2 ?p3 ?p4 ?p5) ?kB ?kF ?kX ?kN ?kT ?kK ?kd ?ku ?_; (case kB => k_asm); (case kF => k_asm); (case kX => k_asm); (case kN => k_asm); (case kT => k_asm); (case kK => first | exact rfl | assumption); (case kd => cb_room); (case ku => cb_units); (case p0 => first | assumption | omega | l_fact); (case p1 => first | assumption | omega | l_fact); (case p2 => first | assumption | omega | l_fact); (case p3 => first | assumption | omega | l_fact); (case p4 => first | assumption | omega | l_fact); (case p5 => first | assumption | omega | l_fact); intro v' h' tk' F' N' hv'; obtain ⟨t', rfl⟩ := hv'; (try k_sweep); (try dsimp only); (try k_fold))
      | ((with_reducible show wpAny _ _ (call (Value.ref (ktn_at% "from_jd_julian")) _) _ _ _); refine' useT (cFromJd _ _ _ _ _ _ _) ?kB ?kF ?kX ?kN ?kT ?kK ?kd ?ku ?_; (case kB => k_asm); (case kF => k_asm); (case kX => k_asm); (case kN => k_asm); (case kT => k_asm); (case kK => first | exact rfl | assumption); (case kd => cb_room); (case ku => cb_units); intro D' t1' t2' t3' n' h' tk' F' N' hl'; (try simp only [AllLt, and_true] at hl'); (try k_sweep); (try dsimp only); (try k_fold))
      | (k_extra "my enter")
    intro p loose mean mg' mb' y m d t t' t'' hy hm hm' hd0 hd1 h13
    unfold ClT
    intro dp un gd cn cs a ccd cl outer A₀ base h₀ L m₀ news s Q E B F X N T hk hd hu hret
    k_dflt k_extra "my enter"
    k_steps
    all_goals (refine endT hret (by assumption) (by assumption) (by first | assumption | exact allLt_of (by assumption)) ?_ ?_ ?_ <;> rfl)
  refine claim (w := w) KX PySem.Challenge.rw_ah0022_01.row.prog (fun prog w K p loose mean mg mb => ∀ (t t' t'' : Tok), ClT prog w K p loose mean mg mb (ktn_at% "to_julian") 6 [.int 1 t, .int 1 t', .int 1 t''] 552 7 11) (by
    intro p loose mean mg mb t t' t''
    have h := cToJu p loose mean mg mb 1 1 1 t t' t'' (by decide) (by decide) (by decide) (by decide) (by decide) (by decide)
    have e := first_day
    rw [e.1, e.2.1, e.2.2] at h
    exact h) fun mFirst => ?_
  refine claim (w := w) KX PySem.Challenge.rw_ah0022_01.row.prog (fun prog w K p loose mean mg mb => ∀ (y m d k : Int) (t t' t'' : Tok), (1 ≤ y) → (1 ≤ m) → (m ≤ 13) → (1 ≤ d) → (d ≤ 30) → (30 * m + d ≤ 395) → (0 ≤ k) → ClT prog w K p loose mean mg mb (ktn_at% "to_julian") 6 [.int (y + 1461 * k) t, .int m t', .int d t''] (jY (aJ y m d) + 1460 * k) (jM (aJ y m d)) (jD (aJ y m d))) (by
    intro p loose mean mg mb y m d k t t' t'' hy hm hm' hd0 hd1 h13 hk
    have h := cToJu p loose mean mg mb (y + 1461 * k) m d t t' t'' (by omega) hm hm' hd0 hd1 h13
    rw [aJ_shift, jY_shift, jM_shift, jD_shift] at h
    exact h) fun mLater => ?_
  refine claim (w := w) KX PySem.Challenge.rw_ah0022_01.row.prog (fun prog w K p loose mean mg mb => ∀ (y : Int) (t t' t'' u : Tok), (533 ≤ y) → ClT prog w K p loose mean mg mb (ktn_at% "to_julian") 6 [.int y t, .int 1 t', .int 1 t'', .str (Str.ofString "sarkawag") u] (y + 551) 8 11) ?_ fun cToJuS1 => ?_
  · clear hlo hwl hrd hlay hpre as vals args hg hmg hD hcd hd ho kV dV doc cd pm o fa cTrunc mC cML cToJd cToJd2 cToJdA cLeapT cLeapF cToJdS5 cToJdS6 cFromJdA cToJu mFirst mLater
    k_with "my call" => first
      | ((with_reducible show wpAny _ _ (call (Value.ref (ktn_at% "to_jd_armenian")) _) _ _ _); refine' useI (cToJdS1 _ _ _ _ _ _ _ _ _ _ ?p0) ?kB ?kF ?kX ?kN ?kT ?kK ?kd ?ku ?_; (case kB => k_asm); (case kF => k_asm); (case kX => k_asm); (case kN => k_asm); (case kT => k_asm); (case kK => first | exact rfl | assumption); (case kd => cb_room); (case ku => cb_units); (case p0 => first | assumption | omega | l_fact); intro v' h' tk' F' N' hv'; obtain ⟨t', rfl⟩ := hv'; (try k_sweep); (try dsimp only); (try k_fold))
      | ((with_reducible show wpAny _ _ (call (Value.ref (ktn_at% "from_jd_julian")) _) _ _ _); refine' useT (cFromJd _ _ _ _ _ _ _) ?kB ?kF ?kX ?kN ?kT ?kK ?kd ?ku ?_; (case kB => k_asm); (case kF => k_asm); (case kX => k_asm); (case kN => k_asm); (case kT => k_asm); (case kK => first | exact rfl | assumption); (case kd => cb_room); (case ku => cb_units); intro D' t1' t2' t3' n' h' tk' F' N' hl'; (try simp only [AllLt, and_true] at hl'); (try k_sweep); (try dsimp only); (try k_fold))
      | (k_extra "my enter")
    intro p loose mean mg' mb' y t t' t'' u hy
    unfold ClT
    intro dp un gd cn cs a ccd cl outer A₀ base h₀ L m₀ news s Q E B F X N T hk hd hu hret
    k_dflt k_extra "my enter"
    k_steps
    all_goals (refine endT hret (by assumption) (by assumption) (by first | assumption | exact allLt_of (by assumption)) (sJ_first y).1 (sJ_first y).2.1 (sJ_first y).2.2)
  refine claim (w := w) KX PySem.Challenge.rw_ah0022_01.row.prog (fun prog w K p loose mean mg mb => ∀ (y : Int) (t t' t'' u : Tok), (533 ≤ y) → (y.fmod 4 ≠ 0) → ClT prog w K p loose mean mg mb (ktn_at% "to_julian") 6 [.int y t, .int 13 t', .int 5 t'', .str (Str.ofString "sarkawag") u] (y + 552) 8 10) ?_ fun cToJuS5 => ?_
  · clear hlo hwl hrd hlay hpre as vals args hg hmg hD hcd hd ho kV dV doc cd pm o fa cTrunc mC cML cToJd cToJd2 cToJdA cLeapT cLeapF cToJdS1 cToJdS6 cFromJdA cToJu mFirst mLater cToJuS1
    k_with "my call" => first
      | ((with_reducible show wpAny _ _ (call (Value.ref (ktn_at% "to_jd_armenian")) _) _ _ _); refine' useI (cToJdS5 _ _ _ _ _ _ _ _ _ _ ?p0 ?p1) ?kB ?kF ?kX ?kN ?kT ?kK ?kd ?ku ?_; (case kB => k_asm); (case kF => k_asm); (case kX => k_asm); (case kN => k_asm); (case kT => k_asm); (case kK => first | exact rfl | assumption); (case kd => cb_room); (case ku => cb_units); (case p0 => first | assumption | omega | l_fact); (case p1 => first | assumption | omega | l_fact); intro v' h' tk' F' N' hv'; obtain ⟨t', rfl⟩ := hv'; (try k_sweep); (try dsimp only); (try k_fold))
      | ((with_reducible show wpAny _ _ (call (Value.ref (ktn_at% "from_jd_julian")) _) _ _ _); refine' useT (cFromJd _ _ _ _ _ _ _) ?kB ?kF ?kX ?kN ?kT ?kK ?kd ?ku ?_; (case kB => k_asm); (case kF => k_asm); (case kX => k_asm); (case kN => k_asm); (case kT => k_asm); (case kK => first | exact rfl | assumption); (case kd => cb_room); (case ku => cb_units); intro D' t1' t2' t3' n' h' tk' F' N' hl'; (try simp only [AllLt, and_true] at hl'); (try k_sweep); (try dsimp only); (try k_fold))
      | (k_extra "my enter")
    intro p loose mean mg' mb' y t t' t'' u hy h4
    unfold ClT
    intro dp un gd cn cs a ccd cl outer A₀ base h₀ L m₀ news s Q E B F X N T hk hd hu hret
    k_dflt k_extra "my enter"
    k_steps
    all_goals (refine endT hret (by assumption) (by assumption) (by first | assumption | exact allLt_of (by assumption)) (sJ_last5 y h4).1 (sJ_last5 y h4).2.1 (sJ_last5 y h4).2.2)
  refine claim (w := w) KX PySem.Challenge.rw_ah0022_01.row.prog (fun prog w K p loose mean mg mb => ∀ (y : Int) (t t' t'' u : Tok), (533 ≤ y) → (y.fmod 4 = 0) → ClT prog w K p loose mean mg mb (ktn_at% "to_julian") 6 [.int y t, .int 13 t', .int 6 t'', .str (Str.ofString "sarkawag") u] (y + 552) 8 10) ?_ fun cToJuS6 => ?_
  · clear hlo hwl hrd hlay hpre as vals args hg hmg hD hcd hd ho kV dV doc cd pm o fa cTrunc mC cML cToJd cToJd2 cToJdA cLeapT cLeapF cToJdS1 cToJdS5 cFromJdA cToJu mFirst mLater cToJuS1 cToJuS5
    k_with "my call" => first
      | ((with_reducible show wpAny _ _ (call (Value.ref (ktn_at% "to_jd_armenian")) _) _ _ _); refine' useI (cToJdS6 _ _ _ _ _ _ _ _ _ _ ?p0 ?p1) ?kB ?kF ?kX ?kN ?kT ?kK ?kd ?ku ?_; (case kB => k_asm); (case kF => k_asm); (case kX => k_asm); (case kN => k_asm); (case kT => k_asm); (case kK => first | exact rfl | assumption); (case kd => cb_room); (case ku => cb_units); (case p0 => first | assumption | omega | l_fact); (case p1 => first | assumption | omega | l_fact); intro v' h' tk' F' N' hv'; obtain ⟨t', rfl⟩ := hv'; (try k_sweep); (try dsimp only); (try k_fold))
      | ((with_reducible show wpAny _ _ (call (Value.ref (ktn_at% "from_jd_julian")) _) _ _ _); refine' useT (cFromJd _ _ _ _ _ _ _) ?kB ?kF ?kX ?kN ?kT ?kK ?kd ?ku ?_; (case kB => k_asm); (case kF => k_asm); (case kX => k_asm); (case kN => k_asm); (case kT => k_asm); (case kK => first | exact rfl | assumption); (case kd => cb_room); (case ku => cb_units); intro D' t1' t2' t3' n' h' tk' F' N' hl'; (try simp only [AllLt, and_true] at hl'); (try k_sweep); (try dsimp only); (try k_fold))
      | (k_extra "my enter")
    intro p loose mean mg' mb' y t t' t'' u hy h4
    unfold ClT
    intro dp un gd cn cs a ccd cl outer A₀ base h₀ L m₀ news s Q E B F X N T hk hd hu hret
    k_dflt k_extra "my enter"
    k_steps
    all_goals (refine endT hret (by assumption) (by assumption) (by first | assumption | exact allLt_of (by assumption)) (sJ_last6 y h4).1 (sJ_last6 y h4).2.1 (sJ_last6 y h4).2.2)
  refine claim (w := w) KX PySem.Challenge.rw_ah0022_01.row.prog (fun prog w K p loose mean mg mb => ∀ (y : Int) (t t' t'' u : Tok), (533 ≤ y) → ClT prog w K p loose mean mg mb (ktn_at% "to_julian") 6 [.int y t, .int 13 t', .int (if y.fmod 4 = 0 then 6 else 5) t'', .str (Str.ofString "sarkawag") u] (y + 552) 8 10) (by
    intro p loose mean mg mb y t t' t'' u hy
    by_cases h4 : y.fmod 4 = 0
    · have h := cToJuS6 p loose mean mg mb y t t' t'' u hy h4
      rw [if_pos h4]
      exact h
    · have h := cToJuS5 p loose mean mg mb y t t' t'' u hy h4
      rw [if_neg h4]
      exact h) fun mS13 => ?_
  refine claim (w := w) KX PySem.Challenge.rw_ah0022_01.row.prog (fun prog w K p loose mean mg mb => ∀ (x : Int) (t t' t'' : Tok), (1922503 ≤ x) → ClT prog w K p loose mean mg mb (ktn_at% "from_julian") 6 [.int (jY x) t, .int (jM x) t', .int (jD x) t''] (aY x) (aM x) (aD x)) ?_ fun cFromJu => ?_
  · clear hlo hwl hrd hlay hpre as vals args hg hmg hD hcd hd ho kV dV doc cd pm o fa cTrunc cFromJd mC cML cToJd cToJdA cLeapT cLeapF cToJdS1 cToJdS5 cToJdS6 cToJu mFirst mLater cToJuS1 cToJuS5 cToJuS6 mS13
    k_with "my call" => first
      | ((with_reducible show wpAny _ _ (call (Value.ref (ktn_at% "to_jd_julian")) _) _ _ _); refine' useI (cToJd2 _ _ _ _ _ _ _ _ _) ?kB ?kF ?kX ?kN ?kT ?kK ?kd ?ku ?_; (case kB => k_asm); (case kF => k_asm); (case kX => k_asm); (case kN => k_asm); (case kT => k_asm); (case kK => first | exact rfl | assumption); (case kd => cb_room); (case ku => cb_units); intro v' h' tk' F' N' hv'; obtain ⟨t', rfl⟩ := hv'; (try k_sweep); (try dsimp only); (try k_fold))
      | ((with_reducible show wpAny _ _ (call (Value.ref (ktn_at% "from_jd_armenian")) _) _ _ _); refine' useT (cFromJdA _ _ _ _ _ _ _ ?p0) ?kB ?kF ?kX ?kN ?kT ?kK ?kd ?ku ?_; (case kB => k_asm); (case kF => k_asm); (case kX => k_asm); (case kN => k_asm); (case kT => k_asm); (case kK => first | exact rfl | assumption); (case kd => cb_room); (case ku => cb_units); (case p0 => first | assumption | omega | l_fact); intro D' t1' t2' t3' n' h' tk' F' N' hl'; (try simp only [AllLt, and_true] at hl'); (try k_sweep); (try dsimp only); (try k_fold))
      | (k_extra "my enter")
    intro p loose mean mg' mb' x t t' t'' hx
    unfold ClT
    intro dp un gd cn cs a ccd cl outer A₀ base h₀ L m₀ news s Q E B F X N T hk hd hu hret
    k_dflt k_extra "my enter"
    k_steps
    all_goals (refine endT hret (by assumption) (by assumption) (by first | assumption | exact allLt_of (by assumption)) ?_ ?_ ?_ <;> rfl)
  refine claim (w := w) KX PySem.Challenge.rw_ah0022_01.row.prog (fun prog w K p loose mean mg mb => ∀ (y m d : Int) (t t' t'' : Tok), (1 ≤ y) → (1 ≤ m) → (m ≤ 13) → (1 ≤ d) → (d ≤ 30) → (30 * m + d ≤ 395) → ClT prog w K p loose mean mg mb (ktn_at% "from_julian") 6 [.int (jY (aJ y m d)) t, .int (jM (aJ y m d)) t', .int (jD (aJ y m d)) t''] y m d) (by
    intro p loose mean mg mb y m d t t' t'' hy hm hm' hd0 hd1 h13
    have h := cFromJu p loose mean mg mb (aJ y m d) t t' t'' (by have := aJ_lo hy hm hd0; omega)
    have e := aJ_back (y := y) hm hm' hd0 hd1 h13
    rw [e.1, e.2.1, e.2.2] at h
    exact h) fun mBack => ?_
  refine claim (w := w) KX PySem.Challenge.rw_ah0022_01.row.prog (fun prog w K p loose mean mg mb => ∀ (y m d k : Int) (t t' t'' : Tok), (1 ≤ y) → (1 ≤ m) → (m ≤ 13) → (1 ≤ d) → (d ≤ 30) → (30 * m + d ≤ 395) → (0 ≤ k) → ClT prog w K p loose mean mg mb (ktn_at% "from_julian") 6 [.int (jY (aJ y m d) + 1460 * k) t, .int (jM (aJ y m d)) t', .int (jD (aJ y m d)) t''] (y + 1461 * k) m d) (by
    intro p loose mean mg mb y m d k t t' t'' hy hm hm' hd0 hd1 h13 hk
    have h := mBack p loose mean mg mb (y + 1461 * k) m d t t' t'' (by omega) hm hm' hd0 hd1 h13
    rw [aJ_shift, jY_shift, jM_shift, jD_shift] at h
    exact h) fun mBackLater => ?_
  refine claim (w := w) KX PySem.Challenge.rw_ah0022_01.row.prog (fun prog w K p loose mean mg mb => ∀ (o : Int) (t t' t'' : Tok), ClI prog w K p loose mean mg mb (ktn_at% "to_jd_coptic") 1 [.int o t, .int 1 t', .int 1 t''] (isI (cJ o))) ?_ fun cCop => ?_
  · clear hlo hwl hrd hlay hpre as vals args hg hmg hD hcd hd ho kV dV doc cd pm o fa cTrunc cFromJd mC cML cToJd cToJd2 cToJdA cLeapT cLeapF cToJdS1 cToJdS5 cToJdS6 cFromJdA cToJu mFirst mLater cToJuS1 cToJuS5 cToJuS6 mS13 cFromJu mBack mBackLater
    intro p loose mean mg' mb' o t t' t'' 
    clear KX Y G mb mg s₁ s₀
    unfold ClI
    intro dp un gd cn cs a ccd cl outer A₀ base h₀ L m₀ news s Q E B F X N T hk hd hu hret
    k_dflt k_extra "my enter"
    k_steps
    all_goals (refine endI hret (by assumption) (by assumption) (isI_of ?_); (unfold cJ; omega))
  refine claim (w := w) KX PySem.Challenge.rw_ah0022_01.row.prog (fun prog w K p loose mean mg mb => ∀ (x : Int) (t : Tok), ClI prog w K p loose mean mg mb (ktn_at% "_law_year") 1 [.int x t] (fun v => ∃ (y : Int) (t : Tok), v = .int y t ∧ 533 ≤ y)) ?_ fun cYear => ?_
  · clear hlo hwl hrd hlay hpre as vals args hg hmg hD hcd hd ho kV dV doc cd pm o fa cTrunc cFromJd mC cML cToJd cToJd2 cToJdA cLeapT cLeapF cToJdS1 cToJdS5 cToJdS6 cFromJdA cToJu mFirst mLater cToJuS1 cToJuS5 cToJuS6 mS13 cFromJu mBack mBackLater cCop
    intro p loose mean mg' mb' x t 
    clear KX Y G mb mg s₁ s₀
    unfold ClI
    intro dp un gd cn cs a ccd cl outer A₀ base h₀ L m₀ news s Q E B F X N T hk hd hu hret
    k_dflt k_extra "my enter"
    k_steps
    all_goals (refine endI hret (by assumption) (by assumption) ⟨_, _, rfl, ?_⟩; first | omega | exact year_lo _)
  k_with "tree" => simp only [lawCell]
  k_with "my join" => ((fail_if_success (with_reducible rename KPfMark => hMk)); (rename Fr _ _ _ _ => cF'); (rename News _ _ _ _ => cN'); (refine' kcj (fun (b : Int) (t : Tok) => Value.int b t) _ cF' cN' (fun u' hMark' => ?_) ?_); rotate_left; (all_goals (try k_fold)))
  k_with "my call" => first
    | ((with_reducible show wpAny _ _ (call (Value.ref (ktn_at% "to_julian")) _) _ _ _); refine' useT (mFirst _ _ _ _ _ _ _ _) ?kB ?kF ?kX ?kN ?kT ?kK ?kd ?ku ?_; (case kB => k_asm); (case kF => k_asm); (case kX => k_asm); (case kN => k_asm); (case kT => k_asm); (case kK => first | exact rfl | assumption); (case kd => cb_room); (case ku => cb_units); intro D' t1' t2' t3' n' h' tk' F' N' hl'; (try simp only [AllLt, and_true] at hl'); (try k_sweep); (try dsimp only); (try k_fold))
    | ((with_reducible show wpAny _ _ (call (Value.ref (ktn_at% "to_julian")) _) _ _ _); refine' useT (mLater _ _ _ _ _ _ _ _ _ _ _ _ ?p0 ?p1 ?p2 ?p3 ?p4 ?p5 ?p6) ?kB ?kF ?kX ?kN ?kT ?kK ?kd ?ku ?_; (case kB => k_asm); (case kF => k_asm); (case kX => k_asm); (case kN => k_asm); (case kT => k_asm); (case kK => first | exact rfl | assumption); (case kd => cb_room); (case ku => cb_units); (case p0 => first | assumption | exact p_m1 _ | exact p_m2 _ | exact p_d1 _ | exact p_d2 _ | exact p_e1 _ | exact p_e2 _ | exact p_t _ | exact p_13a _ _ | exact p_13b _ _ (by assumption) | exact p_j1 _ _ | exact p_j2 _ _ | exact p_j3 _ _ | omega | l_fact); (case p1 => first | assumption | exact p_m1 _ | exact p_m2 _ | exact p_d1 _ | exact p_d2 _ | exact p_e1 _ | exact p_e2 _ | exact p_t _ | exact p_13a _ _ | exact p_13b _ _ (by assumption) | exact p_j1 _ _ | exact p_j2 _ _ | exact p_j3 _ _ | omega | l_fact); (case p2 => first | assumption | exact p_m1 _ | exact p_m2 _ | exact p_d1 _ | exact p_d2 _ | exact p_e1 _ | exact p_e2 _ | exact p_t _ | exact p_13a _ _ | exact p_13b _ _ (by assumption) | exact p_j1 _ _ | exact p_j2 _ _ | exact p_j3 _ _ | omega | l_fact); (case p3 => first | assumption | exact p_m1 _ | exact p_m2 _ | exact p_d1 _ | exact p_d2 _ | exact p_e1 _ | exact p_e2 _ | exact p_t _ | exact p_13a _ _ | exact p_13b _ _ (by assumption) | exact p_j1 _ _ | exact p_j2 _ _ | exact p_j3 _ _ | omega | l_fact); (case p4 => first | assumption | exact p_m1 _ | exact p_m2 _ | exact p_d1 _ | exact p_d2 _ | exact p_e1 _ | exact p_e2 _ | exact p_t _ | exact p_13a _ _ | exact p_13b _ _ (by assumption) | exact p_j1 _ _ | exact p_j2 _ _ | exact p_j3 _ _ | omega | l_fact); (case p5 => first | assumption | exact p_m1 _ | exact p_m2 _ | exact p_d1 _ | exact p_d2 _ | exact p_e1 _ | exact p_e2 _ | exact p_t _ | exact p_13a _ _ | exact p_13b _ _ (by assumption) | exact p_j1 _ _ | exact p_j2 _ _ | exact p_j3 _ _ | omega | l_fact); (case p6 => first | assumption | exact p_m1 _ | exact p_m2 _ | exact p_d1 _ | exact p_d2 _ | exact p_e1 _ | exact p_e2 _ | exact p_t _ | exact p_13a _ _ | exact p_13b _ _ (by assumption) | exact p_j1 _ _ | exact p_j2 _ _ | exact p_j3 _ _ | omega | l_fact); intro D' t1' t2' t3' n' h' tk' F' N' hl'; (try simp only [AllLt, and_true] at hl'); (try k_sweep); (try dsimp only); (try k_fold))
    | ((with_reducible show wpAny _ _ (call (Value.ref (ktn_at% "to_julian")) _) _ _ _); refine' useT (cToJu _ _ _ _ _ _ _ _ _ _ _ ?p0 ?p1 ?p2 ?p3 ?p4 ?p5) ?kB ?kF ?kX ?kN ?kT ?kK ?kd ?ku ?_; (case kB => k_asm); (case kF => k_asm); (case kX => k_asm); (case kN => k_asm); (case kT => k_asm); (case kK => first | exact rfl | assumption); (case kd => cb_room); (case ku => cb_units); (case p0 => first | assumption | exact p_m1 _ | exact p_m2 _ | exact p_d1 _ | exact p_d2 _ | exact p_e1 _ | exact p_e2 _ | exact p_t _ | exact p_13a _ _ | exact p_13b _ _ (by assumption) | exact p_j1 _ _ | exact p_j2 _ _ | exact p_j3 _ _ | omega | l_fact); (case p1 => first | assumption | exact p_m1 _ | exact p_m2 _ | exact p_d1 _ | exact p_d2 _ | exact p_e1 _ | exact p_e2 _ | exact p_t _ | exact p_13a _ _ | exact p_13b _ _ (by assumption) | exact p_j1 _ _ | exact p_j2 _ _ | exact p_j3 _ _ | omega | l_fact); (case p2 => first | assumption | exact p_m1 _ | exact p_m2 _ | exact p_d1 _ | exact p_d2 _ | exact p_e1 _ | exact p_e2 _ | exact p_t _ | exact p_13a _ _ | exact p_13b _ _ (by assumption) | exact p_j1 _ _ | exact p_j2 _ _ | exact p_j3 _ _ | omega | l_fact); (case p3 => first | assumption | exact p_m1 _ | exact p_m2 _ | exact p_d1 _ | exact p_d2 _ | exact p_e1 _ | exact p_e2 _ | exact p_t _ | exact p_13a _ _ | exact p_13b _ _ (by assumption) | exact p_j1 _ _ | exact p_j2 _ _ | exact p_j3 _ _ | omega | l_fact); (case p4 => first | assumption | exact p_m1 _ | exact p_m2 _ | exact p_d1 _ | exact p_d2 _ | exact p_e1 _ | exact p_e2 _ | exact p_t _ | exact p_13a _ _ | exact p_13b _ _ (by assumption) | exact p_j1 _ _ | exact p_j2 _ _ | exact p_j3 _ _ | omega | l_fact); (case p5 => first | assumption | exact p_m1 _ | exact p_m2 _ | exact p_d1 _ | exact p_d2 _ | exact p_e1 _ | exact p_e2 _ | exact p_t _ | exact p_13a _ _ | exact p_13b _ _ (by assumption) | exact p_j1 _ _ | exact p_j2 _ _ | exact p_j3 _ _ | omega | l_fact); intro D' t1' t2' t3' n' h' tk' F' N' hl'; (try simp only [AllLt, and_true] at hl'); (try k_sweep); (try dsimp only); (try k_fold))
    | ((with_reducible show wpAny _ _ (call (Value.ref (ktn_at% "from_julian")) _) _ _ _); refine' useT (mBackLater _ _ _ _ _ _ _ _ _ _ _ _ ?p0 ?p1 ?p2 ?p3 ?p4 ?p5 ?p6) ?kB ?kF ?kX ?kN ?kT ?kK ?kd ?ku ?_; (case kB => k_asm); (case kF => k_asm); (case kX => k_asm); (case kN => k_asm); (case kT => k_asm); (case kK => first | exact rfl | assumption); (case kd => cb_room); (case ku => cb_units); (case p0 => first | assumption | exact p_m1 _ | exact p_m2 _ | exact p_d1 _ | exact p_d2 _ | exact p_e1 _ | exact p_e2 _ | exact p_t _ | exact p_13a _ _ | exact p_13b _ _ (by assumption) | exact p_j1 _ _ | exact p_j2 _ _ | exact p_j3 _ _ | omega | l_fact); (case p1 => first | assumption | exact p_m1 _ | exact p_m2 _ | exact p_d1 _ | exact p_d2 _ | exact p_e1 _ | exact p_e2 _ | exact p_t _ | exact p_13a _ _ | exact p_13b _ _ (by assumption) | exact p_j1 _ _ | exact p_j2 _ _ | exact p_j3 _ _ | omega | l_fact); (case p2 => first | assumption | exact p_m1 _ | exact p_m2 _ | exact p_d1 _ | exact p_d2 _ | exact p_e1 _ | exact p_e2 _ | exact p_t _ | exact p_13a _ _ | exact p_13b _ _ (by assumption) | exact p_j1 _ _ | exact p_j2 _ _ | exact p_j3 _ _ | omega | l_fact); (case p3 => first | assumption | exact p_m1 _ | exact p_m2 _ | exact p_d1 _ | exact p_d2 _ | exact p_e1 _ | exact p_e2 _ | exact p_t _ | exact p_13a _ _ | exact p_13b _ _ (by assumption) | exact p_j1 _ _ | exact p_j2 _ _ | exact p_j3 _ _ | omega | l_fact); (case p4 => first | assumption | exact p_m1 _ | exact p_m2 _ | exact p_d1 _ | exact p_d2 _ | exact p_e1 _ | exact p_e2 _ | exact p_t _ | exact p_13a _ _ | exact p_13b _ _ (by assumption) | exact p_j1 _ _ | exact p_j2 _ _ | exact p_j3 _ _ | omega | l_fact); (case p5 => first | assumption | exact p_m1 _ | exact p_m2 _ | exact p_d1 _ | exact p_d2 _ | exact p_e1 _ | exact p_e2 _ | exact p_t _ | exact p_13a _ _ | exact p_13b _ _ (by assumption) | exact p_j1 _ _ | exact p_j2 _ _ | exact p_j3 _ _ | omega | l_fact); (case p6 => first | assumption | exact p_m1 _ | exact p_m2 _ | exact p_d1 _ | exact p_d2 _ | exact p_e1 _ | exact p_e2 _ | exact p_t _ | exact p_13a _ _ | exact p_13b _ _ (by assumption) | exact p_j1 _ _ | exact p_j2 _ _ | exact p_j3 _ _ | omega | l_fact); intro D' t1' t2' t3' n' h' tk' F' N' hl'; (try simp only [AllLt, and_true] at hl'); (try k_sweep); (try dsimp only); (try k_fold))
    | ((with_reducible show wpAny _ _ (call (Value.ref (ktn_at% "from_julian")) _) _ _ _); refine' useT (mBack _ _ _ _ _ _ _ _ _ _ _ ?p0 ?p1 ?p2 ?p3 ?p4 ?p5) ?kB ?kF ?kX ?kN ?kT ?kK ?kd ?ku ?_; (case kB => k_asm); (case kF => k_asm); (case kX => k_asm); (case kN => k_asm); (case kT => k_asm); (case kK => first | exact rfl | assumption); (case kd => cb_room); (case ku => cb_units); (case p0 => first | assumption | exact p_m1 _ | exact p_m2 _ | exact p_d1 _ | exact p_d2 _ | exact p_e1 _ | exact p_e2 _ | exact p_t _ | exact p_13a _ _ | exact p_13b _ _ (by assumption) | exact p_j1 _ _ | exact p_j2 _ _ | exact p_j3 _ _ | omega | l_fact); (case p1 => first | assumption | exact p_m1 _ | exact p_m2 _ | exact p_d1 _ | exact p_d2 _ | exact p_e1 _ | exact p_e2 _ | exact p_t _ | exact p_13a _ _ | exact p_13b _ _ (by assumption) | exact p_j1 _ _ | exact p_j2 _ _ | exact p_j3 _ _ | omega | l_fact); (case p2 => first | assumption | exact p_m1 _ | exact p_m2 _ | exact p_d1 _ | exact p_d2 _ | exact p_e1 _ | exact p_e2 _ | exact p_t _ | exact p_13a _ _ | exact p_13b _ _ (by assumption) | exact p_j1 _ _ | exact p_j2 _ _ | exact p_j3 _ _ | omega | l_fact); (case p3 => first | assumption | exact p_m1 _ | exact p_m2 _ | exact p_d1 _ | exact p_d2 _ | exact p_e1 _ | exact p_e2 _ | exact p_t _ | exact p_13a _ _ | exact p_13b _ _ (by assumption) | exact p_j1 _ _ | exact p_j2 _ _ | exact p_j3 _ _ | omega | l_fact); (case p4 => first | assumption | exact p_m1 _ | exact p_m2 _ | exact p_d1 _ | exact p_d2 _ | exact p_e1 _ | exact p_e2 _ | exact p_t _ | exact p_13a _ _ | exact p_13b _ _ (by assumption) | exact p_j1 _ _ | exact p_j2 _ _ | exact p_j3 _ _ | omega | l_fact); (case p5 => first | assumption | exact p_m1 _ | exact p_m2 _ | exact p_d1 _ | exact p_d2 _ | exact p_e1 _ | exact p_e2 _ | exact p_t _ | exact p_13a _ _ | exact p_13b _ _ (by assumption) | exact p_j1 _ _ | exact p_j2 _ _ | exact p_j3 _ _ | omega | l_fact); intro D' t1' t2' t3' n' h' tk' F' N' hl'; (try simp only [AllLt, and_true] at hl'); (try k_sweep); (try dsimp only); (try k_fold))
    | ((with_reducible show wpAny _ _ (call (Value.ref (ktn_at% "to_julian")) _) _ _ _); refine' useT (cToJuS1 _ _ _ _ _ _ _ _ _ _ ?p0) ?kB ?kF ?kX ?kN ?kT ?kK ?kd ?ku ?_; (case kB => k_asm); (case kF => k_asm); (case kX => k_asm); (case kN => k_asm); (case kT => k_asm); (case kK => first | exact rfl | assumption); (case kd => cb_room); (case ku => cb_units); (case p0 => first | assumption | exact p_m1 _ | exact p_m2 _ | exact p_d1 _ | exact p_d2 _ | exact p_e1 _ | exact p_e2 _ | exact p_t _ | exact p_13a _ _ | exact p_13b _ _ (by assumption) | exact p_j1 _ _ | exact p_j2 _ _ | exact p_j3 _ _ | omega | l_fact); intro D' t1' t2' t3' n' h' tk' F' N' hl'; (try simp only [AllLt, and_true] at hl'); (try k_sweep); (try dsimp only); (try k_fold))
    | ((with_reducible show wpAny _ _ (call (Value.ref (ktn_at% "to_julian")) _) _ _ _); refine' useT (mS13 _ _ _ _ _ _ _ _ _ _ ?p0) ?kB ?kF ?kX ?kN ?kT ?kK ?kd ?ku ?_; (case kB => k_asm); (case kF => k_asm); (case kX => k_asm); (case kN => k_asm); (case kT => k_asm); (case kK => first | exact rfl | assumption); (case kd => cb_room); (case ku => cb_units); (case p0 => first | assumption | exact p_m1 _ | exact p_m2 _ | exact p_d1 _ | exact p_d2 _ | exact p_e1 _ | exact p_e2 _ | exact p_t _ | exact p_13a _ _ | exact p_13b _ _ (by assumption) | exact p_j1 _ _ | exact p_j2 _ _ | exact p_j3 _ _ | omega | l_fact); intro D' t1' t2' t3' n' h' tk' F' N' hl'; (try simp only [AllLt, and_true] at hl'); (try k_sweep); (try dsimp only); (try k_fold))
    | ((with_reducible show wpAny _ _ (call (Value.ref (ktn_at% "from_jd_julian")) _) _ _ _); refine' useT (mC _ _ _ _ _ _ _) ?kB ?kF ?kX ?kN ?kT ?kK ?kd ?ku ?_; (case kB => k_asm); (case kF => k_asm); (case kX => k_asm); (case kN => k_asm); (case kT => k_asm); (case kK => first | exact rfl | assumption); (case kd => cb_room); (case ku => cb_units); intro D' t1' t2' t3' n' h' tk' F' N' hl'; (try simp only [AllLt, and_true] at hl'); (try k_sweep); (try dsimp only); (try k_fold))
    | ((with_reducible show wpAny _ _ (call (Value.ref (ktn_at% "to_jd_coptic")) _) _ _ _); refine' useI (cCop _ _ _ _ _ _ _ _ _) ?kB ?kF ?kX ?kN ?kT ?kK ?kd ?ku ?_; (case kB => k_asm); (case kF => k_asm); (case kX => k_asm); (case kN => k_asm); (case kT => k_asm); (case kK => first | exact rfl | assumption); (case kd => cb_room); (case ku => cb_units); intro v' h' tk' F' N' hv'; obtain ⟨t', rfl⟩ := hv'; (try k_sweep); (try dsimp only); (try k_fold))
    | ((with_reducible show wpAny _ _ (call (Value.ref (ktn_at% "_law_year")) _) _ _ _); refine' useI (cYear _ _ _ _ _ _ _) ?kB ?kF ?kX ?kN ?kT ?kK ?kd ?ku ?_; (case kB => k_asm); (case kF => k_asm); (case kX => k_asm); (case kN => k_asm); (case kT => k_asm); (case kK => first | exact rfl | assumption); (case kd => cb_room); (case ku => cb_units); intro v' h' tk' F' N' hv'; obtain ⟨y', t', rfl, hy'⟩ := hv'; (try k_sweep); (try dsimp only); (try k_fold))
    | (k_call_by "_law_cell" lawCell (fun (_ : List Int) (i : Int) => 0 ≤ i))
    | (k_extra "my enter")
  lgec_behind G ho hd hcd hD hmg hpre hlay hrd hwl hlo cd
  (try clear Y)
  (try (with_reducible rename Flt.MathXP _ _ _ => q1; clear q1))
  (try (with_reducible rename LooseAre _ _ _ => q1; clear q1))
  (try (with_reducible rename Tables _ _ _ _ => q1; clear q1))
  (try (with_reducible rename TopE _ _ _ _ => q1; clear q1))
  (try (with_reducible rename TopW _ _ _ => q1; clear q1))
  (try (with_reducible rename BMod _ _ _ _ _ => q1; clear q1))
  (repeat (with_reducible rename Heap.CodeRec _ _ _ => q1; clear q1))
  (repeat (with_reducible rename _ = Data.func _ => q1; clear q1))
  (repeat (with_reducible rename mg _ = some _ => q1; clear q1))
  (all_goals try k_fold)
  repeat' (first | (k_unfold; (try dsimp only)) | walk1 | (dsimp only; walk1) | (leave1; walk_say "STEP leave1"; try dsimp only) | fail "no step")
  (all_goals (try k_data))
  all_goals first
    | (exfalso; (with_reducible rename _ ≠ _ => hq); first | exact hq rfl | exact hq (if_neg (by omega)))
    | (rw [cJ_end]; exact goodWG_reads (d := WData.bool true) (by with_reducible assumption) (by with_reducible assumption) (by row_bare) (no_raise _) (by w_reads; first | done | fail "a goal is left") unshared_nil (post_true _) (by row_os))
