import PyProof.Rows.All
import Wide.All
import OpenK.AllK
import Wide.FinOn
import PySem.Challenge.RW_bb0064_01
set_option Elab.async false

-- Head1
section
open PySem PySem.W PyProof.Rows
namespace Mine
set_option maxRecDepth 100000 in
set_option maxHeartbeats 8000000 in
open_top hd for PySem.Challenge.rw_bb0064_01
end Mine
end

-- Base
section
open PySem PySem.W PyProof.Rows PySem.Spec PySem.Calls
set_option maxRecDepth 100000
namespace Mine

/-- what stands where a def of the text is called -/
structure Site (w : World) (pg : Program) (lo : List Str) (mean : ExcName → Option Value) (mg mb : Str → Option Value) (A₀ : Around) (base h₀ : Heap) (outer : List Env) (L : Addr) (m : Str → Option Value) (news : List (Addr × Obj)) (cs : Scope) (s : Shared) : Prop where
  B : Below A₀ base outer h₀
  F : Fr h₀ L s.heap m
  X : (hd.heap_39 w.params).In h₀
  N : News h₀ L s.heap news
  T : Top pg lo mean mg mb h₀
  hk : cs.kind = .function
  hb : AllBare s.gens

abbrev Back (h₀ : Heap) (L : Addr) (m : Str → Option Value) (news : List (Addr × Obj)) (s : Shared) (P : Value → List (Addr × Obj) → Prop) (Q : Value → Shared → Prop) : Prop :=
  ∀ (r : Value) (tl : List (Addr × Obj)) (h' : Heap) (g' : Array GenState) (tk' : Nat), P r tl → AllBare g' → Fr h₀ L h' m → News h₀ L h' (tl ++ news) → Q r { s with heap := h', gens := g', toks := tk' }

/-- the def at f, called on vs, hands back a value and new objects as P says -/
def Spec (w : World) (f : Addr) (dep : Nat) (vs : List Value) (news : List (Addr × Obj)) (P : Value → List (Addr × Obj) → Prop) : Prop :=
  ∀ (pg : Program) (lo : List Str) (mean : ExcName → Option Value) (mg mb : Str → Option Value) (dp un : Nat) (gd : Option (List Code)) (cn : Str) (cs : Scope) (a : Addr) (ccd : Value) (cl : List (Str × Addr)) (outer : List Env) (A₀ : Around) (base h₀ : Heap) (L : Addr) (m : Str → Option Value) (s : Shared) (Q E : Value → Shared → Prop),
    Site w pg lo mean mg mb A₀ base h₀ outer L m news cs s → dp + dep < recursionLimit → un + 8 * dep < cLine → Back h₀ L m news s P Q →
    wpAny (model PySem.Challenge.rw_bb0064_01.row.prog w) (ktrTop dp un gd cn cs L a ccd cl outer) (call (.ref f) vs) Q E s

abbrev tupO (vs : List Value) : Obj := { cls := .type "tuple", data := .seq vs.toArray }
end Mine

namespace Mine
/-- a frame's map with the listed names said -/
def ov : List (Str × Value) → (Str → Option Value) → Str → Option Value
  | [], u => u
  | p :: r, u => fun y => if y = p.1 then some p.2 else ov r u y

theorem ov_self : ∀ (ps : List (Str × Value)) (u : Str → Option Value), (∀ p ∈ ps, u p.1 = some p.2) → ov ps u = u
  | [], _, _ => rfl
  | p :: r, u, h => by
    funext y
    show (if y = p.1 then some p.2 else ov r u y) = u y
    split
    · next e => rw [e, h p (.head _)]
    · rw [ov_self r u fun q hq => h q (.tail _ hq)]

/-- a way's end, held so that the walk stands still there -/
def Stand (P : Prop) : Prop := P

def WEnd {σ : Type} (h₀ : Heap) (L : Addr) (s : Shared) (Led : σ → List (Addr × Obj)) (ps : σ → List (Str × Value)) (P : σ → Prop) (μ : σ → Nat) (Q : Flow → Shared → Prop) (n : Nat) (f : Flow) (s₃ : Shared) : Prop :=
  match f with
  | .ret v => Q (.ret v) s₃
  | .brk => Q .next s₃
  | _ => ∃ (c : σ) (h' : Heap) (g' : Array GenState) (tk : Nat) (m' : Str → Option Value) (nw : List (Addr × Obj)), s₃ = { s with heap := h', gens := g', toks := tk } ∧ AllBare g' ∧ Fr h₀ L h' m' ∧ News h₀ L h' nw ∧ (∀ p ∈ Led c, p ∈ nw) ∧ (∀ p ∈ ps c, m' p.1 = some p.2) ∧ P c ∧ μ c < n

section
variable {prog : Program} {w : World} {A : Around} {E : Value → Shared → Prop} {Q : Flow → Shared → Prop} {s : Shared} {env : Env} {h₀ : Heap} {L : Addr}

theorem while_by {σ : Type} {test : Expr} {body : List Stmt} {pos : Pos} {m₀ : Str → Option Value} {nw : List (Addr × Obj)} (Led : σ → List (Addr × Obj)) (ps : σ → List (Str × Value)) (P : σ → Prop) (μ : σ → Nat)
    (F : Fr h₀ L s.heap m₀) (N : News h₀ L s.heap nw) (hb : AllBare s.gens) (h0 : ∃ c₀ : σ, (∀ p ∈ Led c₀, p ∈ nw) ∧ (∀ p ∈ ps c₀, m₀ p.1 = some p.2) ∧ P c₀)
    (turn : ∀ (c : σ) (u : Str → Option Value) (h : Heap) (g : Array GenState) (tk : Nat), P c → Fr h₀ L h (ov (ps c) u) → News h₀ L h (Led c) → AllBare g →
      wpAny (model prog w) A (isTrue test env (eval test env)) (fun b s₂ =>
        if b = true then wpAny (model prog w) A (execs body env) (fun f s₃ => Stand (WEnd h₀ L s Led ps P μ Q (μ c) f s₃)) E s₂ else Q .next s₂) E { s with heap := h, gens := g, toks := tk })
    (hE : PassesOwn (model prog w) A env E) :
    wpAny (model prog w) A (exec (.While test body [] pos) env) Q E s := by
  obtain ⟨c₀, hn, hk, hp⟩ := h0
  refine wpAny_While (codeAny_whileLoop (fun n s' => ∃ (c : σ) (u : Str → Option Value) (h : Heap) (g : Array GenState) (tk : Nat), s' = { s with heap := h, gens := g, toks := tk } ∧ μ c = n ∧ P c ∧ Fr h₀ L h (ov (ps c) u) ∧ News h₀ L h (Led c) ∧ AllBare g) ?_ (μ c₀)
    ⟨c₀, m₀, s.heap, s.gens, s.toks, rfl, rfl, hp, (ov_self _ _ hk).symm ▸ F, fun p h => N p (hn p h), hb⟩)
  rintro n s' ⟨c, u, h, g, tk, rfl, hm, hp', F', N', hb'⟩
  subst hm
  refine wpAny_mono (turn c u h g tk hp' F' N' hb') (fun b s₂ h₂ => ?_) hE
  have next : ∀ s₃, WEnd h₀ L s Led ps P μ Q (μ c) .next s₃ → ∃ n', n' < μ c ∧ ∃ (c : σ) (u : Str → Option Value) (h : Heap) (g : Array GenState) (tk : Nat), s₃ = { s with heap := h, gens := g, toks := tk } ∧ μ c = n' ∧ P c ∧ Fr h₀ L h (ov (ps c) u) ∧ News h₀ L h (Led c) ∧ AllBare g := by
    rintro s₃ ⟨c', h', g', tk', m', nw', e, hb2, F2, N2, hn2, hk2, hp2, hm2⟩
    exact ⟨μ c', hm2, c', m', h', g', tk', e, rfl, hp2, (ov_self _ _ hk2).symm ▸ F2, fun p h => N2 p (hn2 p h), hb2⟩
  cases b with
  | false =>
    simp only [Bool.false_eq_true, if_false] at h₂ ⊢
    exact wpAny_execs_nil h₂
  | true =>
    simp only [if_true] at h₂ ⊢
    refine wpAny_mono h₂ (fun f s₃ h₃ => ?_) hE
    cases f with
    | next => exact next s₃ h₃
    | cont => exact next s₃ h₃
    | brk => exact h₃
    | ret v => exact h₃
end

theorem wend {σ : Type} {h₀ h' : Heap} {L : Addr} {s : Shared} {Led : σ → List (Addr × Obj)} {ps : σ → List (Str × Value)} {P : σ → Prop} {μ : σ → Nat} {Q : Flow → Shared → Prop} {n : Nat} {g' : Array GenState} {tk : Nat} {m' : Str → Option Value} {nw : List (Addr × Obj)} (c : σ)
    (hb : AllBare g') (F : Fr h₀ L h' m') (N : News h₀ L h' nw) (hn : ∀ p ∈ Led c, p ∈ nw) (hk : ∀ p ∈ ps c, m' p.1 = some p.2) (hp : P c) (hm : μ c < n) :
    Stand (WEnd h₀ L s Led ps P μ Q n .next { s with heap := h', gens := g', toks := tk }) :=
  ⟨c, h', g', tk, m', nw, rfl, hb, F, N, hn, hk, hp, hm⟩

/-- where the walk is to stand still -/
theorem stand {P : Prop} (h : Stand P) : P := h

theorem back_int {h₀ h' : Heap} {L : Addr} {m : Str → Option Value} {news : List (Addr × Obj)} {nw : List (Addr × Obj)} {s : Shared} {x y : Int} {t : Tok} {Q : Value → Shared → Prop} {g' : Array GenState} {tk' : Nat}
    (hret : Back h₀ L m news s (fun r tl => ∃ t', r = .int x t' ∧ tl = []) Q) (F : Fr h₀ L h' m) (N : News h₀ L h' nw) (hb : AllBare g') (hs : ∀ p ∈ news, p ∈ nw) (e : y = x) : Q (.int y t) { s with heap := h', gens := g', toks := tk' } := by
  subst e
  exact hret _ [] h' g' tk' ⟨t, rfl, rfl⟩ hb F fun p h => N p (hs p h)
end Mine
end

-- Inv
section
open PySem PySem.W PyProof.Rows PySem.Spec PySem.Calls
set_option maxRecDepth 100000
set_option maxHeartbeats 4000000
namespace Mine
def invGo : Nat → Int → Int → Int → Int → Int
  | 0, lm, _, _, _ => lm
  | k + 1, lm, low, hm, high => if 1 < low then invGo k (hm - lm * Int.fdiv high low) (high - low * Int.fdiv high low) lm low else lm
def invM (x n : Int) : Int := if x = 0 then 0 else Int.fmod (invGo n.toNat 1 (Int.fmod x n) 0 n) n

local macro_rules | `(tactic| walk_at "exec While Compare cons nil") => `(tactic| (k_here; refine stand ?_))

theorem fdiv_bd {a b : Int} (ha : 0 ≤ a) (hb : 0 < b) : 0 ≤ a.fdiv b ∧ a.fdiv b ≤ a ∧ 0 ≤ a - b * a.fdiv b ∧ a - b * a.fdiv b < b := by
  rw [Int.fdiv_eq_ediv_of_nonneg _ (by omega)]
  have h1 := Int.emod_nonneg a (b := b) (by omega)
  have h2 := Int.emod_lt_of_pos a hb
  have h3 := Int.mul_ediv_add_emod a b
  refine ⟨Int.ediv_nonneg ha (by omega), ?_, by omega, by omega⟩
  exact Int.ediv_le_self _ ha

theorem inv_spec {w : World} {x n : Int} {t u : Tok} {news : List (Addr × Obj)} (hn : 0 < n) (hn2 : n ≤ 1000) :
    Spec w 28 1 [.int x t, .int n u] news (fun r tl => ∃ t', r = .int (invM x n) t' ∧ tl = []) := by
  unfold Spec
  intro pg lo mean mg mb dp un gd cn cs a ccd cl outer A₀ base h₀ L m s Q E S hd hu hret
  obtain ⟨B, F, X, N, T, hk, hb⟩ := S
  revert X
  k_fill
  intro X
  refine wpAny_call ?_
  k_dflt ktr_enter
  k_steps
  · exact back_int hret (by assumption) (by assumption) hb (fun _ h => h) (by simp only [invM]; simp_all)
  · unfold Stand
    rename Fr _ _ _ _ => F1
    rename News _ _ _ _ => N1
    refine while_by (σ := (Int × Int × Int × Int) × (Tok × Tok × Tok × Tok) × Nat) (fun _ => news) (fun c => [(Str.ofString "lm", .int c.1.1 c.2.1.1), (Str.ofString "low", .int c.1.2.1 c.2.1.2.1), (Str.ofString "hm", .int c.1.2.2.1 c.2.1.2.2.1), (Str.ofString "high", .int c.1.2.2.2 c.2.1.2.2.2), (Str.ofString "n", .int n u)])
      (fun c => 0 ≤ c.1.2.1 ∧ c.1.2.1 ≤ c.2.2 ∧ c.1.2.1 ≤ 1000 ∧ 0 ≤ c.1.2.2.2 ∧ c.1.2.2.2 ≤ 1000 ∧ invGo c.2.2 c.1.1 c.1.2.1 c.1.2.2.1 c.1.2.2.2 = invGo n.toNat 1 (Int.fmod x n) 0 n) (fun c => c.1.2.1.toNat) F1 N1 hb
      ⟨⟨(1, Int.fmod x n, 0, n), (_, _, _, _), n.toNat⟩, fun p h => .tail _ (.tail _ h), by kst_all, ?hp⟩ ?ht (by passes_own)
    case hp =>
      have e1 := Int.emod_lt_of_pos x hn
      have e2 := Int.emod_nonneg x (b := n) (by omega)
      dsimp only
      rw [Int.fmod_eq_emod_of_nonneg _ (by omega)]
      omega
    clear F1 N1
    rintro ⟨⟨lm, low, hm, high⟩, ⟨ta, tb, tc, td⟩, fu⟩ uu hh gg tkk ⟨p1, p2, p3, p4, p5, p6⟩ F2 N2 hb2
    dsimp only [ov] at p1 p2 p3 p4 p5 p6 F2 N2 ⊢
    have pd : 0 < low → 0 ≤ high.fdiv low ∧ high.fdiv low ≤ high ∧ 0 ≤ high - low * high.fdiv low ∧ high - low * high.fdiv low < low := fdiv_bd p4
    have pr : 1 < low → 0 ≤ high.fdiv low ∧ high.fdiv low ≤ 1000 := fun h => ⟨(pd (by omega)).1, by have := pd (by omega); omega⟩
    k_steps
    · rename Fr _ _ _ _ => F3
      rename News _ _ _ _ => N3
      rename 1 < low => hl
      have q := pd (by omega)
      refine wend ⟨(hm - lm * high.fdiv low, high - low * high.fdiv low, lm, low), (_, _, _, _), fu - 1⟩ hb2 F3 N3 (by kcj_all) (by kst_all) ?_ ?_
      · dsimp only
        refine ⟨by omega, by omega, by omega, by omega, by omega, ?_⟩
        rw [← p6]
        obtain ⟨k, rfl⟩ : ∃ k, fu = k + 1 := ⟨fu - 1, by omega⟩
        rw [Nat.add_sub_cancel, invGo, if_pos hl]
      · dsimp only; omega
    · rename ¬ 1 < low => hl
      refine back_int hret (by assumption) (by assumption) hb2 (fun _ h => h) ?_
      unfold invM
      rw [if_neg (by assumption), ← p6]
      cases fu with
      | zero => rfl
      | succ k => rw [invGo, if_neg hl]
end Mine
end

-- Jac1
section
open PySem PySem.W PyProof.Rows PySem.Spec PySem.Calls
set_option maxRecDepth 100000
set_option maxHeartbeats 4000000
namespace Mine
abbrev T3 := Int × Int × Int
def RT3 (v : T3) (r : Value) (tl : List (Addr × Obj)) : Prop := ∃ D t1 t2 t3, r = .ref D ∧ tl = [(D, tupO [.int v.1 t1, .int v.2.1 t2, .int v.2.2 t3])]
def RT2 (v : Int × Int) (r : Value) (tl : List (Addr × Obj)) : Prop := ∃ D t1 t2, r = .ref D ∧ tl = [(D, tupO [.int v.1 t1, .int v.2 t2])]

theorem back_t3 {h₀ h' : Heap} {L : Addr} {m : Str → Option Value} {news nw : List (Addr × Obj)} {s : Shared} {x y z : Int} {t1 t2 t3 : Tok} {D : Addr} {v : T3} {Q : Value → Shared → Prop} {g' : Array GenState} {tk' : Nat}
    (hret : Back h₀ L m news s (RT3 v) Q) (F : Fr h₀ L h' m) (N : News h₀ L h' nw) (hb : AllBare g') (hs : ∀ p ∈ news, p ∈ nw) (hm : (D, tupO [.int x t1, .int y t2, .int z t3]) ∈ nw) (e : (x, y, z) = v) : Q (.ref D) { s with heap := h', gens := g', toks := tk' } := by
  subst e
  refine hret _ [_] h' g' tk' ⟨D, t1, t2, t3, rfl, rfl⟩ hb F fun p h => ?_
  rcases List.mem_cons.mp h with rfl | h
  · exact N _ hm
  · exact N p (hs p h)
theorem back_t2 {h₀ h' : Heap} {L : Addr} {m : Str → Option Value} {news nw : List (Addr × Obj)} {s : Shared} {x y : Int} {t1 t2 : Tok} {D : Addr} {v : Int × Int} {Q : Value → Shared → Prop} {g' : Array GenState} {tk' : Nat}
    (hret : Back h₀ L m news s (RT2 v) Q) (F : Fr h₀ L h' m) (N : News h₀ L h' nw) (hb : AllBare g') (hs : ∀ p ∈ news, p ∈ nw) (hm : (D, tupO [.int x t1, .int y t2]) ∈ nw) (e : (x, y) = v) : Q (.ref D) { s with heap := h', gens := g', toks := tk' } := by
  subst e
  refine hret _ [_] h' g' tk' ⟨D, t1, t2, rfl, rfl⟩ hb F fun p h => ?_
  rcases List.mem_cons.mp h with rfl | h
  · exact N _ hm
  · exact N p (hs p h)

theorem bdF {a P : Int} (h0 : 0 < P) (h1 : P ≤ 1000) : 0 ≤ a.fmod P ∧ a.fmod P < P := by
  rw [Int.fmod_eq_emod_of_nonneg _ (by omega)]
  exact ⟨Int.emod_nonneg _ (by omega), Int.emod_lt_of_pos _ h0⟩
theorem abF {a P : Int} (h0 : 0 < P) (h1 : P ≤ 1000) : (a.fmod P).natAbs < 18446744073709551616 := by have := bdF (a := a) h0 h1; omega
theorem abD {a b P : Int} (h0 : 0 < P) (h1 : P ≤ 1000) : (a.fmod P - b.fmod P).natAbs < 18446744073709551616 := by have := bdF (a := a) h0 h1; have := bdF (a := b) h0 h1; omega
theorem okL {a b : Int} (h : a.natAbs < 18446744073709551616) : IntMulOk a b := IntMulOk.of_left (intBits_le_64 (by omega) (by omega))
theorem okR {a b : Int} (h : b.natAbs < 18446744073709551616) : IntMulOk a b := IntMulOk.of_right (intBits_le_64 (by omega) (by omega))

local macro_rules | `(tactic| tb_start) => `(tactic| first | omega | exact abF (by assumption) (by assumption) | exact abD (by assumption) (by assumption))
local macro_rules | `(tactic| mul_fits) => `(tactic| first | exact okL (by tb_start) | exact okR (by tb_start))
local macro_rules | `(tactic| walk_at "binaryOp Pow int int") => `(tactic| (k_here; with_reducible refine pow_int_small (by decide) (by decide) (by tb_start) ?_))

theorem to_jac_spec {w : World} {p : Addr} {x y : Int} {t1 t2 : Tok} {news : List (Addr × Obj)} (hp : (p, tupO [.int x t1, .int y t2]) ∈ news) :
    Spec w 35 1 [.ref p] news (RT3 (x, y, 1)) := by
  unfold Spec
  intro pg lo mean mg mb dp un gd cn cs a ccd cl outer A₀ base h₀ L m s Q E S hd hu hret
  obtain ⟨B, F, X, N, T, hk, hb⟩ := S
  revert X
  k_fill
  intro X
  refine wpAny_call ?_
  k_dflt ktr_enter
  k_steps
  rename Fr h₀ L _ _ => F3
  rename News h₀ L _ _ => N3
  exact back_t3 hret F3 N3 hb (by kcj_all) (by k_mem) rfl

def jdbl (P : Int) (q : T3) : T3 :=
  if q.2.1 = 0 then (0, 0, 0) else
  let ysq := (q.2.1 ^ 2).fmod P
  let S := (4 * q.1 * ysq).fmod P
  let M := (3 * q.1 ^ 2 + 1 * q.2.2 ^ 4).fmod P
  let nx := (M ^ 2 - 2 * S).fmod P
  (nx, (M * (S - nx) - 8 * ysq ^ 2).fmod P, (2 * q.2.1 * q.2.2).fmod P)

theorem jdbl_spec {w : World} {p c : Addr} {x y z P NN gx gy : Int} {t1 t2 t3 u1 u2 u3 u4 u5 u6 : Tok} {news : List (Addr × Obj)} (hp : (p, tupO [.int x t1, .int y t2, .int z t3]) ∈ news)
    (hc : (c, tupO [.int P u1, .int NN u2, .int 1 u3, .int 0 u4, .int gx u5, .int gy u6]) ∈ news) (h0 : 0 < P) (h1 : P ≤ 1000) (hx : 0 ≤ x ∧ x < P) (hy : 0 ≤ y ∧ y < P) (hz : 0 ≤ z ∧ z < P) :
    Spec w 42 1 [.ref p, .ref c] news (RT3 (jdbl P (x, y, z))) := by
  unfold Spec
  intro pg lo mean mg mb dp un gd cn cs a ccd cl outer A₀ base h₀ L m s Q E S hd hu hret
  obtain ⟨B, F, X, N, T, hk, hb⟩ := S
  revert X
  k_fill
  intro X
  refine wpAny_call ?_
  k_dflt ktr_enter
  k_steps
  all_goals (rename Fr h₀ L _ _ => F3; rename News h₀ L _ _ => N3)
  · refine back_t3 hret F3 N3 hb (by kcj_all) (by k_mem) ?_
    unfold jdbl
    dsimp only
    rw [if_neg (by assumption)]
    rfl
  · refine back_t3 hret F3 N3 hb (by kcj_all) (by k_mem) ?_
    unfold jdbl
    dsimp only
    rw [if_pos (by assumption)]

theorem use3 {w : World} {f : Addr} {dep : Nat} {vs : List Value} {news : List (Addr × Obj)} {v : T3} {pg : Program} {lo : List Str} {mean : ExcName → Option Value} {mg mb : Str → Option Value} {dp un : Nat} {gd : Option (List Code)} {cn : Str} {cs : Scope} {a : Addr} {ccd : Value} {cl : List (Str × Addr)} {outer : List Env} {A₀ : Around} {base h₀ : Heap} {L : Addr} {m : Str → Option Value} {s : Shared} {Q E : Value → Shared → Prop}
    (hS : Spec w f dep vs news (RT3 v)) (B : Below A₀ base outer h₀) (F : Fr h₀ L s.heap m) (X : (hd.heap_39 w.params).In h₀) (N : News h₀ L s.heap news) (T : Top pg lo mean mg mb h₀) (hk : cs.kind = .function) (hb : AllBare s.gens)
    (hd : dp + dep < recursionLimit) (hu : un + 8 * dep < cLine)
    (k : ∀ (D : Addr) (t1 t2 t3 : Tok) (h' : Heap) (g' : Array GenState) (tk' : Nat), AllBare g' → Fr h₀ L h' m → News h₀ L h' ((D, tupO [.int v.1 t1, .int v.2.1 t2, .int v.2.2 t3]) :: news) → Q (.ref D) { s with heap := h', gens := g', toks := tk' }) :
    wpAny (model PySem.Challenge.rw_bb0064_01.row.prog w) (ktrTop dp un gd cn cs L a ccd cl outer) (call (.ref f) vs) Q E s := by
  refine hS pg lo mean mg mb dp un gd cn cs a ccd cl outer A₀ base h₀ L m s Q E ⟨B, F, X, N, T, hk, hb⟩ hd hu ?_
  rintro r tl h' g' tk' ⟨D, t1, t2, t3, rfl, rfl⟩ hb' F' N'
  exact k D t1 t2 t3 h' g' tk' hb' F' N'
theorem use2 {w : World} {f : Addr} {dep : Nat} {vs : List Value} {news : List (Addr × Obj)} {v : Int × Int} {pg : Program} {lo : List Str} {mean : ExcName → Option Value} {mg mb : Str → Option Value} {dp un : Nat} {gd : Option (List Code)} {cn : Str} {cs : Scope} {a : Addr} {ccd : Value} {cl : List (Str × Addr)} {outer : List Env} {A₀ : Around} {base h₀ : Heap} {L : Addr} {m : Str → Option Value} {s : Shared} {Q E : Value → Shared → Prop}
    (hS : Spec w f dep vs news (RT2 v)) (B : Below A₀ base outer h₀) (F : Fr h₀ L s.heap m) (X : (hd.heap_39 w.params).In h₀) (N : News h₀ L s.heap news) (T : Top pg lo mean mg mb h₀) (hk : cs.kind = .function) (hb : AllBare s.gens)
    (hd : dp + dep < recursionLimit) (hu : un + 8 * dep < cLine)
    (k : ∀ (D : Addr) (t1 t2 : Tok) (h' : Heap) (g' : Array GenState) (tk' : Nat), AllBare g' → Fr h₀ L h' m → News h₀ L h' ((D, tupO [.int v.1 t1, .int v.2 t2]) :: news) → Q (.ref D) { s with heap := h', gens := g', toks := tk' }) :
    wpAny (model PySem.Challenge.rw_bb0064_01.row.prog w) (ktrTop dp un gd cn cs L a ccd cl outer) (call (.ref f) vs) Q E s := by
  refine hS pg lo mean mg mb dp un gd cn cs a ccd cl outer A₀ base h₀ L m s Q E ⟨B, F, X, N, T, hk, hb⟩ hd hu ?_
  rintro r tl h' g' tk' ⟨D, t1, t2, rfl, rfl⟩ hb' F' N'
  exact k D t1 t2 h' g' tk' hb' F' N'
theorem useI {w : World} {f : Addr} {dep : Nat} {vs : List Value} {news : List (Addr × Obj)} {v : Int} {pg : Program} {lo : List Str} {mean : ExcName → Option Value} {mg mb : Str → Option Value} {dp un : Nat} {gd : Option (List Code)} {cn : Str} {cs : Scope} {a : Addr} {ccd : Value} {cl : List (Str × Addr)} {outer : List Env} {A₀ : Around} {base h₀ : Heap} {L : Addr} {m : Str → Option Value} {s : Shared} {Q E : Value → Shared → Prop}
    (hS : Spec w f dep vs news (fun r tl => ∃ t', r = .int v t' ∧ tl = [])) (B : Below A₀ base outer h₀) (F : Fr h₀ L s.heap m) (X : (hd.heap_39 w.params).In h₀) (N : News h₀ L s.heap news) (T : Top pg lo mean mg mb h₀) (hk : cs.kind = .function) (hb : AllBare s.gens)
    (hd : dp + dep < recursionLimit) (hu : un + 8 * dep < cLine)
    (k : ∀ (t1 : Tok) (h' : Heap) (g' : Array GenState) (tk' : Nat), AllBare g' → Fr h₀ L h' m → News h₀ L h' news → Q (.int v t1) { s with heap := h', gens := g', toks := tk' }) :
    wpAny (model PySem.Challenge.rw_bb0064_01.row.prog w) (ktrTop dp un gd cn cs L a ccd cl outer) (call (.ref f) vs) Q E s := by
  refine hS pg lo mean mg mb dp un gd cn cs a ccd cl outer A₀ base h₀ L m s Q E ⟨B, F, X, N, T, hk, hb⟩ hd hu ?_
  rintro r tl h' g' tk' ⟨t1, rfl, rfl⟩ hb' F' N'
  exact k t1 h' g' tk' hb' F' N'
end Mine
end

-- Jac2
section
open PySem PySem.W PyProof.Rows PySem.Spec PySem.Calls
set_option maxRecDepth 100000
set_option maxHeartbeats 4000000
namespace Mine
local macro_rules | `(tactic| tb_start) => `(tactic| first | omega | exact abF (by assumption) (by assumption) | exact abD (by assumption) (by assumption))
local macro_rules | `(tactic| mul_fits) => `(tactic| first | exact okL (by tb_start) | exact okR (by tb_start))
local macro_rules | `(tactic| walk_at "binaryOp Pow int int") => `(tactic| (k_here; with_reducible refine pow_int_small (by decide) (by decide) (by tb_start) ?_))
-- what a call by a Spec leaves: the frames, the ledger, the room
local macro_rules | `(tactic| ktn_open) => `(tactic| (
  (case k1 => k_asm); (case k2 => k_asm); (case k3 => k_asm); (case k4 => k_asm); (case k5 => k_asm); (case kK => first | exact rfl | assumption); (case kb => assumption); (case kd => ktr_room); (case ku => ktr_units)))
local macro_rules | `(tactic| walk_at "call ref") => `(tactic| (k_here; k_dflt (
  refine' use3 (jdbl_spec ?m1 ?m2 ?b0 ?b1 ?b2 ?b3 ?b4) ?k1 ?k2 ?k3 ?k4 ?k5 ?kK ?kb ?kd ?ku ?_; ktn_open; (case m1 => k_mem); (case m2 => k_mem); (case b0 => assumption); (case b1 => assumption); (case b2 => assumption); (case b3 => assumption); (case b4 => assumption);
  intro D t1 t2 t3 h' g' tk' hb' F' N'; (try dsimp only); (try k_fold))))

def jadd (P : Int) (p q : T3) : T3 :=
  if p.2.1 = 0 then q else if q.2.1 = 0 then p else
  let U1 := (p.1 * q.2.2 ^ 2).fmod P
  let U2 := (q.1 * p.2.2 ^ 2).fmod P
  let S1 := (p.2.1 * q.2.2 ^ 3).fmod P
  let S2 := (q.2.1 * p.2.2 ^ 3).fmod P
  if U1 = U2 then (if S1 ≠ S2 then (0, 0, 1) else jdbl P p) else
  let H := U2 - U1
  let R := S2 - S1
  let H2 := (H * H).fmod P
  let H3 := (H * H2).fmod P
  let U1H2 := (U1 * H2).fmod P
  let nx := (R ^ 2 - H3 - 2 * U1H2).fmod P
  (nx, (R * (U1H2 - nx) - S1 * H3).fmod P, (H * p.2.2 * q.2.2).fmod P)

theorem jadd_spec {w : World} {p q c : Addr} {x y z x' y' z' P NN gx gy : Int} {t1 t2 t3 t1' t2' t3' u1 u2 u3 u4 u5 u6 : Tok} {news : List (Addr × Obj)} (hp : (p, tupO [.int x t1, .int y t2, .int z t3]) ∈ news) (hq : (q, tupO [.int x' t1', .int y' t2', .int z' t3']) ∈ news)
    (hc : (c, tupO [.int P u1, .int NN u2, .int 1 u3, .int 0 u4, .int gx u5, .int gy u6]) ∈ news) (h0 : 0 < P) (h1 : P ≤ 1000) (hx : 0 ≤ x ∧ x < P) (hy : 0 ≤ y ∧ y < P) (hz : 0 ≤ z ∧ z < P) (hx' : 0 ≤ x' ∧ x' < P) (hy' : 0 ≤ y' ∧ y' < P) (hz' : 0 ≤ z' ∧ z' < P) :
    Spec w 49 2 [.ref p, .ref q, .ref c] news (RT3 (jadd P (x, y, z) (x', y', z'))) := by
  unfold Spec
  intro pg lo mean mg mb dp un gd cn cs a ccd cl outer A₀ base h₀ L m s Q E S hd hu hret
  obtain ⟨B, F, X, N, T, hk, hb⟩ := S
  revert X
  k_fill
  intro X
  refine wpAny_call ?_
  k_dflt ktr_enter
  k_steps
  all_goals (rename Fr h₀ L _ _ => F3; rename News h₀ L _ _ => N3)
  all_goals refine back_t3 hret F3 N3 (by assumption) (by kcj_all) (by k_mem) ?_
  all_goals (unfold jadd; dsimp only)
  all_goals first
    | (rw [if_pos (by assumption)]; done)
    | (rw [if_neg (by assumption), if_pos (by assumption)]; done)
    | (rw [if_neg (by assumption), if_neg (by assumption), if_neg (by assumption)]; rfl)
    | (rw [if_neg (by assumption), if_neg (by assumption), if_pos (by assumption), if_pos (by assumption)]; done)
    | (rw [if_neg (by assumption), if_neg (by assumption), if_pos (by assumption), if_neg (not_not_intro (by assumption))]; done)

def Bd (P : Int) (v : T3) : Prop := (0 ≤ v.1 ∧ v.1 < P) ∧ (0 ≤ v.2.1 ∧ v.2.1 < P) ∧ (0 ≤ v.2.2 ∧ v.2.2 < P)
theorem jdbl_bd {P : Int} {q : T3} (h0 : 0 < P) (h1 : P ≤ 1000) : Bd P (jdbl P q) := by
  unfold jdbl
  split
  · exact ⟨by dsimp only; omega, by dsimp only; omega, by dsimp only; omega⟩
  · exact ⟨bdF h0 h1, bdF h0 h1, bdF h0 h1⟩
theorem jadd_bd {P : Int} {p q : T3} (h0 : 1 < P) (h1 : P ≤ 1000) (hp : Bd P p) (hq : Bd P q) : Bd P (jadd P p q) := by
  have h0' : 0 < P := by omega
  unfold jadd
  dsimp only
  split
  · exact hq
  split
  · exact hp
  split
  · split
    · exact ⟨by dsimp only; omega, by dsimp only; omega, by dsimp only; omega⟩
    · exact jdbl_bd h0' h1
  · exact ⟨bdF h0' h1, bdF h0' h1, bdF h0' h1⟩
theorem invM_bd {x n : Int} (h0 : 0 < n) (h1 : n ≤ 1000) : 0 ≤ invM x n ∧ invM x n < n := by
  unfold invM
  split
  · omega
  · exact bdF h0 h1
def fromJ (P : Int) (p : T3) : Int × Int := ((p.1 * invM p.2.2 P ^ 2).fmod P, (p.2.1 * invM p.2.2 P ^ 3).fmod P)
def jmul : Nat → Int → Int → T3 → Int → T3
  | 0, _, _, _, _ => (0, 0, 1)
  | k + 1, P, N, a, n =>
    if a.2.1 = 0 ∨ n = 0 then (0, 0, 1) else if n = 1 then a else
    if n < 0 ∨ N ≤ n then jmul k P N a (n.fmod N) else
    if n.fmod 2 = 0 then jdbl P (jmul k P N a (n.fdiv 2)) else jadd P (jdbl P (jmul k P N a (n.fdiv 2))) a
theorem jmul_bd {P N : Int} {a : T3} (h0 : 1 < P) (h1 : P ≤ 1000) (ha : Bd P a) : ∀ (k : Nat) (n : Int), Bd P (jmul k P N a n)
  | 0, _ => ⟨by unfold jmul; dsimp only; omega, by unfold jmul; dsimp only; omega, by unfold jmul; dsimp only; omega⟩
  | k + 1, n => by
    have h0' : 0 < P := by omega
    unfold jmul
    split
    · exact ⟨by dsimp only; omega, by dsimp only; omega, by dsimp only; omega⟩
    split
    · exact ha
    split
    · exact jmul_bd h0 h1 ha k _
    split
    · exact jdbl_bd h0' h1
    · exact jadd_bd h0 h1 (jdbl_bd h0' h1) ha
def MulOk (N : Int) (k : Nat) (n : Int) : Prop := 1 ≤ k ∧ (0 ≤ n ∧ n < N → n < 2 ^ k) ∧ (¬ (0 ≤ n ∧ n < N) → N ≤ 2 ^ (k - 1) ∧ 2 ≤ k)
theorem mulOk_mod {N : Int} {k : Nat} {n : Int} (hN : 0 < N) (hN1 : N ≤ 1000) (h : MulOk N (k + 1) n) (hn : ¬ (0 ≤ n ∧ n < N)) : MulOk N k (n.fmod N) := by
  obtain ⟨h1, h2, h3⟩ := h
  have q := h3 hn
  have b := bdF (a := n) hN hN1
  rw [Nat.add_sub_cancel] at q
  exact ⟨by omega, fun _ => by omega, fun hh => absurd ⟨b.1, b.2⟩ hh⟩
theorem mulOk_half {N : Int} {k : Nat} {n : Int} (h : MulOk N (k + 1) n) (h0 : 2 ≤ n) (h1 : n < N) : MulOk N k (n.fdiv 2) := by
  obtain ⟨h2, h3, h4⟩ := h
  have q := h3 ⟨by omega, h1⟩
  have e : n.fdiv 2 = n / 2 := Int.fdiv_eq_ediv_of_nonneg _ (by omega)
  rw [e]
  have hp : (2 : Int) ^ (k + 1) = 2 ^ k * 2 := Int.pow_succ 2 k
  refine ⟨?_, fun _ => by omega, fun hh => by exfalso; apply hh; omega⟩
  cases k with
  | zero => exfalso; simp at q; omega
  | succ k => omega
end Mine
end

-- Jac3
section
open PySem PySem.W PyProof.Rows PySem.Spec PySem.Calls
set_option maxRecDepth 100000
set_option maxHeartbeats 4000000
namespace Mine
-- the walk keeps a key's lines by the NUMBER of lines alone: in one file two texts with as many lines must not stand side by side
local macro_rules | `(tactic| walk_at "of no use here") => `(tactic| fail)
theorem memOf {α : Type} {a : α} {l : List α} (h : a ∈ l) : List.Mem a l := h
local macro_rules | `(tactic| k_mem) => `(tactic| (refine memOf ?_; ktr_member))
theorem abI {a P : Int} (h0 : 0 < P) (h1 : P ≤ 1000) : (invM a P).natAbs < 18446744073709551616 := by have := invM_bd (x := a) h0 h1; omega
local macro_rules | `(tactic| tb_start) => `(tactic| first | omega | exact abF (by assumption) (by assumption) | exact abD (by assumption) (by assumption) | exact abI (by assumption) (by assumption))
local macro_rules | `(tactic| mul_fits) => `(tactic| first | exact okL (by tb_start) | exact okR (by tb_start))
local macro_rules | `(tactic| walk_at "binaryOp Pow int int") => `(tactic| (k_here; with_reducible refine pow_int_small (by decide) (by decide) (by tb_start) ?_))
local macro_rules | `(tactic| ktn_open) => `(tactic| (
  (case k1 => k_asm); (case k2 => k_asm); (case k3 => k_asm); (case k4 => k_asm); (case k5 => k_asm); (case kK => first | exact rfl | assumption); (case kb => assumption); (case kd => ktr_room); (case ku => ktr_units)))
local macro_rules | `(tactic| walk_at "call ref") => `(tactic| (k_here; k_dflt (
  refine' useI (inv_spec ?b0 ?b1) ?k1 ?k2 ?k3 ?k4 ?k5 ?kK ?kb ?kd ?ku ?_; ktn_open; (case b0 => assumption); (case b1 => assumption);
  intro t1 h' g' tk' hb' F' N'; (try dsimp only); (try k_fold))))

theorem from_jac_spec {w : World} {p c : Addr} {x y z P NN gx gy : Int} {t1 t2 t3 u1 u2 u3 u4 u5 u6 : Tok} {news : List (Addr × Obj)} (hp : (p, tupO [.int x t1, .int y t2, .int z t3]) ∈ news)
    (hc : (c, tupO [.int P u1, .int NN u2, .int 1 u3, .int 0 u4, .int gx u5, .int gy u6]) ∈ news) (h0 : 0 < P) (h1 : P ≤ 1000) (hx : 0 ≤ x ∧ x < P) (hy : 0 ≤ y ∧ y < P) :
    Spec w 56 2 [.ref p, .ref c] news (RT2 (fromJ P (x, y, z))) := by
  unfold Spec
  intro pg lo mean mg mb dp un gd cn cs a ccd cl outer A₀ base h₀ L m s Q E S hd hu hret
  obtain ⟨B, F, X, N, T, hk, hb⟩ := S
  revert X
  k_fill
  intro X
  refine wpAny_call ?_
  k_dflt ktr_enter
  k_steps
  rename Fr h₀ L _ _ => F3
  rename News h₀ L _ _ => N3
  exact back_t2 hret F3 N3 (by assumption) (by kcj_all) (by k_mem) rfl

theorem bdAbs {x P : Int} (h : 0 ≤ x ∧ x < P) (h1 : P ≤ 1000) : x.natAbs < 18446744073709551616 := by omega

local macro_rules | `(tactic| ktd_sub) => `(tactic| first | assumption | exact jdbl_bd (by assumption) (by assumption) | exact jmul_bd (by assumption) (by assumption) (by assumption) _ _)
local macro_rules | `(tactic| walk_at "call ref") => `(tactic| (k_here; k_dflt (first
  | (refine' use3 (jdbl_spec ?m1 ?m2 ?b0 ?b1 ?b2 ?b3 ?b4) ?k1 ?k2 ?k3 ?k4 ?k5 ?kK ?kb ?kd ?ku ?_; ktn_open; (case m1 => k_mem); (case m2 => k_mem); (case b0 => assumption); (case b1 => assumption); (case b2 => first | assumption | exact And.left (by ktd_sub)); (case b3 => first | assumption | exact And.left (And.right (by ktd_sub))); (case b4 => first | assumption | exact And.right (And.right (by ktd_sub)));
     intro D t1 t2 t3 h' g' tk' hb' F' N'; (try dsimp only); (try k_fold))
  | (refine' use3 (jadd_spec ?m1 ?m2 ?m3 ?b0 ?b1 ?b2 ?b3 ?b4 ?b5 ?b6 ?b7) ?k1 ?k2 ?k3 ?k4 ?k5 ?kK ?kb ?kd ?ku ?_; ktn_open; (case m1 => k_mem); (case m2 => k_mem); (case m3 => k_mem); (case b0 => assumption); (case b1 => assumption); (case b2 => first | assumption | exact And.left (by ktd_sub)); (case b3 => first | assumption | exact And.left (And.right (by ktd_sub))); (case b4 => first | assumption | exact And.right (And.right (by ktd_sub)));
     (case b5 => first | assumption | exact And.left (by ktd_sub)); (case b6 => first | assumption | exact And.left (And.right (by ktd_sub))); (case b7 => first | assumption | exact And.right (And.right (by ktd_sub)));
     intro D t1 t2 t3 h' g' tk' hb' F' N'; (try dsimp only); (try k_fold)))))
-- the recursion's own claim, of one size less
local macro_rules | `(tactic| walk_at "call ref") => `(tactic| (k_here; (rename (∀ _ : List (Addr × Obj), _) => IH9); k_dflt (
  refine' use3 (IH9 _ _ _ ?m1 ?m2 ?mk) ?k1 ?k2 ?k3 ?k4 ?k5 ?kK ?kb ?kd ?ku ?_; ktn_open; (case m1 => k_mem); (case m2 => k_mem); (case mk => first | exact mulOk_mod (by assumption) (by assumption) (by assumption) (by omega) | exact mulOk_half (by assumption) (by omega) (by omega));
  intro D t1 t2 t3 h' g' tk' hb' F' N'; (try dsimp only); (try k_fold))))

theorem jmul_spec {w : World} {a c : Addr} {x y z P NN gx gy : Int} {t1 t2 t3 u1 u2 u3 u4 u5 u6 : Tok} (hP : 1 < P) (h0 : 0 < P) (h1 : P ≤ 1000) (hN : 0 < NN) (hN1 : NN ≤ 1000) (hB : Bd P (x, y, z)) :
    ∀ (k : Nat) (news : List (Addr × Obj)) (n : Int) (tn : Tok), (a, tupO [.int x t1, .int y t2, .int z t3]) ∈ news → (c, tupO [.int P u1, .int NN u2, .int 1 u3, .int 0 u4, .int gx u5, .int gy u6]) ∈ news → MulOk NN k n →
    Spec w 63 (k + 3) [.ref a, .int n tn, .ref c] news (RT3 (jmul k P NN (x, y, z) n)) := by
  intro k
  induction k with
  | zero => exact fun _ _ _ _ _ h => absurd h.1 (by omega)
  | succ k ih =>
  intro news n tn hp hc hok
  unfold Spec
  intro pg lo mean mg mb dp un gd cn cs a ccd cl outer A₀ base h₀ L m s Q E S hd hu hret
  obtain ⟨B, F, X, N, T, hk, hb⟩ := S
  revert X
  k_fill
  intro X
  have hBx := hB.1
  have hBy := hB.2.1
  have hBz := hB.2.2
  refine wpAny_call ?_
  k_dflt ktr_enter
  k_steps
  all_goals first
    | (exfalso; have := bdF (a := n) (P := 2) (by omega) (by omega); omega)
    | (rename Fr h₀ L _ _ => F3
       rename News h₀ L _ _ => N3
       refine back_t3 hret F3 N3 (by assumption) (by kcj_all) (by k_mem) ?_
       rw [jmul]
       dsimp only
       first
         | (rw [if_pos (by omega)]; done)
         | (rw [if_neg (by omega), if_pos (by omega)]; done)
         | (rw [if_neg (by omega), if_neg (by omega), if_pos (by omega)]; done)
         | (rw [if_neg (by omega), if_neg (by omega), if_neg (by omega), if_pos (by assumption)]; done)
         | (rw [if_neg (by omega), if_neg (by omega), if_neg (by omega), if_neg (by assumption)]; done))

theorem toJ_bd {P x y : Int} (h0 : 1 < P) (hx : 0 ≤ x ∧ x < P) (hy : 0 ≤ y ∧ y < P) : Bd P (x, y, 1) := ⟨hx, hy, by dsimp only; omega⟩
local macro_rules | `(tactic| ktd_sub) => `(tactic| first | exact toJ_bd (by assumption) (by assumption) (by assumption) | exact jadd_bd (by assumption) (by assumption) (toJ_bd (by assumption) (by assumption) (by assumption)) (toJ_bd (by assumption) (by assumption) (by assumption)) | exact jmul_bd (by assumption) (by assumption) (toJ_bd (by assumption) (by assumption) (by assumption)) _ _)
local macro_rules | `(tactic| walk_at "call ref") => `(tactic| (k_here; k_dflt (first
  | (refine' use3 (to_jac_spec ?m1) ?k1 ?k2 ?k3 ?k4 ?k5 ?kK ?kb ?kd ?ku ?_; ktn_open; (case m1 => k_mem);
     intro D t1 t2 t3 h' g' tk' hb' F' N'; (try dsimp only); (try k_fold))
  | (refine' use2 (from_jac_spec ?m1 ?m2 ?b0 ?b1 ?b2 ?b3) ?k1 ?k2 ?k3 ?k4 ?k5 ?kK ?kb ?kd ?ku ?_; ktn_open; (case m1 => k_mem); (case m2 => k_mem); (case b0 => assumption); (case b1 => assumption); (case b2 => first | assumption | exact And.left (by ktd_sub)); (case b3 => first | assumption | exact And.left (And.right (by ktd_sub)));
     intro D t1 t2 h' g' tk' hb' F' N'; (try dsimp only); (try k_fold)))))
local macro_rules | `(tactic| walk_at "call ref") => `(tactic| (k_here; (rename MulOk _ _ _ => ok9); k_dflt (
  refine' use3 (jmul_spec ?b0 ?b1 ?b2 ?b3 ?b4 ?b5 _ _ _ _ ?m1 ?m2 ok9) ?k1 ?k2 ?k3 ?k4 ?k5 ?kK ?kb ?kd ?ku ?_; ktn_open; (case m1 => k_mem); (case m2 => k_mem); (case b0 => assumption); (case b1 => assumption); (case b2 => assumption); (case b3 => assumption); (case b4 => assumption); (case b5 => ktd_sub);
  intro D t1 t2 t3 h' g' tk' hb' F' N'; (try dsimp only); (try k_fold))))

theorem multiply_spec {w : World} {a c : Addr} {x y P NN n gx gy : Int} {t1 t2 tn u1 u2 u3 u4 u5 u6 : Tok} {news : List (Addr × Obj)} (k : Nat) (hP : 1 < P) (h0 : 0 < P) (h1 : P ≤ 1000) (hN : 0 < NN) (hN1 : NN ≤ 1000) (hx : 0 ≤ x ∧ x < P) (hy : 0 ≤ y ∧ y < P)
    (hp : (a, tupO [.int x t1, .int y t2]) ∈ news) (hc : (c, tupO [.int P u1, .int NN u2, .int 1 u3, .int 0 u4, .int gx u5, .int gy u6]) ∈ news) (hok : MulOk NN k n) :
    Spec w 70 (k + 4) [.ref a, .int n tn, .ref c] news (RT2 (fromJ P (jmul k P NN (x, y, 1) n))) := by
  unfold Spec
  intro pg lo mean mg mb dp un gd cn cs a ccd cl outer A₀ base h₀ L m s Q E S hd hu hret
  obtain ⟨B, F, X, N, T, hk, hb⟩ := S
  revert X
  k_fill
  intro X
  refine wpAny_call ?_
  k_dflt ktr_enter
  k_steps
  rename Fr h₀ L _ _ => F3
  rename News h₀ L _ _ => N3
  exact back_t2 hret F3 N3 (by assumption) (by kcj_all) (by k_mem) rfl

theorem add_spec {w : World} {a b c : Addr} {x y x' y' P NN gx gy : Int} {t1 t2 t1' t2' u1 u2 u3 u4 u5 u6 : Tok} {news : List (Addr × Obj)} (hP : 1 < P) (h0 : 0 < P) (h1 : P ≤ 1000) (hx : 0 ≤ x ∧ x < P) (hy : 0 ≤ y ∧ y < P) (hx' : 0 ≤ x' ∧ x' < P) (hy' : 0 ≤ y' ∧ y' < P)
    (hp : (a, tupO [.int x t1, .int y t2]) ∈ news) (hq : (b, tupO [.int x' t1', .int y' t2']) ∈ news) (hc : (c, tupO [.int P u1, .int NN u2, .int 1 u3, .int 0 u4, .int gx u5, .int gy u6]) ∈ news) :
    Spec w 77 4 [.ref a, .ref b, .ref c] news (RT2 (fromJ P (jadd P (x, y, 1) (x', y', 1)))) := by
  unfold Spec
  intro pg lo mean mg mb dp un gd cn cs a ccd cl outer A₀ base h₀ L m s Q E S hd hu hret
  obtain ⟨B, F, X, N, T, hk, hb⟩ := S
  revert X
  k_fill
  intro X
  refine wpAny_call ?_
  k_dflt ktr_enter
  k_steps
  rename Fr h₀ L _ _ => F3
  rename News h₀ L _ _ => N3
  exact back_t2 hret F3 N3 (by assumption) (by kcj_all) (by k_mem) rfl
end Mine
end

-- Slope
section
open PySem PySem.W PyProof.Rows PySem.Spec PySem.Calls
set_option maxRecDepth 100000
set_option maxHeartbeats 4000000
namespace Mine
theorem args_pow3i (a b c : Value) : argsOk "int.__pow__" ⟨[a, b, c], []⟩ := by unfold argsOk; kernel_rfl
theorem entry_pow : entryFor table "pow" = some Builtin.«pow» := entryFor_of_fast (by kernel_rfl)
theorem kind_pow : builtinKind "pow" = none := by decide +kernel
theorem plain_pow : plainId "pow" = true := by decide +kernel
theorem args_pow3 (a b c : Value) : argsOk "pow" ⟨[a, b, c], []⟩ := by unfold argsOk; kernel_rfl
def powM (x y m : Int) : Int := (Builtin.powMod (x % (m.natAbs : Int)).toNat y.natAbs m.natAbs : Nat)
theorem gives_pow3 {x y m : Int} {t u v : Tok} (hy : 0 ≤ y) (hm : 1 < m) : Gives (Builtin.«int.__pow__» ⟨[.int x t, .int y u, .int m v], []⟩) (.int (powM x y m)) :=
  .of_wp fun M A E s Q h => by
    have h1 : ¬ (m == 0) = true := by simp; omega
    have h2 : ¬ (m.natAbs == 1) = true := by simp; omega
    have h3 : ¬ y < 0 := by omega
    have h4 : ¬ m < 0 := by omega
    obtain ⟨hp, g, d, tk, os⟩ := s
    wp_walk
    rw [decide_eq_false h4]
    exact ⟨_, rfl, h⟩
section
variable {prog : Program} {w : World} {A : Around} {E : Value → Shared → Prop} {s : Shared} {x y m : Int} {t u v : Tok} {Q : Value → Shared → Prop}
theorem call_pow3 (hy : 0 ≤ y) (hm : 1 < m) (h : Q (.int (powM x y m) s.toks) { s with toks := s.toks + 1 }) :
    wpAny (model prog w) A (call (.builtin "pow") [.int x t, .int y u, .int m v]) Q E s := by
  refine Calls.call_function_entry kind_pow plain_pow entry_pow (args_pow3 _ _ _) ?_
  unfold Builtin.«pow»
  refine wpAny_bind (m := Builtin.Builtins.bindParams "pow" _ _ _) (wpAny_of_eq (a := [some (.int x t), some (.int y u), some (.int m v)]) ?hb ?_)
  case hb => kernel_rfl
  show wpAny _ _ (rule "pow.mod" >>= _) _ _ _
  refine wpAny_bind (wpAny_rule ?_)
  refine wpAny_bind (wpAny_typeOf (typeIs_int s x t) ?_)
  show wpAny _ _ (typeLookup (.type "int") (Str.ofString "__pow__") >>= _) _ _ _
  refine wpAny_bind (wpAny_of_eq F.slot_int_pow.lookup ?_)
  dsimp only
  refine wpAny_bind (wpAny_callSpecial?_slot (name := Str.ofString "__pow__") (args := [.int y u, .int m v]) (typeIs_int s x t) F.slot_int_pow (call_gives F.slot_int_pow (typeIs_int s x t) F.entry_int_pow (args_pow3i _ _ _) (gives_pow3 hy hm) ?_))
  exact wpAny_pure ⟨_, rfl, h⟩
end
local macro_rules | `(tactic| walk_at "call builtin:pow") => `(tactic| (k_here; k_dflt (refine' call_pow3 ?k1 ?k2 ?_; (case k1 => omega); (case k2 => omega))))

theorem powM_bd {x y m : Int} (hm : 1 < m) : 0 ≤ powM x y m ∧ powM x y m < m := by
  unfold powM Builtin.powMod
  have key : ∀ (l : List Nat) (b e k acc : Nat), acc < k → l.foldl (fun p i => if e.testBit i then p * p % k * b % k else p * p % k) acc < k := by
    intro l b e k
    induction l with
    | nil => exact fun _ h => h
    | cons i r ih =>
      intro acc h
      rw [List.foldl_cons]
      apply ih
      have hk : 0 < k := by omega
      split <;> exact Nat.mod_lt _ hk
  have := key (List.range (Builtin.Int.intBits y.natAbs)).reverse (x % (m.natAbs : Int)).toNat y.natAbs m.natAbs (1 % m.natAbs) (Nat.mod_lt _ (by omega))
  omega
theorem abP {a b P : Int} (_h0 : 0 < P) (h1 : 1 < P) (h2 : P ≤ 1000) : (powM a b P).natAbs < 18446744073709551616 := by have := powM_bd (x := a) (y := b) h1; omega
local macro_rules | `(tactic| tb_start) => `(tactic| first | omega | exact abF (by assumption) (by assumption) | exact abD (by assumption) (by assumption) | exact abP (by omega) (by omega) (by assumption))
local macro_rules | `(tactic| mul_fits) => `(tactic| first | exact okL (by tb_start) | exact okR (by tb_start))

/-- the slope's def: none where the sum is the point at infinity -/
def lslope (one two : Int × Int) (p : Int) : Option Int :=
  if one.1 = two.1 ∧ (one.2 + two.2).fmod p = 0 then none
  else if one.1 = two.1 then some (((3 * one.1 * one.1 + 1) * powM (2 * one.2) (p - 2) p).fmod p)
  else some (((two.2 - one.2) * powM (two.1 - one.1) (p - 2) p).fmod p)
def lsum (one two : Int × Int) (slope p : Int) : Int × Int :=
  let x := (slope * slope - one.1 - two.1).fmod p
  (x, (slope * (one.1 - x) - one.2).fmod p)
def ROI (v : Option Int) (r : Value) (tl : List (Addr × Obj)) : Prop := tl = [] ∧ match v with | none => r = .none | some i => ∃ t, r = .int i t

theorem back_none {h₀ h' : Heap} {L : Addr} {m : Str → Option Value} {news nw : List (Addr × Obj)} {s : Shared} {v : Option Int} {Q : Value → Shared → Prop} {g' : Array GenState} {tk' : Nat}
    (hret : Back h₀ L m news s (ROI v) Q) (F : Fr h₀ L h' m) (N : News h₀ L h' nw) (hb : AllBare g') (hs : ∀ p ∈ news, p ∈ nw) (e : none = v) : Q .none { s with heap := h', gens := g', toks := tk' } := by
  subst e
  exact hret _ [] h' g' tk' ⟨rfl, rfl⟩ hb F fun p h => N p (hs p h)
theorem back_some {h₀ h' : Heap} {L : Addr} {m : Str → Option Value} {news nw : List (Addr × Obj)} {s : Shared} {v : Option Int} {y : Int} {t : Tok} {Q : Value → Shared → Prop} {g' : Array GenState} {tk' : Nat}
    (hret : Back h₀ L m news s (ROI v) Q) (F : Fr h₀ L h' m) (N : News h₀ L h' nw) (hb : AllBare g') (hs : ∀ p ∈ news, p ∈ nw) (e : some y = v) : Q (.int y t) { s with heap := h', gens := g', toks := tk' } := by
  subst e
  exact hret _ [] h' g' tk' ⟨rfl, t, rfl⟩ hb F fun p h => N p (hs p h)

theorem lslope_spec {w : World} {o q : Addr} {x y x' y' p : Int} {t1 t2 t1' t2' t3 : Tok} {news : List (Addr × Obj)} (ho : (o, tupO [.int x t1, .int y t2]) ∈ news) (hq : (q, tupO [.int x' t1', .int y' t2']) ∈ news)
    (h0 : 2 < p) (h1 : p ≤ 1000) (hx : 0 ≤ x ∧ x < p) (hy : 0 ≤ y ∧ y < p) (hx' : 0 ≤ x' ∧ x' < p) (hy' : 0 ≤ y' ∧ y' < p) :
    Spec w 259 1 [.ref o, .ref q, .int p t3] news (ROI (lslope (x, y) (x', y') p)) := by
  unfold Spec
  intro pg lo mean mg mb dp un gd cn cs a ccd cl outer A₀ base h₀ L m s Q E S hd hu hret
  obtain ⟨B, F, X, N, T, hk, hb⟩ := S
  revert X
  k_fill
  intro X
  refine wpAny_call ?_
  k_dflt ktr_enter
  k_steps
  all_goals (rename Fr h₀ L _ _ => F3; rename News h₀ L _ _ => N3)
  all_goals first | refine back_none hret F3 N3 (by assumption) (by kcj_all) ?_ | refine back_some hret F3 N3 (by assumption) (by kcj_all) ?_
  all_goals (unfold lslope; dsimp only)
  all_goals first
    | (rw [if_pos ⟨by assumption, by assumption⟩]; done)
    | (rw [if_neg (fun hh => absurd hh.2 (by assumption)), if_pos (by assumption)]; done)
    | (rw [if_neg (fun hh => absurd hh.1 (by assumption)), if_neg (by assumption)]; done)
    | (exfalso; exact absurd (by assumption) (by assumption))
    | (exfalso; omega)

theorem lsum_spec {w : World} {o q : Addr} {x y x' y' p sl : Int} {t1 t2 t1' t2' t3 t4 : Tok} {news : List (Addr × Obj)} (ho : (o, tupO [.int x t1, .int y t2]) ∈ news) (hq : (q, tupO [.int x' t1', .int y' t2']) ∈ news)
    (h0 : 0 < p) (h1 : p ≤ 1000) (_hx : 0 ≤ x ∧ x < p) (hs : 0 ≤ sl ∧ sl < p) :
    Spec w 266 1 [.ref o, .ref q, .int sl t4, .int p t3] news (RT2 (lsum (x, y) (x', y') sl p)) := by
  unfold Spec
  intro pg lo mean mg mb dp un gd cn cs a ccd cl outer A₀ base h₀ L m s Q E S hd hu hret
  obtain ⟨B, F, X, N, T, hk, hb⟩ := S
  revert X
  k_fill
  intro X
  refine wpAny_call ?_
  k_dflt ktr_enter
  k_steps
  rename Fr h₀ L _ _ => F3
  rename News h₀ L _ _ => N3
  exact back_t2 hret F3 N3 (by assumption) (by kcj_all) (by k_mem) rfl
end Mine
end

-- Iter1
section
open PySem PySem.W PyProof.Rows PySem.Spec PySem.Calls
open AutoSeq1 (wpAny_loadPart')
set_option maxRecDepth 100000
set_option maxHeartbeats 4000000
namespace Mine
section
variable {prog : Program} {w : World} {A : Around} {E : Value → Shared → Prop} {s : Shared}

theorem nextOf_tup_item {it t : Addr} {i : Nat} {items : Array Value} {x : Value} {Q : Value → Shared → Prop} (hit : s.heap.IsTupleIter it t i) (ht : s.heap.IsTuple t items) (hx : items[i]? = some x)
    (hQ : ∀ h', h'.IsTupleIter it t (i + 1) → Heap.SameBut it s.heap h' → Q x { s with heap := h' }) : wpAny (model prog w) A (Builtin.SmallTypes.nextOf (.ref it)) Q E s := by
  obtain ⟨o, ho, hc, hd⟩ := id hit
  obtain ⟨ol, hol, _, nl, hdl⟩ := ht
  unfold Builtin.SmallTypes.nextOf
  refine wpAny_bind (wpAny_callSpecial?_slot (name := Str.ofString "__next__") hit.typeIs F.slot_tuple_iterator_next
    (wpAny_call_entry F.slot_tuple_iterator_next hit.typeIs F.entry_tuple_iterator_next ?_ (F.args_tuple_iterator_next_1 _)))
  show wpAny _ _ (field (.ref it) 0 >>= _) _ _ s
  refine wpAny_bind (wpAny_field ho hd (x := .ref t) rfl ?_)
  show wpAny _ _ (if (Value.ref t == Value.none) = true then _ else _) _ _ s
  rw [if_neg (show ¬ ((Value.ref t == Value.none) = true) from Bool.false_ne_true)]
  show wpAny _ _ (field (.ref it) 1 >>= _) _ _ s
  refine wpAny_bind (wpAny_field ho hd (x := .int i 0) rfl ?_)
  show wpAny _ _ (seqItems? (.ref t) >>= _) _ _ s
  refine wpAny_bind (wpAny_seqItems hol hdl ?_)
  simp only [Int.toNat_natCast, hx]
  refine wpAny_bind (wpAny_setField ho hd (by simp) (wpAny_pure ⟨x, rfl, wpAny_pure (hQ _ ?_ (Heap.SameBut.update ..))⟩))
  exact ⟨_, Heap.get?_update_self _ ho (Obj.isFreed_of_fields (Obj.data_mapFields hd _)), (Obj.cls_mapFields ..).trans hc, by
    rw [Obj.data_mapFields hd]; simp [rawInt]⟩

theorem nextOf_tup_end {it t : Addr} {i : Nat} {items : Array Value} {Q : Value → Shared → Prop} (hh : A.handled = none) (hit : s.heap.IsTupleIter it t i) (ht : s.heap.IsTuple t items) (hx : items[i]? = none)
    (hE : ∀ h' e, Heap.ExtBut it s.heap h' → (∃ o, h'.get? e = some o ∧ o.cls = .type "StopIteration") → E (.ref e) { s with heap := h' }) :
    wpAny (model prog w) A (Builtin.SmallTypes.nextOf (.ref it)) Q E s := by
  obtain ⟨o, ho, hc, hd⟩ := id hit
  obtain ⟨ol, hol, _, nl, hdl⟩ := ht
  unfold Builtin.SmallTypes.nextOf
  refine wpAny_bind (wpAny_callSpecial?_slot (name := Str.ofString "__next__") hit.typeIs F.slot_tuple_iterator_next
    (wpAny_call_entry F.slot_tuple_iterator_next hit.typeIs F.entry_tuple_iterator_next ?_ (F.args_tuple_iterator_next_1 _)))
  show wpAny _ _ (field (.ref it) 0 >>= _) _ _ s
  refine wpAny_bind (wpAny_field ho hd (x := .ref t) rfl ?_)
  show wpAny _ _ (if (Value.ref t == Value.none) = true then _ else _) _ _ s
  rw [if_neg (show ¬ ((Value.ref t == Value.none) = true) from Bool.false_ne_true)]
  show wpAny _ _ (field (.ref it) 1 >>= _) _ _ s
  refine wpAny_bind (wpAny_field ho hd (x := .int i 0) rfl ?_)
  show wpAny _ _ (seqItems? (.ref t) >>= _) _ _ s
  refine wpAny_bind (wpAny_seqItems hol hdl ?_)
  simp only [Int.toNat_natCast, hx]
  refine wpAny_bind (wpAny_rule (wpAny_bind (wpAny_setField ho hd (by simp) ?_)))
  show wpAny _ _ (newExc (.type "StopIteration") [] >>= _) _ _ _
  refine wpAny_bind ?_
  simp only [newExc, newTuple]
  refine wpAny_bind (wpAny_newObj_type ?_ (by size_fits))
  refine wpAny_bind (m := firstArgMember _ _) (wpAny_of_eq (a := Value.none) (by first | rfl | (simp only [firstArgMember]; rfl)) ?_)
  refine wpAny_newObj_type ?_ (by size_fits)
  simp only [raiseNew]
  refine wpAny_bind (wpAny_handled ?_)
  first | rw [show A.in1.handled = none from hh] | rw [hh]
  refine wpAny_bind (wpAny_pure (wpAny_throw ?_))
  exact hE _ _ (((Heap.SameBut.update ..).extBut.push _).push _) ⟨_, Heap.get?_push_size _ rfl, rfl⟩

theorem drawsTup (hh : A.handled = none) (it t : Addr) (hne : t ≠ it) (items : Array Value) :
    Draws prog w A it [it, t] items.size (fun i v => items[i]? = some v) (fun i h => h.IsTupleIter it t i ∧ h.IsTuple t items) where
  live := fun _ _ st => let ⟨o, ho, _⟩ := st.1; ⟨o, ho⟩
  frame := fun _ _ _ st hk => ⟨let ⟨o, ho, r⟩ := st.1; ⟨o, hk it (by simp) o ho, r⟩, let ⟨o, ho, r⟩ := st.2; ⟨o, hk t (by simp) o ho, r⟩⟩
  item := fun i s Q E hi st hQ => by
    refine nextOf_tup_item st.1 st.2 (Array.getElem?_eq_getElem hi) fun h' hit' hs' => ?_
    exact hQ _ h' s.toks (Array.getElem?_eq_getElem hi) ⟨hit', st.2.extBut hs'.extBut hne⟩ hs'
  done := fun s Q E st hE => nextOf_tup_end hh st.1 st.2 (Array.getElem?_eq_none (Nat.le_refl _)) hE

theorem meets_enum_tup (l : Addr) (items : Array Value) (n : Nat) (dct : Option Addr) (sl : Array (Option Value)) :
    Meets (Builtin.«enumerate.__new__» ⟨[.type "enumerate", .ref l], []⟩) (fun _ R s => s.heap.get? l = some { cls := .type "tuple", dict := dct, data := .seq items n, slots := sl } ∧
      R (.ok (.ret (.ref (s.heap.push { cls := .type "tuple_iterator", data := .fields #[.ref l, .int 0 0] }).objs.size)))
        { s with heap := (s.heap.push { cls := .type "tuple_iterator", data := .fields #[.ref l, .int 0 0] }).push { cls := .type "enumerate", data := .fields #[.none, .bool false, .ref s.heap.objs.size, rawInt 0, .none, .none] } }) :=
  .of_wp fun prog w A R s h => by
    obtain ⟨hp, g, d, tk, os⟩ := s
    obtain ⟨hl, h⟩ := h
    have hsub := sub_enumerate
    have hL : Heap.IsTuple (Shared.heap ⟨hp, g, d, tk, os⟩) l items := ⟨_, hl, rfl, n, rfl⟩
    wp_walk using wpAny_loadPart' hl
    refine wpAny_stack_any fun st => wpAny_pure ?_
    split
    · rename_i c _ _ _ _ _
      cases (c == Value.type "enumerate")
      · wp_walk using wpAny_loadPart' hl, wpAny_pyIter_tuple hL
        exact ⟨_, rfl, h⟩
      · wp_walk using wpAny_loadPart' hl, wpAny_pyIter_tuple hL
        exact ⟨_, rfl, h⟩
    · wp_walk using wpAny_loadPart' hl, wpAny_pyIter_tuple hL
      exact ⟨_, rfl, h⟩

theorem call_enum_tup {l : Addr} {items : Array Value} {Q : Value → Shared → Prop} (hL : s.heap.IsTuple l items)
    (h : Q (.ref (s.heap.push { cls := .type "tuple_iterator", data := .fields #[.ref l, .int 0 0] }).objs.size)
      { s with heap := (s.heap.push { cls := .type "tuple_iterator", data := .fields #[.ref l, .int 0 0] }).push { cls := .type "enumerate", data := .fields #[.none, .bool false, .ref s.heap.objs.size, rawInt 0, .none, .none] } }) :
    wpAny (model prog w) A (call (.type "enumerate") [.ref l]) Q E s := by
  obtain ⟨⟨c, dct, dt, sl⟩, hl, hc, n, hd⟩ := hL
  replace hc : c = .type "tuple" := hc
  replace hd : dt = .seq items n := hd
  subst hc hd
  refine callType_new F.called_enumerate (by decide) (F.typeCall_enumerate_1 _) (F.newCall_enumerate_1 _) (fun obj => F.args_object_init_2 obj _) F.entry_enumerate_new
    (meets_enum_tup l items n dct sl) ⟨hl, ?_⟩
  exact ⟨⟨_, Heap.get?_push_size _ rfl, rfl⟩, h⟩
end

abbrev titO (t : Addr) : Obj := { cls := .type "tuple_iterator", data := .fields #[.ref t, .int 0 0] }
abbrev enumO (it : Addr) (i : Int) (old : Value) : Obj := { cls := .type "enumerate", dict := none, data := .fields #[.none, .bool false, .ref it, rawInt i, .none, old], slots := #[] }
abbrev enumOutO (it : Addr) (i : Int) (x : Value) (T : Addr) : Obj := { cls := .type "enumerate", dict := none, data := .fields #[rawInt T, .bool false, .ref it, rawInt i, .none, x], slots := #[] }

section
variable {prog : Program} {w : World} {A : Around} {E : Value → Shared → Prop} {s : Shared} {h₀ : Heap} {L : Addr} {m : Str → Option Value} {news n1 n2 : List (Addr × Obj)}

theorem Upd.fits {d : Addr} {o o' : Obj} {l l' : List (Addr × Obj)} (U : Upd d o o' l l') : (d, o) ∈ l ∧ ∀ p ∈ l', p = (d, o') ∨ (p ∈ l ∧ p.1 ≠ d) := by
  induction U with
  | head h =>
    refine ⟨.head _, fun p hp => ?_⟩
    rcases List.mem_cons.mp hp with rfl | hp
    · exact .inl rfl
    · exact .inr ⟨.tail _ hp, h p hp⟩
  | tail hne _ ih =>
    refine ⟨.tail _ ih.1, fun p hp => ?_⟩
    rcases List.mem_cons.mp hp with rfl | hp
    · exact .inr ⟨.head _, hne⟩
    · rcases ih.2 p hp with h | h
      · exact .inl h
      · exact .inr ⟨.tail _ h.1, h.2⟩
/-- one object of the ledger changed, all else kept -/
theorem upd_ledger {I : Addr} {o o' : Obj} {h h' : Heap} (F : Fr h₀ L h m) (N : News h₀ L h news) (U : Upd I o o' news n1) (hs : ∀ b x, b ≠ I → h.get? b = some x → h'.get? b = some x) (hg : h'.get? I = some o') : Fr h₀ L h' m ∧ News h₀ L h' n1 := by
  obtain ⟨hm, hl⟩ := Upd.fits U
  have hI := N _ hm
  refine ⟨⟨F.ns.at' fun x e => hs L x (Ne.symm hI.2.1) e, fun b x e => hs b x (fun q => ?_) (F.keep b x e), F.above⟩, fun p hp => ?_⟩
  · rw [q] at e
    have := hI.2.2
    rw [e] at this
    cases this
  · rcases hl p hp with rfl | ⟨h1, h2⟩
    · exact ⟨hg, hI.2.1, hI.2.2⟩
    · exact ⟨hs _ _ h2 (N p h1).1, (N p h1).2⟩
end
end Mine
end

-- Iter2
section
open PySem PySem.W PyProof.Rows PySem.Spec PySem.Calls
set_option maxRecDepth 100000
set_option maxHeartbeats 4000000
namespace Mine
abbrev litO (t : Addr) : Obj := { cls := .type "list_iterator", data := .fields #[.ref t, .int 0 0] }
abbrev ritO (x left step : Int) : Obj := { cls := .type "range_iterator", data := .fields #[rawInt x, rawInt left, rawInt step] }
inductive Drop (I : Addr) : List (Addr × Obj) → List (Addr × Obj) → Prop
  | nil : Drop I [] []
  | rest {l} : (∀ p ∈ l, p.1 ≠ I) → Drop I l l
  | hit {o r r'} : Drop I r r' → Drop I ((I, o) :: r) r'
  | keep {p r r'} : p.1 ≠ I → Drop I r r' → Drop I (p :: r) (p :: r')
theorem Drop.off {I : Addr} {l l' : List (Addr × Obj)} (D : Drop I l l') : ∀ p ∈ l', p ∈ l ∧ p.1 ≠ I := by
  induction D with
  | nil => exact fun _ h => nomatch h
  | rest h => exact fun p hp => ⟨hp, h p hp⟩
  | hit _ ih => exact fun p hp => ⟨.tail _ (ih p hp).1, (ih p hp).2⟩
  | keep hn _ ih =>
    intro p hp
    rcases List.mem_cons.mp hp with rfl | hp
    · exact ⟨.head _, hn⟩
    · exact ⟨.tail _ (ih p hp).1, (ih p hp).2⟩

section
variable {prog : Program} {w : World} {A : Around} {E : Value → Shared → Prop} {s : Shared} {h₀ : Heap} {L I : Addr} {m : Str → Option Value} {news n1 : List (Addr × Obj)}

theorem drop_ledger {oI : Obj} {h h' : Heap} (F : Fr h₀ L h m) (N : News h₀ L h news) (hm : (I, oI) ∈ news) (D : Drop I news n1) (hs : ∀ b x, b ≠ I → h.get? b = some x → h'.get? b = some x) : Fr h₀ L h' m ∧ News h₀ L h' n1 := by
  have hI := N _ hm
  refine ⟨⟨F.ns.at' fun x e => hs L x (Ne.symm hI.2.1) e, fun b x e => hs b x (fun q => ?_) (F.keep b x e), F.above⟩, fun p hp => ?_⟩
  · rw [q] at e
    have := hI.2.2
    rw [e] at this
    cases this
  · obtain ⟨h1, h2⟩ := D.off p hp
    exact ⟨hs _ _ h2 (N p h1).1, (N p h1).2⟩
theorem newest (N : News h₀ L s.heap news) : ∀ p ∈ news, p.1 < s.heap.objs.size := fun p hp => Heap.lt_size (N p hp).1

/-- the loop at its iterator -/
def ForIt (prog : Program) (w : World) (A : Around) (target : Expr) (body : List Stmt) (env : Env) (Q : Flow → Shared → Prop) (E : Value → Shared → Prop) (it : Value) (s : Shared) : Prop :=
  codeAny (model prog w) A (.forLoop target it body [] env) (fun r s' => match r with | .ok f => Q f s' | .error e => cameBackBy (model prog w) A env E e s') s

theorem for_it {target iter : Expr} {body : List Stmt} {pos : Pos} {env : Env} {Q : Flow → Shared → Prop} (h : wpAny (model prog w) A (eval iter env) (fun xv s₁ => wpAny (model prog w) A (pyIter xv) (fun it s₂ => ForIt prog w A target body env Q E it s₂) E s₁) E s)
    (hs : ∀ x, foldedSetIterable iter env x = pure x := by intro _; rfl) : wpAny (model prog w) A (exec (.For target iter body [] pos) env) Q E s := wpAny_For h hs

theorem ForIt.step {target : Expr} {body : List Stmt} {env : Env} {Q : Flow → Shared → Prop} {it : Value}
    (h : wpAny (model prog w) A (pyNext it) (fun r s₁ => match r with
      | none => Q .next s₁
      | some v => wpAny (model prog w) A (letOwnedTupleGo target it v) (fun _ s₂ => wpAny (model prog w) A (assign target env v) (fun _ s₃ => wpAny (model prog w) A (execs body env) (fun f s₄ => match f with
        | .next | .cont => ForIt prog w A target body env Q E it s₄
        | .brk => Q .next s₄
        | .ret v => Q (.ret v) s₄) E s₃) E s₂) E s₁) E s)
    (hE : PassesOwn (model prog w) A env E) : ForIt prog w A target body env Q E it s := by
  unfold ForIt
  refine codeAny_of_tree ?_
  show wpAny _ A ((forTurn target it body [] env).onRaise (fun x => do noteFrame x env; theTreesLotGoes x)) _ _ s
  refine wpAny_noted ?_
  simp only [forTurn]
  refine wpAny_bind (wpAny_standAt (wpAny_bind (wpAny_onRaise (wpAny_mono (wpAny_passesOwn hE h) (fun r s₁ h₁ => ?_) fun _ _ h' => wpAny_standAt h'))))
  cases r with
  | none => exact wpAny_pure ⟨rfl, codeAny_block (wpAny_execs_nil h₁)⟩
  | some v =>
    refine wpAny_bind (wpAny_mono (wpAny_passesOwn hE h₁) (fun _ s₂ h₂ => ?_) fun _ _ h' => h')
    refine wpAny_bind (wpAny_mono (wpAny_passesOwn hE h₂) (fun _ s₃ h₃ => wpAny_bind (wpAny_mono (wpAny_passesOwn hE h₃) (fun f s₄ h₄ => ?_) fun _ _ h' => h')) fun _ _ h' => h')
    cases f with
    | next => exact wpAny_pure ⟨rfl, h₄⟩
    | cont => exact wpAny_pure ⟨rfl, h₄⟩
    | brk => exact wpAny_pure h₄
    | ret v => exact wpAny_pure h₄

theorem it_tup {t : Addr} {o : Obj} {vs : List Value} {n : Nat} {Q : Value → Shared → Prop} (F : Fr h₀ L s.heap m) (N : News h₀ L s.heap news) (ht : (t, o) ∈ news) (hc : o.cls = .type "tuple") (hd : o.data = .seq vs.toArray n)
    (h : ∀ I h', AllLt I news → Fr h₀ L h' m → News h₀ L h' ((I, titO t) :: news) → Q (.ref I) { s with heap := h' }) : wpAny (model prog w) A (pyIter (.ref t)) Q E s :=
  wpAny_pyIter_tuple ⟨o, (N _ ht).1, hc, n, hd⟩ (h _ _ (allLt_of (newest N)) (F.push _) (N.push F _))
theorem it_list {t : Addr} {o : Obj} {vs : List Value} {n : Nat} {Q : Value → Shared → Prop} (F : Fr h₀ L s.heap m) (N : News h₀ L s.heap news) (ht : (t, o) ∈ news) (hc : o.cls = .type "list") (hd : o.data = .seq vs.toArray n)
    (h : ∀ I h', AllLt I news → Fr h₀ L h' m → News h₀ L h' ((I, litO t) :: news) → Q (.ref I) { s with heap := h' }) : wpAny (model prog w) A (pyIter (.ref t)) Q E s :=
  wpAny_pyIter_list ⟨o, (N _ ht).1, hc, n, hd⟩ (h _ _ (allLt_of (newest N)) (F.push _) (N.push F _))
theorem it_enum {e it : Addr} {i : Int} {old : Value} {Q : Value → Shared → Prop} (N : News h₀ L s.heap news) (he : (e, enumO it i old) ∈ news) (h : Q (.ref e) s) : wpAny (model prog w) A (pyIter (.ref e)) Q E s :=
  wpAny_pyIter_enum (N _ he).1 h
theorem mk_enum {t : Addr} {o : Obj} {vs : List Value} {n : Nat} {Q : Value → Shared → Prop} (F : Fr h₀ L s.heap m) (N : News h₀ L s.heap news) (ht : (t, o) ∈ news) (hc : o.cls = .type "tuple") (hd : o.data = .seq vs.toArray n)
    (h : ∀ it e h', AllLt it news → it < e → AllLt e news → Fr h₀ L h' m → News h₀ L h' ((e, enumO it 0 .none) :: (it, titO t) :: news) → Q (.ref e) { s with heap := h' }) : wpAny (model prog w) A (call (.type "enumerate") [.ref t]) Q E s := by
  refine call_enum_tup ⟨o, (N _ ht).1, hc, n, hd⟩ ?_
  have N1 := N.push F (titO t)
  have F1 := F.push (titO t)
  refine h s.heap.objs.size _ _ (allLt_of (newest N)) ?_ (allLt_of fun p hp => ?_) (F1.push _) (N1.push F1 _)
  · rw [Heap.size_push]; exact Nat.lt_succ_self _
  · rw [Heap.size_push]; exact Nat.lt_succ_of_lt (newest N p hp)

theorem nx_tup (i : Nat) {t : Addr} {oI o : Obj} {vs : List Value} {n : Nat} {x : Value} {nf : Obj → List (Addr × Obj)} {Q : Option Value → Shared → Prop} (F : Fr h₀ L s.heap m) (N : News h₀ L s.heap news) (hI : (I, oI) ∈ news) (hc : oI.cls = .type "tuple_iterator") (hd : oI.data = .fields #[.ref t, .int (i : Int) 0])
    (ht : (t, o) ∈ news) (hct : o.cls = .type "tuple") (hdt : o.data = .seq vs.toArray n) (hx : vs[i]? = some x) (U : ∀ o', Upd I oI o' news (nf o'))
    (h : ∀ o' h', o'.cls = .type "tuple_iterator" → o'.data = .fields #[.ref t, .int ((i + 1 : Nat) : Int) 0] → Fr h₀ L h' m → News h₀ L h' (nf o') → Q (some x) { s with heap := h' }) : wpAny (model prog w) A (pyNext (.ref I)) Q E s := by
  refine wpAny_pyNext_tuple_item ⟨oI, (N _ hI).1, hc, hd⟩ ⟨o, (N _ ht).1, hct, n, hdt⟩ (by simpa using hx) fun h' hit hs => ?_
  obtain ⟨o', ho', hc', hd'⟩ := hit
  obtain ⟨F1, N1⟩ := upd_ledger F N (U o') (fun b y hb e => hs.extBut b y hb e) ho'
  exact h o' h' hc' hd' F1 N1
theorem nx_tup_end (i : Nat) {t : Addr} {oI o : Obj} {vs : List Value} {n : Nat} {Q : Option Value → Shared → Prop} (hh : A.handled = none) (F : Fr h₀ L s.heap m) (N : News h₀ L s.heap news) (hI : (I, oI) ∈ news) (hc : oI.cls = .type "tuple_iterator") (hd : oI.data = .fields #[.ref t, .int (i : Int) 0])
    (ht : (t, o) ∈ news) (hct : o.cls = .type "tuple") (hdt : o.data = .seq vs.toArray n) (hx : vs[i]? = none) (D : Drop I news n1)
    (h : ∀ h', Fr h₀ L h' m → News h₀ L h' n1 → Q none { s with heap := h' }) : wpAny (model prog w) A (pyNext (.ref I)) Q E s := by
  refine wpAny_pyNext_tuple_end hh ⟨oI, (N _ hI).1, hc, hd⟩ ⟨o, (N _ ht).1, hct, n, hdt⟩ (by simpa using hx) fun h' hs => ?_
  obtain ⟨F1, N1⟩ := drop_ledger F N hI D (fun b y hb e => hs b y hb e)
  exact h h' F1 N1
theorem nx_list (i : Nat) {t : Addr} {oI o : Obj} {vs : List Value} {n : Nat} {x : Value} {nf : Obj → List (Addr × Obj)} {Q : Option Value → Shared → Prop} (F : Fr h₀ L s.heap m) (N : News h₀ L s.heap news) (hI : (I, oI) ∈ news) (hc : oI.cls = .type "list_iterator") (hd : oI.data = .fields #[.ref t, .int (i : Int) 0])
    (ht : (t, o) ∈ news) (hct : o.cls = .type "list") (hdt : o.data = .seq vs.toArray n) (hx : vs[i]? = some x) (U : ∀ o', Upd I oI o' news (nf o'))
    (h : ∀ o' h', o'.cls = .type "list_iterator" → o'.data = .fields #[.ref t, .int ((i + 1 : Nat) : Int) 0] → Fr h₀ L h' m → News h₀ L h' (nf o') → Q (some x) { s with heap := h' }) : wpAny (model prog w) A (pyNext (.ref I)) Q E s := by
  refine wpAny_pyNext_list_item ⟨oI, (N _ hI).1, hc, hd⟩ ⟨o, (N _ ht).1, hct, n, hdt⟩ (by simpa using hx) fun h' hit hs => ?_
  obtain ⟨o', ho', hc', hd'⟩ := hit
  obtain ⟨F1, N1⟩ := upd_ledger F N (U o') (fun b y hb e => hs.extBut b y hb e) ho'
  exact h o' h' hc' hd' F1 N1
theorem nx_list_end (i : Nat) {t : Addr} {oI o : Obj} {vs : List Value} {n : Nat} {Q : Option Value → Shared → Prop} (hh : A.handled = none) (F : Fr h₀ L s.heap m) (N : News h₀ L s.heap news) (hI : (I, oI) ∈ news) (hc : oI.cls = .type "list_iterator") (hd : oI.data = .fields #[.ref t, .int (i : Int) 0])
    (ht : (t, o) ∈ news) (hct : o.cls = .type "list") (hdt : o.data = .seq vs.toArray n) (hx : vs[i]? = none) (D : Drop I news n1)
    (h : ∀ h', Fr h₀ L h' m → News h₀ L h' n1 → Q none { s with heap := h' }) : wpAny (model prog w) A (pyNext (.ref I)) Q E s := by
  refine wpAny_pyNext_list_end hh ⟨oI, (N _ hI).1, hc, hd⟩ ⟨o, (N _ ht).1, hct, n, hdt⟩ (by simpa using hx) fun h' hs => ?_
  obtain ⟨F1, N1⟩ := drop_ledger F N hI D (fun b y hb e => hs b y hb e)
  exact h h' F1 N1
theorem lg_tup {t : Addr} {i : Nat} {oI : Obj} {target : Expr} {v : Value} {Q : Unit → Shared → Prop} (N : News h₀ L s.heap news) (hI : (I, oI) ∈ news) (hc : oI.cls = .type "tuple_iterator") (hd : oI.data = .fields #[.ref t, .int (i : Int) 0]) (h : Q () s) : wpAny (model prog w) A (letOwnedTupleGo target (.ref I) v) Q E s :=
  letGo_tupleiter ⟨oI, (N _ hI).1, hc, hd⟩ h
theorem lg_list {t : Addr} {i : Nat} {oI : Obj} {target : Expr} {v : Value} {Q : Unit → Shared → Prop} (N : News h₀ L s.heap news) (hI : (I, oI) ∈ news) (hc : oI.cls = .type "list_iterator") (hd : oI.data = .fields #[.ref t, .int (i : Int) 0]) (h : Q () s) : wpAny (model prog w) A (letOwnedTupleGo target (.ref I) v) Q E s :=
  letGo_listiter ⟨oI, (N _ hI).1, hc, hd⟩ h

theorem nx_enum (i : Nat) {e it t : Addr} {old : Value} {oI o : Obj} {vs : List Value} {n : Nat} {x : Value} {n1 : Obj → List (Addr × Obj)} {n2 : Obj → Obj → List (Addr × Obj)} {Q : Option Value → Shared → Prop} (hh : A.handled = none) (F : Fr h₀ L s.heap m) (N : News h₀ L s.heap news)
    (he : (e, enumO it i old) ∈ news) (hI : (it, oI) ∈ news) (hc : oI.cls = .type "tuple_iterator") (hd : oI.data = .fields #[.ref t, .int (i : Int) 0]) (ht : (t, o) ∈ news) (hct : o.cls = .type "tuple") (hdt : o.data = .seq vs.toArray n) (hx : vs[i]? = some x)
    (hei : e ≠ it) (hte : t ≠ e) (hti : t ≠ it) (U1 : ∀ oe, Upd e (enumO it i old) oe news (n1 oe)) (U2 : ∀ oe o', Upd it oI o' (n1 oe) (n2 oe o'))
    (h : ∀ T tk o' h', AllLt T news → o'.cls = .type "tuple_iterator" → o'.data = .fields #[.ref t, .int ((i + 1 : Nat) : Int) 0] → Fr h₀ L h' m → News h₀ L h' ((T, tupO [.int (i : Int) tk, x]) :: n2 (enumOutO it ((i : Int) + 1) x T) o') → Q (some (.ref T)) { s with heap := h', toks := tk + 1 }) :
    wpAny (model prog w) A (pyNext (.ref e)) Q E s := by
  have hlt : i < vs.toArray.size := by
    have : i < vs.length := by
      by_cases q : i < vs.length
      · exact q
      · rw [List.getElem?_eq_none (by omega)] at hx; cases hx
    simpa using this
  refine wpAny_pyNext_enum_itemD (drawsTup (A := A.in1) hh it t hti vs.toArray) (N _ he).1 ⟨⟨oI, (N _ hI).1, hc, hd⟩, ⟨o, (N _ ht).1, hct, n, hdt⟩⟩ hlt hei (by simp [hei, Ne.symm hte]) fun y h' tk hP hout hst hT hsz hk => ?_
  have hy : y = x := by
    have : vs[i]? = some y := by simpa using hP
    rw [hx] at this
    exact (Option.some.inj this).symm
  subst hy
  obtain ⟨⟨o', ho', hc', hd'⟩, _⟩ := hst
  -- two objects changed, one after the other
  obtain ⟨m1, l1⟩ := Upd.fits (U1 (enumOutO it ((i : Int) + 1) y s.heap.objs.size))
  obtain ⟨m2, l2⟩ := Upd.fits (U2 (enumOutO it ((i : Int) + 1) y s.heap.objs.size) o')
  have hE := N _ he
  have hIt := N _ hI
  have F1 : Fr h₀ L h' m := ⟨F.ns.at' fun z q => hk L z (Ne.symm hE.2.1) (Ne.symm hIt.2.1) q, fun b z q => hk b z (fun c => by rw [c] at q; have := hE.2.2; rw [q] at this; cases this) (fun c => by rw [c] at q; have := hIt.2.2; rw [q] at this; cases this) (F.keep b z q), F.above⟩
  have N1 : News h₀ L h' (n2 (enumOutO it ((i : Int) + 1) y s.heap.objs.size) o') := fun p hp => by
    rcases l2 p hp with rfl | ⟨a, b⟩
    · exact ⟨ho', hIt.2.1, hIt.2.2⟩
    · rcases l1 p a with rfl | ⟨c, d⟩
      · exact ⟨hout, hE.2.1, hE.2.2⟩
      · exact ⟨hk _ _ d b (N p c).1, (N p c).2⟩
  refine h s.heap.objs.size tk o' h' (allLt_of (newest N)) hc' hd' F1 fun p hp => ?_
  rcases List.mem_cons.mp hp with rfl | hp
  · refine ⟨hT, Nat.ne_of_gt F.ns.lt, ?_⟩
    cases q : h₀.get? s.heap.objs.size with
    | none => rfl
    | some z => exact absurd (Heap.lt_size (F.keep _ _ q)) (Nat.lt_irrefl _)
  · exact N1 p hp
theorem nx_enum_end (i : Nat) {e it t : Addr} {old : Value} {oI o : Obj} {vs : List Value} {n : Nat} {Q : Option Value → Shared → Prop} (hh : A.handled = none) (F : Fr h₀ L s.heap m) (N : News h₀ L s.heap news)
    (he : (e, enumO it i old) ∈ news) (hI : (it, oI) ∈ news) (hc : oI.cls = .type "tuple_iterator") (hd : oI.data = .fields #[.ref t, .int (i : Int) 0]) (ht : (t, o) ∈ news) (hct : o.cls = .type "tuple") (hdt : o.data = .seq vs.toArray n) (hx : vs.length = i)
    (hti : t ≠ it) (D : Drop it news n1) (h : ∀ h', Fr h₀ L h' m → News h₀ L h' n1 → Q none { s with heap := h' }) : wpAny (model prog w) A (pyNext (.ref e)) Q E s := by
  subst hx
  refine wpAny_pyNext_enum_endD (drawsTup (A := A.in1) hh it t hti vs.toArray) (N _ he).1 ⟨⟨oI, (N _ hI).1, hc, by rw [hd]; simp⟩, ⟨o, (N _ ht).1, hct, n, hdt⟩⟩ fun h' hs => ?_
  obtain ⟨F1, N1⟩ := drop_ledger F N hI D (fun b y hb e => hs b y hb e)
  exact h h' F1 N1
theorem lg_enum {elts : List Expr} {k : Nat} {pos : Pos} {e it T : Addr} {i : Int} {x : Value} {Q : Unit → Shared → Prop} (F : Fr h₀ L s.heap m) (N : News h₀ L s.heap news) (he : (e, enumOutO it i x T) ∈ news) (U : Upd e (enumOutO it i x T) (enumO it i x) news n1)
    (h : ∀ h', Fr h₀ L h' m → News h₀ L h' n1 → Q () { s with heap := h' }) : wpAny (model prog w) A (letOwnedTupleGo (.Tuple elts k pos) (.ref e) (.ref T)) Q E s := by
  refine wpAny_letOwnedTupleGo_enum (N _ he).1 fun h' he' hs => ?_
  obtain ⟨F1, N1⟩ := upd_ledger F N U (fun b y hb q => hs.extBut b y hb q) he'
  exact h h' F1 N1
end
end Mine
end

-- Comp1
section
open PySem PySem.W PyProof.Rows PySem.Spec PySem.Calls PyProof.Rows.LCg
set_option maxRecDepth 100000
set_option maxHeartbeats 4000000
namespace Mine
theorem allNe {d : Addr} {l : List (Addr × Obj)} (h : AllLt d l) : ∀ p ∈ l, p.1 ≠ d := fun p hp => Nat.ne_of_lt (ktn_ltOf h p hp)
theorem allLt_up {a b : Addr} {l : List (Addr × Obj)} (h : AllLt a l) (hab : @LT.lt Nat _ a b) : AllLt b l := allLt_of fun p hp => Nat.lt_trans (ktn_ltOf h p hp) hab

/-- what stands when the enumeration of the modulus' two coefficients has been made -/
def SrcE (h₀ : Heap) (L : Addr) (m : Str → Option Value) (q : Addr) (u1 u2 : Tok) (Q : Value → Shared → Prop) (xv : Value) (s₁ : Shared) : Prop :=
  ∃ (e it : Addr) (o : Obj) (n : Nat) (news : List (Addr × Obj)), xv = .ref e ∧ Fr h₀ L s₁.heap m ∧ News h₀ L s₁.heap ((e, enumO it 0 .none) :: (it, titO q) :: news) ∧ @LT.lt Nat _ it e ∧ AllLt it news ∧ (q, o) ∈ news ∧ o.cls = .type "tuple" ∧ o.data = .seq [Value.int 1 u1, Value.int 0 u2].toArray n ∧
    ∀ D T t0 h' tk', AllLt D news → @LT.lt Nat _ D T → Fr h₀ L h' m → News h₀ L h' ((D, lst [.ref T]) :: (T, tupO [.int 0 t0, .int 1 u1]) :: news) → Q (.ref D) { s₁ with heap := h', toks := tk' }

section
variable {prog : Program} {w : World} {A : Around} {E : Value → Shared → Prop} {s : Shared} {h₀ : Heap} {L : Addr} {m : Str → Option Value}

theorem comp_pairs {iter : Expr} {p1 p2 p3 p4 p5 pte tp pos : Pos} {ke kk : Nat} {scope : Scope} {cl : List (Str × Addr)} {env : Env} {Q : Value → Shared → Prop} (q : Addr) (u1 u2 : Tok) (_F₀ : Fr h₀ L s.heap m) (hh : A.handled = none) (hclos : closureFor scope env = pure cl) (hcell : ∀ y ∈ scope.names, y.2 ≠ .cell) (hkind : scope.kind = .function)
    (hnames : ∀ y ∈ scope.names, y.2 = .local → scope.names.lookup y.1 = some .local) (hxi : scope.names.lookup (Str.ofString "i") = some .local) (hxc : scope.names.lookup (Str.ofString "c") = some .local)
    (h : wpAny (model prog w) A (eval iter env) (SrcE h₀ L m q u1 u2 Q) E s) (hs : ∀ x, foldedSetIterable iter env x = pure x) :
    wpAny (model prog w) A (eval (.ListComp (.Tuple [.Name (Str.ofString "i") p1, .Name (Str.ofString "c") p2] ke pte) [⟨.Tuple [.Name (Str.ofString "i") p3, .Name (Str.ofString "c") p4] kk tp, iter, [.Name (Str.ofString "c") p5], 0⟩] scope pos) env) Q E s := by
  rw [eval_ListComp]
  refine wpAny_comprehension_free (use := none) rfl hs hclos hkind hnames (wpAny_mono h (fun xv s₁ h₁ => ?_) fun _ _ e => e)
  obtain ⟨e, it, o, n, news, rfl, F, N, hie, hlt, hq, hqc, hqd, hQ⟩ := h₁
  refine it_enum N (.head _) ?_
  -- the list, then the comprehension's own names
  refine wpAny_newObj_type (wpAny_newFunctionEnv hcell (by intro y hy; simp at hy) (fun h₁ hns₁ hsb₁ => ?_) hkind)
  dsimp only at hns₁ hsb₁ ⊢
  have lt0 := newest N
  have F1 := F.push (lst [])
  have N1 := N.push F (lst [])
  generalize hH2 : s₁.heap.push (lst []) = H2 at hns₁ hsb₁ F1 N1
  have hC : H2.objs.size = s₁.heap.objs.size + 1 := by rw [← hH2, Heap.size_push]
  generalize hD : s₁.heap.objs.size = D at hC lt0 N1
  generalize hCC : H2.objs.size = C at hC hns₁ hsb₁
  have eD : @LT.lt Nat _ e D := lt0 (e, enumO it 0 .none) (.head _)
  have DC : @LT.lt Nat _ D C := by omega
  have nD : AllLt D news := allLt_of fun p hp => lt0 p (.tail _ (.tail _ hp))
  have lt1 : ∀ p ∈ (D, lst []) :: (e, enumO it 0 .none) :: (it, titO q) :: news, p.1 < C := by
    intro p hp
    rcases List.mem_cons.mp hp with rfl | hp
    · exact DC
    · exact Nat.lt_trans (lt0 p hp) DC
  have eC : @LT.lt Nat _ e C := Nat.lt_trans eD DC
  have nE : AllLt e news := allLt_up hlt hie
  have old : ∀ b x, H2.get? b = some x → h₁.get? b = some x := fun b x z => hsb₁.extBut b x (fun c => Nat.lt_irrefl C (by have y := Heap.lt_size z; rw [hCC] at y; rw [c] at y; exact y)) (Heap.get?_push_of_some _ z)
  have F2 : Fr h₀ L h₁ m := F1.keeps old
  have N2 : News h₀ L h₁ ((D, lst []) :: (e, enumO it 0 .none) :: (it, titO q) :: news) := N1.grown old
  obtain ⟨oC, hoC, hnC⟩ := ns_obj hns₁
  have hLC : @LT.lt Nat _ L C := by rw [← hCC]; exact F1.ns.lt
  have hC₀ : h₀.get? C = none := by
    cases z : h₀.get? C with
    | none => rfl
    | some y => exact absurd (Heap.lt_size (F1.keep _ _ z)) (by rw [hCC]; exact Nat.lt_irrefl _)
  have N3 : News h₀ L h₁ ((C, oC) :: (D, lst []) :: (e, enumO it 0 .none) :: (it, titO q) :: news) := fun p hp => by
    rcases List.mem_cons.mp hp with rfl | hp
    · exact ⟨hoC, Nat.ne_of_gt hLC, hC₀⟩
    · exact N2 p hp
  clear N2 N1 F1 N F hsb₁ old hns₁ hoC
  have qE : q ≠ e := Nat.ne_of_lt (ktn_ltOf nE _ hq)
  have qI : q ≠ it := Nat.ne_of_lt (ktn_ltOf hlt _ hq)
  have neEI : e ≠ it := Nat.ne_of_gt hie
  have neCE : C ≠ e := Nat.ne_of_gt eC
  have neDE : D ≠ e := Nat.ne_of_gt eD
  have neCI : C ≠ it := Nat.ne_of_gt (Nat.lt_trans hie eC)
  have neDI : D ≠ it := Nat.ne_of_gt (Nat.lt_trans hie eD)
  have neCD : C ≠ D := Nat.ne_of_gt DC
  have loop : ∀ s₃ : Shared, s₃ = { s₁ with heap := h₁, toks := s₁.toks + ([] : List (Str × Value)).length } →
      codeAny (model prog w) A (.compLoop (.ListComp (.Tuple [.Name (Str.ofString "i") p1, .Name (Str.ofString "c") p2] ke pte) [⟨.Tuple [.Name (Str.ofString "i") p3, .Name (Str.ofString "c") p4] kk tp, iter, [.Name (Str.ofString "c") p5], 0⟩] scope pos) 0 (.ref e) (.ref D) (compEnvC scope cl C env))
        (compPost (model prog w) A E none Q (.ref D) C) s₃ := by
    rintro s₃ rfl
    refine kct_loop (fun k s' => ∃ (h' : Heap) (tk : Nat) (oC oI : Obj) (m' : Str → Option Value), s' = { s₁ with heap := h', toks := tk } ∧ NsObj oC m' ∧ oI.cls = .type "tuple_iterator" ∧ Fr h₀ L h' m ∧
      ((k = 3 ∧ oI.data = .fields #[.ref q, .int ((0 : Nat) : Int) 0] ∧ News h₀ L h' ((C, oC) :: (D, lst []) :: (e, enumO it ((0 : Nat) : Int) .none) :: (it, oI) :: news)) ∨
       ∃ (T : Addr) (t0 : Tok) (old : Value) (j : Nat), @LT.lt Nat _ C T ∧ oI.data = .fields #[.ref q, .int ((j : Nat) : Int) 0] ∧ News h₀ L h' ((C, oC) :: (D, lst [.ref T]) :: (T, tupO [.int 0 t0, .int 1 u1]) :: (e, enumO it ((j : Nat) : Int) old) :: (it, oI) :: news) ∧ ((k = 2 ∧ j = 1) ∨ (k = 1 ∧ j = 2)))) ?_ 3
      ⟨h₁, _, oC, titO q, _, rfl, hnC, rfl, F2, .inl ⟨rfl, rfl, N3⟩⟩
    clear N3 F2 hnC oC h₁ hC hCC hH2 H2
    rintro k s' ⟨h', tk, oC, oI, m', rfl, hnC, hic, F', ⟨rfl, hid, N'⟩ | ⟨T, t0, old, j, hCT, hid, N', hj⟩⟩
    · refine nx_enum (L := L) (h₀ := h₀) (m := m) 0 hh F' N' (by k_mem) (by k_mem) hic hid (t := q) (o := o) (.tail _ (.tail _ (.tail _ (.tail _ hq)))) hqc hqd rfl neEI qE qI
        (fun oe => .tail neCE (.tail neDE (.head (List.forall_mem_cons.mpr ⟨Ne.symm neEI, allNe nE⟩)))) (fun oe o' => .tail neCI (.tail neDI (.tail neEI (.head (allNe hlt))))) fun T tk' o' h2 hT hc' hd' F2 N2 => ?_
      have hCT : @LT.lt Nat _ C T := hT.1
      have hTE : T ≠ e := Nat.ne_of_gt (Nat.lt_trans eC hCT)
      dsimp only
      refine lg_enum F2 N2 (by k_mem) (.tail hTE (.tail neCE (.tail neDE (.head (List.forall_mem_cons.mpr ⟨Ne.symm neEI, allNe nE⟩))))) fun h3 F3 N3 => ?_
      refine kcp_assign (env := compEnvC scope cl C env) hh ⟨_, (N3 _ (.head _)).1, rfl, 0, rfl⟩ (lookup_relabel_local hxi) (lookup_relabel_local hxc) (by simp [compEnvC, relabel, hkind]) (hnC.ns (N3 _ (.tail _ (.head _))).1) fun h4 tk4 hn4 hs4 => ?_
      obtain ⟨oC', hoC', hnC'⟩ := ns_obj hn4
      have hTC : T ≠ C := Nat.ne_of_gt hCT
      obtain ⟨F4, N4⟩ := upd_ledger F3 N3 (.tail hTC (.head (List.forall_mem_cons.mpr ⟨Ne.symm neCD, List.forall_mem_cons.mpr ⟨Ne.symm neCE, List.forall_mem_cons.mpr ⟨Ne.symm neCI, allNe (allLt_up nD DC)⟩⟩⟩))) hs4 hoC'
      have kf : (compEnvC scope cl C env).scope.kind = .function := hkind
      refine isTrue_plain (wpAny_Name (wpAny_loadName_local kf (lookup_relabel_local hxc) (hnC'.ns (N4 _ (.tail _ (.head _))).1) (by rfl) ?_) (by decide))
      refine truthy_int ?_
      rw [show ((1 : Int) != 0) = true from by decide, if_pos rfl]
      refine Tuple_ (spliced_more (wpAny_Name (wpAny_loadName_local kf (lookup_relabel_local hxi) (hnC'.ns (N4 _ (.tail _ (.head _))).1) (by rfl) (spliced_more (wpAny_Name (wpAny_loadName_local kf (lookup_relabel_local hxc) (hnC'.ns (N4 _ (.tail _ (.head _))).1) (by rfl) (spliced_none ?_)) (by decide)))) (by decide)))
      refine newTuple_N F4 N4 fun h5 F5 N5 => ?_
      have lt5 := fun p hp => Heap.lt_size (N4 p hp).1
      dsimp only at N5 ⊢
      generalize hT2 : h4.objs.size = T2 at N5 lt5 ⊢
      have hCT2 : @LT.lt Nat _ C T2 := lt5 _ (.tail _ (.head _))
      have hDT2 : T2 ≠ D := Nat.ne_of_gt (Nat.lt_trans DC hCT2)
      have hTD : T ≠ D := Nat.ne_of_gt (Nat.lt_trans DC hCT)
      refine append_at (its := #[]) (n := 0) (N5 _ (.tail _ (.tail _ (.tail _ (.head _))))).1 (fun h6 hs6 hD6 => ?_) (by decide)
      obtain ⟨F6, N6⟩ := upd_ledger F5 N5 (.tail hDT2 (.tail hTD (.tail neCD (.head (List.forall_mem_cons.mpr ⟨Ne.symm neDE, List.forall_mem_cons.mpr ⟨Ne.symm neDI, allNe nD⟩⟩))))) (fun b y hb z => hs6.extBut b y hb z) (hD6.trans (congrArg some (lst_snoc [] (.ref T2))))
      refine ⟨2, by omega, h6, _, oC', o', _, rfl, hnC', hc', F6, .inr ⟨T2, tk', .int 1 u1, 1, hCT2, hd', ?_, .inl ⟨rfl, rfl⟩⟩⟩
      intro p hp
      simp only [List.mem_cons] at hp
      rcases hp with rfl | rfl | rfl | rfl | rfl | hp
      · exact N6 _ (by k_mem)
      · exact N6 _ (by k_mem)
      · exact N6 _ (by k_mem)
      · exact N6 _ (by k_mem)
      · exact N6 _ (by k_mem)
      · exact N6 _ (.tail _ (.tail _ (.tail _ (.tail _ (.tail _ (.tail _ hp))))))
    · have hTE : T ≠ e := Nat.ne_of_gt (Nat.lt_trans eC hCT)
      have hTI : T ≠ it := Nat.ne_of_gt (Nat.lt_trans hie (Nat.lt_trans eC hCT))
      have hTC : T ≠ C := Nat.ne_of_gt hCT
      rcases hj with ⟨rfl, rfl⟩ | ⟨rfl, rfl⟩
      · refine nx_enum (L := L) (h₀ := h₀) (m := m) 1 hh F' N' (by k_mem) (by k_mem) hic hid (t := q) (o := o) (.tail _ (.tail _ (.tail _ (.tail _ (.tail _ hq))))) hqc hqd rfl neEI qE qI
          (fun oe => .tail neCE (.tail neDE (.tail hTE (.head (List.forall_mem_cons.mpr ⟨Ne.symm neEI, allNe nE⟩))))) (fun oe o' => .tail neCI (.tail neDI (.tail hTI (.tail neEI (.head (allNe hlt)))))) fun T' tk' o' h2 hT hc' hd' F2 N2 => ?_
        have hCT' : @LT.lt Nat _ C T' := hT.1
        have hTE' : T' ≠ e := Nat.ne_of_gt (Nat.lt_trans eC hCT')
        dsimp only
        refine lg_enum F2 N2 (by k_mem) (.tail hTE' (.tail neCE (.tail neDE (.tail hTE (.head (List.forall_mem_cons.mpr ⟨Ne.symm neEI, allNe nE⟩)))))) fun h3 F3 N3 => ?_
        refine kcp_assign (env := compEnvC scope cl C env) hh ⟨_, (N3 _ (.head _)).1, rfl, 0, rfl⟩ (lookup_relabel_local hxi) (lookup_relabel_local hxc) (by simp [compEnvC, relabel, hkind]) (hnC.ns (N3 _ (.tail _ (.head _))).1) fun h4 tk4 hn4 hs4 => ?_
        obtain ⟨oC', hoC', hnC'⟩ := ns_obj hn4
        have hTC' : T' ≠ C := Nat.ne_of_gt hCT'
        obtain ⟨F4, N4⟩ := upd_ledger F3 N3 (.tail hTC' (.head (List.forall_mem_cons.mpr ⟨Ne.symm neCD, List.forall_mem_cons.mpr ⟨hTC, List.forall_mem_cons.mpr ⟨Ne.symm neCE, List.forall_mem_cons.mpr ⟨Ne.symm neCI, allNe (allLt_up nD DC)⟩⟩⟩⟩))) hs4 hoC'
        have kf : (compEnvC scope cl C env).scope.kind = .function := hkind
        refine isTrue_plain (wpAny_Name (wpAny_loadName_local kf (lookup_relabel_local hxc) (hnC'.ns (N4 _ (.tail _ (.head _))).1) (by rfl) ?_) (by decide))
        refine truthy_int ?_
        rw [show ((0 : Int) != 0) = false from by decide, if_neg (by decide)]
        refine ⟨1, by omega, h4, _, oC', o', _, rfl, hnC', hc', F4, .inr ⟨T, t0, .int 0 u2, 2, hCT, hd', ?_, .inr ⟨rfl, rfl⟩⟩⟩
        exact fun p hp => N4 p (.tail _ hp)
      · refine nx_enum_end (L := L) (h₀ := h₀) (m := m) 2 hh F' N' (by k_mem) (by k_mem) hic hid (t := q) (o := o) (.tail _ (.tail _ (.tail _ (.tail _ (.tail _ hq))))) hqc hqd rfl qI
          (.keep neCI (.keep neDI (.keep hTI (.keep neEI (.hit (.rest (allNe hlt))))))) fun h2 F2 N2 => ?_
        dsimp only
        refine ⟨_, hnC.ns (N2 _ (.head _)).1, fun h3 hs3 => ?_⟩
        obtain ⟨F3, N3⟩ := drop_ledger F2 N2 (.head _) (.hit (.keep (Ne.symm neCD) (.keep hTC (.keep (Ne.symm neCE) (.rest (allNe (allLt_up nD DC))))))) (fun b y hb z => hs3.extBut b y hb z)
        refine hQ D T t0 h3 tk nD (Nat.lt_trans DC hCT) F3 fun p hp => ?_
        simp only [List.mem_cons] at hp
        rcases hp with rfl | rfl | hp
        · exact N3 _ (by k_mem)
        · exact N3 _ (by k_mem)
        · exact N3 _ (.tail _ (.tail _ (.tail _ hp)))
  exact codeAny_compStart_list (loop _ rfl) (it_enum N3 (by k_mem) (loop _ rfl))
end
end Mine
end

-- Gen1
section
open PySem PySem.W PyProof.Rows PySem.Spec PySem.Calls PyProof.Rows.LCg
set_option maxRecDepth 100000
set_option maxHeartbeats 4000000
namespace Mine
/-- a generator that stands ready to be drawn: n values, the j-th as V says -/
def GenReady (prog : Program) (w : World) (A : Around) (h₀ : Heap) (L : Addr) (led : List (Addr × Obj)) (a : Addr) (n : Nat) (V : Nat → Value → Prop) (s : Shared) : Prop :=
  ∃ (fp wr : List Addr) (g : Nat) (St : Nat → Shared → Prop), WalksS prog w A.in4 a fp wr (GenOnlyQ g) n V St ∧ St 0 s ∧ (∀ i s, St i s → s.TypeIs (.ref a) "generator") ∧ a ∈ fp ∧ (∀ b ∈ fp, b < s.heap.objs.size) ∧ (∀ b ∈ wr, h₀.get? b = none ∧ L ≠ b ∧ ∀ p ∈ led, p.1 ≠ b)

section
variable {prog : Program} {w : World} {A : Around} {E : Value → Shared → Prop} {s : Shared} {h₀ : Heap} {L : Addr} {m : Str → Option Value} {led : List (Addr × Obj)}

theorem tuple_ready {a : Addr} {n : Nat} {V : Nat → Value → Prop} {Q : Value → Shared → Prop} (F : Fr h₀ L s.heap m) (N : News h₀ L s.heap led) (hb : AllBare s.gens) (G : GenReady prog w A h₀ L led a n V s) (hn : n ≤ 1000)
    (hQ : ∀ (D : Addr) (ys : List Value) (h' : Heap) (g' : Array GenState) (tk' : Nat), AllLt D led → ys.length = n → (∀ j v, ys[j]? = some v → V j v) → AllBare g' → Fr h₀ L h' m → News h₀ L h' ((D, tupO ys) :: led) → Q (.ref D) { s with heap := h', gens := g', toks := tk' }) :
    wpAny (model prog w) A (call (.type "tuple") [.ref a]) Q E s := by
  obtain ⟨fp, wr, g, St, W, hst, hT, hI, hfp, hwr⟩ := G
  refine call_tuple_gen (hsz := Nat.le_trans hn (by decide)) W.in4_3 hT hst hfp hI fun s' acc hm hacc => ?_
  have keep : ∀ b o, b ∉ wr → s.heap.get? b = some o → s'.heap.get? b = some o := hm.heap
  have F1 : Fr h₀ L s'.heap m := ⟨F.ns.at' fun z q => keep L z (fun c => (hwr L c).2.1 rfl) q, fun b z q => keep b z (fun c => by rw [(hwr b c).1] at q; cases q) (F.keep b z q), F.above⟩
  have N1 : News h₀ L s'.heap led := fun p hp => ⟨keep _ _ (fun c => (hwr _ c).2.2 p hp rfl) (N p hp).1, (N p hp).2⟩
  have G1 : AllBare s'.gens := hb.movedS hm
  obtain ⟨h', g', d', tk', os'⟩ := s'
  have e2 : d' = s.drawn := hm.drawn
  have e3 : os' = s.os := hm.os
  subst e2 e3
  have e4 : ({ cls := .type "tuple", data := .seq acc } : Obj) = tupO acc.toList := by simp
  rw [e4]
  exact hQ _ acc.toList _ _ _ (allLt_of fun p hp => Heap.lt_size (N1 p hp).1) (by simp [hacc.1]) (fun j v hv => hacc.2 j v (by simpa using hv)) G1 (F1.push _) (N1.push F1 _)

/-- what stands when the source of the generator has been read -/
def GenSrc (prog : Program) (w : World) (A : Around) (h₀ : Heap) (L : Addr) (m : Str → Option Value) (P : Addr) (env : Env) (elt : Expr) (x : Str) (scope : Scope) (cl : List (Str × Addr)) (Q : Value → Shared → Prop) (xv : Value) (s₁ : Shared) : Prop :=
  ∃ (l : Addr) (o : Obj) (vs : List Value) (n : Nat) (ps : Array Value) (news : List (Addr × Obj)) (V : Nat → Value → Prop), xv = .ref l ∧ Fr h₀ L s₁.heap m ∧ AllBare s₁.gens ∧ News h₀ L s₁.heap ((P, tabObj ps) :: news) ∧ TriplesOk ps.toList ∧ (∀ p ∈ news, p.1 ≠ P) ∧
    (l, o) ∈ news ∧ o.cls = .type "list" ∧ o.data = .seq vs.toArray n ∧
    (∀ (A' : Around) (E' : Value → Shared → Prop) (C : Addr) (code : Value) (bi : Addr) (i : Nat) (v : Value) (s₂ : Shared) (m₂ : Str → Option Value), A'.handled = none → vs[i]? = some v → m₂ x = some v → Fr h₀ C s₂.heap m₂ → News h₀ C s₂.heap news →
      wpAny (model prog w) A' (eval elt (genEnv scope cl C code bi env)) (fun y s₃ => V i y ∧ Keeps s₂ s₃) E' s₂) ∧
    (∀ (a : Addr) (ps' : Array Value) (h' : Heap) (g' : Array GenState) (tk' : Nat), AllBare g' → Fr h₀ L h' m → News h₀ L h' ((P, tabObj ps') :: news) → TriplesOk ps'.toList → GenReady prog w A h₀ L ((P, tabObj ps') :: news) a vs.length V { s₁ with heap := h', gens := g', toks := tk' } →
      Q (.ref a) { s₁ with heap := h', gens := g', toks := tk' })

theorem Drop.stays {I : Addr} {l l' : List (Addr × Obj)} (D : Drop I l l') : ∀ p ∈ l, p.1 ≠ I → p ∈ l' := by
  induction D with
  | nil => exact fun _ h => nomatch h
  | rest _ => exact fun p hp _ => hp
  | hit _ ih =>
    intro p hp hn
    rcases List.mem_cons.mp hp with rfl | hp
    · exact absurd rfl hn
    · exact ih p hp hn
  | keep _ _ ih =>
    intro p hp hn
    rcases List.mem_cons.mp hp with rfl | hp
    · exact .head _
    · exact .tail _ (ih p hp hn)
theorem GenSrc.intro {P l : Addr} {o : Obj} {n : Nat} {ps : Array Value} {news : List (Addr × Obj)} {env : Env} {elt : Expr} {x : Str} {scope : Scope} {cl : List (Str × Addr)} {Q : Value → Shared → Prop} (vs : List Value) (V : Nat → Value → Prop)
    (F : Fr h₀ L s.heap m) (hb : AllBare s.gens) (N : News h₀ L s.heap led) (hm : (P, tabObj ps) ∈ led) (D : Drop P led news) (ht : TriplesOk ps.toList) (hl : (l, o) ∈ led) (hlP : l ≠ P) (hlc : o.cls = .type "list") (hld : o.data = .seq vs.toArray n)
    (helt : ∀ (A' : Around) (E' : Value → Shared → Prop) (C : Addr) (code : Value) (bi : Addr) (i : Nat) (v : Value) (s₂ : Shared) (m₂ : Str → Option Value), A'.handled = none → vs[i]? = some v → m₂ x = some v → Fr h₀ C s₂.heap m₂ → News h₀ C s₂.heap news →
      wpAny (model prog w) A' (eval elt (genEnv scope cl C code bi env)) (fun y s₃ => V i y ∧ Keeps s₂ s₃) E' s₂)
    (hQ : ∀ (a : Addr) (ps' : Array Value) (h' : Heap) (g' : Array GenState) (tk' : Nat), AllBare g' → Fr h₀ L h' m → News h₀ L h' ((P, tabObj ps') :: news) → TriplesOk ps'.toList → GenReady prog w A h₀ L ((P, tabObj ps') :: news) a vs.length V { s with heap := h', gens := g', toks := tk' } →
      Q (.ref a) { s with heap := h', gens := g', toks := tk' }) : GenSrc prog w A h₀ L m P env elt x scope cl Q (.ref l) s :=
  ⟨l, o, vs, n, ps, news, V, rfl, F, hb, fun p hp => by
    rcases List.mem_cons.mp hp with rfl | hp
    · exact N _ hm
    · exact N p (D.off p hp).1, ht, fun p hp => (D.off p hp).2, D.stays _ hl hlP, hlc, hld, helt, hQ⟩

theorem gen_make {pg : Program} {lo : List Str} {mean : ExcName → Option Value} {mg mb : Str → Option Value} {env : Env} {elt iter : Expr} {x : Str} {px pos : Pos} {scope : Scope} {cl : List (Str × Addr)} {c P : Addr} {Q : Value → Shared → Prop}
    (_F₀ : Fr h₀ L s.heap m) (T : Top pg lo mean mg mb h₀) (C : CodeHd h₀ c P) (hcode : env.code = .ref c) (hgl : env.globals = mainGlobals) (hh : A.handled = none) (hco : scope.isCoroutine = false) (hclos : closureFor scope env = pure cl) (hcell : ∀ y ∈ scope.names, y.2 ≠ .cell) (h0 : scope.names.lookup (".0" : Str) = some NameKind.local)
    (hx : scope.names.lookup x = some .local) (hkind : scope.kind = .function) (hroom : A.depth < recursionLimit)
    (h : wpAny (model prog w) A (eval iter env) (GenSrc prog w A h₀ L m P env elt x scope cl Q) E s) (hs : ∀ x, genFold iter env x = pure x) :
    wpAny (model prog w) A (eval (.GeneratorExp elt [⟨.Name x px, iter, [], 0⟩] scope pos) env) Q E s := by
  refine wpAny_GeneratorExp_walksQ hh hco hclos hcell h0 hx hkind hroom (wpAny_mono h (fun xv s₁ h₁ => ?_) fun _ _ e => e) hs
  obtain ⟨l, o, vs, n, ps, news, V, rfl, F, hb, N, ht, hP, hl, hlc, hld, helt, hQ⟩ := h₁
  have hPn := N _ (.head _)
  have hll := N _ (.tail _ hl)
  have hL : s₁.heap.IsList l vs.toArray := ⟨o, hll.1, hlc, n, hld⟩
  refine wpAny_pyIter_list hL ?_
  have F1 := F.push (litO l)
  have N1 := N.push F (litO l)
  have ltI : ∀ p ∈ (P, tabObj ps) :: news, p.1 < s₁.heap.objs.size := fun p hp => Heap.lt_size (N p hp).1
  generalize hI : s₁.heap.objs.size = I at N1 ltI ⊢
  generalize hH : s₁.heap.push (litO l) = H1 at F1 N1 ⊢
  have nl : H1.NoLimit := T.nolimit.keeps F1.keep
  refine ⟨nl, ?_⟩
  have C1 : CodeHd H1 c P := C.keeps F1.keep
  have hP1 : H1.get? P = some (tabObj ps) := (N1 _ (.tail _ (.head _))).1
  have hI1 : H1.get? I = some (litO l) := (N1 _ (.head _)).1
  have hl1 : H1.IsList l vs.toArray := ⟨o, (N1 _ (.tail _ (.tail _ hl))).1, hlc, n, hld⟩
  have nePI : I ≠ P := Nat.ne_of_gt (ltI _ (.head _))
  have nelI : l ≠ I := Nat.ne_of_lt (ltI _ (.tail _ hl))
  have nelP : l ≠ P := hP _ hl
  -- the code object, found or made: the table alone changes
  have hcodeStep : wpAny (model prog w) A (genexprCode env pos (env.qual ++ "<genexpr>") scope) (fun _ s₃ => ∃ (h' : Heap) (tk : Nat) (ps' : Array Value), s₃ = { s₁ with heap := h', toks := tk } ∧ Heap.ExtBut P H1 h' ∧ h'.get? P = some (tabObj ps') ∧ TriplesOk ps'.toList) E { s₁ with heap := H1 } := by
    cases hf : codeAmong pos ps.toList with
    | some c' => exact wpAny_genexprCode_hit hcode (C1.code hP1 ht) hf ⟨H1, s₁.toks, ps, rfl, Heap.ExtBut.refl _ _, hP1, ht⟩
    | none =>
      refine wpAny_genexprCodeX hcode (C1.code hP1 ht) (C1.tab hP1) hf fun c' h' tk hx' _ _ hIs _ htb _ => ⟨h', tk, _, rfl, hx', htb.2, ?_⟩
      obtain ⟨_, _, _, _, _, _, _, _, _, _, _, _, _, _, _, _, _, _, _, h10, _⟩ := hIs
      exact h10
  refine wpAny_mono hcodeStep (fun code s₃ hc => ?_) fun _ _ e => e
  obtain ⟨h', tk, ps', rfl, hx', hP', ht'⟩ := hc
  -- the ledger behind it
  have up : ∀ b y, b ≠ P → H1.get? b = some y → h'.get? b = some y := fun b y hne e => hx' b y hne e
  have F2 : Fr h₀ L h' m := ⟨F1.ns.at' fun z q => up L z (Ne.symm hPn.2.1) q, fun b z q => up b z (fun c => by rw [c] at q; have := hPn.2.2; rw [q] at this; cases this) (F1.keep b z q), F1.above⟩
  have N2 : News h₀ L h' ((I, litO l) :: (P, tabObj ps') :: news) := fun p hp => by
    simp only [List.mem_cons] at hp
    rcases hp with rfl | rfl | hp
    · exact ⟨up _ _ nePI hI1, (N1 _ (.head _)).2⟩
    · exact ⟨hP', hPn.2⟩
    · exact ⟨up _ _ (hP p hp) (N1 p (.tail _ (.tail _ hp))).1, (N1 p (.tail _ (.tail _ hp))).2⟩
  clear hcodeStep N1 F1 hH hI1 hP1 C1 hl1 up hx' nl
  have T2 := T.keeps F2.keep
  obtain ⟨bm, ob, b1, b2, b3, b4, b5, b6⟩ := T2.bmain
  refine wpAny_builtinsFor (hgl ▸ T2.g) b1 b2 b3 b4 b5 b6 ?_
  have hl2 : h'.IsList l vs.toArray := ⟨o, (N2 _ (.tail _ (.tail _ hl))).1, hlc, n, hld⟩
  have hsz : ∀ p ∈ (I, litO l) :: (P, tabObj ps') :: news, p.1 < h'.objs.size := fun p hp => Heap.lt_size (N2 p hp).1
  obtain ⟨mc, hmc, _⟩ := T2.nolimit
  have hcs : cStatics ≠ I := fun q => by
    obtain ⟨mc', hmc', _⟩ := T.nolimit
    obtain ⟨o', _, _, e, _⟩ := hmc'
    have := (N2 _ (.head _)).2.2
    rw [q] at e
    dsimp only at this
    rw [e] at this
    cases this
  refine ⟨I, [I, l], [I], vs.toArray.size, fun i v => vs.toArray[i]? = some v, fun i h => h.IsListIter I l i ∧ h.IsList l vs.toArray, fun _ => true, V, rfl, fun A' hA' => Walks.list hA' I l nelI vs.toArray, ⟨⟨litO l, (N2 _ (.head _)).1, rfl, rfl⟩, hl2⟩, ?_, T2.nolimit, ?_, ?_, ?_⟩
  · intro b hb
    rcases List.mem_cons.mp hb with rfl | hb
    · exact hsz _ (.head _)
    · rw [List.mem_singleton.mp hb]; exact hsz _ (.tail _ (.tail _ hl))
  · simpa using hcs
  · intro href hk
    refine ⟨fun A' E' i v s₂ m₂ _ _ _ _ _ => ?_, fun A' E' i v s₂ m₂ hA' hv _ hn hm hfr => ?_⟩
    · exact wpAny_pure ⟨rfl, s₂.heap, s₂.toks, rfl, fun _ _ e => e⟩
    · have up : ∀ b y, b ≠ I → h'.get? b = some y → s₂.heap.get? b = some y := fun b y hne e => hfr b (List.mem_range.mpr (Heap.lt_size e)) (by simpa using hne) y (hk b y e)
      have F3 : Fr h₀ h'.objs.size s₂.heap m₂ := ⟨hn, fun b z q => up b z (fun c => by rw [c] at q; have := (N2 _ (.head _)).2.2; dsimp only at this; rw [q] at this; cases this) (F2.keep b z q), Nat.le_trans F2.above (Nat.le_of_lt F2.ns.lt)⟩
      refine helt A' E' h'.objs.size code builtinsNs i v s₂ m₂ hA' (by simpa using hv) hm F3 fun p hp => ⟨up _ _ (Nat.ne_of_lt (ltI _ (.tail _ hp))) (N2 p (.tail _ (.tail _ hp))).1, Nat.ne_of_lt (hsz _ (.tail _ (.tail _ hp))), (N2 p (.tail _ (.tail _ hp))).2.2⟩
  · intro a h5 tk5 gs hgs ha5 hs5 hk5 W GA
    have F5 : Fr h₀ L h5 m := F2.keeps hk5
    have N5 : News h₀ L h5 ((P, tabObj ps') :: news) := fun p hp => N2.grown hk5 p (.tail _ hp)
    have e1 : passing (fun _ => true) vs.toArray.size 0 = List.range vs.length := by simp [passing]
    rw [e1] at W
    have W' : WalksS prog w A.in4 a (a :: h'.objs.size :: List.range h'.objs.size) (h'.objs.size :: [I]) (GenOnlyQ s₁.gens.size) vs.length V (GenAt prog w A.in4 a s₁.gens.size h'.objs.size (List.range h'.objs.size) [I] (fun _ => true) vs.toArray.size V) := by
      have W1 := W
      rw [List.length_range] at W1
      refine ⟨W1.sub, W1.grefl, W1.gtrans, W1.frame, fun i s Q E hi st hq => W1.item i s Q E hi st fun v s' hp st' mv => ?_, W1.done, W1.self⟩
      obtain ⟨k, hk, hv⟩ := hp
      have hik : i = k := by
        rw [List.getElem?_range hi] at hk
        exact Option.some.inj hk
      subst hik
      exact hq v s' hv st' mv
    refine hQ a ps' h5 (s₁.gens.push gs) tk5 (hb.push hgs) F5 N5 ht' ⟨a :: h'.objs.size :: List.range h'.objs.size, h'.objs.size :: [I], s₁.gens.size, _, W', GA, fun i s hst => hst.1.typeIs, .head _, ?_, ?_⟩
    · intro b hb'
      have ha' : @LT.lt Nat _ h'.objs.size a := ha5
      have hs' : h5.objs.size = a + 1 := hs5
      show @LT.lt Nat _ b h5.objs.size
      rcases List.mem_cons.mp hb' with rfl | hb'
      · omega
      rcases List.mem_cons.mp hb' with rfl | hb'
      · omega
      · have := List.mem_range.mp hb'; omega
    · intro b hb'
      rcases List.mem_cons.mp hb' with rfl | hb'
      · refine ⟨?_, Nat.ne_of_lt F2.ns.lt, fun p hp => Nat.ne_of_lt (hsz p (.tail _ hp))⟩
        cases q : h₀.get? h'.objs.size with
        | none => rfl
        | some z => exact absurd (Heap.lt_size (F2.keep _ _ q)) (Nat.lt_irrefl _)
      · rw [List.mem_singleton.mp hb']
        refine ⟨(N2 _ (.head _)).2.2, Ne.symm (N2 _ (.head _)).2.1, fun p hp => ?_⟩
        rcases List.mem_cons.mp hp with rfl | hp
        · exact Ne.symm nePI
        · exact Nat.ne_of_lt (ltI _ (.tail _ hp))
end
end Mine
end

-- Head2
section
open PySem PySem.W PyProof.Rows
namespace Mine
local macro_rules | `(tactic| k_head) => `(tactic| o_head (kmHook Mine.hd.heap_39 [2, 3, 15, 17, 18, 20, 21, 22, 24, 25, 27, 28, 29, 31, 32, 34, 35, 36, 38, 39, 41, 42, 43, 45, 46, 48, 49, 50, 52, 53, 55, 56, 57, 59, 60, 62, 63, 64, 66, 67, 69, 70, 71, 73, 74, 76, 77, 78, 80, 81, 83, 84, 85, 87, 88, 90, 91, 99, 102, 103, 104, 106, 107, 109, 110, 111, 114, 115, 116, 119, 120, 121, 123, 124, 126, 127, 128, 131, 132, 133, 135, 136, 138, 139, 140, 143, 144, 145, 147, 148, 150, 151, 152, 155, 156, 157, 160, 161, 162, 164, 165, 167, 168, 169, 171, 172, 174, 175, 176, 178, 179, 181, 182, 183, 186, 187, 188, 190, 191, 193, 194, 195, 196, 198, 199, 201, 202, 203, 205, 206, 208, 209, 210, 211, 212, 213, 214, 217, 224, 226, 227, 229, 230, 231, 233, 234, 236, 237, 238, 239, 240, 241, 244, 245, 246, 247, 248, 249, 250, 251, 252, 253, 255, 256, 258, 259, 260, 262, 263, 265, 266, 267, 269, 270, 272, 273, 274, 276, 277, 279, 280] (fun _ => by kernel_rfl) [100]))
set_option maxRecDepth 100000 in
set_option maxHeartbeats 8000000 in
open_top hd2 for PySem.Challenge.rw_bb0064_01
end Mine
end

-- Fq1
section
open PySem PySem.W PyProof.Rows PySem.Spec PySem.Calls PyProof.Rows.LCg
set_option maxRecDepth 100000
set_option maxHeartbeats 4000000
namespace Mine
abbrev lstN (vs : List Value) (n : Nat) : Obj := { cls := .type "list", data := .seq vs.toArray n }
abbrev BackT (h₀ : Heap) (L : Addr) (m : Str → Option Value) (news : List (Addr × Obj)) (s : Shared) (P : Value → List (Addr × Obj) → Prop) (Q : Value → Shared → Prop) : Prop :=
  ∀ (r : Value) (tl : List (Addr × Obj)) (ps' : Array Value) (h' : Heap) (g' : Array GenState) (tk' : Nat), P r tl → TriplesOk ps'.toList → AllBare g' → Fr h₀ L h' m → News h₀ L h' (tl ++ (100, tabObj ps') :: news) → Q r { s with heap := h', gens := g', toks := tk' }
/-- as Spec, of a def that may grow the table of FQP.__init__'s code -/
def SpecT (w : World) (f : Addr) (dep : Nat) (vs : List Value) (news : List (Addr × Obj)) (P : Value → List (Addr × Obj) → Prop) : Prop :=
  ∀ (ps : Array Value) (pg : Program) (lo : List Str) (mean : ExcName → Option Value) (mg mb : Str → Option Value) (dp un : Nat) (gd : Option (List Code)) (cn : Str) (cs : Scope) (a : Addr) (ccd : Value) (cl : List (Str × Addr)) (outer : List Env) (A₀ : Around) (base h₀ : Heap) (L : Addr) (m : Str → Option Value) (s : Shared) (Q E : Value → Shared → Prop),
    Site w pg lo mean mg mb A₀ base h₀ outer L m ((100, tabObj ps) :: news) cs s → TriplesOk ps.toList → (∀ p ∈ news, p.1 ≠ 100) → dp + dep < recursionLimit → un + 8 * dep < cLine → BackT h₀ L m news s P Q →
    wpAny (model PySem.Challenge.rw_bb0064_01.row.prog w) (ktrTop dp un gd cn cs L a ccd cl outer) (call (.ref f) vs) Q E s
set_option hygiene false in
local macro_rules | `(tactic| k_enter) => `(tactic| (refine' code_defC ?k1 ?k2 ?k3 ?k4 ?k5 ?kA ?kF ?kK ?k6 ?k7 ?k8 ?k9 ?kB ?kD ?_ ?c2 ?c3 ?c4; (case kA => exact rfl); (case kF => exact rfl); (case kK => assumption); (case k1 => k_asm); (case k2 => k_asm); (case k3 => k_asm); (case k4 => k_asm); (case k5 => k_asm); (case k6 => k_is); (case k7 => k_is); (case k8 => ktr_room); (case k9 => first | exact BindsTo.of_eq rfl | exact binds_K (by k_in) rfl (by k_is) rfl rfl rfl | fail "k_enter: no rule for these arguments"); (case kB => exact rfl); (case kD => decide +kernel); (case c2 => exact rfl); (case c3 => exact rfl); (case c4 => exact rfl); k_whole; intro g' L' h' tk' cells' FG' F' N' Y' B' X' T' l1; (try k_lt l1); k_cells Y'; (try simp only [List.cons_append, List.nil_append] at N'); (try dsimp only); (try k_lift B'); (try k_fold)))
local macro_rules | `(tactic| walk_at "eval ListComp") => `(tactic| (k_here; refine stand ?_))
local macro_rules | `(tactic| walk_at "eval GeneratorExp") => `(tactic| (k_here; refine stand ?_))
local macro_rules | `(tactic| walk_at "call type:enumerate") => `(tactic| (k_here; k_dflt (refine' mk_enum ?F ?N ?t ?c ?d ?_; (case F => k_asm); (case N => k_asm); (case t => k_mem); (case c => exact rfl); (case d => exact rfl); k_whole; intro it e h' l1 l2 l3 F' N')))
local macro_rules | `(tactic| k_mem) => `(tactic| (refine memOf ?_; ktr_member))
theorem dropRest {l : List (Addr × Obj)} (h : ∀ p ∈ l, p.1 ≠ 100) : Drop 100 l l := .rest h
local macro_rules | `(tactic| tb_rel) => `(tactic| first | (refine' Drop.hit ?b; (case b => tb_rel)) | (refine' Drop.keep ?a ?b; (case a => k_ne); (case b => tb_rel)) | exact dropRest (by assumption) | exact Drop.nil)
theorem item_l {prog : Program} {w : World} {A : Around} {E : Value → Shared → Prop} {s : Shared} {h₀ : Heap} {L : Addr} {news : List (Addr × Obj)} {value slice : PySem.Expr} {l : Addr} {o : Obj} {vs : List Value} {n : Nat} {k : Int} {u : Tok} {v : Value} {Q : Value → Shared → Prop}
    (N : News h₀ L s.heap news) (hm : (l, o) ∈ news) (hc : o.cls = .type "list") (hd : o.data = .seq vs.toArray n) (h0 : 0 ≤ k) (hhi : k < 2 ^ 63) (hx : vs[k.toNat]? = some v) (h : Q v s)
    (hs : subscripted slice false (.ref l) (.int k u) = operate [.ref l, .int k u] (getItem (.ref l) (.int k u)) := by with_unfolding_all rfl) :
    wpAny (model prog w) A (subscriptTail value slice (.ref l) (.int k u)) Q E s :=
  have hl : s.heap.IsList l vs.toArray := ⟨o, (N _ hm).1, hc, n, hd⟩
  tail_any hl.typeIs slot_list_getitem.lookup (wpAny_getItem_list hl h0 hhi (by simpa using hx) h) hs
/-- the parts of an element of FQ2 -/
structure El where
  (x d ct ml T q : Addr)
  (k1 k2 k3 k4 k5 tp td ta tb m0 u1 u2 : Tok)
abbrev El.led (e : El) (w : World) (p : Int) (v : Int × Int) : List (Addr × Obj) :=
  [(e.x, instObj 241 e.d),
   (e.d, dictOf [⟨PyData.keyHash w.params "field_modulus", .str "field_modulus" e.k1, .int p e.tp⟩, ⟨PyData.keyHash w.params "mc_tuples", .str "mc_tuples" e.k2, .ref e.ml⟩, ⟨PyData.keyHash w.params "coeffs", .str "coeffs" e.k3, .ref e.ct⟩,
     ⟨PyData.keyHash w.params "modulus_coeffs", .str "modulus_coeffs" e.k4, .ref e.q⟩, ⟨PyData.keyHash w.params "degree", .str "degree" e.k5, .int 2 e.td⟩] 5),
   (e.ct, tupO [.int v.1 e.ta, .int v.2 e.tb]), (e.ml, lst [.ref e.T]), (e.T, tupO [.int 0 e.m0, .int 1 e.u1]), (e.q, tupO [.int 1 e.u1, .int 0 e.u2])]
def RE (w : World) (p : Int) (v : Int × Int) (r : Value) (tl : List (Addr × Obj)) : Prop := ∃ e : El, r = .ref e.x ∧ tl = e.led w p v
theorem back_el {w : World} {h₀ h' : Heap} {L : Addr} {m : Str → Option Value} {news nw : List (Addr × Obj)} {s : Shared} {x d ct ml T q : Addr} {k1 k2 k3 k4 k5 tp td m0 u1 u2 : Tok} {p a b : Int} {ys : List Value} {ps : Array Value} {Q : Value → Shared → Prop} {g' : Array GenState} {tk' : Nat}
    (hret : BackT h₀ L m news s (RE w p (a, b)) Q) (F : Fr h₀ L h' m) (N : News h₀ L h' nw) (hb : AllBare g') (hs : ∀ p ∈ news, p ∈ nw) (ht : (100, tabObj ps) ∈ nw) (htr : TriplesOk ps.toList)
    (h1 : (x, instObj 241 d) ∈ nw) (h2 : (d, dictOf [⟨PyData.keyHash w.params "field_modulus", .str "field_modulus" k1, .int p tp⟩, ⟨PyData.keyHash w.params "mc_tuples", .str "mc_tuples" k2, .ref ml⟩, ⟨PyData.keyHash w.params "coeffs", .str "coeffs" k3, .ref ct⟩,
     ⟨PyData.keyHash w.params "modulus_coeffs", .str "modulus_coeffs" k4, .ref q⟩, ⟨PyData.keyHash w.params "degree", .str "degree" k5, .int 2 td⟩] 5) ∈ nw) (h3 : (ct, tupO ys) ∈ nw) (h4 : (ml, lst [.ref T]) ∈ nw) (h5 : (T, tupO [.int 0 m0, .int 1 u1]) ∈ nw) (h6 : (q, tupO [.int 1 u1, .int 0 u2]) ∈ nw)
    (hl : ys.length = 2) (hV : ∀ (j : Nat) (v : Value), ys[j]? = some v → ∃ t, v = .int ([a, b].getD j 0) t) : Q (.ref x) { s with heap := h', gens := g', toks := tk' } := by
  obtain ⟨y0, y1, rfl⟩ : ∃ y0 y1, ys = [y0, y1] := by
    match ys, hl with
    | [y0, y1], _ => exact ⟨y0, y1, rfl⟩
  obtain ⟨ta, rfl⟩ := hV 0 _ rfl
  obtain ⟨tb, rfl⟩ := hV 1 _ rfl
  refine hret _ _ ps h' g' tk' ⟨⟨x, d, ct, ml, T, q, k1, k2, k3, k4, k5, tp, td, ta, tb, m0, u1, u2⟩, rfl, rfl⟩ htr hb F fun p hp => N p ?_
  simp only [El.led, List.cons_append, List.nil_append, List.mem_cons] at hp
  rcases hp with rfl | rfl | rfl | rfl | rfl | rfl | rfl | hp <;> first | assumption | exact hs _ hp
local macro_rules | `(tactic| walk_at "subscriptTail") => `(tactic| (k_here; (with_reducible show wpAny _ _ (subscriptTail _ _ (Value.ref _) (Value.int _ _)) _ _ _); k_dflt (refine' item_l ?N ?t ?c ?d ?a ?b ?x ?_ ?s; (case N => k_asm); (case t => k_mem); (case c => exact rfl); (case d => exact rfl); (case a => decide); (case b => decide); (case x => exact rfl); (case s => with_unfolding_all rfl); k_whole)))
local macro_rules | `(tactic| walk_at "call type:tuple") => `(tactic| (k_here; (rename GenReady _ _ _ _ _ _ _ _ _ _ => G9'); k_dflt (refine' tuple_ready ?F ?N ?b G9' ?n ?_; (case F => k_asm); (case N => k_asm); (case b => assumption); (case n => exact of_decide_eq_true rfl)); clear G9'; intro D' ys' h' g' tk' l' hlen' hV' hb' F' N'; (try simp only [AllLt, and_true] at l')))
local macro_rules | `(tactic| walk_at "call type:tuple") => `(tactic| (k_here; k_dflt (refine' call_tuple_tup ?t ?_; (case t => exact News.isTup (by k_asm) (by k_mem)))))
theorem fq2_spec {w : World} {l q : Addr} {a0 a1 p : Int} {t1 t2 u1 u2 t3 : Tok} {n : Nat} {news : List (Addr × Obj)} (ho : (l, lstN [.int a0 t1, .int a1 t2] n) ∈ news) (hq : (q, tupO [.int 1 u1, .int 0 u2]) ∈ news)
    (h0 : 2 < p) (h1 : p ≤ 1000) :
    SpecT w 241 4 [.ref l, .ref q, .int p t3] news (RE w p (a0.fmod p, a1.fmod p)) := by
  unfold SpecT
  intro ps pg lo mean mg mb dp un gd cn cs a ccd cl outer A₀ base h₀ L m s Q E S htr hgt hd hu hret
  obtain ⟨B, F, X, N, T, hk, hb⟩ := S
  revert X
  k_fill
  intro X
  k_dflt (refine' call_cls ?k1 ?k2 ?k3 ?k4 ?k5 ?k6 ?_; (case k1 => k_asm); (case k2 => k_asm); (case k3 => k_asm); (case k4 => k_is); (case k5 => k_is); (case k6 => k_is); k_whole)
  intro x' d' h' F' N' l1 l2
  replace l1 := allLt_of l1
  simp only [AllLt] at l1
  k_lt2 l2
  k_dflt k_enter
  k_steps
  unfold Stand
  rename Fr h₀ L g' m => FG9
  rename Fr g' L' _ _ => F9
  refine comp_pairs q u1 u2 F9 (by rfl) (by with_unfolding_all rfl) (by decide) (by rfl) (by decide) (by rfl) (by rfl) ?_ (by intro _; rfl)
  k_steps
  rename News g' L' _ _ => N9
  refine ⟨_, _, _, _, _, rfl, by assumption, N9, by assumption, by assumption, by k_mem, rfl, rfl, ?_⟩
  clear N9 F9
  intro D T t0 h9 tk9 l4 l5 F9 N9
  simp only [AllLt, and_true] at l4
  k_steps
  unfold Stand
  have C9 : CodeHd g' 102 100 := codeHd_of_K (by assumption) (by kernel_rfl)
  rename Fr g' L' _ _ => F7
  refine gen_make F7 (by assumption) C9 (by rfl) (by rfl) (by rfl) (by rfl) (by with_unfolding_all rfl) (by decide) (by rfl) (by rfl) (by rfl) (by ktr_room) ?_ (by intro _; rfl)
  k_steps
  rename Fr g' L' _ _ => F8
  rename News g' L' _ _ => N8
  have l6 : l ≠ 100 := hgt _ ho
  refine GenSrc.intro [.int a0 t1, .int a1 t2] (fun j y => ∃ t, y = .int (([a0, a1].getD j 0).fmod p) t) F8 hb N8 (by k_mem) (by tb_rel) htr (by k_mem) l6 rfl rfl ?_ ?_
  · clear F8 N8
    intro A' E' C code bi i v s₂ m₂ hA hv hm F8 N8
    have hi : i = 0 ∨ i = 1 := by
      rcases i with _ | _ | i
      · exact .inl rfl
      · exact .inr rfl
      · simp at hv
    rcases hi with rfl | rfl
    all_goals (
      simp only [List.getElem?_cons_zero, List.getElem?_cons_succ, Option.some.injEq] at hv
      subst hv
      refine wpAny_BinOp ?_
      refine wpAny_Name (wpAny_loadName_local (by rfl) (by rfl) F8.ns hm ?_) (by decide)
      refine Attribute_Name_ ?_
      refine wpAny_Name (wpAny_loadName_free (by rfl) (by rfl) (c := L' + 1) (by rfl) ⟨_, (N8 (L' + 1, _) (by k_mem)).1, by assumption⟩ ?_ (by decide)) (by decide)
      k_dflt (refine' get_own ?k1 ?k2 ?k3 ?k4 ?k5 ?k6 ?k7 ?k8 ?k9 ?_; (case k1 => exact F8); (case k2 => k_asm); (case k3 => refine' InstAt.of_news N8 ?h1 ?h2; (case h1 => k_mem); (case h2 => k_mem)); (case k4 => k_is); (case k5 => k_is); (case k6 => k_is); (case k7 => k_is); (case k8 => k_get); (case k9 => k_handed))
      refine mod_int' (by omega) ?_
      exact ⟨⟨_, rfl⟩, _, _, rfl, fun _ _ e => e⟩)
  · intro ag ps2 h9 g9 tk9 hb9 F9 N9 htr9 G9
    k_steps
    rename List Value => Y9
    rename Y9.length = _ => hl9
    rename ∀ (j : Nat) (v : Value), Y9[j]? = some v → _ => hv9
    refine back_el hret (by assumption) (by assumption) (by assumption) (by kcj_all) (by k_mem) htr9 (by k_mem) (by with_unfolding_all k_mem) (by first | exact .head _ | k_mem) (by k_mem) (by k_mem) (by k_mem) hl9 (fun j v h => ?_)
    have hj : j = 0 ∨ j = 1 := by
      rcases j with _ | _ | j
      · exact .inl rfl
      · exact .inr rfl
      · rw [List.getElem?_eq_none (by rw [hl9]; exact Nat.le_add_left 2 j)] at h; cases h
    rcases hj with rfl | rfl <;> exact hv9 _ _ h
end Mine
end

-- Col1
section
open PySem PySem.W PyProof.Rows PySem.Spec PySem.Calls
set_option maxRecDepth 100000
set_option maxHeartbeats 4000000
namespace Mine
theorem enum_no_len : typeLookup (.type "enumerate") "__len__" = pure none := by rw [typeLookup_type, builtinLookup_eq_fast]; kernel_rfl
theorem enum_no_hint : typeLookup (.type "enumerate") "__length_hint__" = pure none := by rw [typeLookup_type, builtinLookup_eq_fast]; kernel_rfl
section
variable {prog : Program} {w : World} {A : Around} {E : Value → Shared → Prop} {s : Shared} {h₀ : Heap} {L S : Addr} {m : Str → Option Value} {news n1 : List (Addr × Obj)}

def ExtIt (prog : Program) (w : World) (A : Around) (S : Addr) (it : Value) (Q : Shared → Prop) (E : Value → Shared → Prop) (s : Shared) : Prop :=
  codeAny (model prog w) A (.builtin "list.extend.loop" ⟨[.ref S, it, .none], []⟩) (fun r s' => match r with | .ok (.ret .none) => Q s' | .ok _ => False | .error e => E e s') s

abbrev lstC (vs : List Value) (c : Nat) : Obj := { cls := .type "list", dict := none, data := .seq vs.toArray c, slots := #[] }

/-- what is left of a turn once its item is drawn -/
def ExtMore (prog : Program) (w : World) (A : Around) (S : Addr) (it v : Value) (Q : Shared → Prop) (E : Value → Shared → Prop) (s : Shared) : Prop :=
  wpAny (model prog w) A.in1 (updateSeq S (·.push v)) (fun _ s₁ => ExtIt prog w A S it Q E s₁) E s

theorem ExtIt.step {it : Value} {Q : Shared → Prop}
    (h : wpAny (model prog w) A.in1 (pyNext it) (fun r s₁ => match r with
      | none => Q s₁
      | some v => ExtMore prog w A S it v Q E s₁) E s) : ExtIt prog w A S it Q E s := by
  unfold ExtIt
  refine codeAny_builtin F.entry_extend_loop ?_
  rw [Around.under_plainId F.plain_extend_loop _]
  show wpAny _ A.in1 (pyNext it >>= _) _ _ s
  refine wpAny_bind (wpAny_mono h (fun r s₁ h₁ => ?_) fun _ _ e => e)
  cases r with
  | none => exact wpAny_pure h₁
  | some v =>
    show wpAny _ A.in1 (updateSeq S (·.push v) >>= _) _ _ _
    exact wpAny_bind (wpAny_mono h₁ (fun _ s₂ h₂ => wpAny_pure ⟨plainId_quiet F.plain_extend_loop _, h₂⟩) fun _ _ e => e)

theorem ext_some {v it : Value} {c : Nat} {vs : List Value} {nf : Obj → List (Addr × Obj)} {Q : Shared → Prop} (F₁ : Fr h₀ L s.heap m) (N : News h₀ L s.heap news) (hm : (S, lstC vs c) ∈ news) (hlen : vs.length ≤ 1000) (U : ∀ o', Upd S (lstC vs c) o' news (nf o'))
    (k : ∀ c' h', Fr h₀ L h' m → News h₀ L h' (nf (lstC (vs ++ [v]) c')) → ExtIt prog w A S it Q E { s with heap := h' }) : ExtMore prog w A S it v Q E s := by
  have hS := (N _ hm).1
  refine wpAny_updateSeq hS rfl ?_ ?_ ?_
  · have e : ∃ c', (s.heap.update S (Obj.mapSeq (·.push v))).get? S = some (lstC (vs ++ [v]) c') := ⟨_, by
      rw [Heap.get?_update_self _ hS rfl]
      simp [Obj.mapSeq]
      rfl⟩
    obtain ⟨c', e⟩ := e
    obtain ⟨F2, N2⟩ := upd_ledger F₁ N (U _) (fun b x hb q => (Heap.get?_update_other _ _ (Ne.symm hb)).trans q) e
    exact k c' _ F2 N2
  · simp only [List.size_toArray]; exact Nat.le_trans hlen (by decide)
  · simp only [Array.size_push, List.size_toArray]; exact Nat.le_trans (Nat.succ_le_succ hlen) (by decide)

theorem ext_enum {e it : Addr} {i : Int} {old : Value} {c₀ : Nat} {Q : Shared → Prop} {nf : Obj → List (Addr × Obj)} (F₁ : Fr h₀ L s.heap m) (N : News h₀ L s.heap news) (he : (e, enumO it i old) ∈ news) (hSe : S ≠ e) (U : ∀ o', Upd S (lstC [] c₀) o' news (nf o'))
    (h : ∀ c' h', Fr h₀ L h' m → News h₀ L h' (nf (lstC [] c')) → ExtIt prog w A S (.ref e) Q E { s with heap := h' }) :
    wpAny (model prog w) A.in1 (Builtin.List.listExtendWith (.ref S) (.ref e) .none)
      (fun fin s' => match fin with | .done f => (fun r s' => match r with | .ok (.ret .none) => Q s' | .ok _ => False | .error e => E e s') (Except.ok f) s' | .again c' => c'.quiet = true ∧ codeAny (model prog w) A c' (fun r s' => match r with | .ok (.ret .none) => Q s' | .ok _ => False | .error e => E e s') s') (fun e s' => E e s') s := by
  have hS := (N _ (Upd.fits (U (lstC [] c₀))).1).1
  have hT : s.TypeIs (.ref e) "enumerate" := ⟨_, (N _ he).1, rfl⟩
  unfold Builtin.List.listExtendWith
  refine wpAny_bind (wpAny_typeOf hT ?_)
  have h1 : Builtin.List.listSameRef (.ref S) (.ref e) = false := by simp [Builtin.List.listSameRef, hSe]
  have h2 : (Value.type "enumerate" == Value.type "list") = false := by decide
  have h3 : (Value.type "enumerate" == Value.type "tuple") = false := by decide
  simp only [h1, h2, h3, Bool.or_false, Bool.false_eq_true, if_false]
  refine wpAny_bind (wpAny_pyIter_enum (N _ he).1 ?_)
  refine wpAny_bind (wpAny_holding ?_)
  unfold Builtin.List.listLengthHint
  refine wpAny_bind (wpAny_specialOf hT enum_no_len ?_)
  show wpAny _ A.in1 (specialOf (Value.ref e) (Str.ofString "__length_hint__") >>= _) _ _ _
  refine wpAny_bind (wpAny_specialOf hT enum_no_hint ?_)
  refine wpAny_pure ?_
  show wpAny _ A.in1 (rule "list.extend.makes-room" >>= fun _ => Builtin.List.listTouch (.ref S) >>= fun _ =>
    again (.builtin "list.extend.loop" ⟨[.ref S, .ref e, .none], []⟩)) _ _ _
  refine wpAny_bind (wpAny_rule ?_)
  refine wpAny_bind ?_
  show wpAny _ A.in1 (updateSeq S (·.push .none) >>= fun _ => updateSeq S (·.pop)) _ _ _
  refine wpAny_bind (wpAny_updateSeq hS rfl ?_)
  have hS₂ := Heap.get?_update_self (Obj.mapSeq (·.push Value.none)) hS rfl
  refine wpAny_updateSeq (hz := by seq_fits) hS₂ rfl ?_
  have e3 : ∃ c', ((s.heap.update S (Obj.mapSeq (·.push Value.none))).update S (Obj.mapSeq (·.pop))).get? S = some (lstC [] c') := ⟨_, by
    rw [Heap.get?_update_self _ hS₂ rfl]
    simp [Obj.mapSeq]
    rfl⟩
  obtain ⟨c', e3⟩ := e3
  obtain ⟨F2, N2⟩ := upd_ledger F₁ N (U _) (fun b x hb q => (Heap.get?_update_other _ _ (Ne.symm hb)).trans ((Heap.get?_update_other _ _ (Ne.symm hb)).trans q)) e3
  exact wpAny_pure ⟨plainId_quiet F.plain_extend_loop _, h c' _ F2 N2⟩

theorem list_enum {e it : Addr} {i : Int} {old : Value} {Q : Value → Shared → Prop} (F₁ : Fr h₀ L s.heap m) (N : News h₀ L s.heap news) (he : (e, enumO it i old) ∈ news)
    (h : ∀ S c' h', AllLt S news → Fr h₀ L h' m → News h₀ L h' ((S, lstC [] c') :: news) → ExtIt prog w A.in1 S (.ref e) (fun s' => Q (.ref S) s') E { s with heap := h' }) :
    wpAny (model prog w) A (call (.type "list") [.ref e]) Q E s := by
  refine callType_codes (Q₁ := fun obj s₁ => obj = .ref s.heap.objs.size ∧ s₁ = { s with heap := s.heap.push { cls := .type "list", data := .seq #[] } }) F.called_list (F.typeCall_list_1 _) F.entry_list_init
    (code_list_new _ ⟨rfl, rfl⟩) fun obj s₁ h₁ => ?_
  obtain ⟨rfl, rfl⟩ := h₁
  have hS : (s.heap.push { cls := .type "list", data := .seq #[] }).get? s.heap.objs.size = some { cls := .type "list", data := .seq #[] } := Heap.get?_push_size _ rfl
  have N1 := N.push F₁ { cls := .type "list", data := .seq #[] }
  have F1 := F₁.push { cls := .type "list", data := .seq #[] }
  have lt := newest N
  refine ⟨⟨_, hS, rfl⟩, F.args_list_init_2 _ _, ?_⟩
  show wpAny _ A.in1.in1 (do let old ← Builtin.List.listItems (.ref s.heap.objs.size); Builtin.List.listUpdate (.ref s.heap.objs.size) (fun _ => #[]); letGo old.toList.reverse; Builtin.List.listExtendWith (.ref s.heap.objs.size) (.ref e) .none) _ _ _
  refine wpAny_bind ?_
  unfold Builtin.List.listItems
  refine wpAny_bind (wpAny_seqItems hS rfl (wpAny_pure ?_))
  show wpAny _ A.in1.in1 (updateSeq s.heap.objs.size (fun _ => #[]) >>= fun _ => letGo (#[] : Array Value).toList.reverse >>= fun _ => Builtin.List.listExtendWith (.ref s.heap.objs.size) (.ref e) .none) _ _ _
  refine wpAny_bind (wpAny_updateSeq hS rfl ?_)
  have hS₂ := Heap.get?_update_self (Obj.mapSeq (fun _ => (#[] : Array Value))) hS rfl
  have e3 : ∃ c', ((s.heap.push { cls := .type "list", data := .seq #[] }).update s.heap.objs.size (Obj.mapSeq (fun _ => (#[] : Array Value)))).get? s.heap.objs.size = some (lstC [] c') := ⟨_, by
    rw [hS₂]; simp [Obj.mapSeq]; rfl⟩
  obtain ⟨c', e3⟩ := e3
  have U : ∀ o', Upd s.heap.objs.size { cls := .type "list", data := .seq #[] } o' ((s.heap.objs.size, { cls := .type "list", data := .seq #[] }) :: news) ((s.heap.objs.size, o') :: news) := fun o' => .head fun p hp => Nat.ne_of_lt (lt p hp)
  obtain ⟨F2, N2⟩ := upd_ledger F1 N1 (U _) (fun b x hb q => (Heap.get?_update_other _ _ (Ne.symm hb)).trans q) e3
  refine wpAny_bind (wpAny_letGo ?_)
  refine wpAny_mono (ext_enum (A := A.in1) (E := E) (Q := fun s' => Q (.ref s.heap.objs.size) s') (c₀ := c') (nf := fun o' => (s.heap.objs.size, o') :: news) F2 N2 (.tail _ he) (Ne.symm (Nat.ne_of_lt (lt _ he))) (fun o' => .head fun p hp => Nat.ne_of_lt (lt p hp)) ?_) ?_ ?_
  · intro c'' h' F3 N3
    exact h _ _ _ (allLt_of lt) F3 N3
  · intro fin s' hf
    cases fin with
    | done f => cases f with
      | ret v => cases v <;> first | exact hf.elim | exact ⟨rfl, hf⟩
      | _ => exact hf.elim
    | again c' => exact ⟨hf.1, codeAny_mono hf.2 fun r s'' hr => by
        cases r with
        | error e => exact hr
        | ok f => cases f with
          | ret v => cases v <;> first | exact hr.elim | exact ⟨rfl, hr⟩
          | _ => exact hr.elim⟩
  · exact fun _ _ e => e
end
end Mine
end

-- Zip1
section
open PySem PySem.W PyProof.Rows PySem.Spec PySem.Calls
set_option maxRecDepth 100000
set_option maxHeartbeats 4000000
namespace Mine
abbrev zipO (TI TO : Addr) (f0 : Value) : Obj := { cls := .type "zip", dict := none, data := .fields #[f0, .bool false, .bool false, .ref TI, .ref TO], slots := #[] }
/-- a zip at work: itself, its two tuples, its two iterators -/
abbrev zl (z TI TO i1 i2 : Addr) (f0 a b : Value) (o1 o2 : Obj) (base : List (Addr × Obj)) : List (Addr × Obj) :=
  (z, zipO TI TO f0) :: (TI, tupO [.ref i1, .ref i2]) :: (TO, tupO [a, b]) :: (i1, o1) :: (i2, o2) :: base
abbrev TitAt (o : Obj) (t : Addr) (k : Nat) : Prop := o.cls = .type "tuple_iterator" ∧ o.data = .fields #[.ref t, .int (k : Int) 0]
abbrev TupAt (o : Obj) (vs : List Value) : Prop := o.cls = .type "tuple" ∧ ∃ n, o.data = .seq vs.toArray n

section
variable {z TI TO i1 i2 : Addr} {f0 f1 a b a' b' : Value} {o1 o2 o' : Obj} {base : List (Addr × Obj)}
theorem zl_z (h1 : @LT.lt Nat _ i1 i2) (h2 : @LT.lt Nat _ i2 TI) (h3 : @LT.lt Nat _ TI TO) (h4 : @LT.lt Nat _ TO z) (hb : ∀ p ∈ base, @LT.lt Nat _ p.1 i1) : Upd z (zipO TI TO f0) (zipO TI TO f1) (zl z TI TO i1 i2 f0 a b o1 o2 base) (zl z TI TO i1 i2 f1 a b o1 o2 base) := by
  refine .head fun p hp => ?_
  simp only [List.mem_cons] at hp
  rcases hp with rfl | rfl | rfl | rfl | hp
  · exact Nat.ne_of_lt (Nat.lt_trans h3 h4)
  · exact Nat.ne_of_lt h4
  · exact Nat.ne_of_lt (Nat.lt_trans h1 (Nat.lt_trans h2 (Nat.lt_trans h3 h4)))
  · exact Nat.ne_of_lt (Nat.lt_trans h2 (Nat.lt_trans h3 h4))
  · exact Nat.ne_of_lt (Nat.lt_trans (hb p hp) (Nat.lt_trans h1 (Nat.lt_trans h2 (Nat.lt_trans h3 h4))))
theorem zl_TO (h1 : @LT.lt Nat _ i1 i2) (h2 : @LT.lt Nat _ i2 TI) (h3 : @LT.lt Nat _ TI TO) (h4 : @LT.lt Nat _ TO z) (hb : ∀ p ∈ base, @LT.lt Nat _ p.1 i1) : Upd TO (tupO [a, b]) (tupO [a', b']) (zl z TI TO i1 i2 f0 a b o1 o2 base) (zl z TI TO i1 i2 f0 a' b' o1 o2 base) := by
  refine .tail (Nat.ne_of_gt h4) (.tail (Nat.ne_of_lt h3) (.head fun p hp => ?_))
  simp only [List.mem_cons] at hp
  rcases hp with rfl | rfl | hp
  · exact Nat.ne_of_lt (Nat.lt_trans h1 (Nat.lt_trans h2 h3))
  · exact Nat.ne_of_lt (Nat.lt_trans h2 h3)
  · exact Nat.ne_of_lt (Nat.lt_trans (hb p hp) (Nat.lt_trans h1 (Nat.lt_trans h2 h3)))
theorem zl_1 (h1 : @LT.lt Nat _ i1 i2) (h2 : @LT.lt Nat _ i2 TI) (h3 : @LT.lt Nat _ TI TO) (h4 : @LT.lt Nat _ TO z) (hb : ∀ p ∈ base, @LT.lt Nat _ p.1 i1) : Upd i1 o1 o' (zl z TI TO i1 i2 f0 a b o1 o2 base) (zl z TI TO i1 i2 f0 a b o' o2 base) := by
  refine .tail (Nat.ne_of_gt (Nat.lt_trans h1 (Nat.lt_trans h2 (Nat.lt_trans h3 h4)))) (.tail (Nat.ne_of_gt (Nat.lt_trans h1 h2)) (.tail (Nat.ne_of_gt (Nat.lt_trans h1 (Nat.lt_trans h2 h3))) (.head fun p hp => ?_)))
  simp only [List.mem_cons] at hp
  rcases hp with rfl | hp
  · exact Nat.ne_of_gt h1
  · exact Nat.ne_of_lt (hb p hp)
theorem zl_2 (h1 : @LT.lt Nat _ i1 i2) (h2 : @LT.lt Nat _ i2 TI) (h3 : @LT.lt Nat _ TI TO) (h4 : @LT.lt Nat _ TO z) (hb : ∀ p ∈ base, @LT.lt Nat _ p.1 i1) : Upd i2 o2 o' (zl z TI TO i1 i2 f0 a b o1 o2 base) (zl z TI TO i1 i2 f0 a b o1 o' base) :=
  .tail (Nat.ne_of_gt (Nat.lt_trans h2 (Nat.lt_trans h3 h4))) (.tail (Nat.ne_of_gt h2) (.tail (Nat.ne_of_gt (Nat.lt_trans h2 h3)) (.tail (Nat.ne_of_lt h1) (.head fun p hp => Nat.ne_of_lt (Nat.lt_trans (hb p hp) h1)))))
end

section
variable {prog : Program} {w : World} {A : Around} {E : Value → Shared → Prop} {s : Shared} {h₀ : Heap} {L : Addr} {m : Str → Option Value} {news base : List (Addr × Obj)}

theorem set_pair {T : Addr} {a b x a' b' : Value} {k : Nat} {Q : Unit → Shared → Prop} (hT : s.heap.get? T = some (tupO [a, b])) (he : (#[a, b] : Array Value).setIfInBounds k x = #[a', b'])
    (h : ∀ h', h'.get? T = some (tupO [a', b']) → Heap.SameBut T s.heap h' → Q () { s with heap := h' }) :
    wpAny (model prog w) A (updateSeq T (·.setIfInBounds k x)) Q E s := by
  refine wpAny_updateSeq hT rfl (h _ ?_ (Heap.SameBut.update ..))
  rw [Heap.get?_update_self _ hT rfl]
  show some (Obj.mapSeq (·.setIfInBounds k x) { cls := .type "tuple", data := .seq #[a, b] }) = _
  simp [Obj.mapSeq] at he ⊢
  simp [he]

theorem zip_it {z TI TO : Addr} {f0 : Value} {Q : Value → Shared → Prop} (N : News h₀ L s.heap news) (hz : (z, zipO TI TO f0) ∈ news) (h : Q (.ref z) s) : wpAny (model prog w) A (pyIter (.ref z)) Q E s :=
  wpAny_pyIter_zip (N _ hz).1 h
theorem zip_go {elts : List Expr} {k : Nat} {pos : Pos} {z TI TO T : Addr} {n1 : List (Addr × Obj)} {Q : Unit → Shared → Prop} (F : Fr h₀ L s.heap m) (N : News h₀ L s.heap news) (hz : (z, zipO TI TO (rawInt T)) ∈ news) (U : Upd z (zipO TI TO (rawInt T)) (zipO TI TO .none) news n1)
    (h : ∀ h', Fr h₀ L h' m → News h₀ L h' n1 → Q () { s with heap := h' }) : wpAny (model prog w) A (letOwnedTupleGo (.Tuple elts k pos) (.ref z) (.ref T)) Q E s := by
  refine wpAny_letOwnedTupleGo_zip (N _ hz).1 fun h' hz' hs => ?_
  obtain ⟨F1, N1⟩ := upd_ledger F N U (fun b y hb q => hs.extBut b y hb q) hz'
  exact h h' F1 N1

theorem zip_item (k : Nat) {z TI TO i1 i2 t1 t2 : Addr} {a b x y : Value} {o1 o2 oa ob : Obj} {xs ys : List Value} {Q : Option Value → Shared → Prop} (h1 : @LT.lt Nat _ i1 i2) (h2 : @LT.lt Nat _ i2 TI) (h3 : @LT.lt Nat _ TI TO) (h4 : @LT.lt Nat _ TO z) (hb : ∀ p ∈ base, @LT.lt Nat _ p.1 i1)
    (F₁ : Fr h₀ L s.heap m) (N : News h₀ L s.heap news) (hs : ∀ p ∈ zl z TI TO i1 i2 .none a b o1 o2 base, p ∈ news) (ho1 : TitAt o1 t1 k) (ho2 : TitAt o2 t2 k) (ht1 : (t1, oa) ∈ base) (ha : TupAt oa xs) (ht2 : (t2, ob) ∈ base) (hob : TupAt ob ys) (hx : xs[k]? = some x) (hy : ys[k]? = some y)
    (h : ∀ T o1' o2' h', AllLt T (zl z TI TO i1 i2 (rawInt T) x y o1' o2' base) → TitAt o1' t1 (k + 1) → TitAt o2' t2 (k + 1) → Fr h₀ L h' m → News h₀ L h' ((T, tupO [x, y]) :: zl z TI TO i1 i2 (rawInt T) x y o1' o2' base) → Q (some (.ref T)) { s with heap := h' }) :
    wpAny (model prog w) A (pyNext (.ref z)) Q E s := by
  have N0 : News h₀ L s.heap (zl z TI TO i1 i2 .none a b o1 o2 base) := fun p hp => N p (hs p hp)
  have hT : s.TypeIs (.ref z) "zip" := ⟨_, (N0 _ (.head _)).1, rfl⟩
  obtain ⟨hca, na, hda⟩ := ha
  obtain ⟨hcb, nb, hdb⟩ := hob
  unfold pyNext
  refine wpAny_bind (wpAny_attempt (wpAny_callSpecial?_slot (name := Str.ofString "__next__") hT F.slot_zip_next
    (wpAny_call_entry F.slot_zip_next hT F.entry_zip_next ?_ (F.args_zip_next_1 _))))
  have hz := (N0 _ (.head _)).1
  have hTI := (N0 _ (.tail _ (.head _))).1
  show wpAny _ _ (field (.ref z) 2 >>= _) _ _ _
  refine wpAny_bind (wpAny_field hz rfl (x := .bool false) rfl ?_)
  show wpAny _ _ (field (.ref z) 3 >>= _) _ _ _
  refine wpAny_bind (wpAny_field hz rfl (x := .ref TI) rfl ?_)
  refine wpAny_bind (wpAny_seqItems hTI rfl ?_)
  show wpAny _ _ (Builtin.SmallTypes.ownedTupleIsFree (.ref z) >>= _) _ _ _
  refine wpAny_bind ?_
  unfold Builtin.SmallTypes.ownedTupleIsFree
  refine wpAny_bind (wpAny_field hz rfl (x := .none) rfl (wpAny_pure ?_))
  simp only [if_true]
  refine wpAny_bind (wpAny_rule ?_)
  refine wpAny_bind (wpAny_field hz rfl (x := .ref TO) rfl ?_)
  refine wpAny_bind (wpAny_setField_rec hz (by simp) fun w1 hz1 hs1 => ?_)
  obtain ⟨F1, N1⟩ := upd_ledger F₁ N0 (zl_z (f1 := .ellipsis) h1 h2 h3 h4 hb) (fun b x hb q => hs1.extBut b x hb q) hz1
  refine wpAny_bind ?_
  simp only [List.zipIdx_cons, List.zipIdx_nil, List.forIn_cons, List.forIn_nil]
  refine wpAny_bind (wpAny_bind (wpAny_onRaise ?_))
  show wpAny _ _ (Builtin.SmallTypes.nextOf (.ref i1) >>= _) _ _ _
  refine wpAny_bind (nextOf_tup_item ⟨o1, (N1 (i1, o1) (.tail _ (.tail _ (.tail _ (.head _))))).1, ho1⟩ ⟨oa, (N1 _ (.tail _ (.tail _ (.tail _ (.tail _ (.tail _ ht1)))))).1, hca, na, hda⟩ (by simpa using hx) fun w2 hi2 hs2 => wpAny_pure ?_)
  obtain ⟨o1', ho1', hc1'⟩ := hi2
  obtain ⟨F2, N2⟩ := upd_ledger F1 N1 (zl_1 h1 h2 h3 h4 hb) (fun b x hb q => hs2.extBut b x hb q) ho1'
  have hTO2 := (N2 (TO, _) (.tail _ (.tail _ (.head _)))).1
  refine wpAny_bind (wpAny_seqItems hTO2 rfl ?_)
  refine wpAny_bind (set_pair (a' := x) (b' := b) hTO2 rfl fun w3 hTO3 hs3 => ?_)
  obtain ⟨F3, N3⟩ := upd_ledger F2 N2 (zl_TO h1 h2 h3 h4 hb) (fun b x hb q => hs3.extBut b x hb q) hTO3
  refine wpAny_bind (wpAny_letGo (wpAny_pure ?_))
  refine wpAny_bind (wpAny_bind (wpAny_onRaise ?_))
  show wpAny _ _ (Builtin.SmallTypes.nextOf (.ref i2) >>= _) _ _ _
  refine wpAny_bind (nextOf_tup_item ⟨o2, (N3 (i2, o2) (.tail _ (.tail _ (.tail _ (.tail _ (.head _)))))).1, ho2⟩ ⟨ob, (N3 _ (.tail _ (.tail _ (.tail _ (.tail _ (.tail _ ht2)))))).1, hcb, nb, hdb⟩ (by simpa using hy) fun w4 hi4 hs4 => wpAny_pure ?_)
  obtain ⟨o2', ho2', hc2'⟩ := hi4
  obtain ⟨F4, N4⟩ := upd_ledger F3 N3 (zl_2 h1 h2 h3 h4 hb) (fun b x hb q => hs4.extBut b x hb q) ho2'
  have hTO4 := (N4 (TO, _) (.tail _ (.tail _ (.head _)))).1
  refine wpAny_bind (wpAny_seqItems hTO4 rfl ?_)
  refine wpAny_bind (set_pair (a' := x) (b' := y) hTO4 rfl fun w5 hTO5 hs5 => ?_)
  obtain ⟨F5, N5⟩ := upd_ledger F4 N4 (zl_TO h1 h2 h3 h4 hb) (fun b x hb q => hs5.extBut b x hb q) hTO5
  refine wpAny_bind (wpAny_letGo (wpAny_pure (wpAny_pure ?_)))
  refine wpAny_bind (wpAny_seqItems hTO5 rfl ?_)
  refine wpAny_bind (wpAny_newTuple ?_)
  have N6 := N5.push F5 (tupO [x, y])
  have F6 := F5.push (tupO [x, y])
  have lt6 : ∀ p ∈ zl z TI TO i1 i2 .ellipsis x y o1' o2' base, p.1 < w5.objs.size := fun p hp => Heap.lt_size (N5 p hp).1
  show wpAny _ _ (Builtin.SmallTypes.ownedTupleHandOut (.ref z) (.ref w5.objs.size) >>= _) _ _ _
  refine wpAny_bind ?_
  unfold Builtin.SmallTypes.ownedTupleHandOut
  refine wpAny_bind (wpAny_setField_rec (N6 (z, _) (.tail _ (.head _))).1 (by simp) fun w7 hz7 hs7 => ?_)
  obtain ⟨F7, N7⟩ := upd_ledger F6 N6 (.tail (Nat.ne_of_gt (lt6 _ (.head _))) (zl_z (f1 := rawInt w5.objs.size) h1 h2 h3 h4 hb)) (fun b x hb q => hs7.extBut b x hb q) hz7
  refine wpAny_setField_rec (N7 (z, _) (.tail _ (.head _))).1 (by simp) fun w8 hz8 hs8 => ?_
  obtain ⟨F8, N8⟩ := upd_ledger F7 N7 (.tail (Nat.ne_of_gt (lt6 _ (.head _))) (zl_z (f1 := rawInt w5.objs.size) h1 h2 h3 h4 hb)) (fun b x hb q => hs8.extBut b x hb q) hz8
  refine wpAny_pure ⟨_, rfl, wpAny_pure (h w5.objs.size o1' o2' w8 (allLt_of fun p hp => ?_) hc1' hc2' F8 N8)⟩
  simp only [List.mem_cons] at hp
  rcases hp with rfl | rfl | rfl | rfl | rfl | hp
  · exact lt6 (z, zipO TI TO .ellipsis) (.head _)
  · exact lt6 (TI, _) (.tail _ (.head _))
  · exact lt6 (TO, _) (.tail _ (.tail _ (.head _)))
  · exact lt6 (i1, _) (.tail _ (.tail _ (.tail _ (.head _))))
  · exact lt6 (i2, _) (.tail _ (.tail _ (.tail _ (.tail _ (.head _)))))
  · exact lt6 _ (.tail _ (.tail _ (.tail _ (.tail _ (.tail _ hp)))))

theorem zip_end (k : Nat) {z TI TO i1 i2 t1 : Addr} {a b : Value} {o1 o2 oa : Obj} {xs : List Value} {Q : Option Value → Shared → Prop} (hh : A.handled = none) (h1 : @LT.lt Nat _ i1 i2) (h2 : @LT.lt Nat _ i2 TI) (h3 : @LT.lt Nat _ TI TO) (h4 : @LT.lt Nat _ TO z) (hb : ∀ p ∈ base, @LT.lt Nat _ p.1 i1)
    (F₁ : Fr h₀ L s.heap m) (N : News h₀ L s.heap news) (hs : ∀ p ∈ zl z TI TO i1 i2 .none a b o1 o2 base, p ∈ news) (ho1 : TitAt o1 t1 k) (ht1 : (t1, oa) ∈ base) (ha : TupAt oa xs) (hx : xs[k]? = none)
    (h : ∀ h', Fr h₀ L h' m → News h₀ L h' base → Q none { s with heap := h' }) :
    wpAny (model prog w) A (pyNext (.ref z)) Q E s := by
  have N0 : News h₀ L s.heap (zl z TI TO i1 i2 .none a b o1 o2 base) := fun p hp => N p (hs p hp)
  have hT : s.TypeIs (.ref z) "zip" := ⟨_, (N0 _ (.head _)).1, rfl⟩
  obtain ⟨hca, na, hda⟩ := ha
  unfold pyNext
  refine wpAny_bind (wpAny_attempt (wpAny_callSpecial?_slot (name := Str.ofString "__next__") hT F.slot_zip_next
    (wpAny_call_entry F.slot_zip_next hT F.entry_zip_next ?_ (F.args_zip_next_1 _))))
  have hz := (N0 _ (.head _)).1
  have hTI := (N0 _ (.tail _ (.head _))).1
  show wpAny _ _ (field (.ref z) 2 >>= _) _ _ _
  refine wpAny_bind (wpAny_field hz rfl (x := .bool false) rfl ?_)
  show wpAny _ _ (field (.ref z) 3 >>= _) _ _ _
  refine wpAny_bind (wpAny_field hz rfl (x := .ref TI) rfl ?_)
  refine wpAny_bind (wpAny_seqItems hTI rfl ?_)
  show wpAny _ _ (Builtin.SmallTypes.ownedTupleIsFree (.ref z) >>= _) _ _ _
  refine wpAny_bind ?_
  unfold Builtin.SmallTypes.ownedTupleIsFree
  refine wpAny_bind (wpAny_field hz rfl (x := .none) rfl (wpAny_pure ?_))
  simp only [if_true]
  refine wpAny_bind (wpAny_rule ?_)
  refine wpAny_bind (wpAny_field hz rfl (x := .ref TO) rfl ?_)
  refine wpAny_bind (wpAny_setField_rec hz (by simp) fun w1 hz1 hs1 => ?_)
  obtain ⟨F1, N1⟩ := upd_ledger F₁ N0 (zl_z (f1 := .ellipsis) h1 h2 h3 h4 hb) (fun b x hb q => hs1.extBut b x hb q) hz1
  refine wpAny_bind ?_
  simp only [List.zipIdx_cons, List.zipIdx_nil, List.forIn_cons, List.forIn_nil]
  refine wpAny_bind (wpAny_bind (wpAny_onRaise ?_))
  show wpAny _ _ (Builtin.SmallTypes.nextOf (.ref i1) >>= _) _ _ _
  refine wpAny_bind (nextOf_tup_end hh ⟨o1, (N1 (i1, o1) (.tail _ (.tail _ (.tail _ (.head _))))).1, ho1⟩ ⟨oa, (N1 _ (.tail _ (.tail _ (.tail _ (.tail _ (.tail _ ht1)))))).1, hca, na, hda⟩ (by simpa using hx) fun w2 e hs2 he => ?_)
  obtain ⟨oe, hoe, hce⟩ := he
  have hz2 : w2.get? z = some (zipO TI TO .ellipsis) := hs2 _ _ (Nat.ne_of_gt (Nat.lt_trans h1 (Nat.lt_trans h2 (Nat.lt_trans h3 h4)))) hz1
  have hez : e ≠ z := fun x => by subst x; rw [hz2] at hoe; cases hoe; simp at hce
  have kb : ∀ (p : Addr × Obj), p ∈ base → p.1 ≠ i1 ∧ p.1 ≠ z := fun p hp => ⟨Nat.ne_of_lt (hb p hp), Nat.ne_of_lt (Nat.lt_trans (hb p hp) (Nat.lt_trans h1 (Nat.lt_trans h2 (Nat.lt_trans h3 h4))))⟩
  refine wpAny_setField_rec hz2 (by simp) fun w3 _ hs3 => ?_
  refine wpAny_bind (wpAny_isInstance (T := "StopIteration") (b := true) ⟨oe, hs3.extBut _ _ hez hoe, hce⟩ isSubtype_stop ?_)
  refine wpAny_pure (h w3 ?_ ?_)
  · have hI := N1 (i1, o1) (.tail _ (.tail _ (.tail _ (.head _))))
    have hZ := N1 (z, _) (.head _)
    refine ⟨F1.ns.at' fun x q => hs3.extBut _ _ (Ne.symm hZ.2.1) (hs2 _ _ (Ne.symm hI.2.1) q), fun c x q => ?_, F1.above⟩
    have c1 : c ≠ i1 := fun y => by rw [y] at q; have := hI.2.2; rw [q] at this; cases this
    have c2 : c ≠ z := fun y => by rw [y] at q; have := hZ.2.2; rw [q] at this; cases this
    exact hs3.extBut _ _ c2 (hs2 _ _ c1 (F1.keep c x q))
  · intro p hp
    have hp1 := N1 p (.tail _ (.tail _ (.tail _ (.tail _ (.tail _ hp)))))
    exact ⟨hs3.extBut _ _ (kb p hp).2 (hs2 _ _ (kb p hp).1 hp1.1), hp1.2⟩

theorem new_zip (t1 t2 : Addr) (xs ys : Array Value) :
    Meets (Builtin.«zip.__new__» ⟨[.type "zip", .ref t1, .ref t2], []⟩) (fun _ R s => s.heap.IsTuple t1 xs ∧ s.heap.IsTuple t2 ys ∧
      ∀ h1 h2 h3 h4 h5 : Heap, h1 = s.heap.push (titO t1) → h2 = h1.push (titO t2) → h3 = h2.push (tupO [.ref s.heap.objs.size, .ref h1.objs.size]) → h4 = h3.push (tupO [.none, .none]) → h5 = h4.push (zipO h2.objs.size h3.objs.size .none) →
        R (.ok (.ret (.ref h4.objs.size))) { s with heap := h5 }) :=
  .of_wp fun prog w A R s h => by
    obtain ⟨hp, g, d, tk, os⟩ := s
    obtain ⟨hl1, hl2, h⟩ := h
    replace h := h _ _ _ _ _ rfl rfl rfl rfl rfl
    have hsub := sub_zip
    have hL1 : Heap.IsTuple (Shared.heap ⟨hp, g, d, tk, os⟩) t1 xs := hl1
    have hL2 : Heap.IsTuple (Shared.heap ⟨hp.push (titO t1), g, d, tk, os⟩) t2 ys := Heap.IsTuple.push hl2 _
    wp_walk using wpAny_pyIter_tuple hL1, wpAny_pyIter_tuple hL2
    exact ⟨_, rfl, h⟩

theorem call_zip {t1 t2 : Addr} {o1 o2 : Obj} {xs ys : List Value} {Q : Value → Shared → Prop} (F₁ : Fr h₀ L s.heap m) (N : News h₀ L s.heap news) (ht1 : (t1, o1) ∈ news) (ha : TupAt o1 xs) (ht2 : (t2, o2) ∈ news) (hb : TupAt o2 ys)
    (h : ∀ z TI TO i1 i2 h', AllLt i1 news → @LT.lt Nat _ i1 i2 → @LT.lt Nat _ i2 TI → @LT.lt Nat _ TI TO → @LT.lt Nat _ TO z → Fr h₀ L h' m → News h₀ L h' (zl z TI TO i1 i2 .none .none .none (titO t1) (titO t2) news) → Q (.ref z) { s with heap := h' }) :
    wpAny (model prog w) A (call (.type "zip") [.ref t1, .ref t2]) Q E s := by
  obtain ⟨hca, na, hda⟩ := ha
  obtain ⟨hcb, nb, hdb⟩ := hb
  refine callType_new F.called_zip (by decide) (F.typeCall_zip_2 _ _) (F.newCall_zip_2 _ _) (fun obj => F.args_object_init_3 obj _ _) F.entry_zip_new
    (new_zip t1 t2 xs.toArray ys.toArray) ⟨⟨o1, (N _ ht1).1, hca, na, hda⟩, ⟨o2, (N _ ht2).1, hcb, nb, hdb⟩, ?_⟩
  intro h1 h2 h3 h4 h5 e1 e2 e3 e4 e5
  have s1 : h1.objs.size = s.heap.objs.size + 1 := by rw [e1, Heap.size_push]
  have s2 : h2.objs.size = h1.objs.size + 1 := by rw [e2, Heap.size_push]
  have s3 : h3.objs.size = h2.objs.size + 1 := by rw [e3, Heap.size_push]
  have s4 : h4.objs.size = h3.objs.size + 1 := by rw [e4, Heap.size_push]
  have N1 := N.push F₁ (titO t1)
  have F1 := F₁.push (titO t1)
  rw [← e1] at N1 F1
  have N2 := N1.push F1 (titO t2)
  have F2 := F1.push (titO t2)
  rw [← e2] at N2 F2
  have N3 := N2.push F2 (tupO [.ref s.heap.objs.size, .ref h1.objs.size])
  have F3 := F2.push (tupO [.ref s.heap.objs.size, .ref h1.objs.size])
  rw [← e3] at N3 F3
  have N4 := N3.push F3 (tupO [.none, .none])
  have F4 := F3.push (tupO [.none, .none])
  rw [← e4] at N4 F4
  have N5 := N4.push F4 (zipO h2.objs.size h3.objs.size .none)
  have F5 := F4.push (zipO h2.objs.size h3.objs.size .none)
  rw [← e5] at N5 F5
  refine ⟨⟨_, (N5 _ (.head _)).1, rfl⟩, h h4.objs.size h2.objs.size h3.objs.size s.heap.objs.size h1.objs.size h5 (allLt_of (newest N)) ?_ ?_ ?_ ?_ F5 fun p hp => ?_⟩
  · rw [s1]; exact Nat.lt_succ_self _
  · rw [s2]; exact Nat.lt_succ_self _
  · rw [s3]; exact Nat.lt_succ_self _
  · rw [s4]; exact Nat.lt_succ_self _
  · simp only [List.mem_cons] at hp
    rcases hp with rfl | rfl | rfl | rfl | rfl | hp
    · exact N5 _ (.head _)
    · exact N5 _ (.tail _ (.tail _ (.head _)))
    · exact N5 _ (.tail _ (.head _))
    · exact N5 _ (.tail _ (.tail _ (.tail _ (.tail _ (.head _)))))
    · exact N5 _ (.tail _ (.tail _ (.tail _ (.head _))))
    · exact N5 _ (.tail _ (.tail _ (.tail _ (.tail _ (.tail _ hp)))))
end
end Mine
end

-- Rng1
section
open PySem PySem.W PyProof.Rows PySem.Spec PySem.Calls
set_option maxRecDepth 100000
set_option maxHeartbeats 4000000
namespace Mine
section
variable {prog : Program} {w : World} {A : Around} {E : Value → Shared → Prop} {s : Shared} {h₀ : Heap} {L I : Addr} {m : Str → Option Value} {news n1 : List (Addr × Obj)}
abbrev rngO (a b c : Int) (t u v : Tok) : Obj := { cls := .type "range", data := .fields #[.int a t, .int b u, .int c v] }
theorem mk_range {a b c : Int} {t u v : Tok} {Q : Value → Shared → Prop} (F₁ : Fr h₀ L s.heap m) (N : News h₀ L s.heap news) (hc : c ≠ 0) (hp : Builtin.divisionGoesByPylong (b - a) c = false)
    (h : ∀ r h', AllLt r news → Fr h₀ L h' m → News h₀ L h' ((r, rngO a b c t u v) :: news) → Q (.ref r) { s with heap := h' }) :
    wpAny (model prog w) A (call (.type "range") [.int a t, .int b u, .int c v]) Q E s :=
  call_range_3 hc (h _ _ (allLt_of (newest N)) (F₁.push _) (N.push F₁ _)) (.inl hp)
theorem it_range {r : Addr} {a b c : Int} {t u v : Tok} {k : Int} {Q : Value → Shared → Prop} (F₁ : Fr h₀ L s.heap m) (N : News h₀ L s.heap news) (hr : (r, rngO a b c t u v) ∈ news) (hsmall : Builtin.Range.small a b c = true) (hk : (Builtin.Range.rangeSize a b c : Int) = k)
    (h : ∀ I h', AllLt I news → Fr h₀ L h' m → News h₀ L h' ((I, ritO a k c) :: news) → Q (.ref I) { s with heap := h' }) :
    wpAny (model prog w) A (pyIter (.ref r)) Q E s := by
  subst hk
  exact wpAny_pyIter_range (N _ hr).1 hsmall (h _ _ (allLt_of (newest N)) (F₁.push _) (N.push F₁ _))
theorem nx_range {x left step : Int} {Q : Option Value → Shared → Prop} (F₁ : Fr h₀ L s.heap m) (N : News h₀ L s.heap news) (hI : (I, ritO x left step) ∈ news) (hl : 0 < left) (U : Upd I (ritO x left step) (ritO (x + step) (left - 1) step) news n1)
    (h : ∀ h', Fr h₀ L h' m → News h₀ L h' n1 → Q (some (.int x s.toks)) { s with heap := h', toks := s.toks + 1 }) : wpAny (model prog w) A (pyNext (.ref I)) Q E s := by
  refine wpAny_pyNext_range_item (N _ hI).1 hl fun h' hit hs => ?_
  obtain ⟨F1, N1⟩ := upd_ledger F₁ N U (fun b y hb q => hs.extBut b y hb q) hit
  exact h h' F1 N1
theorem nx_range_end {x left step : Int} {Q : Option Value → Shared → Prop} (hh : A.handled = none) (F₁ : Fr h₀ L s.heap m) (N : News h₀ L s.heap news) (hI : (I, ritO x left step) ∈ news) (hl : left ≤ 0) (D : Drop I news n1)
    (h : ∀ h', Fr h₀ L h' m → News h₀ L h' n1 → Q none { s with heap := h' }) : wpAny (model prog w) A (pyNext (.ref I)) Q E s := by
  refine wpAny_pyNext_range_end hh (N _ hI).1 hl fun h' hs => ?_
  obtain ⟨F1, N1⟩ := drop_ledger F₁ N hI D (fun b y hb q => hs b y hb q)
  exact h h' F1 N1
theorem lg_name {y : Str} {px : Pos} {it v : Value} {Q : Unit → Shared → Prop} (h : Q () s) : wpAny (model prog w) A (letOwnedTupleGo (.Name y px) it v) Q E s := wpAny_pure h
theorem nx_enum0 {e it t : Addr} {old : Value} {oI o : Obj} {vs : List Value} {n : Nat} {x : Value} {n1 : Obj → List (Addr × Obj)} {n2 : Obj → Obj → List (Addr × Obj)} {Q : Option Value → Shared → Prop} (hh : A.handled = none) (F : Fr h₀ L s.heap m) (N : News h₀ L s.heap news)
    (he : (e, enumO it 0 old) ∈ news) (hI : (it, oI) ∈ news) (hc : oI.cls = .type "tuple_iterator") (hd : oI.data = .fields #[.ref t, .int 0 0]) (ht : (t, o) ∈ news) (hct : o.cls = .type "tuple") (hdt : o.data = .seq vs.toArray n) (hx : vs[0]? = some x)
    (hei : e ≠ it) (hte : t ≠ e) (hti : t ≠ it) (U1 : ∀ oe, Upd e (enumO it 0 old) oe news (n1 oe)) (U2 : ∀ oe o', Upd it oI o' (n1 oe) (n2 oe o'))
    (h : ∀ T tk o' h', AllLt T news → o'.cls = .type "tuple_iterator" → o'.data = .fields #[.ref t, .int 1 0] → Fr h₀ L h' m → News h₀ L h' ((T, tupO [.int 0 tk, x]) :: n2 (enumOutO it 1 x T) o') → Q (some (.ref T)) { s with heap := h', toks := tk + 1 }) :
    wpAny (model prog w) A (pyNext (.ref e)) Q E s :=
  nx_enum 0 hh F N he hI hc hd ht hct hdt hx hei hte hti U1 U2 h
theorem nx_list0 {t : Addr} {oI o : Obj} {vs : List Value} {n : Nat} {x : Value} {nf : Obj → List (Addr × Obj)} {Q : Option Value → Shared → Prop} (F : Fr h₀ L s.heap m) (N : News h₀ L s.heap news) (hI : (I, oI) ∈ news) (hc : oI.cls = .type "list_iterator") (hd : oI.data = .fields #[.ref t, .int 0 0])
    (ht : (t, o) ∈ news) (hct : o.cls = .type "list") (hdt : o.data = .seq vs.toArray n) (hx : vs[0]? = some x) (U : ∀ o', Upd I oI o' news (nf o'))
    (h : ∀ o' h', o'.cls = .type "list_iterator" → o'.data = .fields #[.ref t, .int 1 0] → Fr h₀ L h' m → News h₀ L h' (nf o') → Q (some x) { s with heap := h' }) : wpAny (model prog w) A (pyNext (.ref I)) Q E s :=
  nx_list 0 F N hI hc hd ht hct hdt hx U h
theorem nx_enum1 {e it t : Addr} {old : Value} {oI o : Obj} {vs : List Value} {n : Nat} {x : Value} {n1 : Obj → List (Addr × Obj)} {n2 : Obj → Obj → List (Addr × Obj)} {Q : Option Value → Shared → Prop} (hh : A.handled = none) (F : Fr h₀ L s.heap m) (N : News h₀ L s.heap news)
    (he : (e, enumO it 1 old) ∈ news) (hI : (it, oI) ∈ news) (hc : oI.cls = .type "tuple_iterator") (hd : oI.data = .fields #[.ref t, .int 1 0]) (ht : (t, o) ∈ news) (hct : o.cls = .type "tuple") (hdt : o.data = .seq vs.toArray n) (hx : vs[1]? = some x)
    (hei : e ≠ it) (hte : t ≠ e) (hti : t ≠ it) (U1 : ∀ oe, Upd e (enumO it 1 old) oe news (n1 oe)) (U2 : ∀ oe o', Upd it oI o' (n1 oe) (n2 oe o'))
    (h : ∀ T tk o' h', AllLt T news → o'.cls = .type "tuple_iterator" → o'.data = .fields #[.ref t, .int 2 0] → Fr h₀ L h' m → News h₀ L h' ((T, tupO [.int 1 tk, x]) :: n2 (enumOutO it 2 x T) o') → Q (some (.ref T)) { s with heap := h', toks := tk + 1 }) :
    wpAny (model prog w) A (pyNext (.ref e)) Q E s :=
  nx_enum 1 hh F N he hI hc hd ht hct hdt hx hei hte hti U1 U2 h
theorem nx_list1 {t : Addr} {oI o : Obj} {vs : List Value} {n : Nat} {x : Value} {nf : Obj → List (Addr × Obj)} {Q : Option Value → Shared → Prop} (F : Fr h₀ L s.heap m) (N : News h₀ L s.heap news) (hI : (I, oI) ∈ news) (hc : oI.cls = .type "list_iterator") (hd : oI.data = .fields #[.ref t, .int 1 0])
    (ht : (t, o) ∈ news) (hct : o.cls = .type "list") (hdt : o.data = .seq vs.toArray n) (hx : vs[1]? = some x) (U : ∀ o', Upd I oI o' news (nf o'))
    (h : ∀ o' h', o'.cls = .type "list_iterator" → o'.data = .fields #[.ref t, .int 2 0] → Fr h₀ L h' m → News h₀ L h' (nf o') → Q (some x) { s with heap := h' }) : wpAny (model prog w) A (pyNext (.ref I)) Q E s :=
  nx_list 1 F N hI hc hd ht hct hdt hx U h
theorem nx_list_end1 {t : Addr} {oI o : Obj} {vs : List Value} {n : Nat} {Q : Option Value → Shared → Prop} (hh : A.handled = none) (F : Fr h₀ L s.heap m) (N : News h₀ L s.heap news) (hI : (I, oI) ∈ news) (hc : oI.cls = .type "list_iterator") (hd : oI.data = .fields #[.ref t, .int 1 0])
    (ht : (t, o) ∈ news) (hct : o.cls = .type "list") (hdt : o.data = .seq vs.toArray n) (hx : vs[1]? = none) (D : Drop I news n1)
    (h : ∀ h', Fr h₀ L h' m → News h₀ L h' n1 → Q none { s with heap := h' }) : wpAny (model prog w) A (pyNext (.ref I)) Q E s :=
  nx_list_end 1 hh F N hI hc hd ht hct hdt hx D h
theorem lg_list1 {t : Addr} {oI : Obj} {target : Expr} {v : Value} {Q : Unit → Shared → Prop} (N : News h₀ L s.heap news) (hI : (I, oI) ∈ news) (hc : oI.cls = .type "list_iterator") (hd : oI.data = .fields #[.ref t, .int 1 0]) (h : Q () s) : wpAny (model prog w) A (letOwnedTupleGo target (.ref I) v) Q E s :=
  lg_list (i := 1) N hI hc hd h
theorem nx_list_end2 {t : Addr} {oI o : Obj} {vs : List Value} {n : Nat} {Q : Option Value → Shared → Prop} (hh : A.handled = none) (F : Fr h₀ L s.heap m) (N : News h₀ L s.heap news) (hI : (I, oI) ∈ news) (hc : oI.cls = .type "list_iterator") (hd : oI.data = .fields #[.ref t, .int 2 0])
    (ht : (t, o) ∈ news) (hct : o.cls = .type "list") (hdt : o.data = .seq vs.toArray n) (hx : vs[2]? = none) (D : Drop I news n1)
    (h : ∀ h', Fr h₀ L h' m → News h₀ L h' n1 → Q none { s with heap := h' }) : wpAny (model prog w) A (pyNext (.ref I)) Q E s :=
  nx_list_end 2 hh F N hI hc hd ht hct hdt hx D h
theorem lg_list2 {t : Addr} {oI : Obj} {target : Expr} {v : Value} {Q : Unit → Shared → Prop} (N : News h₀ L s.heap news) (hI : (I, oI) ∈ news) (hc : oI.cls = .type "list_iterator") (hd : oI.data = .fields #[.ref t, .int 2 0]) (h : Q () s) : wpAny (model prog w) A (letOwnedTupleGo target (.ref I) v) Q E s :=
  lg_list (i := 2) N hI hc hd h
theorem nx_enum_end2 {e it t : Addr} {old : Value} {oI o : Obj} {vs : List Value} {n : Nat} {Q : Option Value → Shared → Prop} (hh : A.handled = none) (F : Fr h₀ L s.heap m) (N : News h₀ L s.heap news)
    (he : (e, enumO it 2 old) ∈ news) (hI : (it, oI) ∈ news) (hc : oI.cls = .type "tuple_iterator") (hd : oI.data = .fields #[.ref t, .int 2 0]) (ht : (t, o) ∈ news) (hct : o.cls = .type "tuple") (hdt : o.data = .seq vs.toArray n) (hx : vs.length = 2)
    (hti : t ≠ it) (D : Drop it news n1) (h : ∀ h', Fr h₀ L h' m → News h₀ L h' n1 → Q none { s with heap := h' }) : wpAny (model prog w) A (pyNext (.ref e)) Q E s :=
  nx_enum_end 2 hh F N he hI hc hd ht hct hdt hx hti D h
end
end Mine
end

-- Kept1
section
open PySem PySem.W PyProof.Rows PySem.Spec PySem.Calls
set_option maxRecDepth 100000
set_option maxHeartbeats 4000000
namespace Mine
/-- an enumerate whose lent tuple was kept -/
abbrev keptO (it : Addr) (i : Int) (x : Value) (T : Addr) : Obj := { cls := .type "enumerate", dict := none, data := .fields #[rawInt T, .bool true, .ref it, rawInt i, .none, x], slots := #[] }
section
variable {prog : Program} {w : World} {A : Around} {E : Value → Shared → Prop} {s : Shared} {h₀ : Heap} {L I : Addr} {m : Str → Option Value} {news n1 : List (Addr × Obj)}
theorem alive {a : Addr} {Q : Option Obj → Shared → Prop} (h : Q (s.heap.get? a) s) : wpAny (model prog w) A (loadIfAlive a) Q E s := by
  intro Γ p _
  unfold loadIfAlive
  rw [Sem.wp_loadIfAlive]
  exact h

theorem nx_kept1 {e it t T : Addr} {old : Value} {oI o oT : Obj} {vs : List Value} {n : Nat} {x : Value} {n1 : Obj → List (Addr × Obj)} {n2 : Obj → Obj → List (Addr × Obj)} {Q : Option Value → Shared → Prop} (F₁ : Fr h₀ L s.heap m) (N : News h₀ L s.heap news)
    (he : (e, enumOutO it 1 old T) ∈ news) (hT : (T, oT) ∈ news) (hI : (it, oI) ∈ news) (hc : oI.cls = .type "tuple_iterator") (hd : oI.data = .fields #[.ref t, .int 1 0]) (ht : (t, o) ∈ news) (hct : o.cls = .type "tuple") (hdt : o.data = .seq vs.toArray n) (hx : vs[1]? = some x)
    (hTe : T ≠ e) (hTi : T ≠ it) (U1 : ∀ o', Upd it oI o' news (n1 o')) (U2 : ∀ oe' o', Upd e (enumOutO it 1 old T) oe' (n1 o') (n2 oe' o'))
    (U3 : ∀ oe oe' o', Upd e oe oe' (n2 oe o') (n2 oe' o'))
    (h : ∀ T' tk o' h', AllLt T' news → o'.cls = .type "tuple_iterator" → o'.data = .fields #[.ref t, .int 2 0] → Fr h₀ L h' m → News h₀ L h' ((T', tupO [.int 1 tk, x]) :: n2 (keptO it 2 old T) o') → Q (some (.ref T')) { s with heap := h', toks := tk + 1 }) :
    wpAny (model prog w) A (pyNext (.ref e)) Q E s := by
  have hTy : s.TypeIs (.ref e) "enumerate" := ⟨_, (N _ he).1, rfl⟩
  unfold pyNext
  refine wpAny_bind (wpAny_attempt (wpAny_callSpecial?_slot (name := Str.ofString "__next__") hTy F.slot_enumerate_next
    (wpAny_call_entry F.slot_enumerate_next hTy F.entry_enumerate_next ?_ (F.args_enumerate_next_1 _))))
  have lt0 := newest N
  show wpAny _ _ (field (.ref e) 2 >>= _) _ _ _
  refine wpAny_bind (wpAny_field (N _ he).1 rfl (x := .ref it) rfl ?_)
  refine wpAny_bind (nextOf_tup_item (i := 1) ⟨oI, (N _ hI).1, hc, hd⟩ ⟨o, (N _ ht).1, hct, n, hdt⟩ (by simpa using hx) fun w1 hi hs1 => ?_)
  obtain ⟨o', ho', hc', hd'⟩ := hi
  have hT1 : w1.get? T = some oT := hs1.extBut _ _ hTi (N _ hT).1
  obtain ⟨F1, N1⟩ := upd_ledger F₁ N (U1 o') (fun b x hb q => hs1.extBut b x hb q) ho'
  have U2' : ∀ oe', Upd e (enumOutO it 1 old T) oe' (n1 o') (n2 oe' o') := fun oe' => U2 oe' o'
  have he1 := (N1 _ (Upd.fits (U2' (keptO it 2 old T))).1).1
  have hz1 : w1.objs.size = s.heap.objs.size := hs1.1
  show wpAny _ _ (field (.ref e) 3 >>= _) _ _ _
  refine wpAny_bind (wpAny_field he1 rfl (x := rawInt 1) rfl ?_)
  show wpAny _ _ (field (.ref e) 4 >>= _) _ _ _
  refine wpAny_bind (wpAny_field he1 rfl (x := .none) rfl ?_)
  show wpAny _ _ (mkInt 1 >>= _) _ _ _
  refine wpAny_bind (wpAny_mkInt ?_)
  show wpAny _ _ (setField (.ref e) 3 (rawInt (1 + 1)) >>= _) _ _ _
  refine wpAny_bind (wpAny_setField_rec he1 (by simp) fun w2 he2 hs2 => ?_)
  replace he2 : w2.get? e = some (enumOutO it 2 old T) := he2
  have hT2 : w2.get? T = some oT := hs2.extBut _ _ hTe hT1
  have hz2 : w2.objs.size = w1.objs.size := hs2.1
  obtain ⟨F2, N2⟩ := upd_ledger F1 N1 (U2' _) (fun b x hb q => hs2.extBut b x hb q) he2
  show wpAny _ _ (setField (.ref e) 4 .none >>= _) _ _ _
  refine wpAny_bind (wpAny_setField_rec he2 (by simp) fun w3 he3 hs3 => ?_)
  replace he3 : w3.get? e = some (enumOutO it 2 old T) := he3
  have hT3 : w3.get? T = some oT := hs3.extBut _ _ hTe hT2
  have hz3 : w3.objs.size = w2.objs.size := hs3.1
  obtain ⟨F3, N3⟩ := upd_ledger F2 N2 (U3 _ _ _) (fun b x hb q => hs3.extBut b x hb q) he3
  show wpAny _ _ (newTuple [.int 1 _, x] >>= _) _ _ _
  refine wpAny_bind (wpAny_newTuple ?_)
  have N4 := N3.push F3 (tupO [.int 1 s.toks, x])
  have F4 := F3.push (tupO [.int 1 s.toks, x])
  have hz : w3.objs.size = s.heap.objs.size := by rw [hz3, hz2, hz1]
  have hT4 : (w3.push (tupO [.int 1 s.toks, x])).get? T = some oT := Heap.get?_push_of_some _ hT3
  have he4 : (w3.push (tupO [.int 1 s.toks, x])).get? e = some (enumOutO it 2 old T) := Heap.get?_push_of_some _ he3
  show wpAny _ _ (Builtin.SmallTypes.ownedTupleIsFree (.ref e) >>= _) _ _ _
  refine wpAny_bind ?_
  unfold Builtin.SmallTypes.ownedTupleIsFree
  refine wpAny_bind (wpAny_field he4 rfl (x := rawInt T) rfl ?_)
  show wpAny _ _ (loadIfAlive (Int.toNat (T : Int)) >>= _) _ _ _
  rw [Int.toNat_natCast]
  refine wpAny_bind (alive ?_)
  show wpAny _ _ (if ((w3.push (tupO [.int 1 s.toks, x])).get? T).isNone = true then _ else _) _ _ _
  rw [hT4, if_neg (by simp)]
  refine wpAny_bind (wpAny_field he4 rfl (x := .bool false) rfl ?_)
  show wpAny _ _ (if (Value.bool false != Value.bool true) = true then _ else _) _ _ _
  rw [if_pos (by decide)]
  refine wpAny_bind (wpAny_setField_rec he4 (by simp) fun w5 he5 hs5 => ?_)
  replace he5 : w5.get? e = some (keptO it 2 old T) := he5
  have hel : e ≠ w3.objs.size := by rw [hz]; exact Nat.ne_of_lt (lt0 _ he)
  obtain ⟨F5, N5⟩ := upd_ledger F4 N4 (.tail (Ne.symm hel) (U3 (enumOutO it 2 old T) (keptO it 2 old T) o')) (fun b x hb q => hs5.extBut b x hb q) he5
  refine wpAny_pure ?_
  show wpAny _ _ (if false = true then _ else _) _ _ _
  rw [if_neg (by decide)]
  refine wpAny_pure ⟨_, rfl, wpAny_pure (h w3.objs.size _ o' w5 (allLt_of fun p hp => ?_) hc' hd' F5 N5)⟩
  rw [hz]; exact lt0 p hp

theorem nx_kept_end2 {e it t T : Addr} {old : Value} {oI o : Obj} {vs : List Value} {n : Nat} {Q : Option Value → Shared → Prop} (hh : A.handled = none) (F₁ : Fr h₀ L s.heap m) (N : News h₀ L s.heap news)
    (he : (e, keptO it 2 old T) ∈ news) (hI : (it, oI) ∈ news) (hc : oI.cls = .type "tuple_iterator") (hd : oI.data = .fields #[.ref t, .int 2 0]) (ht : (t, o) ∈ news) (hct : o.cls = .type "tuple") (hdt : o.data = .seq vs.toArray n) (hx : vs[2]? = none)
    (D : Drop it news n1) (h : ∀ h', Fr h₀ L h' m → News h₀ L h' n1 → Q none { s with heap := h' }) : wpAny (model prog w) A (pyNext (.ref e)) Q E s := by
  have hTy : s.TypeIs (.ref e) "enumerate" := ⟨_, (N _ he).1, rfl⟩
  unfold pyNext
  refine wpAny_bind (wpAny_attempt (wpAny_callSpecial?_slot (name := Str.ofString "__next__") hTy F.slot_enumerate_next
    (wpAny_call_entry F.slot_enumerate_next hTy F.entry_enumerate_next ?_ (F.args_enumerate_next_1 _))))
  show wpAny _ _ (field (.ref e) 2 >>= _) _ _ _
  refine wpAny_bind (wpAny_field (N _ he).1 rfl (x := .ref it) rfl ?_)
  refine wpAny_bind (nextOf_tup_end (i := 2) hh ⟨oI, (N _ hI).1, hc, hd⟩ ⟨o, (N _ ht).1, hct, n, hdt⟩ (by simpa using hx) fun w1 e1 hs he1 => ?_)
  obtain ⟨oe, hoe, hce⟩ := he1
  obtain ⟨F1, N1⟩ := drop_ledger F₁ N hI D (fun b y hb z => hs b y hb z)
  refine wpAny_bind (wpAny_isInstance (T := "StopIteration") (b := true) ⟨oe, hoe, hce⟩ isSubtype_stop ?_)
  exact wpAny_pure (h w1 F1 N1)
end
end Mine
end

-- Eq1
section
open PySem PySem.W PyProof.Rows PySem.Spec PySem.Calls PyProof.Rows.LCg
set_option maxRecDepth 100000
set_option maxHeartbeats 4000000
namespace Mine
local macro_rules | `(tactic| k_mem) => `(tactic| (refine memOf ?_; ktr_member))
local macro_rules | `(tactic| walk_at "exec For Tuple Call") => `(tactic| (k_here; k_dflt (refine for_it ?_ (by intro _; rfl))))
set_option hygiene false in
local macro_rules | `(tactic| walk_at "call type:zip") => `(tactic| (k_here; k_dflt (refine' call_zip ?F ?N ?t1 ?a ?t2 ?b ?_; (case F => k_asm); (case N => k_asm); (case t1 => k_mem); (case a => exact ⟨rfl, _, rfl⟩); (case t2 => k_mem); (case b => exact ⟨rfl, _, rfl⟩); k_whole); intro z TI TO i1 i2 h' lz1 lz2 lz3 lz4 lz5 F' N'; refine zip_it N' (.head _) ?_; refine stand ?_))
theorem ltOf {I t : Addr} {o : Obj} {l : List (Addr × Obj)} (h : AllLt I l) (hm : (t, o) ∈ l) : @LT.lt Nat _ t I := by
  induction l with
  | nil => cases hm
  | cons p r ih =>
    rcases List.mem_cons.mp hm with rfl | hm
    · exact h.1
    · exact ih h.2 hm
theorem back_bool {h₀ h' : Heap} {L : Addr} {m : Str → Option Value} {news : List (Addr × Obj)} {nw : List (Addr × Obj)} {s : Shared} {x y : Bool} {Q : Value → Shared → Prop} {g' : Array GenState} {tk' : Nat}
    (hret : Back h₀ L m news s (fun r tl => r = .bool x ∧ tl = []) Q) (F : Fr h₀ L h' m) (N : News h₀ L h' nw) (hb : AllBare g') (hs : ∀ p ∈ news, p ∈ nw) (e : y = x) : Q (.bool y) { s with heap := h', gens := g', toks := tk' } := by
  subst e
  exact hret _ [] h' g' tk' ⟨rfl, rfl⟩ hb F fun p h => N p (hs p h)
theorem eq_spec {w : World} {e e' : El} {p p' : Int} {v v' : Int × Int} {news : List (Addr × Obj)} (h1 : ∀ q ∈ e.led w p v, q ∈ news) (h2 : ∀ q ∈ e'.led w p' v', q ∈ news) :
    Spec w 175 2 [.ref e.x, .ref e'.x] news (fun r tl => r = .bool (decide (v = v')) ∧ tl = []) := by
  obtain ⟨x, d, ct, ml, T, q, k1, k2, k3, k4, k5, tp, td, ta, tb, m0, u1, u2⟩ := e
  obtain ⟨x', d', ct', ml', T', q', k1', k2', k3', k4', k5', tp', td', ta', tb', m0', u1', u2'⟩ := e'
  simp only [El.led, List.forall_mem_cons] at h1 h2
  obtain ⟨m1, m2, m3, m4, m5, m6, -⟩ := h1
  obtain ⟨m1', m2', m3', m4', m5', m6', -⟩ := h2
  show Spec w 175 2 [.ref x, .ref x'] _ _
  unfold Spec
  intro pg lo mean mg mb dp un gd cn cs a ccd cl outer A₀ base h₀ L m s Q E S hd hu hret
  obtain ⟨B, F, X, N, T, hk, hb⟩ := S
  revert X
  k_fill
  intro X
  refine wpAny_call ?_
  k_dflt ktr_enter
  k_steps
  unfold Stand
  have lb : ∀ p ∈ news, @LT.lt Nat _ p.1 i1 := fun p hp => ltOf lz1 hp
  refine ForIt.step ?_ ?hE
  case hE => k_steps
  rename Fr _ _ h' _ => F9
  refine zip_item 0 lz2 lz3 lz4 lz5 lb F9 N' (fun _ h => h) ⟨rfl, rfl⟩ ⟨rfl, rfl⟩ m3 ⟨rfl, _, rfl⟩ m3' ⟨rfl, _, rfl⟩ rfl rfl ?_
  intro T0 o1 o2 h8 lT q1 q2 F8 N8
  refine zip_go F8 N8 (.tail _ (.head _)) (.tail (Nat.ne_of_gt lT.1) (zl_z lz2 lz3 lz4 lz5 lb)) ?_
  intro h7 F7 N7
  clear F9 F8 N8
  k_steps
  · refine back_bool hret (by assumption) (by assumption) (by assumption) (by kcj_all) ?_
    exact (decide_eq_false (fun e => absurd (congrArg Prod.fst e) (by assumption))).symm
  refine ForIt.step ?_ ?hE
  case hE => k_steps
  rename Fr _ _ _ _ => F9
  rename News _ _ _ _ => N9
  refine zip_item 1 lz2 lz3 lz4 lz5 lb F9 N9 (fun _ h => .tail _ h) q1 q2 m3 ⟨rfl, _, rfl⟩ m3' ⟨rfl, _, rfl⟩ rfl rfl ?_
  clear F9 N9 lT q1 q2
  intro T0 o1 o2 h8 lT q1 q2 F8 N8
  refine zip_go F8 N8 (.tail _ (.head _)) (.tail (Nat.ne_of_gt lT.1) (zl_z lz2 lz3 lz4 lz5 lb)) ?_
  intro h7 F7 N7
  clear F8 N8
  k_steps
  · refine back_bool hret (by assumption) (by assumption) (by assumption) (by kcj_all) ?_
    exact (decide_eq_false (fun e => absurd (congrArg Prod.snd e) (by assumption))).symm
  refine ForIt.step ?_ ?hE
  case hE => k_steps
  rename Fr _ _ _ _ => F9
  rename News _ _ _ _ => N9
  refine zip_end 2 (by rfl) lz2 lz3 lz4 lz5 lb F9 N9 (fun _ h => .tail _ h) q1 m3 ⟨rfl, _, rfl⟩ rfl ?_
  clear F9 N9 lT q1 q2
  intro h8 F8 N8
  k_steps
  refine back_bool hret (by assumption) (by assumption) (by assumption) (by kcj_all) ?_
  exact (decide_eq_true (Prod.ext (by assumption) (by assumption))).symm
theorem useB {w : World} {f : Addr} {dep : Nat} {vs : List Value} {news : List (Addr × Obj)} {v : Bool} {pg : Program} {lo : List Str} {mean : ExcName → Option Value} {mg mb : Str → Option Value} {dp un : Nat} {gd : Option (List Code)} {cn : Str} {cs : Scope} {a : Addr} {ccd : Value} {cl : List (Str × Addr)} {outer : List Env} {A₀ : Around} {base h₀ : Heap} {L : Addr} {m : Str → Option Value} {s : Shared} {Q E : Value → Shared → Prop}
    (hS : Spec w f dep vs news (fun r tl => r = .bool v ∧ tl = [])) (B : Below A₀ base outer h₀) (F : Fr h₀ L s.heap m) (X : (hd.heap_39 w.params).In h₀) (N : News h₀ L s.heap news) (T : Top pg lo mean mg mb h₀) (hk : cs.kind = .function) (hb : AllBare s.gens)
    (hd : dp + dep < recursionLimit) (hu : un + 8 * dep < cLine)
    (k : ∀ (h' : Heap) (g' : Array GenState) (tk' : Nat), AllBare g' → Fr h₀ L h' m → News h₀ L h' news → Q (.bool v) { s with heap := h', gens := g', toks := tk' }) :
    wpAny (model PySem.Challenge.rw_bb0064_01.row.prog w) (ktrTop dp un gd cn cs L a ccd cl outer) (call (.ref f) vs) Q E s := by
  refine hS pg lo mean mg mb dp un gd cn cs a ccd cl outer A₀ base h₀ L m s Q E ⟨B, F, X, N, T, hk, hb⟩ hd hu ?_
  rintro r tl h' g' tk' ⟨rfl, rfl⟩ hb' F' N'
  exact k h' g' tk' hb' F' N'
local macro_rules | `(tactic| k_units) => `(tactic| ktr_units)
local macro_rules | `(tactic| ktn_open) => `(tactic| (
  (case k1 => k_asm); (case k2 => k_asm); (case k3 => k_asm); (case k4 => k_asm); (case k5 => k_asm); (case kK => first | exact rfl | assumption); (case kb => assumption); (case kd => ktr_room); (case ku => ktr_units)))
local macro_rules | `(tactic| walk_at "call ref") => `(tactic| (k_here; (rename Spec _ 175 _ _ _ _ => hE9); k_dflt (refine' useB hE9 ?k1 ?k2 ?k3 ?k4 ?k5 ?kK ?kb ?kd ?ku ?_; ktn_open; clear hE9; intro h' g' tk' hb' F' N'; (try unfold PySem.W.CmpBack); (try dsimp only); (try k_fold))))
theorem ne_spec {w : World} {e e' : El} {p p' : Int} {v v' : Int × Int} {news : List (Addr × Obj)} (h1 : ∀ q ∈ e.led w p v, q ∈ news) (h2 : ∀ q ∈ e'.led w p' v', q ∈ news) :
    Spec w 182 3 [.ref e.x, .ref e'.x] news (fun r tl => r = .bool (!decide (v = v')) ∧ tl = []) := by
  have hE := eq_spec h1 h2
  obtain ⟨x, d, ct, ml, T, q, k1, k2, k3, k4, k5, tp, td, ta, tb, m0, u1, u2⟩ := e
  obtain ⟨x', d', ct', ml', T', q', k1', k2', k3', k4', k5', tp', td', ta', tb', m0', u1', u2'⟩ := e'
  simp only [El.led, List.forall_mem_cons] at h1 h2
  obtain ⟨m1, m2, m3, m4, m5, m6, -⟩ := h1
  obtain ⟨m1', m2', m3', m4', m5', m6', -⟩ := h2
  replace hE : Spec w 175 2 [.ref x, .ref x'] _ _ := hE
  show Spec w 182 3 [.ref x, .ref x'] _ _
  unfold Spec
  intro pg lo mean mg mb dp un gd cn cs a ccd cl outer A₀ base h₀ L m s Q E S hd hu hret
  obtain ⟨B, F, X, N, T, hk, hb⟩ := S
  revert X
  k_fill
  intro X
  refine wpAny_call ?_
  k_dflt ktr_enter
  k_steps
  refine back_bool hret (by assumption) (by assumption) (by assumption) (by kcj_all) ?_
  rfl
end Mine
end

-- Mul1
section
open PySem PySem.W PyProof.Rows PySem.Spec PySem.Calls PyProof.Rows.LCg
set_option maxRecDepth 100000
set_option maxHeartbeats 4000000
namespace Mine
set_option hygiene false in
local macro_rules | `(tactic| k_enter) => `(tactic| (refine' code_defC ?k1 ?k2 ?k3 ?k4 ?k5 ?kA ?kF ?kK ?k6 ?k7 ?k8 ?k9 ?kB ?kD ?_ ?c2 ?c3 ?c4; (case kA => exact rfl); (case kF => exact rfl); (case kK => first | exact rfl | assumption); (case k1 => k_asm); (case k2 => k_asm); (case k3 => k_asm); (case k4 => k_asm); (case k5 => k_asm); (case k6 => k_is); (case k7 => k_is); (case k8 => ktr_room); (case k9 => first | exact BindsTo.of_eq rfl | exact binds_K (by k_in) rfl (by k_is) rfl rfl rfl | fail "k_enter: no rule for these arguments"); (case kB => exact rfl); (case kD => decide +kernel); (case c2 => exact rfl); (case c3 => exact rfl); (case c4 => exact rfl); k_whole; intro g' L' h' tk' cells' FG' F' N' Y' B' X' T' l1; (try k_lt l1); k_cells Y'; (try simp only [List.cons_append, List.nil_append] at N'); (try dsimp only); (try k_lift B'); (try k_fold)))
local macro_rules | `(tactic| k_mem) => `(tactic| (refine memOf ?_; ktr_member))
local macro_rules | `(tactic| k_units) => `(tactic| ktr_units)
local macro_rules | `(tactic| walk_at "exec For Tuple Call") => `(tactic| (k_here; k_dflt (refine for_it ?_ (by intro _; rfl))))
local macro_rules | `(tactic| walk_at "exec For Name Call cons nil") => `(tactic| (k_here; refine stand ?_))
local macro_rules | `(tactic| walk_at "exec For Tuple Name") => `(tactic| (k_here; k_dflt (refine for_it ?_ (by intro _; rfl))))
local macro_rules | `(tactic| walk_at "exec For Tuple Attribute") => `(tactic| (k_here; refine stand ?_))
local macro_rules | `(tactic| walk_at "call type:enumerate") => `(tactic| (k_here; k_dflt (refine' mk_enum ?F ?N ?t ?c ?d ?_; (case F => k_asm); (case N => k_asm); (case t => k_mem); (case c => exact rfl); (case d => exact rfl); k_whole); intro it e h' l1 l2 l3 F' N'; have l4 := l1; have l5 := l3; (try simp only [AllLt, and_true] at l1); (try simp only [AllLt, and_true] at l3)))
theorem dropAll {I : Addr} {l : List (Addr × Obj)} (h : AllLt I l) : Drop I l l := .rest fun p hp => Nat.ne_of_lt (ltOf h hp)
local macro_rules | `(tactic| tb_rel) => `(tactic| first | (refine' Drop.hit ?b; (case b => tb_rel)) | (refine' Drop.keep ?a ?b; (case a => k_ne); (case b => tb_rel)) | exact Drop.rest (by assumption) | (refine' Drop.rest ?a; (case a => k_all)) | exact Drop.nil)
local macro_rules | `(tactic| walk_at "call type:list") => `(tactic| (k_here; k_dflt (refine' list_enum ?F ?N ?t ?_; (case F => k_asm); (case N => k_asm); (case t => k_mem); k_whole); intro S c' h' l1 F' N'; (try simp only [AllLt, and_true] at l1); refine ExtIt.step ?_))
local macro_rules | `(tactic| walk_at "pyNext ref") => `(tactic| (k_here; k_dflt (refine' nx_enum0 ?hh ?F ?N ?he ?hI ?hc ?hd ?ht ?hct ?hdt ?hx ?e1 ?e2 ?e3 ?U1 ?U2 ?_; (case hh => exact rfl); (case F => k_asm); (case N => k_asm); (case he => k_mem); (case hI => k_mem); (case hc => first | exact rfl | assumption); (case hd => first | exact rfl | assumption); (case ht => k_mem); (case hct => exact rfl); (case hdt => exact rfl); (case hx => exact rfl); (case e1 => k_ne); (case e2 => first | k_ne | exact Nat.ne_of_lt (ltOf (by assumption) (by k_mem))); (case e3 => first | k_ne | exact Nat.ne_of_lt (ltOf (by assumption) (by k_mem))); (case U1 => intro oe; k_upd); (case U2 => intro oe o'; k_upd); k_whole); intro T tk o' h' l1 hc' hd' F' N'; (try simp only [AllLt, and_true] at l1); (try dsimp only)))
local macro_rules | `(tactic| walk_at "pyNext ref") => `(tactic| (k_here; k_dflt (refine' nx_list0 ?F ?N ?hI ?hc ?hd ?ht ?hct ?hdt ?hx ?U ?_; (case F => k_asm); (case N => k_asm); (case hI => k_mem); (case hc => first | exact rfl | assumption); (case hd => first | exact rfl | assumption); (case ht => k_mem); (case hct => exact rfl); (case hdt => exact rfl); (case hx => exact rfl); (case U => intro o; k_upd); k_whole); intro o' h' hc' hd' F' N'; (try dsimp only)))
local macro_rules | `(tactic| walk_at "pyNext ref") => `(tactic| (k_here; k_dflt (refine' nx_enum1 ?hh ?F ?N ?he ?hI ?hc ?hd ?ht ?hct ?hdt ?hx ?e1 ?e2 ?e3 ?U1 ?U2 ?_; (case hh => exact rfl); (case F => k_asm); (case N => k_asm); (case he => k_mem); (case hI => k_mem); (case hc => first | exact rfl | assumption); (case hd => first | exact rfl | assumption); (case ht => k_mem); (case hct => exact rfl); (case hdt => exact rfl); (case hx => exact rfl); (case e1 => k_ne); (case e2 => first | k_ne | exact Nat.ne_of_lt (ltOf (by assumption) (by k_mem))); (case e3 => first | k_ne | exact Nat.ne_of_lt (ltOf (by assumption) (by k_mem))); (case U1 => intro oe; k_upd); (case U2 => intro oe o'; k_upd); k_whole); intro T tk o' h' l1 hc' hd' F' N'; (try simp only [AllLt, and_true] at l1); (try dsimp only)))
local macro_rules | `(tactic| walk_at "pyNext ref") => `(tactic| (k_here; k_dflt (refine' nx_list1 ?F ?N ?hI ?hc ?hd ?ht ?hct ?hdt ?hx ?U ?_; (case F => k_asm); (case N => k_asm); (case hI => k_mem); (case hc => first | exact rfl | assumption); (case hd => first | exact rfl | assumption); (case ht => k_mem); (case hct => exact rfl); (case hdt => exact rfl); (case hx => exact rfl); (case U => intro o; k_upd); k_whole); intro o' h' hc' hd' F' N'; (try dsimp only)))
local macro_rules | `(tactic| walk_at "pyNext ref") => `(tactic| (k_here; k_dflt (refine' nx_list_end1 ?hh ?F ?N ?hI ?hc ?hd ?ht ?hct ?hdt ?hx ?D ?_; (case hh => exact rfl); (case F => k_asm); (case N => k_asm); (case hI => k_mem); (case hc => first | exact rfl | assumption); (case hd => first | exact rfl | assumption); (case ht => k_mem); (case hct => exact rfl); (case hdt => exact rfl); (case hx => exact rfl); (case D => tb_rel); k_whole); intro h' F' N'; (try dsimp only)))
local macro_rules | `(tactic| walk_at "pyNext ref") => `(tactic| (k_here; k_dflt (refine' nx_list_end2 ?hh ?F ?N ?hI ?hc ?hd ?ht ?hct ?hdt ?hx ?D ?_; (case hh => exact rfl); (case F => k_asm); (case N => k_asm); (case hI => k_mem); (case hc => first | exact rfl | assumption); (case hd => first | exact rfl | assumption); (case ht => k_mem); (case hct => exact rfl); (case hdt => exact rfl); (case hx => exact rfl); (case D => tb_rel); k_whole); intro h' F' N'; (try dsimp only)))
local macro_rules | `(tactic| walk_at "pyNext ref") => `(tactic| (k_here; k_dflt (refine' nx_enum_end2 ?hh ?F ?N ?he ?hI ?hc ?hd ?ht ?hct ?hdt ?hx ?e3 ?D ?_; (case hh => exact rfl); (case F => k_asm); (case N => k_asm); (case he => k_mem); (case hI => k_mem); (case hc => first | exact rfl | assumption); (case hd => first | exact rfl | assumption); (case ht => k_mem); (case hct => exact rfl); (case hdt => exact rfl); (case hx => exact rfl); (case e3 => first | k_ne | exact Nat.ne_of_lt (ltOf (by assumption) (by k_mem))); (case D => tb_rel); k_whole); intro h' F' N'; (try dsimp only)))
local macro_rules | `(tactic| walk_at "pyNext ref") => `(tactic| (k_here; k_dflt (refine' nx_kept1 ?F ?N ?he ?hT ?hI ?hc ?hd ?ht ?hct ?hdt ?hx ?e1 ?e2 ?U1 ?U2 ?U3 ?_; (case F => k_asm); (case N => k_asm); (case he => k_mem); (case hI => k_mem); (case hc => first | exact rfl | assumption); (case hd => first | exact rfl | assumption); (case ht => k_mem); (case hct => exact rfl); (case hdt => exact rfl); (case hx => exact rfl); (case hT => k_mem); (case e1 => k_ne); (case e2 => k_ne); (case U1 => intro o; k_upd); (case U2 => intro oe o'; k_upd); (case U3 => intro oe oe' o'; k_upd); k_whole); intro T tk o' h' l1 hc' hd' F' N'; (try simp only [AllLt, and_true] at l1); (try dsimp only)))
local macro_rules | `(tactic| walk_at "pyNext ref") => `(tactic| (k_here; k_dflt (refine' nx_kept_end2 ?hh ?F ?N ?he ?hI ?hc ?hd ?ht ?hct ?hdt ?hx ?D ?_; (case hh => exact rfl); (case F => k_asm); (case N => k_asm); (case he => k_mem); (case hI => k_mem); (case hc => first | exact rfl | assumption); (case hd => first | exact rfl | assumption); (case ht => k_mem); (case hct => exact rfl); (case hdt => exact rfl); (case hx => exact rfl); (case D => tb_rel); k_whole); intro h' F' N'; (try dsimp only)))
local macro_rules | `(tactic| walk_at "ForIt") => `(tactic| (k_here; refine ForIt.step ?_ ?hE; (case hE => k_steps)))
local macro_rules | `(tactic| walk_at "pyIter ref") => `(tactic| (k_here; k_dflt (refine' it_enum ?N ?he ?_; (case N => k_asm); (case he => k_mem); k_whole)))
local macro_rules | `(tactic| walk_at "pyIter ref") => `(tactic| (k_here; k_dflt (refine' it_list ?F ?N ?ht ?hc ?hd ?_; (case F => k_asm); (case N => k_asm); (case ht => k_mem); (case hc => exact rfl); (case hd => exact rfl); k_whole); intro I h' l1 F' N'; (try simp only [AllLt, and_true] at l1)))
local macro_rules | `(tactic| walk_at "pyIter ref") => `(tactic| (k_here; k_dflt (refine' it_range ?F ?N ?hr ?hs ?hk ?_; (case F => k_asm); (case N => k_asm); (case hr => k_mem); (case hs => decide); (case hk => exact rfl); k_whole); intro I h' l1 F' N'; (try simp only [AllLt, and_true] at l1)))
local macro_rules | `(tactic| walk_at "call type:range") => `(tactic| (k_here; k_dflt (refine' mk_range ?F ?N ?hc ?hp ?_; (case F => k_asm); (case N => k_asm); (case hc => decide); (case hp => decide); k_whole); intro r h' l1 F' N'; (try simp only [AllLt, and_true] at l1)))
local macro_rules | `(tactic| walk_at "letOwnedTupleGo") => `(tactic| (k_here; k_dflt (refine' lg_enum ?F ?N ?he ?U ?_; (case F => k_asm); (case N => k_asm); (case he => k_mem); (case U => k_upd); k_whole); intro h' F' N'))
local macro_rules | `(tactic| walk_at "letOwnedTupleGo") => `(tactic| (k_here; k_dflt (refine' lg_list1 ?N ?hI ?hc ?hd ?_; (case N => k_asm); (case hI => k_mem); (case hc => assumption); (case hd => assumption); k_whole)))
local macro_rules | `(tactic| walk_at "letOwnedTupleGo") => `(tactic| (k_here; k_dflt (refine' lg_list2 ?N ?hI ?hc ?hd ?_; (case N => k_asm); (case hI => k_mem); (case hc => assumption); (case hd => assumption); k_whole)))
local macro_rules | `(tactic| walk_at "letOwnedTupleGo Name") => `(tactic| (k_here; refine lg_name ?_))
local macro_rules | `(tactic| walk_at "pyNext ref") => `(tactic| (k_here; k_dflt (refine' nx_range ?F ?N ?hI ?hl ?U ?_; (case F => k_asm); (case N => k_asm); (case hI => k_mem); (case hl => decide); (case U => k_upd); k_whole); intro h' F' N'; (try dsimp only)))
local macro_rules | `(tactic| walk_at "pyNext ref") => `(tactic| (k_here; k_dflt (refine' nx_range_end ?hh ?F ?N ?hI ?hl ?D ?_; (case hh => exact rfl); (case F => k_asm); (case N => k_asm); (case hI => k_mem); (case hl => decide); (case D => tb_rel); k_whole); intro h' F' N'; (try dsimp only)))
local macro_rules | `(tactic| walk_at "ExtMore") => `(tactic| (k_here; k_dflt (refine' ext_some ?F ?N ?t ?l ?U ?_; (case F => k_asm); (case N => k_asm); (case t => k_mem); (case l => exact of_decide_eq_true rfl); (case U => intro o; k_upd); k_whole); intro c' h' F' N'; (try dsimp only [List.cons_append, List.nil_append] at N'); refine ExtIt.step ?_))
local macro_rules | `(tactic| walk_at "call ref") => `(tactic| (k_here; refine stand ?_))
theorem useT {w : World} {f : Addr} {dep : Nat} {vs : List Value} {led news : List (Addr × Obj)} {ps : Array Value} {P : Value → List (Addr × Obj) → Prop} {pg : Program} {lo : List Str} {mean : ExcName → Option Value} {mg mb : Str → Option Value} {dp un : Nat} {gd : Option (List Code)} {cn : Str} {cs : Scope} {a : Addr} {ccd : Value} {cl : List (Str × Addr)} {outer : List Env} {A₀ : Around} {base h₀ : Heap} {L : Addr} {m : Str → Option Value} {s : Shared} {Q E : Value → Shared → Prop}
    (D : Drop 100 led news) (ht : (100, tabObj ps) ∈ led) (hS : SpecT w f dep vs news P) (B : Below A₀ base outer h₀) (F : Fr h₀ L s.heap m) (X : (hd.heap_39 w.params).In h₀) (N : News h₀ L s.heap led) (T : Top pg lo mean mg mb h₀) (hk : cs.kind = .function) (hb : AllBare s.gens) (htr : TriplesOk ps.toList)
    (hd : dp + dep < recursionLimit) (hu : un + 8 * dep < cLine)
    (k : ∀ (r : Value) (tl : List (Addr × Obj)) (ps' : Array Value) (h' : Heap) (g' : Array GenState) (tk' : Nat), P r tl → TriplesOk ps'.toList → AllBare g' → Fr h₀ L h' m → News h₀ L h' (tl ++ (100, tabObj ps') :: news) → Q r { s with heap := h', gens := g', toks := tk' }) :
    wpAny (model PySem.Challenge.rw_bb0064_01.row.prog w) (ktrTop dp un gd cn cs L a ccd cl outer) (call (.ref f) vs) Q E s := by
  refine hS ps pg lo mean mg mb dp un gd cn cs a ccd cl outer A₀ base h₀ L m s Q E ⟨B, F, X, fun p hp => ?_, T, hk, hb⟩ htr (fun p hp => (D.off p hp).2) hd hu k
  rcases List.mem_cons.mp hp with rfl | hp
  · exact N _ ht
  · exact N _ (D.off p hp).1
theorem back_re {w : World} {p : Int} {v v' : Int × Int} {e : El} {h₀ h' : Heap} {L : Addr} {m : Str → Option Value} {news nw : List (Addr × Obj)} {s : Shared} {ps : Array Value} {Q : Value → Shared → Prop} {g' : Array GenState} {tk' : Nat}
    (hret : BackT h₀ L m news s (RE w p v) Q) (F : Fr h₀ L h' m) (N : News h₀ L h' nw) (hb : AllBare g') (htr : TriplesOk ps.toList) (hs : ∀ q ∈ e.led w p v' ++ (100, tabObj ps) :: news, q ∈ nw) (hv : v = v') : Q (.ref e.x) { s with heap := h', gens := g', toks := tk' } := by
  subst hv
  exact hret _ _ ps h' g' tk' ⟨e, rfl, rfl⟩ htr hb F fun q hq => N q (hs q hq)
theorem skip7 {h₀ h : Heap} {L : Addr} {a b c d e f g : Addr × Obj} {r : List (Addr × Obj)} (N : News h₀ L h (a :: b :: c :: d :: e :: f :: g :: r)) : News h₀ L h r :=
  fun p hp => N p (.tail _ (.tail _ (.tail _ (.tail _ (.tail _ (.tail _ (.tail _ hp)))))))
def mulF (p : Int) (a b : Int × Int) : Int × Int := ((a.1 * b.1 - a.2 * b.2).fmod p, (a.1 * b.2 + a.2 * b.1).fmod p)
theorem mul_spec {w : World} {e e' : El} {p : Int} {v v' : Int × Int} {news : List (Addr × Obj)} (h1 : ∀ q ∈ e.led w p v, q ∈ news) (h2 : ∀ q ∈ e'.led w p v', q ∈ news) (p0 : 2 < p) (p1 : p ≤ 1000)
    (b1 : 0 ≤ v.1 ∧ v.1 < p) (b2 : 0 ≤ v.2 ∧ v.2 < p) (b3 : 0 ≤ v'.1 ∧ v'.1 < p) (b4 : 0 ≤ v'.2 ∧ v'.2 < p) :
    SpecT w 132 8 [.ref e.x, .ref e'.x] news (RE w p (mulF p v v')) := by
  obtain ⟨x, d, ct, ml, T, q, k1, k2, k3, k4, k5, tp, td, ta, tb, m0, u1, u2⟩ := e
  obtain ⟨x', d', ct', ml', T', q', k1', k2', k3', k4', k5', tp', td', ta', tb', m0', u1', u2'⟩ := e'
  obtain ⟨v1, v2⟩ := v
  obtain ⟨v1', v2'⟩ := v'
  simp only [El.led, List.forall_mem_cons] at h1 h2
  obtain ⟨m1, m2, m3, m4, m5, m6, -⟩ := h1
  obtain ⟨m1', m2', m3', m4', m5', m6', -⟩ := h2
  show SpecT w 132 8 [.ref x, .ref x'] _ _
  unfold SpecT
  intro ps pg lo mean mg mb dp un gd cn cs a ccd cl outer A₀ base h₀ L m s Q E S htr hgt hd hu hret
  obtain ⟨B, F, X, N, T, hk, hb⟩ := S
  revert X
  k_fill
  intro X
  refine wpAny_call ?_
  k_dflt k_enter
  k_steps
  unfold Stand
  rename Fr _ _ _ _ => F9
  rename News _ _ _ _ => N9
  rename IntsAre _ _ => I9
  simp only [Int.reduceMul, Int.reduceSub, Int.reduceAdd, Int.reduceToNat, List.replicate_succ, List.replicate_zero, List.flatten_cons, List.flatten_nil, List.cons_append, List.nil_append, List.append_nil, List.set_cons_zero, List.set_cons_succ, List.getD_cons_zero, List.getD_cons_succ, Int.zero_add] at N9 I9
  replace N9 := skip7 N9
  refine for_it ?_ (by intro _; rfl)
  k_steps
  unfold Stand
  try clear N9
  rename News _ _ _ _ => N9
  try clear I9
  rename IntsAre _ _ => I9
  simp only [List.dropLast_cons₂, List.dropLast_singleton, Int.reduceSub] at N9 I9
  refine for_it ?_ (by intro _; rfl)
  k_steps
  rename IntsAre ys _ => I8
  clear I9
  simp only [List.map_cons, List.map_nil, Int.reduceSub, Int.reduceAdd, Int.reduceToNat, List.getD_cons_zero, Int.mul_one] at I8
  obtain ⟨z0, z1, rfl⟩ : ∃ z0 z1, ys = [Value.int ((v1 * v1' - v2 * v2').fmod p) z0, Value.int ((v1 * v2' + v2 * v1').fmod p) z1] := by
    cases I8 with
    | cons k t r => cases r with
      | cons k' t' r' => cases r' with
        | nil => exact ⟨_, _, rfl⟩
  refine wpAny_call ?_
  k_dflt (refine' code_def ?k1 ?k2 ?k3 ?k4 ?k5 ?kA ?kF ?kK ?k6 ?k7 ?k8 ?k9 ?kB ?_ ?c2 ?c3 ?c4 ?c5; (case kA => exact rfl); (case kF => exact rfl); (case kK => exact rfl); (case k1 => k_asm); (case k2 => k_asm); (case k3 => k_asm); (case k4 => k_asm); (case k5 => k_asm); (case k6 => k_is); (case k7 => k_is); (case k8 => ktr_room); (case k9 => exact BindsTo.of_eq rfl); (case c5 => decide); (case kB => exact locs rfl); (case c2 => exact rfl); (case c3 => exact rfl); (case c4 => exact rfl); k_whole)
  intro g2 L2 h2 FG2 F2 N2 B2 X2 T2
  try dsimp only
  k_steps
  unfold Stand
  k_dflt (refine' useT ?kD ?kt (fq2_spec (a0 := (v1 * v1' - v2 * v2').fmod p) (a1 := (v1 * v2' + v2 * v1').fmod p) (n := 2) (p := p) (u1 := u1) (u2 := u2) (t1 := z0) (t2 := z1) ?ho ?hq p0 p1) ?k1 ?k2 ?k3 ?k4 ?k5 ?kK ?kb htr ?kd ?ku ?_; (case k4 => k_asm); (case kt => k_mem); (case kD => tb_rel); (case ho => exact List.Mem.head _); (case hq => k_mem); (case k1 => k_asm); (case k2 => k_asm); (case k3 => k_asm); (case k5 => k_asm); (case kK => exact rfl); (case kb => assumption); (case kd => ktr_room); (case ku => ktr_units); k_whole)
  rintro r tl ps9 h9 g9 tk9 ⟨e, rfl, rfl⟩ htr9 hb9 F9 N9
  simp only [El.led, List.cons_append, List.nil_append] at N9
  try dsimp only
  k_steps
  refine back_re (v' := (((v1 * v1' - v2 * v2').fmod p).fmod p, ((v1 * v2' + v2 * v1').fmod p).fmod p)) hret (by assumption) (by assumption) (by assumption) htr9 (fun q hq => ?_) (by rw [mulF, Int.fmod_fmod, Int.fmod_fmod])
  simp only [El.led, List.cons_append, List.nil_append, List.mem_cons] at hq ⊢
  rcases hq with hq | hq | hq | hq | hq | hq | hq | hq <;> simp only [hq, true_or, or_true]
end Mine
end

-- Pow1
section
open PySem PySem.W PyProof.Rows PySem.Spec PySem.Calls PyProof.Rows.LCg
set_option maxRecDepth 100000
set_option maxHeartbeats 4000000
namespace Mine
local macro_rules | `(tactic| k_mem) => `(tactic| (refine memOf ?_; ktr_member))
local macro_rules | `(tactic| k_units) => `(tactic| ktr_units)
def fpowGo (p : Int) : Nat → Int × Int → Int × Int → Nat → Int × Int
  | 0, o, _, _ => o
  | k + 1, o, t, n => if n = 0 then o else fpowGo p k (if n % 2 = 1 then mulF p o t else o) (mulF p t t) (n / 2)
theorem half_is {k : Int} (h : 0 ≤ k) : k.fdiv (2 ^ Int.toNat 1) = ((k.toNat / 2 : Nat) : Int) := by
  rw [Int.fdiv_eq_ediv_of_nonneg _ (by decide)]
  have : k = ((k.toNat : Nat) : Int) := by omega
  rw [this]
  simp
theorem bit_is {k : Int} (h : 0 ≤ k) : (Builtin.bitAnd k 1 ≠ 0) ↔ k.toNat % 2 = 1 := by
  rw [bitAnd_m1]; omega
theorem fpow_step {p k : Int} {fu : Nat} {vo vt : Int × Int} (hk : 0 < k) (h1 : k < 1024) (hlt : k.toNat < 2 ^ fu) :
    0 ≤ k.fdiv (2 ^ Int.toNat 1) ∧ k.fdiv (2 ^ Int.toNat 1) < 1024 ∧ (k.fdiv (2 ^ Int.toNat 1)).toNat < 2 ^ (fu - 1) ∧ (k.fdiv (2 ^ Int.toNat 1)).toNat < k.toNat ∧
    fpowGo p (fu - 1) (if Builtin.bitAnd k 1 ≠ 0 then mulF p vo vt else vo) (mulF p vt vt) (k.fdiv (2 ^ Int.toNat 1)).toNat = fpowGo p fu vo vt k.toNat := by
  rw [half_is (by omega)]
  obtain ⟨fu, rfl⟩ : ∃ f, fu = f + 1 := by
    cases fu with
    | zero => simp at hlt; omega
    | succ f => exact ⟨f, rfl⟩
  rw [Nat.pow_succ] at hlt
  rw [Nat.add_sub_cancel]
  rw [Int.toNat_natCast, fpowGo, if_neg (show ¬ k.toNat = 0 by omega)]
  refine ⟨by omega, by omega, Nat.div_lt_of_lt_mul (by rw [Nat.mul_comm]; exact hlt), by omega, ?_⟩
  by_cases h : k.toNat % 2 = 1
  · rw [if_pos ((bit_is (Int.le_of_lt hk)).mpr h), if_pos h]
  · rw [if_neg (fun q => h ((bit_is (Int.le_of_lt hk)).mp q)), if_neg h]
def fpow (p : Int) (v : Int × Int) (n : Nat) : Int × Int := fpowGo p 10 (1, 0) v n
def InP (p : Int) (v : Int × Int) : Prop := (0 ≤ v.1 ∧ v.1 < p) ∧ (0 ≤ v.2 ∧ v.2 < p)
theorem mulF_in {p : Int} {a b : Int × Int} (h : 0 < p) : InP p (mulF p a b) :=
  ⟨⟨Int.fmod_nonneg_of_pos _ h, Int.fmod_lt_of_pos _ h⟩, ⟨Int.fmod_nonneg_of_pos _ h, Int.fmod_lt_of_pos _ h⟩⟩
theorem El.sub {e : El} {w : World} {p : Int} {v : Int × Int} {news : List (Addr × Obj)} (m1 : (e.x, instObj 241 e.d) ∈ news) (m2 : (e.d, dictOf [⟨PyData.keyHash w.params "field_modulus", .str "field_modulus" e.k1, .int p e.tp⟩, ⟨PyData.keyHash w.params "mc_tuples", .str "mc_tuples" e.k2, .ref e.ml⟩, ⟨PyData.keyHash w.params "coeffs", .str "coeffs" e.k3, .ref e.ct⟩,
     ⟨PyData.keyHash w.params "modulus_coeffs", .str "modulus_coeffs" e.k4, .ref e.q⟩, ⟨PyData.keyHash w.params "degree", .str "degree" e.k5, .int 2 e.td⟩] 5) ∈ news)
    (m3 : (e.ct, tupO [.int v.1 e.ta, .int v.2 e.tb]) ∈ news) (m4 : (e.ml, lst [.ref e.T]) ∈ news) (m5 : (e.T, tupO [.int 0 e.m0, .int 1 e.u1]) ∈ news) (m6 : (e.q, tupO [.int 1 e.u1, .int 0 e.u2]) ∈ news) : ∀ q ∈ e.led w p v, q ∈ news := by
  simp only [El.led, List.forall_mem_cons]
  exact ⟨m1, m2, m3, m4, m5, m6, fun _ h => nomatch h⟩
local macro_rules | `(tactic| walk_at "call ref") => `(tactic| (k_here; refine stand ?_))
local macro_rules | `(tactic| walk_at "exec While") => `(tactic| (k_here; refine stand ?_))
local macro_rules | `(tactic| tb_rel) => `(tactic| first | (refine' Drop.hit ?b; (case b => tb_rel)) | (refine' Drop.keep ?a ?b; (case a => k_ne); (case b => tb_rel)) | exact Drop.rest (by assumption) | (refine' Drop.rest ?a; (case a => k_all)) | exact Drop.nil)
theorem made_spec {w : World} {e : El} {l : Addr} {p a0 a1 : Int} {t1 t2 : Tok} {n : Nat} {v : Int × Int} {news : List (Addr × Obj)} (h1 : ∀ q ∈ e.led w p v, q ∈ news) (ho : (l, lstN [.int a0 t1, .int a1 t2] n) ∈ news) (p0 : 2 < p) (p1 : p ≤ 1000) :
    SpecT w 230 6 [.ref e.x, .ref l] news (RE w p (a0.fmod p, a1.fmod p)) := by
  simp only [El.led, List.forall_mem_cons] at h1
  obtain ⟨m1, m2, m3, m4, m5, m6, -⟩ := h1
  have hC : SpecT w 241 4 [.ref l, .ref e.q, .int p e.tp] news (RE w p (a0.fmod p, a1.fmod p)) := fq2_spec ho m6 p0 p1
  unfold SpecT
  intro ps pg lo mean mg mb dp un gd cn cs a ccd cl outer A₀ base h₀ L m s Q E S htr hgt hd hu hret
  obtain ⟨B, F, X, N, T, hk, hb⟩ := S
  revert X
  k_fill
  intro X
  refine wpAny_call ?_
  k_dflt ktr_enter
  k_steps
  unfold Stand
  k_dflt (refine' useT ?kD ?kt hC ?k1 ?k2 ?k3 ?k4 ?k5 ?kK ?kb htr ?kd ?ku ?_; (case k4 => k_asm); (case kt => k_mem); (case kD => tb_rel); (case k1 => k_asm); (case k2 => k_asm); (case k3 => k_asm); (case k5 => k_asm); (case kK => exact rfl); (case kb => assumption); (case kd => ktr_room); (case ku => ktr_units); k_whole)
  rintro r tl ps9 h9 g9 tk9 ⟨e, rfl, rfl⟩ htr9 hb9 F9 N9
  simp only [El.led, List.cons_append, List.nil_append] at N9
  try dsimp only
  k_steps
  refine back_re hret (by assumption) (by assumption) (by assumption) htr9 (fun q hq => ?_) rfl
  simp only [El.led, List.cons_append, List.nil_append, List.mem_cons] at hq ⊢
  rcases hq with hq | hq | hq | hq | hq | hq | hq | hq <;> simp only [hq, true_or, or_true]
local macro_rules | `(tactic| ktn_open) => `(tactic| ((case k4 => k_asm); (case kt => k_mem); (case kD => tb_rel); (case k1 => k_asm); (case k2 => k_asm); (case k3 => k_asm); (case k5 => k_asm); (case kK => exact rfl); (case kb => assumption); (case kr => assumption); (case kd => ktr_room); (case ku => ktr_units)))
def Off100 (a : Addr) : Prop := a ≠ 100
theorem offOf {a : Addr} (h : Off100 a) : a ≠ 100 := h
theorem off100 {h₀ h : Heap} {L a : Addr} {o : Obj} {led : List (Addr × Obj)} {ps : Array Value} (N : News h₀ L h led) (ht : (100, tabObj ps) ∈ led) (hm : (a, o) ∈ led) (ho : o.cls ≠ .none) : a ≠ 100 := by
  rintro rfl
  have e : some (tabObj ps) = some o := (N _ ht).1.symm.trans (N _ hm).1
  exact ho (by rw [← Option.some.inj e])
theorem El.off {e : El} {w : World} {p : Int} {v : Int × Int} {h₀ h : Heap} {L : Addr} {led : List (Addr × Obj)} {ps : Array Value} (N : News h₀ L h led) (hs : ∀ q ∈ e.led w p v, q ∈ led) (ht : (100, tabObj ps) ∈ led) :
    Off100 e.x ∧ Off100 e.d ∧ Off100 e.ct ∧ Off100 e.ml ∧ Off100 e.T ∧ Off100 e.q := by
  simp only [El.led, List.forall_mem_cons] at hs
  obtain ⟨m1, m2, m3, m4, m5, m6, -⟩ := hs
  exact ⟨off100 N ht m1 (fun q => nomatch q), off100 N ht m2 (fun q => nomatch q), off100 N ht m3 (fun q => nomatch q), off100 N ht m4 (fun q => nomatch q), off100 N ht m5 (fun q => nomatch q), off100 N ht m6 (fun q => nomatch q)⟩
local macro_rules | `(tactic| tb_rel) => `(tactic| first | (refine' Drop.hit ?b; (case b => tb_rel)) | (refine' Drop.keep ?a ?b; (case a => first | (refine offOf ?_; assumption) | k_ne); (case b => tb_rel)) | exact Drop.rest (by assumption) | exact Drop.nil)
theorem useMul {w : World} {e e' : El} {p : Int} {v v' : Int × Int} {led news : List (Addr × Obj)} {ps : Array Value} {pg : Program} {lo : List Str} {mean : ExcName → Option Value} {mg mb : Str → Option Value} {dp un : Nat} {gd : Option (List Code)} {cn : Str} {cs : Scope} {a : Addr} {ccd : Value} {cl : List (Str × Addr)} {outer : List Env} {A₀ : Around} {base h₀ : Heap} {L : Addr} {m : Str → Option Value} {s : Shared} {Q E : Value → Shared → Prop}
    (D : Drop 100 led news) (ht : (100, tabObj ps) ∈ led) (h1 : ∀ q ∈ e.led w p v, q ∈ news) (h2 : ∀ q ∈ e'.led w p v', q ∈ news) (p0 : 2 < p) (p1 : p ≤ 1000) (b1 : InP p v) (b2 : InP p v')
    (B : Below A₀ base outer h₀) (F : Fr h₀ L s.heap m) (X : (hd.heap_39 w.params).In h₀) (N : News h₀ L s.heap led) (T : Top pg lo mean mg mb h₀) (hk : cs.kind = .function) (hb : AllBare s.gens) (htr : TriplesOk ps.toList)
    (hd : dp + 8 < recursionLimit) (hu : un + 8 * 8 < cLine)
    (k : ∀ (r : El) (ps' : Array Value) (h' : Heap) (g' : Array GenState) (tk' : Nat), TriplesOk ps'.toList → AllBare g' → Fr h₀ L h' m → News h₀ L h' (r.led w p (mulF p v v') ++ (100, tabObj ps') :: news) → Q (.ref r.x) { s with heap := h', gens := g', toks := tk' }) :
    wpAny (model PySem.Challenge.rw_bb0064_01.row.prog w) (ktrTop dp un gd cn cs L a ccd cl outer) (call (.ref 132) [.ref e.x, .ref e'.x]) (PySem.W.CmpBack Q) E s := by
  refine useT D ht (mul_spec h1 h2 p0 p1 b1.1 b1.2 b2.1 b2.2) B F X N T hk hb htr hd hu ?_
  rintro r tl ps9 h9 g9 tk9 ⟨e, rfl, rfl⟩ htr9 hb9 F9 N9
  exact k e ps9 h9 g9 tk9 htr9 hb9 F9 N9
theorem pow_spec {w : World} {e : El} {p : Int} {v : Int × Int} {n : Int} {tn : Tok} {news : List (Addr × Obj)} (h1 : ∀ q ∈ e.led w p v, q ∈ news) (p0 : 2 < p) (p1 : p ≤ 1000)
    (b : InP p v) (n0 : 0 ≤ n) (n1 : n < 1024) :
    SpecT w 151 10 [.ref e.x, .int n tn] news (RE w p (fpow p v n.toNat)) := by
  have h1' := h1
  simp only [El.led, List.forall_mem_cons] at h1
  obtain ⟨m1, m2, m3, m4, m5, m6, -⟩ := h1
  unfold SpecT
  intro ps pg lo mean mg mb dp un gd cn cs a ccd cl outer A₀ base h₀ L m s Q E S htr hgt hd hu hret
  obtain ⟨B, F, X, N, T, hk, hb⟩ := S
  revert X
  k_fill
  intro X
  refine wpAny_call ?_
  k_dflt ktr_enter
  k_steps
  unfold Stand
  k_dflt (refine' useT ?kD ?kt (made_spec (v := v) ?h1 ?ho ?p0 ?p1) ?k1 ?k2 ?k3 ?k4 ?k5 ?kK ?kb ?kr ?kd ?ku ?_)
  (case k4 => k_asm); (case kt => k_mem); (case kD => tb_rel); (case k1 => k_asm); (case k2 => k_asm); (case k3 => k_asm); (case k5 => k_asm); (case kK => exact rfl); (case kb => assumption); (case kr => assumption); (case kd => ktr_room); (case ku => ktr_units)
  (case h1 => refine' El.sub ?e1 ?e2 ?e3 ?e4 ?e5 ?e6; (case e1 => k_mem); (case e2 => k_mem); (case e3 => k_mem); (case e4 => k_mem); (case e5 => k_mem); (case e6 => k_mem)); (case ho => k_mem); (case p0 => assumption); (case p1 => assumption); k_whole
  rintro r tl ps9 h9 g9 tk9 ⟨eo, rfl, rfl⟩ htr9 hb9 F9 N9
  simp only [El.led, List.cons_append, List.nil_append] at N9
  try dsimp only
  k_steps
  unfold Stand
  rename Fr _ _ _ _ => F8
  rename News _ _ _ _ => N8
  have e1 : Int.fmod 1 p = 1 := Int.fmod_eq_of_lt (by omega) (by omega)
  have e0 : Int.fmod 0 p = 0 := Int.zero_fmod p
  refine while_by (σ := (El × El × Array Value × Tok) × (Int × Int) × (Int × Int) × Int × Nat) (fun c => c.1.1.led w p c.2.1 ++ (c.1.2.1.led w p c.2.2.1 ++ (100, tabObj c.1.2.2.1) :: news))
    (fun c => [(Str.ofString "o", .ref c.1.1.x), (Str.ofString "t", .ref c.1.2.1.x), (Str.ofString "other", .int c.2.2.2.1 c.1.2.2.2)])
    (fun c => InP p c.2.1 ∧ InP p c.2.2.1 ∧ TriplesOk c.1.2.2.1.toList ∧ 0 ≤ c.2.2.2.1 ∧ c.2.2.2.1 < 1024 ∧ c.2.2.2.1.toNat < 2 ^ c.2.2.2.2 ∧ fpowGo p c.2.2.2.2 c.2.1 c.2.2.1 c.2.2.2.1.toNat = fpow p v n.toNat) (fun c => c.2.2.2.1.toNat) F8 N8 hb9
    ⟨⟨(eo, e, ps9, tn), (Int.fmod 1 p, Int.fmod 0 p), v, n, 10⟩, ?hm, by kst_all, ?hp⟩ ?ht (by passes_own)
  case hm =>
    intro q hq
    rcases List.mem_append.mp hq with hq | hq
    · simp only [El.led, List.mem_cons, List.not_mem_nil, or_false] at hq ⊢
      rcases hq with hq | hq | hq | hq | hq | hq <;> simp only [hq, true_or, or_true]
    rcases List.mem_append.mp hq with hq | hq
    · have := h1' q hq
      simp only [List.mem_cons, this, or_true]
    · rcases List.mem_cons.mp hq with hq | hq <;> simp only [List.mem_cons, hq, true_or, or_true]
  case hp =>
    refine ⟨?_, b, htr9, n0, n1, ?_, ?_⟩
    · dsimp only
      rw [e1, e0]
      exact ⟨⟨by decide, by omega⟩, ⟨by decide, by omega⟩⟩
    · show n.toNat < 1024
      omega
    · dsimp only
      rw [e1, e0]
      rfl
  clear F8 N8
  rintro ⟨⟨o, t, ps8, tt⟩, vo, vt, k, fu⟩ uu hh gg tkk ⟨q1, q2, q3, q4, q5, q6, q7⟩ F2 N2 hb2
  dsimp only [ov] at q1 q2 q3 q4 q5 q6 q7 F2 N2 ⊢
  obtain ⟨oo1, oo2, oo3, oo4, oo5, oo6⟩ := El.off N2 (fun q h => List.mem_append_left _ h) (List.mem_append_right _ (List.mem_append_right _ (.head _)))
  obtain ⟨ot1, ot2, ot3, ot4, ot5, ot6⟩ := El.off N2 (fun q h => List.mem_append_right _ (List.mem_append_left _ h)) (List.mem_append_right _ (List.mem_append_right _ (.head _)))
  simp only [El.led, List.cons_append, List.nil_append] at N2
  k_steps
  · have qa := q1
    unfold Stand
    k_dflt (refine' useMul (v := vo) (v' := vt) ?kD ?kt ?h1 ?h2 p0 p1 ?b1 ?b2 ?k1 ?k2 ?k3 ?k4 ?k5 ?kK ?kb ?kr ?kd ?ku ?_; ktn_open; (case h1 => refine' El.sub ?e1 ?e2 ?e3 ?e4 ?e5 ?e6; (case e1 => k_mem); (case e2 => k_mem); (case e3 => k_mem); (case e4 => k_mem); (case e5 => k_mem); (case e6 => k_mem)); (case h2 => refine' El.sub ?e1 ?e2 ?e3 ?e4 ?e5 ?e6; (case e1 => k_mem); (case e2 => k_mem); (case e3 => k_mem); (case e4 => k_mem); (case e5 => k_mem); (case e6 => k_mem)); (case b1 => assumption); (case b2 => assumption); k_whole)
    intro o2 ps6 h6 g6 tk6 htr6 hb6 F9 N9
    obtain ⟨or1, or2, or3, or4, or5, or6⟩ := El.off N9 (fun q h => List.mem_append_left _ h) (List.mem_append_right _ (.head _))
    simp only [El.led, List.cons_append, List.nil_append] at N9
    try dsimp only
    k_steps
    unfold Stand
    k_dflt (refine' useMul (v := vt) (v' := vt) ?kD ?kt ?h1 ?h2 p0 p1 ?b1 ?b2 ?k1 ?k2 ?k3 ?k4 ?k5 ?kK ?kb ?kr ?kd ?ku ?_; ktn_open; (case h1 => refine' El.sub ?e1 ?e2 ?e3 ?e4 ?e5 ?e6; (case e1 => k_mem); (case e2 => k_mem); (case e3 => k_mem); (case e4 => k_mem); (case e5 => k_mem); (case e6 => k_mem)); (case h2 => refine' El.sub ?e1 ?e2 ?e3 ?e4 ?e5 ?e6; (case e1 => k_mem); (case e2 => k_mem); (case e3 => k_mem); (case e4 => k_mem); (case e5 => k_mem); (case e6 => k_mem)); (case b1 => assumption); (case b2 => assumption); k_whole)
    intro t2 ps7 h7 g7 tk7 htr7 hb7 F9 N9
    obtain ⟨or1, or2, or3, or4, or5, or6⟩ := El.off N9 (fun q h => List.mem_append_left _ h) (List.mem_append_right _ (.head _))
    simp only [El.led, List.cons_append, List.nil_append] at N9
    try dsimp only
    k_steps
    obtain ⟨f1, f2, f3, f4, f5⟩ := fpow_step (p := p) (vo := vo) (vt := vt) (by assumption) q5 q6
    rw [if_pos (by assumption)] at f5
    refine wend ⟨(o2, t2, ps7, _), mulF p vo vt, mulF p vt vt, k.fdiv (2 ^ Int.toNat 1), fu - 1⟩ hb7 (by assumption) (by assumption) ?_ (by kst_all) ⟨mulF_in (by omega), mulF_in (by omega), htr7, f1, f2, f3, f5.trans q7⟩ f4
    · dsimp only
      intro q hq
      simp only [El.led, List.cons_append, List.nil_append, List.mem_cons] at hq ⊢
      rcases hq with hq | hq | hq | hq | hq | hq | hq | hq | hq | hq | hq | hq | hq | hq <;> simp only [hq, true_or, or_true]
  · skip
    unfold Stand
    k_dflt (refine' useMul (v := vt) (v' := vt) ?kD ?kt ?h1 ?h2 p0 p1 ?b1 ?b2 ?k1 ?k2 ?k3 ?k4 ?k5 ?kK ?kb ?kr ?kd ?ku ?_; ktn_open; (case h1 => refine' El.sub ?e1 ?e2 ?e3 ?e4 ?e5 ?e6; (case e1 => k_mem); (case e2 => k_mem); (case e3 => k_mem); (case e4 => k_mem); (case e5 => k_mem); (case e6 => k_mem)); (case h2 => refine' El.sub ?e1 ?e2 ?e3 ?e4 ?e5 ?e6; (case e1 => k_mem); (case e2 => k_mem); (case e3 => k_mem); (case e4 => k_mem); (case e5 => k_mem); (case e6 => k_mem)); (case b1 => assumption); (case b2 => assumption); k_whole)
    intro t2 ps7 h7 g7 tk7 htr7 hb7 F9 N9
    obtain ⟨or1, or2, or3, or4, or5, or6⟩ := El.off N9 (fun q h => List.mem_append_left _ h) (List.mem_append_right _ (.head _))
    simp only [El.led, List.cons_append, List.nil_append] at N9
    try dsimp only
    k_steps
    obtain ⟨f1, f2, f3, f4, f5⟩ := fpow_step (p := p) (vo := vo) (vt := vt) (by assumption) q5 q6
    rw [if_neg (not_not_intro (by assumption))] at f5
    refine wend ⟨(o, t2, ps7, _), vo, mulF p vt vt, k.fdiv (2 ^ Int.toNat 1), fu - 1⟩ hb7 (by assumption) (by assumption) ?_ (by kst_all) ⟨q1, mulF_in (by omega), htr7, f1, f2, f3, f5.trans q7⟩ f4
    · dsimp only
      intro q hq
      simp only [El.led, List.cons_append, List.nil_append, List.mem_cons] at hq ⊢
      rcases hq with hq | hq | hq | hq | hq | hq | hq | hq | hq | hq | hq | hq | hq | hq <;> simp only [hq, true_or, or_true]
  · have k0 : k = 0 := by omega
    refine back_re hret (by assumption) (by assumption) (by assumption) q3 (fun q hq => ?_) (v' := vo) ?_
    · simp only [El.led, List.cons_append, List.nil_append, List.mem_cons] at hq ⊢
      rcases hq with hq | hq | hq | hq | hq | hq | hq | hq <;> simp only [hq, true_or, or_true]
    · rw [← q7, k0]
      cases fu with
      | zero => rfl
      | succ f => rfl
end Mine
end

-- In1
section
open PySem PySem.W PyProof.Rows PySem.Spec PySem.Calls PyProof.Rows.LCg
set_option maxRecDepth 100000
set_option maxHeartbeats 4000000
namespace Mine
section
variable {prog : Program} {w : World} {A : Around} {E : Value → Shared → Prop} {s : Shared} {h₀ : Heap} {L : Addr} {m : Str → Option Value} {news : List (Addr × Obj)}
theorem eq_two {z c : Addr} {a b x y : Int} {ta tb t1 t2 : Tok} (N : News h₀ L s.heap news) (hz : (z, tupO [.int a ta, .int b tb]) ∈ news) (hc : (c, tupO [.int x t1, .int y t2]) ∈ news) (hu : A.units < cLine) :
    SeqAt.EqAt A s (.ref c) (.ref z) (decide ((x, y) = (a, b))) := by
  by_cases hne : c = z
  · subst hne
    have : some (tupO [.int x t1, .int y t2]) = some (tupO [.int a ta, .int b tb]) := (N _ hc).1.symm.trans (N _ hz).1
    have hx : x = a ∧ y = b := by
      have := Option.some.inj this
      simp only [tupO, Obj.mk.injEq, Data.seq.injEq] at this
      simp at this
      exact ⟨this.1.1, this.2.1⟩
    obtain ⟨rfl, rfl⟩ := hx
    rw [decide_eq_true rfl]
    exact SeqAt.EqAt.same _
  refine SeqAt.EqAt.of_refs hne ?_
  have h := SeqAt.RcAt.tuples (A := A) (s := s) (l := c) (b := z) (items := #[.int x t1, .int y t2]) (items2 := #[.int a ta, .int b tb]) (e := fun j => if j = 0 then x == a else y == b) ⟨_, (N _ hc).1, rfl, 0, rfl⟩ ⟨_, (N _ hz).1, rfl, 0, rfl⟩ hu (fun j h1 h2 => by
    rcases j with _ | _ | j
    · exact (MeetsSeq.EqGives.int x a t1 ta).at _ _
    · exact (MeetsSeq.EqGives.int y b t2 tb).at _ _
    · simp at h1; omega)
  have e : ((List.range (min (#[Value.int x t1, Value.int y t2] : Array Value).size (#[Value.int a ta, Value.int b tb] : Array Value).size)).all (fun j => if j = 0 then x == a else y == b) && (#[Value.int x t1, Value.int y t2] : Array Value).size == (#[Value.int a ta, Value.int b tb] : Array Value).size) = decide ((x, y) = (a, b)) := by
    show (((x == a) && ((y == b) && true)) && true) = _
    rw [Bool.and_true, Bool.and_true]
    by_cases h1 : x = a <;> by_cases h2 : y = b <;> simp [h1, h2]
  rw [e] at h
  exact h

theorem in_two {t z c1 c2 : Addr} {a b x y x' y' : Int} {ta tb t1 t2 t3 t4 : Tok} {Q : Value → Shared → Prop} (N : News h₀ L s.heap news) (ht : (t, tupO [.ref c1, .ref c2]) ∈ news) (hz : (z, tupO [.int a ta, .int b tb]) ∈ news)
    (h1 : (c1, tupO [.int x t1, .int y t2]) ∈ news) (h2 : (c2, tupO [.int x' t3, .int y' t4]) ∈ news) (hu : A.in1.units < cLine)
    (h : Q (.bool (decide ((x, y) = (a, b)) || decide ((x', y') = (a, b)))) s) : wpAny (model prog w) A (compareOp .In (.ref z) (.ref t)) Q E s := by
  refine SeqAt.in_tupleAt (items := #[.ref c1, .ref c2]) (fun v => if v = .ref c1 then decide ((x, y) = (a, b)) else decide ((x', y') = (a, b))) ⟨_, (N _ ht).1, rfl, 0, rfl⟩ (fun v hv => ?_) ?_
  · split
    · next e => subst e; exact eq_two N hz h1 hu
    · next e =>
      have : v = .ref c2 := by
        have := List.mem_toArray.mp hv
        simp only [List.mem_cons, List.not_mem_nil, or_false] at this
        exact this.resolve_left e
      subst this
      exact eq_two N hz h2 hu
  · have e : (#[Value.ref c1, Value.ref c2] : Array Value).any (fun v => if v = .ref c1 then decide ((x, y) = (a, b)) else decide ((x', y') = (a, b))) = (decide ((x, y) = (a, b)) || decide ((x', y') = (a, b))) := by
      show (#[Value.ref c1, Value.ref c2] : Array Value).any _ = _
      by_cases hc : c2 = c1
      · subst hc
        have : some (tupO [.int x t1, .int y t2]) = some (tupO [.int x' t3, .int y' t4]) := (N _ h1).1.symm.trans (N _ h2).1
        have hx : x = x' ∧ y = y' := by
          have := Option.some.inj this
          simp only [tupO, Obj.mk.injEq, Data.seq.injEq] at this
          simp at this
          exact ⟨this.1.1, this.2.1⟩
        obtain ⟨rfl, rfl⟩ := hx
        simp
      · have hc' : ¬ (Value.ref c2 = Value.ref c1) := fun q => hc (by injection q)
        simp [hc']
    rw [e]
    exact h
end
end Mine
end

-- Use1
section
open PySem PySem.W PyProof.Rows PySem.Spec PySem.Calls PyProof.Rows.LCg
set_option maxRecDepth 100000
set_option maxHeartbeats 4000000
namespace Mine
theorem lslope_in {a b : Int × Int} {p s : Int} (h0 : 0 < p) (h : lslope a b p = some s) : 0 ≤ s ∧ s < p := by
  unfold lslope at h
  split at h
  · cases h
  · split at h
    · cases h; exact ⟨Int.fmod_nonneg_of_pos _ h0, Int.fmod_lt_of_pos _ h0⟩
    · cases h; exact ⟨Int.fmod_nonneg_of_pos _ h0, Int.fmod_lt_of_pos _ h0⟩
theorem lsum_in {a b : Int × Int} {p s : Int} (h0 : 0 < p) : InP p (lsum a b s p) := ⟨⟨Int.fmod_nonneg_of_pos _ h0, Int.fmod_lt_of_pos _ h0⟩, ⟨Int.fmod_nonneg_of_pos _ h0, Int.fmod_lt_of_pos _ h0⟩⟩
section
variable {w : World} {e e' : El} {p : Int} {v v' : Int × Int} {led news : List (Addr × Obj)} {ps : Array Value} {pg : Program} {lo : List Str} {mean : ExcName → Option Value} {mg mb : Str → Option Value} {dp un : Nat} {gd : Option (List Code)} {cn : Str} {cs : Scope} {a : Addr} {ccd : Value} {cl : List (Str × Addr)} {outer : List Env} {A₀ : Around} {base h₀ : Heap} {L : Addr} {m : Str → Option Value} {s : Shared} {Q E : Value → Shared → Prop}
theorem zMul (D : Drop 100 led news) (ht : (100, tabObj ps) ∈ led) (h1 : ∀ q ∈ e.led w p v, q ∈ news) (h2 : ∀ q ∈ e'.led w p v', q ∈ news) (p0 : 2 < p) (p1 : p ≤ 1000) (b1 : InP p v) (b2 : InP p v')
    (B : Below A₀ base outer h₀) (F : Fr h₀ L s.heap m) (X : (hd.heap_39 w.params).In h₀) (N : News h₀ L s.heap led) (T : Top pg lo mean mg mb h₀) (hk : cs.kind = .function) (hb : AllBare s.gens) (htr : TriplesOk ps.toList)
    (hd : dp + 8 < recursionLimit) (hu : un + 8 * 8 < cLine)
    (k : ∀ (r : El) (z : Int × Int) (ps' : Array Value) (h' : Heap) (g' : Array GenState) (tk' : Nat), z = mulF p v v' → InP p z → TriplesOk ps'.toList → AllBare g' → Fr h₀ L h' m → News h₀ L h' (r.led w p z ++ (100, tabObj ps') :: news) → Q (.ref r.x) { s with heap := h', gens := g', toks := tk' }) :
    wpAny (model PySem.Challenge.rw_bb0064_01.row.prog w) (ktrTop dp un gd cn cs L a ccd cl outer) (call (.ref 132) [.ref e.x, .ref e'.x]) (PySem.W.CmpBack Q) E s :=
  useMul D ht h1 h2 p0 p1 b1 b2 B F X N T hk hb htr hd hu fun r ps' h' g' tk' a1 a2 a3 a4 => k r _ ps' h' g' tk' rfl (mulF_in (by omega)) a1 a2 a3 a4
theorem zPow {n : Int} {tn : Tok} (D : Drop 100 led news) (ht : (100, tabObj ps) ∈ led) (h1 : ∀ q ∈ e.led w p v, q ∈ news) (p0 : 2 < p) (p1 : p ≤ 1000) (b1 : InP p v) (n0 : 0 ≤ n) (n1 : n < 1024)
    (B : Below A₀ base outer h₀) (F : Fr h₀ L s.heap m) (X : (hd.heap_39 w.params).In h₀) (N : News h₀ L s.heap led) (T : Top pg lo mean mg mb h₀) (hk : cs.kind = .function) (hb : AllBare s.gens) (htr : TriplesOk ps.toList)
    (hd : dp + 10 < recursionLimit) (hu : un + 8 * 10 < cLine)
    (k : ∀ (r : El) (z : Int × Int) (ps' : Array Value) (h' : Heap) (g' : Array GenState) (tk' : Nat), z = fpow p v n.toNat → TriplesOk ps'.toList → AllBare g' → Fr h₀ L h' m → News h₀ L h' (r.led w p z ++ (100, tabObj ps') :: news) → Q (.ref r.x) { s with heap := h', gens := g', toks := tk' }) :
    wpAny (model PySem.Challenge.rw_bb0064_01.row.prog w) (ktrTop dp un gd cn cs L a ccd cl outer) (call (.ref 151) [.ref e.x, .int n tn]) (PySem.W.CmpBack Q) E s := by
  refine useT D ht (pow_spec h1 p0 p1 b1 n0 n1) B F X N T hk hb htr hd hu ?_
  rintro r tl ps9 h9 g9 tk9 ⟨e, rfl, rfl⟩ htr9 hb9 F9 N9
  exact k e _ ps9 h9 g9 tk9 rfl htr9 hb9 F9 N9
theorem zFq2 {l q : Addr} {a0 a1 : Int} {t1 t2 u1 u2 t3 : Tok} {c : Nat} (D : Drop 100 led news) (ht : (100, tabObj ps) ∈ led) (ho : (l, lstN [.int a0 t1, .int a1 t2] c) ∈ news) (hq : (q, tupO [.int 1 u1, .int 0 u2]) ∈ news) (p0 : 2 < p) (p1 : p ≤ 1000)
    (B : Below A₀ base outer h₀) (F : Fr h₀ L s.heap m) (X : (hd.heap_39 w.params).In h₀) (N : News h₀ L s.heap led) (T : Top pg lo mean mg mb h₀) (hk : cs.kind = .function) (hb : AllBare s.gens) (htr : TriplesOk ps.toList)
    (hd : dp + 4 < recursionLimit) (hu : un + 8 * 4 < cLine)
    (k : ∀ (r : El) (z : Int × Int) (ps' : Array Value) (h' : Heap) (g' : Array GenState) (tk' : Nat), z = (a0.fmod p, a1.fmod p) → InP p z → TriplesOk ps'.toList → AllBare g' → Fr h₀ L h' m → News h₀ L h' (r.led w p z ++ (100, tabObj ps') :: news) → Q (.ref r.x) { s with heap := h', gens := g', toks := tk' }) :
    wpAny (model PySem.Challenge.rw_bb0064_01.row.prog w) (ktrTop dp un gd cn cs L a ccd cl outer) (call (.ref 241) [.ref l, .ref q, .int p t3]) Q E s := by
  refine useT D ht (fq2_spec ho hq p0 p1) B F X N T hk hb htr hd hu ?_
  rintro r tl ps9 h9 g9 tk9 ⟨e, rfl, rfl⟩ htr9 hb9 F9 N9
  exact k e _ ps9 h9 g9 tk9 rfl ⟨⟨Int.fmod_nonneg_of_pos _ (by omega), Int.fmod_lt_of_pos _ (by omega)⟩, ⟨Int.fmod_nonneg_of_pos _ (by omega), Int.fmod_lt_of_pos _ (by omega)⟩⟩ htr9 hb9 F9 N9
theorem zSlope {o q : Addr} {one two : Int × Int} {t1 t2 t1' t2' t3 : Tok} (ho : (o, tupO [.int one.1 t1, .int one.2 t2]) ∈ led) (hq : (q, tupO [.int two.1 t1', .int two.2 t2']) ∈ led) (p0 : 2 < p) (p1 : p ≤ 1000) (i1 : InP p one) (i2 : InP p two)
    (B : Below A₀ base outer h₀) (F : Fr h₀ L s.heap m) (X : (hd.heap_39 w.params).In h₀) (N : News h₀ L s.heap led) (T : Top pg lo mean mg mb h₀) (hk : cs.kind = .function) (hb : AllBare s.gens)
    (hd : dp + 1 < recursionLimit) (hu : un + 8 * 1 < cLine)
    (kn : lslope one two p = none → ∀ (h' : Heap) (g' : Array GenState) (tk' : Nat), AllBare g' → Fr h₀ L h' m → News h₀ L h' led → Q .none { s with heap := h', gens := g', toks := tk' })
    (ks : ∀ (i : Int) (t : Tok) (h' : Heap) (g' : Array GenState) (tk' : Nat), lslope one two p = some i → 0 ≤ i ∧ i < p → AllBare g' → Fr h₀ L h' m → News h₀ L h' led → Q (.int i t) { s with heap := h', gens := g', toks := tk' }) :
    wpAny (model PySem.Challenge.rw_bb0064_01.row.prog w) (ktrTop dp un gd cn cs L a ccd cl outer) (call (.ref 259) [.ref o, .ref q, .int p t3]) Q E s := by
  refine lslope_spec ho hq p0 p1 i1.1 i1.2 i2.1 i2.2 pg lo mean mg mb dp un gd cn cs a ccd cl outer A₀ base h₀ L m s Q E ⟨B, F, X, N, T, hk, hb⟩ hd hu ?_
  rintro r tl h' g' tk' ⟨rfl, hr⟩ hb' F' N'
  cases hs : lslope one two p with
  | none =>
    rw [show lslope (one.1, one.2) (two.1, two.2) p = none from hs] at hr
    subst hr
    exact kn hs h' g' tk' hb' F' N'
  | some i =>
    rw [show lslope (one.1, one.2) (two.1, two.2) p = some i from hs] at hr
    obtain ⟨t, rfl⟩ := hr
    exact ks i t h' g' tk' hs (lslope_in (by omega) hs) hb' F' N'
theorem zSum {o q : Addr} {one two : Int × Int} {sl : Int} {t1 t2 t1' t2' t3 t4 : Tok} (ho : (o, tupO [.int one.1 t1, .int one.2 t2]) ∈ led) (hq : (q, tupO [.int two.1 t1', .int two.2 t2']) ∈ led) (p0 : 2 < p) (p1 : p ≤ 1000) (i1 : InP p one) (hs : 0 ≤ sl ∧ sl < p)
    (B : Below A₀ base outer h₀) (F : Fr h₀ L s.heap m) (X : (hd.heap_39 w.params).In h₀) (N : News h₀ L s.heap led) (T : Top pg lo mean mg mb h₀) (hk : cs.kind = .function) (hb : AllBare s.gens)
    (hd : dp + 1 < recursionLimit) (hu : un + 8 * 1 < cLine)
    (k : ∀ (D : Addr) (z : Int × Int) (t t' : Tok) (h' : Heap) (g' : Array GenState) (tk' : Nat), z = lsum one two sl p → InP p z → AllBare g' → Fr h₀ L h' m → News h₀ L h' ((D, tupO [.int z.1 t, .int z.2 t']) :: led) → Q (.ref D) { s with heap := h', gens := g', toks := tk' }) :
    wpAny (model PySem.Challenge.rw_bb0064_01.row.prog w) (ktrTop dp un gd cn cs L a ccd cl outer) (call (.ref 266) [.ref o, .ref q, .int sl t4, .int p t3]) Q E s := by
  refine use2 (lsum_spec ho hq (by omega) p1 i1.1 hs) B F X N T hk hb hd hu ?_
  intro D t t' h' g' tk' hb' F' N'
  exact k D (lsum one two sl p) t t' h' g' tk' rfl (lsum_in (by omega)) hb' F' N'
end

def REnd {σ : Type} (h₀ : Heap) (L I : Addr) (s : Shared) (Led : σ → List (Addr × Obj)) (ps : σ → List (Str × Value)) (P : Nat → σ → Prop) (Q : Flow → Shared → Prop) (j : Nat) (f : Flow) (s₃ : Shared) : Prop :=
  match f with
  | .ret v => Q (.ret v) s₃
  | .brk => Q .next s₃
  | _ => ∃ (c : σ) (h' : Heap) (g' : Array GenState) (tk : Nat) (m' : Str → Option Value) (nw : List (Addr × Obj)), s₃ = { s with heap := h', gens := g', toks := tk } ∧ AllBare g' ∧ Fr h₀ L h' m' ∧ News h₀ L h' nw ∧ (I, ritO ((j : Int) + -1) ((j : Int) + 1 - 1) (-1)) ∈ nw ∧ (∀ p ∈ Led c, p ∈ nw) ∧ (∀ p ∈ ps c, m' p.1 = some p.2) ∧ P j c

section
variable {prog : Program} {w : World} {A : Around} {E : Value → Shared → Prop} {Q : Flow → Shared → Prop} {s : Shared} {env : Env} {h₀ : Heap} {L I : Addr}
theorem rend {σ : Type} {Led : σ → List (Addr × Obj)} {ps : σ → List (Str × Value)} {P : Nat → σ → Prop} {j : Nat} {h' : Heap} {g' : Array GenState} {tk : Nat} {m' : Str → Option Value} {nw : List (Addr × Obj)} (c : σ)
    (hb : AllBare g') (F : Fr h₀ L h' m') (N : News h₀ L h' nw) (hI : (I, ritO ((j : Int) + -1) ((j : Int) + 1 - 1) (-1)) ∈ nw) (hn : ∀ p ∈ Led c, p ∈ nw) (hk : ∀ p ∈ ps c, m' p.1 = some p.2) (hp : P j c) :
    Stand (REnd h₀ L I s Led ps P Q j .next { s with heap := h', gens := g', toks := tk }) :=
  ⟨c, h', g', tk, m', nw, rfl, hb, F, N, hI, hn, hk, hp⟩

theorem range_by {σ : Type} {x : Str} {px : Pos} {body : List Stmt} (Led : σ → List (Addr × Obj)) (ps : σ → List (Str × Value)) (P : Nat → σ → Prop)
    (hI : ∀ c h a b, News h₀ L h ((I, ritO a b (-1)) :: Led c) → ∀ p ∈ Led c, p.1 ≠ I) (hh : A.handled = none) (hE : PassesOwn (model prog w) A env E)
    (turn : ∀ (j : Nat) (c : σ) (u : Str → Option Value) (h : Heap) (g : Array GenState) (tk : Nat), P (j + 1) c → Fr h₀ L h (ov (ps c) u) → News h₀ L h ((I, ritO ((j : Int) + -1) ((j : Int) + 1 - 1) (-1)) :: Led c) → AllBare g →
      wpAny (model prog w) A (assign (.Name x px) env (.int j tk)) (fun _ s₃ => wpAny (model prog w) A (execs body env) (fun f s₄ => Stand (REnd h₀ L I s Led ps P Q j f s₄)) E s₃) E { s with heap := h, gens := g, toks := tk + 1 })
    (out : ∀ (c : σ) (u : Str → Option Value) (h : Heap) (g : Array GenState) (tk : Nat), P 0 c → Fr h₀ L h (ov (ps c) u) → News h₀ L h (Led c) → AllBare g → Q .next { s with heap := h, gens := g, toks := tk }) :
    ∀ (N : Nat) (c : σ) (m' : Str → Option Value) (h : Heap) (g : Array GenState) (tk : Nat) (nw : List (Addr × Obj)), P N c → Fr h₀ L h m' → News h₀ L h nw → (I, ritO ((N : Int) - 1) (N : Int) (-1)) ∈ nw → (∀ p ∈ Led c, p ∈ nw) → (∀ p ∈ ps c, m' p.1 = some p.2) → AllBare g →
      ForIt prog w A (.Name x px) body env Q E (.ref I) { s with heap := h, gens := g, toks := tk } := by
  intro N
  induction N with
  | zero =>
    intro c m' h g tk nw hp F N hm hn hk hb
    have N1 : News h₀ L h ((I, ritO (((0 : Nat) : Int) - 1) ((0 : Nat) : Int) (-1)) :: Led c) := fun p hp => by
      rcases List.mem_cons.mp hp with rfl | hp
      · exact N _ hm
      · exact N _ (hn p hp)
    refine ForIt.step ?_ hE
    refine nx_range_end (n1 := Led c) hh F N1 (.head _) (by decide) (.hit (.rest (hI c h _ _ N1))) fun h' F' N' => ?_
    exact out c m' h' g tk hp ((ov_self _ _ hk).symm ▸ F') N' hb
  | succ j ih =>
    intro c m' h g tk nw hp F N hm hn hk hb
    have e0 : (((j + 1 : Nat) : Int) - 1) = (j : Int) := by omega
    rw [e0] at hm
    have N1 : News h₀ L h ((I, ritO (j : Int) ((j + 1 : Nat) : Int) (-1)) :: Led c) := fun p hp => by
      rcases List.mem_cons.mp hp with rfl | hp
      · exact N _ hm
      · exact N _ (hn p hp)
    refine ForIt.step ?_ hE
    refine nx_range (n1 := (I, ritO ((j : Int) + -1) ((j : Int) + 1 - 1) (-1)) :: Led c) F N1 (.head _) (by omega) (.head (hI c h _ _ N1)) fun h' F' N' => ?_
    refine lg_name ?_
    refine wpAny_mono (turn j c m' h' g tk hp ((ov_self _ _ hk).symm ▸ F') N' hb) (fun _ s₃ h₃ => ?_) fun _ _ e => e
    refine wpAny_mono h₃ (fun f s₄ h₄ => ?_) fun _ _ e => e
    have next : ∀ s₄, REnd h₀ L I s Led ps P Q j .next s₄ → ForIt prog w A (.Name x px) body env Q E (.ref I) s₄ := by
      rintro s₄ ⟨c', h2, g2, tk2, m2, nw2, rfl, hb2, F2, N2, hI2, hn2, hk2, hp2⟩
      have e1 : (j : Int) + -1 = (j : Int) - 1 := by omega
      have e2 : (j : Int) + 1 - 1 = (j : Int) := by omega
      rw [e1, e2] at hI2
      exact ih c' m2 h2 g2 tk2 nw2 hp2 F2 N2 hI2 hn2 hk2 hb2
    cases f with
    | next => exact next s₄ h₄
    | cont => exact next s₄ h₄
    | brk => exact h₄
    | ret v => exact h₄
end
end Mine
end

-- Pair1
section
open PySem PySem.W PyProof.Rows PySem.Spec PySem.Calls PyProof.Rows.LCg
set_option maxRecDepth 100000
set_option maxHeartbeats 4000000
namespace Mine
local macro_rules | `(tactic| k_mem) => `(tactic| (refine memOf ?_; ktr_member))
local macro_rules | `(tactic| k_units) => `(tactic| ktr_units)
def lineF (p s : Int) (two here : Int × Int) : Int × Int := ((s * (two.1 + here.1) - here.2).fmod p, two.2.fmod p)
def pairGo (p n : Int) (one two : Int × Int) : Nat → Int × Int → Int × Int → Option (Int × Int)
  | 0, v, _ => some v
  | k + 1, v, h => match lslope h h p with
    | none => none
    | some s =>
      if (n.fdiv (2 ^ k)).fmod 2 = 1 then match lslope (lsum h h s p) one p with
        | none => pairGo p n one two k (mulF p (mulF p v v) (lineF p s two h)) (lsum h h s p)
        | some t => pairGo p n one two k (mulF p (mulF p (mulF p v v) (lineF p s two h)) (lineF p t two (lsum h h s p))) (lsum (lsum h h s p) one t p)
      else pairGo p n one two k (mulF p (mulF p v v) (lineF p s two h)) (lsum h h s p)
def pairing (p n : Int) (k : Nat) (one two : Int × Int) : Option (Int × Int) :=
  if one = (0, 0) ∨ two = (0, 0) then some (1, 0) else (pairGo p n one two k (1, 0) one).map fun v => fpow p v ((p * p - 1).fdiv n).toNat
theorem down_size {a : Int} {k : Nat} (h : a = (k : Int) - 1) : (Builtin.Range.rangeSize a (-1) (-1) : Int) = k := by
  rw [rangeSize_down]; split <;> omega
theorem down_small {a : Int} {k : Nat} (h : a = (k : Int) - 1) (hk : k ≤ 100) : Builtin.Range.small a (-1) (-1) = true := small_down (by omega) (by omega) (by omega) (by omega)
theorem offO {h₀ h : Heap} {L a I : Addr} {o oI : Obj} {led : List (Addr × Obj)} (N : News h₀ L h led) (ht : (I, oI) ∈ led) (hm : (a, o) ∈ led) (ho : o.cls ≠ oI.cls) : a ≠ I := by
  rintro rfl
  have e : some oI = some o := (N _ ht).1.symm.trans (N _ hm).1
  exact ho (by rw [← Option.some.inj e])
local macro_rules | `(tactic| walk_at "call type:range") => `(tactic| (k_here; k_dflt (refine' mk_range ?F ?N ?hc ?hp ?_; (case F => k_asm); (case N => k_asm); (case hc => decide); (case hp => exact PyProof.noPylong_small (by decide)); k_whole); intro r h' l1 F' N'; (try simp only [AllLt, and_true] at l1); refine stand ?_))
local macro_rules | `(tactic| walk_at "call ref") => `(tactic| (k_here; refine stand ?_))
local macro_rules | `(tactic| walk_at "exec For Name Call cons nil") => `(tactic| (k_here; refine stand ?_))
local macro_rules | `(tactic| walk_at "compareOp In ref ref") => `(tactic| (k_here; refine stand ?_))
local macro_rules | `(tactic| ktn_open) => `(tactic| ((case k4 => k_asm); (case k1 => k_asm); (case k2 => k_asm); (case k3 => k_asm); (case k5 => k_asm); (case kK => exact rfl); (case kb => assumption); (case kd => ktr_room); (case ku => ktr_units)))
local macro_rules | `(tactic| ktd_sub) => `(tactic| (refine' El.sub ?e1 ?e2 ?e3 ?e4 ?e5 ?e6; (case e1 => k_mem); (case e2 => k_mem); (case e3 => k_mem); (case e4 => k_mem); (case e5 => k_mem); (case e6 => k_mem)))
local macro_rules | `(tactic| tb_rel) => `(tactic| first | (refine' Drop.hit ?b; (case b => tb_rel)) | (refine' Drop.keep ?a ?b; (case a => first | (refine offOf ?_; assumption) | k_ne); (case b => tb_rel)) | exact Drop.rest (by assumption) | exact Drop.nil)
local macro_rules | `(tactic| tb_start) => `(tactic| omega)
local macro_rules | `(tactic| mul_fits) => `(tactic| first | exact okL (by tb_start) | exact okR (by tb_start))
local macro_rules | `(tactic| walk_at "binaryOp Pow int int") => `(tactic| (k_here; with_reducible refine pow_int_small (by omega) (by omega) (by decide) ?_))
theorem pairing_spec {w : World} {o q : Addr} {one two r : Int × Int} {p n : Int} {k : Nat} {t1 t2 t1' t2' tn t3 : Tok} {news : List (Addr × Obj)} (ho : (o, tupO [.int one.1 t1, .int one.2 t2]) ∈ news) (hq : (q, tupO [.int two.1 t1', .int two.2 t2']) ∈ news)
    (p0 : 2 < p) (p1 : p ≤ 1000) (i1 : InP p one) (i2 : InP p two) (hr : pairing p n k one two = some r) (hbits : Builtin.Int.intBits n = k + 1) (hk9 : k ≤ 10) (n0 : 2 ≤ n) (n9 : n ≤ 100) (pe : (p * p - 1).fdiv n < 1024) :
    SpecT w 273 20 [.ref o, .ref q, .int n tn, .int p t3] news (RE w p r) := by
  unfold SpecT
  intro ps pg lo mean mg mb dp un gd cn cs a ccd cl outer A₀ base h₀ L m s Q E S htr hgt hd hu hret
  obtain ⟨B, F, X, N, T, hk, hb⟩ := S
  revert X
  k_fill
  intro X
  refine wpAny_call ?_
  k_dflt ktr_enter
  k_steps
  unfold Stand
  k_dflt (refine' zFq2 (a0 := 1) (a1 := 0) (c := 0) ?kD ?kt ?ho ?hq p0 p1 ?k1 ?k2 ?k3 ?k4 ?k5 ?kK ?kb ?kr ?kd ?ku ?_; ktn_open; (case kt => k_mem); (case kD => tb_rel); (case kr => assumption); (case ho => k_mem); (case hq => k_mem); k_whole)
  intro r0 z0 ps1 h1 g1 tk1 e0 iz0 htr1 hb1 F1 N1
  obtain ⟨oo1, oo2, oo3, oo4, oo5, oo6⟩ := El.off N1 (fun q h => List.mem_append_left _ h) (List.mem_append_right _ (.head _))
  simp only [El.led, List.cons_append, List.nil_append] at N1
  try dsimp only
  k_steps
  unfold Stand
  have e1 : Int.fmod 1 p = 1 := Int.fmod_eq_of_lt (by omega) (by omega)
  have e2 : Int.fmod 0 p = 0 := Int.zero_fmod p
  rw [e1, e2] at e0
  k_dflt (refine' in_two ?k4 ?mt ?mz ?c1 ?c2 ?hu ?_; (case k4 => k_asm); (case mt => k_mem); (case mz => k_mem); (case c1 => k_mem); (case c2 => k_mem); (case hu => ktr_units); k_whole)
  k_steps
  · rename (decide _ || decide _) = true => hb0
    have hr1 : r = (1, 0) := by
      unfold pairing at hr
      rw [if_pos (((Bool.or_eq_true _ _).mp hb0).imp (fun h => of_decide_eq_true h) (fun h => of_decide_eq_true h))] at hr
      exact (Option.some.inj hr).symm
    refine back_re hret (by assumption) (by assumption) (by assumption) htr1 (fun q hq => ?_) (v' := z0) (hr1.trans e0.symm)
    simp only [El.led, List.cons_append, List.nil_append, List.mem_cons] at hq ⊢
    rcases hq with hq | hq | hq | hq | hq | hq | hq | hq <;> simp only [hq, true_or, or_true]
  · unfold Stand
    rename (decide _ || decide _) = false => hb0
    have hr2 : (pairGo p n one two k (1, 0) one).map (fun v => fpow p v ((p * p - 1).fdiv n).toNat) = some r := by
      unfold pairing at hr
      rw [if_neg (fun h => by rcases h with h | h <;> (rw [h] at hb0; simp at hb0))] at hr
      exact hr
    refine for_it ?_ (by intro _; rfl)
    k_steps
    unfold Stand
    rename News _ _ _ _ => N2
    k_dflt (refine' it_range (k := k) ?F ?N ?hr ?hs ?hk ?_; (case F => k_asm); (case N => k_asm); (case hr => k_mem); (case hs => exact down_small (k := k) (by omega) (by omega)); (case hk => exact down_size (by omega)); k_whole)
    clear N2
    intro I h' l1 F2 N2
    rename 100 < _ ∧ _ => hI0
    obtain ⟨R, hR, hRr⟩ := Option.map_eq_some_iff.mp hr2
    have lI : ∀ x ∈ news, x.1 ≠ I := by
      intro x hx
      exact Nat.ne_of_lt (ltOf (o := x.2) l1 (by simp only [List.mem_cons, hx, or_true]))
    have h100 : @Ne Nat 100 I := Nat.ne_of_lt (ltOf (o := tabObj ps1) l1 (by simp only [List.mem_cons, true_or, or_true]))
    have ea : (Builtin.Int.intBits n : Int) - 2 = (k : Int) - 1 := by rw [hbits]; omega
    refine range_by (s := s) (I := I) (σ := (El × Array Value) × (Addr × Tok × Tok) × (Int × Int) × (Int × Int)) (fun c => c.1.1.led w p c.2.2.1 ++ (c.2.1.1, tupO [.int c.2.2.2.1 c.2.1.2.1, .int c.2.2.2.2 c.2.1.2.2]) :: (100, tabObj c.1.2) :: news)
      (fun c => [(Str.ofString "value", .ref c.1.1.x), (Str.ofString "here", .ref c.2.1.1), (Str.ofString "one", .ref o), (Str.ofString "two", .ref q), (Str.ofString "n", .int n tn), (Str.ofString "p", .int p t3)])
      (fun j c => InP p c.2.2.1 ∧ InP p c.2.2.2 ∧ TriplesOk c.1.2.toList ∧ pairGo p n one two j c.2.2.1 c.2.2.2 = some R ∧ j ≤ 10) ?hI rfl (by passes_own) ?turn ?out k ((r0, ps1), (o, t1, t2), z0, one) _ _ _ _ _ ?hp F2 N2 ?hm ?hn (by kst_all) hb1
    case hI =>
      intro c h a b N x hx
      rcases List.mem_append.mp hx with h1 | h1
      · refine offO N (.head _) (.tail _ hx) ?_
        simp only [El.led, List.mem_cons, List.not_mem_nil, or_false] at h1
        rcases h1 with rfl | rfl | rfl | rfl | rfl | rfl <;> (intro q; first | (simp at q; done) | cases q)
      · rcases List.mem_cons.mp h1 with rfl | h1
        · exact offO N (.head _) (.tail _ hx) (by intro q; first | (simp at q; done) | cases q)
        · rcases List.mem_cons.mp h1 with rfl | h1
          · exact h100
          · exact lI x h1
    case hp => exact ⟨iz0, i1, htr1, by rw [e0]; exact hR, hk9⟩
    case hm =>
      rw [← ea]
      exact .head _
    case hn =>
      intro x hx
      rcases List.mem_append.mp hx with h1 | h1
      · simp only [El.led, List.mem_cons, List.not_mem_nil, or_false] at h1 ⊢
        rcases h1 with h1 | h1 | h1 | h1 | h1 | h1 <;> simp only [h1, true_or, or_true]
      · rcases List.mem_cons.mp h1 with rfl | h1
        · simp only [List.mem_cons, ho, or_true]
        · rcases List.mem_cons.mp h1 with h1 | h1 <;> simp only [List.mem_cons, h1, true_or, or_true]
    case turn =>
      clear F2 N2
      rintro j ⟨⟨e, ps8⟩, ⟨ha, ta, tb⟩, v, hxy⟩ uu hh gg tkk ⟨q1, q2, q3, q4, q5⟩ F3 N3 hb3
      dsimp only [ov] at q1 q2 q3 q4 q5 F3 N3 ⊢
      obtain ⟨ee1, ee2, ee3, ee4, ee5, ee6⟩ := El.off N3 (fun q h => .tail _ (List.mem_append_left _ h)) (.tail _ (List.mem_append_right _ (.tail _ (.head _))))
      have oha : Off100 ha := off100 N3 (.tail _ (List.mem_append_right _ (.tail _ (.head _)))) (.tail _ (List.mem_append_right _ (.head _))) (fun q => nomatch q)
      have oI : Off100 I := Ne.symm h100
      simp only [El.led, List.cons_append, List.nil_append] at N3
      rw [pairGo] at q4
      k_steps
      unfold Stand
      k_dflt (refine' zSlope (one := hxy) (two := hxy) ?ho ?hq p0 p1 q2 q2 ?k1 ?k2 ?k3 ?k4 ?k5 ?kK ?kb ?kd ?ku ?kn ?ks; ktn_open; (case ho => k_mem); (case hq => k_mem); k_whole)
      · intro hs
        rw [hs] at q4
        cases q4
      intro sl tsl h1 g1 tk1 hs bsl hb1 F4 N4
      rw [hs] at q4
      dsimp only at q4
      try dsimp only
      k_steps
      unfold Stand
      k_dflt (refine' zMul (v := v) (v' := v) ?kD ?kt ?h1 ?h2 p0 p1 ?b1 ?b2 ?k1 ?k2 ?k3 ?k4 ?k5 ?kK ?kb ?kr ?kd ?ku ?_; ktn_open; (case kt => k_mem); (case kD => tb_rel); (case kr => assumption); (case h1 => ktd_sub); (case h2 => ktd_sub); (case b1 => assumption); (case b2 => assumption); k_whole)
      intro r2 z2 ps2 h2 g2 tk2 e2 iz2 htr2 hb2 F2 N2
      obtain ⟨o21, o22, o23, o24, o25, o26⟩ := El.off N2 (fun q h => List.mem_append_left _ h) (List.mem_append_right _ (.head _))
      simp only [El.led, List.cons_append, List.nil_append] at N2
      try dsimp only
      k_steps
      unfold Stand
      k_dflt (refine' zFq2 (a0 := sl * (two.1 + hxy.1) - hxy.2) (a1 := two.2) (c := 0) ?kD ?kt ?ho ?hq p0 p1 ?k1 ?k2 ?k3 ?k4 ?k5 ?kK ?kb ?kr ?kd ?ku ?_; ktn_open; (case kt => k_mem); (case kD => tb_rel); (case kr => assumption); (case ho => k_mem); (case hq => k_mem); k_whole)
      intro r3 z3 ps3 h3 g3 tk3 e3 iz3 htr3 hb3 F3 N3
      obtain ⟨o31, o32, o33, o34, o35, o36⟩ := El.off N3 (fun q h => List.mem_append_left _ h) (List.mem_append_right _ (.head _))
      simp only [El.led, List.cons_append, List.nil_append] at N3
      try dsimp only
      k_steps
      unfold Stand
      k_dflt (refine' zMul (v := z2) (v' := z3) ?kD ?kt ?h1 ?h2 p0 p1 ?b1 ?b2 ?k1 ?k2 ?k3 ?k4 ?k5 ?kK ?kb ?kr ?kd ?ku ?_; ktn_open; (case kt => k_mem); (case kD => tb_rel); (case kr => assumption); (case h1 => ktd_sub); (case h2 => ktd_sub); (case b1 => assumption); (case b2 => assumption); k_whole)
      intro r4 z4 ps4 h4 g4 tk4 e4 iz4 htr4 hb4 F4 N4
      obtain ⟨o41, o42, o43, o44, o45, o46⟩ := El.off N4 (fun q h => List.mem_append_left _ h) (List.mem_append_right _ (.head _))
      simp only [El.led, List.cons_append, List.nil_append] at N4
      try dsimp only
      k_steps
      unfold Stand
      k_dflt (refine' zSum (one := hxy) (two := hxy) ?ho ?hq p0 p1 q2 bsl ?k1 ?k2 ?k3 ?k4 ?k5 ?kK ?kb ?kd ?ku ?_; ktn_open; (case ho => k_mem); (case hq => k_mem); k_whole)
      intro D5 y5 ty5 ty5' h5 g5 tk5 e5 iy5 hb5 F5 N5
      have oD5 : Off100 D5 := off100 N5 (by k_mem) (.head _) (fun q => nomatch q)
      try dsimp only
      k_steps
      · rw [if_pos (by assumption), ← e5] at q4
        unfold Stand
        k_dflt (refine' zSlope (one := y5) (two := one) ?ho ?hq p0 p1 iy5 i1 ?k1 ?k2 ?k3 ?k4 ?k5 ?kK ?kb ?kd ?ku ?kn2 ?ks2; ktn_open; (case ho => k_mem); (case hq => k_mem); k_whole)
        · intro hs2 h9 g9 tk9 hb9 F9 N9
          rw [hs2] at q4
          dsimp only at q4
          try dsimp only
          k_steps
          refine rend ⟨(r4, ps4), (D5, ty5, ty5'), z4, y5⟩ hb9 (by assumption) (by assumption) (by k_mem) ?_ (by kst_all) ⟨iz4, iy5, htr4, by rw [e4, e2, e3]; exact q4, by omega⟩
          intro x hx
          simp only [El.led, List.cons_append, List.nil_append, List.mem_cons] at hx ⊢
          rcases hx with hx | hx | hx | hx | hx | hx | hx | hx | hx <;> simp only [hx, true_or, or_true]
        · intro sl2 tsl2 h9 g9 tk9 hs2 bs2 hb9 F9 N9
          rw [hs2] at q4
          dsimp only at q4
          try dsimp only
          k_steps
          unfold Stand
          k_dflt (refine' zFq2 (a0 := sl2 * (two.1 + y5.1) - y5.2) (a1 := two.2) (c := 0) ?kD ?kt ?ho ?hq p0 p1 ?k1 ?k2 ?k3 ?k4 ?k5 ?kK ?kb ?kr ?kd ?ku ?_; ktn_open; (case kt => k_mem); (case kD => tb_rel); (case kr => assumption); (case ho => k_mem); (case hq => k_mem); k_whole)
          intro r6 z6 ps6 h6 g6 tk6 e6 iz6 htr6 hb6 F6 N6
          obtain ⟨o61, o62, o63, o64, o65, o66⟩ := El.off N6 (fun q h => List.mem_append_left _ h) (List.mem_append_right _ (.head _))
          simp only [El.led, List.cons_append, List.nil_append] at N6
          try dsimp only
          k_steps
          unfold Stand
          k_dflt (refine' zMul (v := z4) (v' := z6) ?kD ?kt ?h1 ?h2 p0 p1 ?b1 ?b2 ?k1 ?k2 ?k3 ?k4 ?k5 ?kK ?kb ?kr ?kd ?ku ?_; ktn_open; (case kt => k_mem); (case kD => tb_rel); (case kr => assumption); (case h1 => ktd_sub); (case h2 => ktd_sub); (case b1 => assumption); (case b2 => assumption); k_whole)
          intro r7 z7 ps7 h7 g7 tk7 e7 iz7 htr7 hb7 F7 N7
          obtain ⟨o71, o72, o73, o74, o75, o76⟩ := El.off N7 (fun q h => List.mem_append_left _ h) (List.mem_append_right _ (.head _))
          simp only [El.led, List.cons_append, List.nil_append] at N7
          try dsimp only
          k_steps
          unfold Stand
          k_dflt (refine' zSum (one := y5) (two := one) ?ho ?hq p0 p1 iy5 bs2 ?k1 ?k2 ?k3 ?k4 ?k5 ?kK ?kb ?kd ?ku ?_; ktn_open; (case ho => k_mem); (case hq => k_mem); k_whole)
          intro D8 y8 ty8 ty8' h8 g8 tk8 e8 iy8 hb8 F8 N8
          have oD8 : Off100 D8 := off100 N8 (by k_mem) (.head _) (fun q => nomatch q)
          try dsimp only
          k_steps
          refine rend ⟨(r7, ps7), (D8, ty8, ty8'), z7, y8⟩ hb8 (by assumption) (by assumption) (by k_mem) ?_ (by kst_all) ⟨iz7, iy8, htr7, by rw [e7, e6, e4, e3, e2, e8]; exact q4, by omega⟩
          intro x hx
          simp only [El.led, List.cons_append, List.nil_append, List.mem_cons] at hx ⊢
          rcases hx with hx | hx | hx | hx | hx | hx | hx | hx | hx <;> simp only [hx, true_or, or_true]
      · rw [if_neg (by assumption), ← e5] at q4
        refine rend ⟨(r4, ps4), (D5, ty5, ty5'), z4, y5⟩ hb5 (by assumption) (by assumption) (by k_mem) ?_ (by kst_all) ⟨iz4, iy5, htr4, by rw [e4, e2, e3]; exact q4, by omega⟩
        intro x hx
        simp only [El.led, List.cons_append, List.nil_append, List.mem_cons] at hx ⊢
        rcases hx with hx | hx | hx | hx | hx | hx | hx | hx | hx <;> simp only [hx, true_or, or_true]
    case out =>
      clear F2 N2
      rintro ⟨⟨e, ps8⟩, ⟨ha, ta, tb⟩, v, hxy⟩ uu hh gg tkk ⟨q1, q2, q3, q4, q5⟩ F3 N3 hb3
      dsimp only [ov] at q1 q2 q3 q4 q5 F3 N3 ⊢
      obtain ⟨ee1, ee2, ee3, ee4, ee5, ee6⟩ := El.off N3 (fun q h => List.mem_append_left _ h) (List.mem_append_right _ (.tail _ (.head _)))
      have oha : Off100 ha := off100 N3 (List.mem_append_right _ (.tail _ (.head _))) (List.mem_append_right _ (.head _)) (fun q => nomatch q)
      simp only [El.led, List.cons_append, List.nil_append] at N3
      rw [pairGo] at q4
      k_steps
      have pp : 0 ≤ (p * p - 1).fdiv n := Int.fdiv_nonneg (by have : 2 * 2 ≤ p * p := Int.mul_le_mul (by omega) (by omega) (by omega) (by omega); omega) (by omega)
      unfold Stand
      k_dflt (refine' zPow (v := v) ?kD ?kt ?h1 p0 p1 q1 pp pe ?k1 ?k2 ?k3 ?k4 ?k5 ?kK ?kb ?kr ?kd ?ku ?_; ktn_open; (case kt => k_mem); (case kD => tb_rel); (case kr => assumption); (case h1 => ktd_sub); k_whole)
      intro r2 z2 ps2 h2 g2 tk2 e2 htr2 hb2 F2 N2
      simp only [El.led, List.cons_append, List.nil_append] at N2
      try unfold PySem.W.CmpBack
      try dsimp only
      k_steps
      refine back_re hret (by assumption) (by assumption) (by assumption) htr2 (fun q hq => ?_) (v' := z2) ?_
      · simp only [El.led, List.cons_append, List.nil_append, List.mem_cons] at hq ⊢
        rcases hq with hq | hq | hq | hq | hq | hq | hq | hq <;> simp only [hq, true_or, or_true]
      · rw [← hRr, e2, Option.some.inj q4]
end Mine
end

-- Law1
section
open PySem PySem.W PyProof.Rows PySem.Spec PySem.Calls PyProof.Rows.LCg
set_option maxRecDepth 100000
set_option maxHeartbeats 4000000
namespace Mine
/-- what a statement left: the map's named values and the ledger's named part, with a word of them -/
def FEnd {σ : Type} (h₀ : Heap) (L : Addr) (s : Shared) (Led : σ → List (Addr × Obj)) (ps : σ → List (Str × Value)) (P : σ → Prop) (f : Flow) (s₃ : Shared) : Prop :=
  f = .next ∧ ∃ (c : σ) (h' : Heap) (g' : Array GenState) (tk : Nat) (m' : Str → Option Value) (nw : List (Addr × Obj)), s₃ = { s with heap := h', gens := g', toks := tk } ∧ AllBare g' ∧ Fr h₀ L h' m' ∧ News h₀ L h' nw ∧ (∀ p ∈ Led c, p ∈ nw) ∧ (∀ p ∈ ps c, m' p.1 = some p.2) ∧ P c
def TEnd {σ : Type} (h₀ : Heap) (L I t : Addr) (s : Shared) (Led : σ → List (Addr × Obj)) (ps : σ → List (Str × Value)) (P : Nat → σ → Prop) (Q : Flow → Shared → Prop) (j : Nat) (f : Flow) (s₃ : Shared) : Prop :=
  match f with
  | .ret v => Q (.ret v) s₃
  | .brk => Q .next s₃
  | _ => ∃ (c : σ) (h' : Heap) (g' : Array GenState) (tk : Nat) (m' : Str → Option Value) (nw : List (Addr × Obj)) (oI : Obj), s₃ = { s with heap := h', gens := g', toks := tk } ∧ AllBare g' ∧ Fr h₀ L h' m' ∧ News h₀ L h' nw ∧ oI.cls = .type "tuple_iterator" ∧ oI.data = .fields #[.ref t, .int ((j + 1 : Nat) : Int) 0] ∧ (I, oI) ∈ nw ∧ (∀ p ∈ Led c, p ∈ nw) ∧ (∀ p ∈ ps c, m' p.1 = some p.2) ∧ P (j + 1) c
section
variable {prog : Program} {w : World} {A : Around} {E : Value → Shared → Prop} {Q : Flow → Shared → Prop} {s : Shared} {env : Env} {h₀ : Heap} {L I t : Addr}
theorem funnel {σ : Type} {tree : Sem Flow} (Led : σ → List (Addr × Obj)) (ps : σ → List (Str × Value)) (P : σ → Prop)
    (h : wpAny (model prog w) A tree (fun f s₃ => Stand (FEnd h₀ L s Led ps P f s₃)) E s)
    (k : ∀ (c : σ) (u : Str → Option Value) (h : Heap) (g : Array GenState) (tk : Nat), P c → Fr h₀ L h (ov (ps c) u) → News h₀ L h (Led c) → AllBare g → Q .next { s with heap := h, gens := g, toks := tk }) :
    wpAny (model prog w) A tree Q E s := by
  refine wpAny_mono h (fun f s₃ h₃ => ?_) fun _ _ e => e
  obtain ⟨rfl, c, h', g', tk, m', nw, rfl, hb, F, N, hn, hk, hp⟩ := h₃
  exact k c m' h' g' tk hp ((ov_self _ _ hk).symm ▸ F) (fun p h => N p (hn p h)) hb
theorem fend {σ : Type} {Led : σ → List (Addr × Obj)} {ps : σ → List (Str × Value)} {P : σ → Prop} {h' : Heap} {g' : Array GenState} {tk : Nat} {m' : Str → Option Value} {nw : List (Addr × Obj)} (c : σ)
    (hb : AllBare g') (F : Fr h₀ L h' m') (N : News h₀ L h' nw) (hn : ∀ p ∈ Led c, p ∈ nw) (hk : ∀ p ∈ ps c, m' p.1 = some p.2) (hp : P c) :
    Stand (FEnd h₀ L s Led ps P .next { s with heap := h', gens := g', toks := tk }) :=
  ⟨rfl, c, h', g', tk, m', nw, rfl, hb, F, N, hn, hk, hp⟩
theorem tend {σ : Type} {Led : σ → List (Addr × Obj)} {ps : σ → List (Str × Value)} {P : Nat → σ → Prop} {j : Nat} {h' : Heap} {g' : Array GenState} {tk : Nat} {m' : Str → Option Value} {nw : List (Addr × Obj)} {oI : Obj} (c : σ)
    (hb : AllBare g') (F : Fr h₀ L h' m') (N : News h₀ L h' nw) (h1 : oI.cls = .type "tuple_iterator") (h2 : oI.data = .fields #[.ref t, .int ((j + 1 : Nat) : Int) 0]) (hI : (I, oI) ∈ nw) (hn : ∀ p ∈ Led c, p ∈ nw) (hk : ∀ p ∈ ps c, m' p.1 = some p.2) (hp : P (j + 1) c) :
    Stand (TEnd h₀ L I t s Led ps P Q j .next { s with heap := h', gens := g', toks := tk }) :=
  ⟨c, h', g', tk, m', nw, oI, rfl, hb, F, N, h1, h2, hI, hn, hk, hp⟩
/-- a for over a tuple, by a word of what the turns have done -/
theorem tup_by {σ : Type} {x : Str} {px : Pos} {body : List Stmt} {vs : List Value} {o : Obj} {n : Nat} (hc : o.cls = .type "tuple") (hd : o.data = .seq vs.toArray n) (Led : σ → List (Addr × Obj)) (ps : σ → List (Str × Value)) (P : Nat → σ → Prop)
    (hT : ∀ c, (t, o) ∈ Led c) (hI : ∀ c h oI, oI.cls = .type "tuple_iterator" → News h₀ L h ((I, oI) :: Led c) → ∀ p ∈ Led c, p.1 ≠ I) (hh : A.handled = none) (hE : PassesOwn (model prog w) A env E)
    (turn : ∀ (j : Nat) (v : Value) (c : σ) (u : Str → Option Value) (h : Heap) (g : Array GenState) (tk : Nat) (oI : Obj), vs[j]? = some v → P j c → oI.cls = .type "tuple_iterator" → oI.data = .fields #[.ref t, .int ((j + 1 : Nat) : Int) 0] → Fr h₀ L h (ov (ps c) u) → News h₀ L h ((I, oI) :: Led c) → AllBare g →
      wpAny (model prog w) A (assign (.Name x px) env v) (fun _ s₃ => wpAny (model prog w) A (execs body env) (fun f s₄ => Stand (TEnd h₀ L I t s Led ps P Q j f s₄)) E s₃) E { s with heap := h, gens := g, toks := tk })
    (out : ∀ (c : σ) (u : Str → Option Value) (h : Heap) (g : Array GenState) (tk : Nat), P vs.length c → Fr h₀ L h (ov (ps c) u) → News h₀ L h (Led c) → AllBare g → Q .next { s with heap := h, gens := g, toks := tk }) :
    ∀ (N j : Nat) (c : σ) (m' : Str → Option Value) (h : Heap) (g : Array GenState) (tk : Nat) (nw : List (Addr × Obj)) (oI : Obj), j + N = vs.length → P j c → Fr h₀ L h m' → News h₀ L h nw → oI.cls = .type "tuple_iterator" → oI.data = .fields #[.ref t, .int (j : Int) 0] → (I, oI) ∈ nw → (∀ p ∈ Led c, p ∈ nw) → (∀ p ∈ ps c, m' p.1 = some p.2) → AllBare g →
      ForIt prog w A (.Name x px) body env Q E (.ref I) { s with heap := h, gens := g, toks := tk } := by
  intro N
  induction N with
  | zero =>
    intro j c m' h g tk nw oI hj hp F N h1 h2 hm hn hk hb
    have N1 : News h₀ L h ((I, oI) :: Led c) := fun p hp => by
      rcases List.mem_cons.mp hp with rfl | hp
      · exact N _ hm
      · exact N _ (hn p hp)
    refine ForIt.step ?_ hE
    refine nx_tup_end j hh F N1 (.head _) h1 h2 (.tail _ (hT c)) hc hd (List.getElem?_eq_none (by omega)) (.hit (.rest (hI c h _ h1 N1))) fun h' F' N' => ?_
    have e : j = vs.length := by omega
    exact out c m' h' g tk (e ▸ hp) ((ov_self _ _ hk).symm ▸ F') N' hb
  | succ k ih =>
    intro j c m' h g tk nw oI hj hp F N h1 h2 hm hn hk hb
    have N1 : News h₀ L h ((I, oI) :: Led c) := fun p hp => by
      rcases List.mem_cons.mp hp with rfl | hp
      · exact N _ hm
      · exact N _ (hn p hp)
    have hx : vs[j]? = some (vs[j]'(by omega)) := List.getElem?_eq_getElem (by omega)
    refine ForIt.step ?_ hE
    refine nx_tup j (nf := fun o' => (I, o') :: Led c) F N1 (.head _) h1 h2 (.tail _ (hT c)) hc hd hx (fun o' => .head (hI c h _ h1 N1)) fun o' h' h1' h2' F' N' => ?_
    refine lg_name ?_
    refine wpAny_mono (turn j _ c m' h' g tk o' hx hp h1' h2' ((ov_self _ _ hk).symm ▸ F') N' hb) (fun _ s₃ h₃ => ?_) fun _ _ e => e
    refine wpAny_mono h₃ (fun f s₄ h₄ => ?_) fun _ _ e => e
    have next : ∀ s₄, TEnd h₀ L I t s Led ps P Q j .next s₄ → ForIt prog w A (.Name x px) body env Q E (.ref I) s₄ := by
      rintro s₄ ⟨c', h2, g2, tk2, m2, nw2, o2, rfl, hb2, F2, N2, hc2, hd2, hI2, hn2, hk2, hp2⟩
      exact ih (j + 1) c' m2 h2 g2 tk2 nw2 o2 (by omega) hp2 F2 N2 hc2 hd2 hI2 hn2 hk2 hb2
    cases f with
    | next => exact next s₄ h₄
    | cont => exact next s₄ h₄
    | brk => exact h₄
    | ret v => exact h₄
end
section
variable {prog : Program} {w : World} {A : Around} {E : Value → Shared → Prop} {s : Shared} {h₀ : Heap} {L : Addr} {m : Str → Option Value} {news : List (Addr × Obj)}
theorem app_l {l : Addr} {x : Value} {c : Nat} {vs : List Value} {nf : Obj → List (Addr × Obj)} {Q : Value → Shared → Prop} (F₁ : Fr h₀ L s.heap m) (N : News h₀ L s.heap news) (hm : (l, lstN vs c) ∈ news) (hlen : vs.length ≤ 1000) (U : ∀ o', Upd l (lstN vs c) o' news (nf o'))
    (k : ∀ c' h', Fr h₀ L h' m → News h₀ L h' (nf (lstN (vs ++ [x]) c')) → Q .none { s with heap := h' }) : wpAny (model prog w) A (call (.builtin "list.append") [.ref l, x]) Q E s := by
  have hS := (N _ hm).1
  have hT : s.heap.IsList l vs.toArray := ⟨_, hS, rfl, c, rfl⟩
  refine wpAny_call_entry slot_list_append hT.typeIs entry_list_append ?_ (args_list_append _ _)
  show wpAny _ _ (updateSeq l (·.push x) >>= fun _ => ret .none) _ _ s
  refine wpAny_bind ?_
  refine wpAny_updateSeq hS rfl (wpAny_pure ⟨.none, rfl, ?_⟩) ?_ ?_
  · have e : ∃ c', (s.heap.update l (Obj.mapSeq (·.push x))).get? l = some (lstN (vs ++ [x]) c') := ⟨_, by
      rw [Heap.get?_update_self _ hS rfl]
      simp [Obj.mapSeq]
      rfl⟩
    obtain ⟨c', e⟩ := e
    obtain ⟨F2, N2⟩ := upd_ledger F₁ N (U _) (fun b x hb q => (Heap.get?_update_other _ _ (Ne.symm hb)).trans q) e
    exact k c' _ F2 N2
  · simp only [List.size_toArray]; exact Nat.le_trans hlen (by decide)
  · simp only [Array.size_push, List.size_toArray]; exact Nat.le_trans (Nat.succ_le_succ hlen) (by decide)
end
/-- the doublings of a found point -/
def dblGo (p : Int) : Nat → Int × Int → Int → Option (Int × Int)
  | 0, h, _ => some h
  | f + 1, h, z => if 1 < z then match lslope h h p with
    | none => none
    | some sl => dblGo p f (lsum h h sl p) (z.fdiv 2) else some h
def yOf (p x : Int) : Int := powM (x ^ 3 + x) ((p + 1).fdiv 4) p
/-- the search of a point from x on -/
def findGo (p n : Int) : Nat → Int → Option (Int × Int)
  | 0, _ => none
  | f + 1, x => if (yOf p x * yOf p x - x ^ 3 - x).fmod p = 0 then match dblGo p 10 (x, yOf p x) ((p + 1).fdiv n) with
    | none => findGo p n f ((x + 1).fmod p)
    | some P => some P else findGo p n f ((x + 1).fmod p)
def mulP (p : Int) (a : Int × Int) (m : Int) : Int × Int := fromJ p (jmul 9 p (p + 1) (a.1, a.2, 1) m)
def addP (p : Int) (a b : Int × Int) : Int × Int := fromJ p (jadd p (a.1, a.2, 1) (b.1, b.2, 1))
/-- a world: its prime, its order, the length of the loop -/
def WP (p n : Int) (k : Nat) : Prop := (p = 11 ∧ n = 3 ∧ k = 1) ∨ (p = 19 ∧ n = 5 ∧ k = 2) ∨ (p = 23 ∧ n = 3 ∧ k = 1) ∨ (p = 43 ∧ n = 11 ∧ k = 3) ∨ (p = 47 ∧ n = 3 ∧ k = 1) ∨ (p = 67 ∧ n = 17 ∧ k = 4) ∨ (p = 103 ∧ n = 13 ∧ k = 3) ∨ (p = 163 ∧ n = 41 ∧ k = 5)
theorem WP.facts {p n : Int} {k : Nat} (h : WP p n k) : 2 < p ∧ p ≤ 163 ∧ 3 ≤ n ∧ n ≤ 41 ∧ k ≤ 5 ∧ Builtin.Int.intBits n = k + 1 ∧ (p * p - 1).fdiv n < 1024 ∧ (p + 1).fdiv n ≤ 16 ∧ 0 ≤ (p + 1).fdiv n := by
  rcases h with ⟨rfl, rfl, rfl⟩ | ⟨rfl, rfl, rfl⟩ | ⟨rfl, rfl, rfl⟩ | ⟨rfl, rfl, rfl⟩ | ⟨rfl, rfl, rfl⟩ | ⟨rfl, rfl, rfl⟩ | ⟨rfl, rfl, rfl⟩ | ⟨rfl, rfl, rfl⟩ <;> decide +kernel
/-- what the law asks of its two points and its two numbers -/
structure LawOk (p n : Int) (k : Nat) (one two : Int × Int) (a b : Int) (v m z q : Int × Int) : Prop where
  i1 : InP p one
  i2 : InP p two
  iv : InP p v
  iq : InP p q
  plain : pairing p n k one two = some v
  unit : v ≠ (1, 0)
  pow : fpow p v n.toNat = (1, 0)
  swap : pairing p n k two one = some v
  more : pairing p n k (mulP p one a) (mulP p two b) = some m
  morev : m = fpow p v ((a * b).fmod n).toNat
  sum : pairing p n k (addP p one two) two = some z
  own : pairing p n k two two = some q
  sumv : z = mulF p v q
theorem two_of {α β : Type} {f : α → β} {R : Nat → β} {l : List α} (h : l.map f = (List.range 2).map R) : ∃ a b, l = [a, b] ∧ f a = R 0 ∧ f b = R 1 := by
  have hl := congrArg List.length h
  rw [List.length_map, List.length_map, List.length_range] at hl
  match l, hl with
  | [a, b], _ => exact ⟨a, b, rfl, (List.cons.inj h).1, (List.cons.inj (List.cons.inj h).2).1⟩
section
variable {w : World} {e e' : El} {p : Int} {v v' : Int × Int} {led news : List (Addr × Obj)} {ps : Array Value} {pg : Program} {lo : List Str} {mean : ExcName → Option Value} {mg mb : Str → Option Value} {dp un : Nat} {gd : Option (List Code)} {cn : Str} {cs : Scope} {a : Addr} {ccd : Value} {cl : List (Str × Addr)} {outer : List Env} {A₀ : Around} {base h₀ : Heap} {L : Addr} {m : Str → Option Value} {s : Shared} {Q E : Value → Shared → Prop}
/-- a def that may grow the table, called on a part of the ledger -/
theorem useS {f : Addr} {dep : Nat} {vs : List Value} {P : Value → List (Addr × Obj) → Prop} (sub : ∀ q ∈ news, q ∈ led) (hcl : ∀ q ∈ news, q.2.cls ≠ .none) (ht : (100, tabObj ps) ∈ led) (hS : SpecT w f dep vs news P)
    (B : Below A₀ base outer h₀) (F : Fr h₀ L s.heap m) (X : (hd.heap_39 w.params).In h₀) (N : News h₀ L s.heap led) (T : Top pg lo mean mg mb h₀) (hk : cs.kind = .function) (hb : AllBare s.gens) (htr : TriplesOk ps.toList)
    (hd : dp + dep < recursionLimit) (hu : un + 8 * dep < cLine)
    (k : ∀ (r : Value) (tl : List (Addr × Obj)) (ps' : Array Value) (h' : Heap) (g' : Array GenState) (tk' : Nat), P r tl → TriplesOk ps'.toList → AllBare g' → Fr h₀ L h' m → News h₀ L h' (tl ++ (100, tabObj ps') :: news) → Q r { s with heap := h', gens := g', toks := tk' }) :
    wpAny (model PySem.Challenge.rw_bb0064_01.row.prog w) (ktrTop dp un gd cn cs L a ccd cl outer) (call (.ref f) vs) Q E s := by
  refine hS ps pg lo mean mg mb dp un gd cn cs a ccd cl outer A₀ base h₀ L m s Q E ⟨B, F, X, fun q hq => ?_, T, hk, hb⟩ htr (fun q hq => off100 N ht (sub q hq) (hcl q hq)) hd hu k
  rcases List.mem_cons.mp hq with rfl | hq
  · exact N _ ht
  · exact N _ (sub q hq)
theorem sRE {f : Addr} {dep : Nat} {vs : List Value} {z : Int × Int} (sub : ∀ q ∈ news, q ∈ led) (hcl : ∀ q ∈ news, q.2.cls ≠ .none) (ht : (100, tabObj ps) ∈ led) (hS : SpecT w f dep vs news (RE w p z))
    (B : Below A₀ base outer h₀) (F : Fr h₀ L s.heap m) (X : (hd.heap_39 w.params).In h₀) (N : News h₀ L s.heap led) (T : Top pg lo mean mg mb h₀) (hk : cs.kind = .function) (hb : AllBare s.gens) (htr : TriplesOk ps.toList)
    (hd : dp + dep < recursionLimit) (hu : un + 8 * dep < cLine)
    (k : ∀ (r : El) (ps' : Array Value) (h' : Heap) (g' : Array GenState) (tk' : Nat), TriplesOk ps'.toList → AllBare g' → Fr h₀ L h' m → News h₀ L h' (r.led w p z ++ (100, tabObj ps') :: news) → Q (.ref r.x) { s with heap := h', gens := g', toks := tk' }) :
    wpAny (model PySem.Challenge.rw_bb0064_01.row.prog w) (ktrTop dp un gd cn cs L a ccd cl outer) (call (.ref f) vs) Q E s := by
  refine useS sub hcl ht hS B F X N T hk hb htr hd hu ?_
  rintro r tl ps9 h9 g9 tk9 ⟨e, rfl, rfl⟩ htr9 hb9 F9 N9
  exact k e ps9 h9 g9 tk9 htr9 hb9 F9 N9
end
theorem El.cls {e : El} {w : World} {p : Int} {v : Int × Int} : ∀ q ∈ e.led w p v, q.2.cls ≠ .none := by
  simp only [El.led, List.forall_mem_cons]
  refine ⟨?_, ?_, ?_, ?_, ?_, ?_, ?_⟩
  all_goals first | (intro h; cases h; done) | exact fun _ h => nomatch h
theorem mulP_in {p : Int} {a : Int × Int} {m : Int} (h : 0 < p) : InP p (mulP p a m) :=
  ⟨⟨Int.fmod_nonneg_of_pos _ h, Int.fmod_lt_of_pos _ h⟩, ⟨Int.fmod_nonneg_of_pos _ h, Int.fmod_lt_of_pos _ h⟩⟩
theorem addP_in {p : Int} {a b : Int × Int} (h : 0 < p) : InP p (addP p a b) :=
  ⟨⟨Int.fmod_nonneg_of_pos _ h, Int.fmod_lt_of_pos _ h⟩, ⟨Int.fmod_nonneg_of_pos _ h, Int.fmod_lt_of_pos _ h⟩⟩
theorem mulOk9 {N n : Int} (h : N ≤ 164) : MulOk N 9 n := by
  refine ⟨by decide, fun hh => ?_, fun _ => ⟨?_, by decide⟩⟩
  · show n < 512
    omega
  · show N ≤ 256
    omega
end Mine
end

-- Law3
section
set_option maxRecDepth 100000
namespace Mine
-- THE PLAIN LAW: no program in sight
def eqP (a b : Int × Int) : Bool := decide (a.1 = b.1) && decide (a.2 = b.2)
theorem eqP_is {a b : Int × Int} (h : eqP a b = true) : a = b := by
  obtain ⟨h1, h2⟩ := (Bool.and_eq_true _ _).mp h
  exact Prod.ext (of_decide_eq_true h1) (of_decide_eq_true h2)
/-- the point (or the power) of a number, out of a table -/
def atT (l : List (Int × Int)) (i : Nat) : Int × Int := l.getD i (0, 0)
/-- the multiples below N, as a tree of halves -/
def mulTree (P : Int) (N : Nat) (A : T3) (chk : Nat → Int × Int → Bool) : Nat → Nat → T3 → Bool
  | 0, m, _ => Nat.ble N m
  | d + 1, m, J => Nat.ble N m || (chk m (fromJ P J) && (mulTree P N A chk d (2 * m) (jdbl P J) && mulTree P N A chk d (2 * m + 1) (jadd P (jdbl P J) A)))
theorem mulTree_step {P : Int} {N : Nat} {A : T3} {chk : Nat → Int × Int → Bool} {d m : Nat} {J : T3} (h : mulTree P N A chk d m J = true) (hm : m < N) :
    chk m (fromJ P J) = true ∧ ∃ d', mulTree P N A chk d' (2 * m) (jdbl P J) = true ∧ mulTree P N A chk d' (2 * m + 1) (jadd P (jdbl P J) A) = true := by
  have hb : Nat.ble N m = false := by
    cases h : Nat.ble N m with
    | false => rfl
    | true => have := Nat.le_of_ble_eq_true h; omega
  cases d with
  | zero => rw [mulTree, hb] at h; cases h
  | succ d =>
    rw [mulTree, hb, Bool.false_or, Bool.and_eq_true, Bool.and_eq_true] at h
    exact ⟨h.1, d, h.2.1, h.2.2⟩
theorem mulTree_at {P : Int} {N D : Nat} {A : T3} {chk : Nat → Int × Int → Bool} (hA : A.2.1 ≠ 0) (h : mulTree P N A chk D 1 A = true) :
    ∀ (k m : Nat), 1 ≤ m → m < N → m < 2 ^ k → ∃ d, mulTree P N A chk d m (jmul k P N A m) = true := by
  intro k
  induction k with
  | zero => intro m h1 _ h2; rw [Nat.pow_zero] at h2; omega
  | succ k ih =>
    intro m h1 hN h2
    rw [Nat.pow_succ] at h2
    by_cases hm : m = 1
    · subst hm
      refine ⟨D, ?_⟩
      have e : jmul (k + 1) P N A ((1 : Nat) : Int) = A := by
        rw [jmul, if_neg (by rintro (q | q); exact hA q; omega), if_pos (by rfl)]
      rw [e]
      exact h
    · obtain ⟨d, hd⟩ := ih (m / 2) (by omega) (by omega) (by omega)
      obtain ⟨-, d', t1, t2⟩ := mulTree_step hd (by omega)
      have e2 : (m : Int).fdiv 2 = ((m / 2 : Nat) : Int) := by
        rw [Int.fdiv_eq_ediv_of_nonneg _ (by decide)]; omega
      have e3 : (m : Int).fmod 2 = ((m % 2 : Nat) : Int) := by
        rw [Int.fmod_eq_emod_of_nonneg _ (by decide)]; omega
      refine ⟨d', ?_⟩
      rw [jmul, if_neg (by rintro (q | q); exact hA q; omega), if_neg (by omega), if_neg (by omega), e2, e3]
      by_cases hp : m % 2 = 0
      · rw [if_pos (by omega)]
        have em : 2 * (m / 2) = m := by omega
        rw [em] at t1
        exact t1
      · rw [if_neg (by omega)]
        have em : 2 * (m / 2) + 1 = m := by omega
        rw [em] at t2
        exact t2
theorem mulTree_in {P : Int} {N D : Nat} {A : T3} {chk : Nat → Int × Int → Bool} (hA : A.2.1 ≠ 0) (h : mulTree P N A chk D 1 A = true) (h0 : chk 0 (0, 0) = true)
    (k : Nat) (hk : N ≤ 2 ^ k) (hk1 : 1 ≤ k) {m : Int} (m0 : 0 ≤ m) (m1 : m < N) : chk m.toNat (fromJ P (jmul k P N A m)) = true := by
  obtain ⟨u, rfl⟩ : ∃ u : Nat, m = u := ⟨m.toNat, by omega⟩
  rw [Int.toNat_natCast]
  by_cases hu : u = 0
  · subst hu
    obtain ⟨k, rfl⟩ : ∃ j, k = j + 1 := ⟨k - 1, by omega⟩
    rw [jmul, if_pos (.inr rfl)]
    have e : fromJ P (0, 0, 1) = (0, 0) := by
      unfold fromJ
      simp only [Int.zero_mul, Int.zero_fmod]
    rw [e]
    exact h0
  · obtain ⟨d, hd⟩ := mulTree_at hA h k u (by omega) (by omega) (by omega)
    exact (mulTree_step hd (by omega)).1
/-- the multiples by any number -/
theorem mulTree_all {P : Int} {N D : Nat} {A : T3} {chk : Nat → Int × Int → Bool} (hA : A.2.1 ≠ 0) (h : mulTree P N A chk D 1 A = true) (h0 : chk 0 (0, 0) = true) (hN : N ≤ 256) (hN1 : 1 < N) (m : Int) :
    chk (m % (N : Int)).toNat (fromJ P (jmul 9 P N A m)) = true := by
  by_cases hm : 0 ≤ m ∧ m < N
  · rw [Int.emod_eq_of_lt hm.1 hm.2]
    exact mulTree_in hA h h0 9 (by show N ≤ 512; omega) (by decide) hm.1 hm.2
  · have e : jmul 9 P N A m = jmul 8 P N A (m % (N : Int)) := by
      rw [jmul, if_neg (by rintro (q | q); exact hA q; omega), if_neg (by omega), if_pos (by omega), Int.fmod_eq_emod_of_nonneg _ (by omega)]
    rw [e]
    exact mulTree_in hA h h0 8 hN (by decide) (Int.emod_nonneg _ (by omega)) (Int.emod_lt_of_pos _ (by omega))

/-- what is known of a world -/
structure WF (p : Int) (k N : Nat) (pts gt : Nat → Int × Int) : Prop where
  n1 : 1 < N
  n2 : N ≤ 41
  find : ∀ x : Int, 0 ≤ x → x < p → ∃ a, 0 < a ∧ a < N ∧ findGo p N 200 x = some (pts a)
  ptIn : ∀ a, a < N → InP p (pts a)
  gtIn : ∀ a, a < N → InP p (gt a)
  pair : ∀ a b, a < N → b < N → pairing p N k (pts a) (pts b) = some (gt (a * b % N))
  mul : ∀ a, 0 < a → a < N → ∀ m : Int, mulP p (pts a) m = pts ((a : Int) * m % N).toNat
  add : ∀ a b, 0 < a → a < N → 0 < b → b < N → addP p (pts a) (pts b) = pts ((a + b) % N)
  gmul : ∀ a b, a < N → b < N → mulF p (gt a) (gt b) = gt ((a + b) % N)
  g0 : gt 0 = (1, 0)
  g1 : ∀ a, 0 < a → a < N → gt a ≠ (1, 0)
  prime : ∀ a b, 0 < a → a < N → 0 < b → b < N → a * b % N ≠ 0
theorem WF.powGo {p : Int} {k N : Nat} {pts gt : Nat → Int × Int} (W : WF p k N pts gt) : ∀ (f i j m : Nat), i < N → j < N → m < 2 ^ f → fpowGo p f (gt i) (gt j) m = gt ((i + j * m) % N) := by
  have hN : 0 < N := Nat.lt_of_succ_lt W.n1
  intro f
  induction f with
  | zero =>
    intro i j m hi hj hm
    rw [Nat.pow_zero] at hm
    have : m = 0 := by omega
    subst this
    rw [fpowGo, Nat.mul_zero, Nat.add_zero, Nat.mod_eq_of_lt hi]
  | succ f ih =>
    intro i j m hi hj hm
    rw [Nat.pow_succ] at hm
    rw [fpowGo]
    by_cases h0 : m = 0
    · rw [if_pos h0, h0, Nat.mul_zero, Nat.add_zero, Nat.mod_eq_of_lt hi]
    rw [if_neg h0, W.gmul j j hj hj]
    have key : ∀ i', i' < N → fpowGo p f (gt i') (gt ((j + j) % N)) (m / 2) = gt ((i' + 2 * (j * (m / 2))) % N) := by
      intro i' hi'
      rw [ih i' _ (m / 2) hi' (Nat.mod_lt _ hN) (by omega)]
      congr 1
      rw [Nat.add_mod, Nat.mod_mul_mod, ← Nat.add_mod]
      congr 2
      rw [← Nat.two_mul, Nat.mul_assoc]
    by_cases hb : m % 2 = 1
    · rw [if_pos hb, W.gmul i j hi hj, key _ (Nat.mod_lt _ hN), Nat.mod_add_mod]
      congr 2
      have e : j * m = j * (2 * (m / 2) + 1) := by congr 1; omega
      rw [e, Nat.mul_add, Nat.mul_one, Nat.mul_left_comm]
      omega
    · rw [if_neg hb, key i hi]
      congr 2
      have e : j * m = j * (2 * (m / 2)) := by congr 1; omega
      rw [e, Nat.mul_left_comm]
theorem WF.pow {p : Int} {k N : Nat} {pts gt : Nat → Int × Int} (W : WF p k N pts gt) {j m : Nat} (hj : j < N) (hm : m < 1024) : fpow p (gt j) m = gt (j * m % N) := by
  have hN : 0 < N := Nat.lt_of_succ_lt W.n1
  unfold fpow
  rw [← W.g0, W.powGo 10 0 j m hN hj hm, Nat.zero_add]
theorem emod_nat {N : Nat} {a : Int} : ((a % (N : Int)).toNat : Int) = a % (N : Int) ∨ N = 0 := by
  by_cases h : N = 0
  · exact .inr h
  · exact .inl (Int.toNat_of_nonneg (Int.emod_nonneg _ (by omega)))
/-- the law, out of what is known of the world -/
theorem WF.law {p : Int} {k N : Nat} {pts gt : Nat → Int × Int} (W : WF p k N pts gt) {a b : Nat} (a0 : 0 < a) (a1 : a < N) (b0 : 0 < b) (b1 : b < N) (c d : Int) :
    ∃ v m z q, LawOk p N k (pts a) (pts b) c d v m z q := by
  have hN : 0 < N := Nat.lt_of_succ_lt W.n1
  have n2 := W.n2
  have lt : ∀ u : Int, (u % (N : Int)).toNat < N := fun u => by
    have h1 := Int.emod_nonneg u (b := (N : Int)) (by omega)
    have h2 := Int.emod_lt_of_pos u (b := (N : Int)) (by omega)
    omega
  have ml : ∀ u : Nat, u % N < N := fun u => Nat.mod_lt u hN
  have hv := W.prime a b a0 a1 b0 b1
  have hfm : (c * d).fmod (N : Int) = c * d % (N : Int) := Int.fmod_eq_emod_of_nonneg _ (by omega)
  refine ⟨gt (a * b % N), gt (((a : Int) * c % N).toNat * ((b : Int) * d % N).toNat % N), gt ((a + b) % N * b % N), gt (b * b % N), ?_⟩
  constructor
  · exact W.ptIn a a1
  · exact W.ptIn b b1
  · exact W.gtIn _ (ml _)
  · exact W.gtIn _ (ml _)
  · exact W.pair a b a1 b1
  · exact W.g1 _ (by omega) (ml _)
  · rw [Int.toNat_natCast, W.pow (ml _) (by omega), Nat.mul_mod_left, W.g0]
  · rw [W.pair b a b1 a1, Nat.mul_comm]
  · rw [W.mul a a0 a1, W.mul b b0 b1, W.pair _ _ (lt _) (lt _)]
  · rw [hfm, W.pow (ml _) (by have := lt (c * d); omega)]
    congr 1
    apply Int.ofNat.inj
    show ((((a : Int) * c % N).toNat * ((b : Int) * d % N).toNat % N : Nat) : Int) = ((a * b % N * (c * d % (N : Int)).toNat % N : Nat) : Int)
    have t : ∀ u : Int, ((u % (N : Int)).toNat : Int) = u % (N : Int) := fun u => Int.toNat_of_nonneg (Int.emod_nonneg _ (by omega))
    rw [Int.natCast_emod, Int.natCast_emod, Int.natCast_mul, Int.natCast_mul, t, t, t, Int.natCast_emod, Int.natCast_mul, ← Int.mul_emod, ← Int.mul_emod]
    congr 1
    rw [Int.mul_assoc, Int.mul_assoc, Int.mul_left_comm c]
  · rw [W.add a b a0 a1 b0 b1, W.pair _ _ (ml _) b1]
  · exact W.pair b b b1 b1
  · rw [W.gmul _ _ (ml _) (ml _), ← Nat.add_mod, ← Nat.add_mul, Nat.mod_mul_mod]
end Mine
end

-- Nat1
section
open PySem PySem.W
set_option maxRecDepth 100000
namespace Mine
-- the plain law's functions upon natural numbers, which the kernel reckons fast
theorem fmN {p N : Nat} {E : Int} (c : Int) (h : E + p * c = N) : E.fmod p = ((N % p : Nat) : Int) := by
  rw [Int.fmod_eq_emod_of_nonneg _ (by omega), Int.natCast_emod, ← h, Int.add_mul_emod_self_left]
theorem sbN {p x : Nat} (h : x < p) : ((p - x : Nat) : Int) = (p : Int) - x := by omega
theorem condT {α : Type} {b : Bool} {x y : α} (h : b = true) : cond b x y = x := by rw [h]; rfl
theorem condF {α : Type} {b : Bool} {x y : α} (h : b = false) : cond b x y = y := by rw [h]; rfl
def up (a : Nat × Nat) : Int × Int := ((a.1 : Int), (a.2 : Int))
def okN (p : Nat) (a : Nat × Nat) : Prop := a.1 < p ∧ a.2 < p
def eqN (a b : Nat × Nat) : Bool := Nat.beq a.1 b.1 && Nat.beq a.2 b.2
theorem eqN_is {a b : Nat × Nat} : eqN a b = true ↔ a = b := by
  unfold eqN
  rw [Bool.and_eq_true, Nat.beq_eq, Nat.beq_eq]
  exact ⟨fun h => Prod.ext h.1 h.2, fun h => h ▸ ⟨rfl, rfl⟩⟩
theorem up_inj {a b : Nat × Nat} : up a = up b ↔ a = b := by
  constructor
  · intro h
    have h1 := congrArg Prod.fst h
    have h2 := congrArg Prod.snd h
    exact Prod.ext (Int.ofNat.inj h1) (Int.ofNat.inj h2)
  · exact fun h => h ▸ rfl
-- the quadratic field
def mulN (p : Nat) (a b : Nat × Nat) : Nat × Nat := ((a.1 * b.1 + (p - a.2) * b.2) % p, (a.1 * b.2 + a.2 * b.1) % p)
theorem mulN_is {p : Nat} {a b : Nat × Nat} (ha : okN p a) : mulF p (up a) (up b) = up (mulN p a b) := by
  unfold mulF mulN up
  refine Prod.ext ?_ ?_
  · exact fmN b.2 (by simp only [Int.natCast_add, Int.natCast_mul, sbN ha.2]; grind)
  · exact fmN 0 (by simp only [Int.natCast_add, Int.natCast_mul]; grind)
theorem mulN_ok {p : Nat} {a b : Nat × Nat} (h : 0 < p) : okN p (mulN p a b) := ⟨Nat.mod_lt _ h, Nat.mod_lt _ h⟩
def powGoN (p : Nat) : Nat → Nat × Nat → Nat × Nat → Nat → Nat × Nat
  | 0, o, _, _ => o
  | k + 1, o, t, n => cond (Nat.beq n 0) o (powGoN p k (cond (Nat.beq (n % 2) 1) (mulN p o t) o) (mulN p t t) (n / 2))
theorem powGoN_is {p : Nat} (h0 : 0 < p) : ∀ (k : Nat) (o t : Nat × Nat) (n : Nat), okN p o → okN p t → fpowGo p k (up o) (up t) n = up (powGoN p k o t n)
  | 0, _, _, _, _, _ => rfl
  | k + 1, o, t, n, ho, ht => by
    rw [fpowGo, powGoN]
    by_cases hn : n = 0
    · rw [if_pos hn, condT (Nat.beq_eq.mpr hn)]
    rw [if_neg hn, condF (Bool.eq_false_iff.mpr fun h => hn (Nat.beq_eq.mp h)), mulN_is ht]
    by_cases hb : n % 2 = 1
    · rw [if_pos hb, condT (Nat.beq_eq.mpr hb), mulN_is ho]
      exact powGoN_is h0 k _ _ _ (mulN_ok h0) (mulN_ok h0)
    · rw [if_neg hb, condF (Bool.eq_false_iff.mpr fun h => hb (Nat.beq_eq.mp h))]
      exact powGoN_is h0 k _ _ _ ho (mulN_ok h0)
-- slopes and sums
def pwN (bits : List Bool) (b p : Nat) : Nat := bits.foldl (fun acc t => cond t (acc * acc % p * b % p) (acc * acc % p)) (1 % p)
def bitsN (e : Nat) : List Bool := ((List.range (Builtin.Int.intBits e)).reverse).map e.testBit
theorem pwN_is {x c : Int} {p e xN : Nat} {bits : List Bool} (hb : bits = bitsN e) (h : x + p * c = xN) : powM x e p = (pwN bits (xN % p) p : Nat) := by
  have e1 : (x % (p : Int)).toNat = xN % p := by
    have : x % (p : Int) = ((xN % p : Nat) : Int) := by rw [Int.natCast_emod, ← h, Int.add_mul_emod_self_left]
    rw [this, Int.toNat_natCast]
  unfold powM
  rw [Int.natAbs_natCast, Int.natAbs_natCast, e1, hb]
  congr 1
  unfold Builtin.powMod pwN bitsN
  rw [List.foldl_map]
  congr 1
  funext acc i
  cases e.testBit i <;> rfl
def slopeN (p : Nat) (bits : List Bool) (a b : Nat × Nat) : Option Nat :=
  cond (Nat.beq a.1 b.1) (cond (Nat.beq ((a.2 + b.2) % p) 0) none (some ((3 * a.1 * a.1 + 1) * pwN bits (2 * a.2 % p) p % p)))
    (some ((b.2 + (p - a.2)) * pwN bits ((b.1 + (p - a.1)) % p) p % p))
theorem slopeN_is {p : Nat} {bits : List Bool} {a b : Nat × Nat} (hp : 2 ≤ p) (hb : bits = bitsN (p - 2)) (ha : okN p a) : lslope (up a) (up b) p = Option.map (fun x : Nat => (x : Int)) (slopeN p bits a b) := by
  have e2 : (p : Int) - 2 = ((p - 2 : Nat) : Int) := by omega
  have es : ((a.2 : Int) + b.2).fmod p = (((a.2 + b.2) % p : Nat) : Int) := fmN 0 (by simp only [Int.natCast_add]; grind)
  unfold lslope slopeN up
  dsimp only
  rw [es, e2]
  by_cases h1 : a.1 = b.1
  · rw [condT (Nat.beq_eq.mpr h1)]
    by_cases h2 : (a.2 + b.2) % p = 0
    · rw [if_pos ⟨by omega, by omega⟩, condT (Nat.beq_eq.mpr h2)]
      rfl
    · rw [if_neg (by omega), if_pos (by omega), condF (Bool.eq_false_iff.mpr fun h => h2 (Nat.beq_eq.mp h)), pwN_is (xN := 2 * a.2) (c := 0) hb (by omega)]
      exact congrArg some (fmN 0 (by simp only [Int.natCast_add, Int.natCast_mul, Int.natCast_one]; grind))
  · rw [if_neg (by omega), if_neg (by omega), condF (Bool.eq_false_iff.mpr fun h => h1 (Nat.beq_eq.mp h)), pwN_is (xN := b.1 + (p - a.1)) (c := 1) hb (by have := ha.1; omega)]
    exact congrArg some (fmN (pwN bits ((b.1 + (p - a.1)) % p) p) (by simp only [Int.natCast_add, Int.natCast_mul, sbN ha.2]; grind))
def sumN (p : Nat) (a b : Nat × Nat) (s : Nat) : Nat × Nat := ((s * s + (p - a.1) + (p - b.1)) % p, (s * (a.1 + (p - (s * s + (p - a.1) + (p - b.1)) % p)) + (p - a.2)) % p)
theorem sumN_is {p : Nat} {a b : Nat × Nat} {s : Nat} (h0 : 0 < p) (ha : okN p a) (hb : okN p b) : lsum (up a) (up b) s p = up (sumN p a b s) := by
  have ex : ((s : Int) * s - a.1 - b.1).fmod p = (((s * s + (p - a.1) + (p - b.1)) % p : Nat) : Int) := fmN 2 (by simp only [Int.natCast_add, Int.natCast_mul, sbN ha.1, sbN hb.1]; grind)
  have hx : (s * s + (p - a.1) + (p - b.1)) % p < p := Nat.mod_lt _ h0
  unfold lsum sumN up
  dsimp only
  rw [ex]
  generalize (s * s + (p - a.1) + (p - b.1)) % p = x at hx
  refine Prod.ext rfl ?_
  exact fmN (s + 1) (by simp only [Int.natCast_add, Int.natCast_mul, sbN ha.2, sbN hx]; grind)
theorem sumN_ok {p : Nat} {a b : Nat × Nat} {s : Nat} (h : 0 < p) : okN p (sumN p a b s) := ⟨Nat.mod_lt _ h, Nat.mod_lt _ h⟩
-- the loop
def lineN (p s : Nat) (two here : Nat × Nat) : Nat × Nat := ((s * (two.1 + here.1) + (p - here.2)) % p, two.2 % p)
theorem lineN_is {p s : Nat} {two here : Nat × Nat} (hh : okN p here) : lineF p s (up two) (up here) = up (lineN p s two here) := by
  unfold lineF lineN up
  refine Prod.ext ?_ ?_
  · exact fmN 1 (by simp only [Int.natCast_add, Int.natCast_mul, sbN hh.2]; grind)
  · exact fmN 0 (by grind)
theorem lineN_ok {p s : Nat} {two here : Nat × Nat} (h : 0 < p) : okN p (lineN p s two here) := ⟨Nat.mod_lt _ h, Nat.mod_lt _ h⟩
def loopN (p n : Nat) (bits : List Bool) (one two : Nat × Nat) : Nat → Nat × Nat → Nat × Nat → Option (Nat × Nat)
  | 0, v, _ => some v
  | k + 1, v, h => match slopeN p bits h h with
    | none => none
    | some s => cond (Nat.beq (n / 2 ^ k % 2) 1) (match slopeN p bits (sumN p h h s) one with
        | none => loopN p n bits one two k (mulN p (mulN p v v) (lineN p s two h)) (sumN p h h s)
        | some t => loopN p n bits one two k (mulN p (mulN p (mulN p v v) (lineN p s two h)) (lineN p t two (sumN p h h s))) (sumN p (sumN p h h s) one t))
      (loopN p n bits one two k (mulN p (mulN p v v) (lineN p s two h)) (sumN p h h s))
theorem loopN_is {p n : Nat} {bits : List Bool} {one two : Nat × Nat} (hp : 2 ≤ p) (hb : bits = bitsN (p - 2)) (h1 : okN p one) :
    ∀ (k : Nat) (v h : Nat × Nat), okN p v → okN p h → pairGo p n (up one) (up two) k (up v) (up h) = (loopN p n bits one two k v h).map up := by
  have h0 : 0 < p := by omega
  intro k
  induction k with
  | zero => intro v h _ _; rfl
  | succ k ih =>
    intro v h hv hh
    rw [pairGo, loopN, slopeN_is hp hb hh]
    cases hs : slopeN p bits h h with
    | none => rfl
    | some s =>
      have eb : (((n : Int).fdiv (2 ^ k)).fmod 2 = 1) ↔ n / 2 ^ k % 2 = 1 := by
        have : ((n : Int).fdiv (2 ^ k)).fmod 2 = ((n / 2 ^ k % 2 : Nat) : Int) := by
          rw [Int.fmod_eq_emod_of_nonneg _ (by decide), Int.fdiv_eq_ediv_of_nonneg _ (Int.pow_nonneg (by decide))]
          rfl
        rw [this]; omega
      simp only [Option.map_some]
      rw [mulN_is hv, lineN_is hh, mulN_is (mulN_ok h0), sumN_is h0 hh hh]
      by_cases hc : n / 2 ^ k % 2 = 1
      · rw [if_pos (eb.mpr hc), condT (Nat.beq_eq.mpr hc), slopeN_is hp hb (sumN_ok h0)]
        cases ht : slopeN p bits (sumN p h h s) one with
        | none => exact ih _ _ (mulN_ok h0) (sumN_ok h0)
        | some t =>
          simp only [Option.map_some]
          rw [lineN_is (sumN_ok h0), mulN_is (mulN_ok h0), sumN_is h0 (sumN_ok h0) h1]
          exact ih _ _ (mulN_ok h0) (sumN_ok h0)
      · rw [if_neg (fun q => hc (eb.mp q)), condF (Bool.eq_false_iff.mpr fun q => hc (Nat.beq_eq.mp q))]
        exact ih _ _ (mulN_ok h0) (sumN_ok h0)
/-- the pairing is the value v -/
def pairIs (p n k e : Nat) (bits : List Bool) (one two v : Nat × Nat) : Bool :=
  cond (eqN one (0, 0) || eqN two (0, 0)) (eqN v (1, 0)) (match loopN p n bits one two k (1, 0) one with
    | none => false
    | some u => eqN (powGoN p 10 (1, 0) u e) v)
theorem loopN_ok {p n : Nat} {bits : List Bool} {one two : Nat × Nat} (h0 : 0 < p) : ∀ (k : Nat) (v h : Nat × Nat), okN p v → ∀ u, loopN p n bits one two k v h = some u → okN p u := by
  intro k
  induction k with
  | zero => intro v h hv u hu; cases hu; exact hv
  | succ k ih =>
    intro v h hv u hu
    rw [loopN] at hu
    split at hu
    · cases hu
    · next s _ =>
      cases hc : Nat.beq (n / 2 ^ k % 2) 1 with
      | false => rw [condF hc] at hu; exact ih _ _ (mulN_ok h0) u hu
      | true =>
        rw [condT hc] at hu
        split at hu
        · exact ih _ _ (mulN_ok h0) u hu
        · exact ih _ _ (mulN_ok h0) u hu
theorem pairIs_is {p n k e : Nat} {bits : List Bool} {one two v : Nat × Nat} (hp : 2 ≤ p) (hb : bits = bitsN (p - 2)) (h1 : okN p one) (he : ((p : Int) * p - 1).fdiv n = e) (h : pairIs p n k e bits one two v = true) :
    pairing p n k (up one) (up two) = some (up v) := by
  have h0 : 0 < p := by omega
  have hone : okN p (1, 0) := ⟨by show 1 < p; omega, h0⟩
  have z : ∀ a : Nat × Nat, up a = (0, 0) ↔ a = (0, 0) := fun a => up_inj (b := (0, 0))
  unfold pairIs at h
  unfold pairing
  by_cases hz : up one = (0, 0) ∨ up two = (0, 0)
  · rw [condT (by rw [Bool.or_eq_true, eqN_is, eqN_is, ← z, ← z]; exact hz), eqN_is] at h
    rw [if_pos hz, h]
    rfl
  · rw [condF (Bool.eq_false_iff.mpr fun q => hz (by rwa [Bool.or_eq_true, eqN_is, eqN_is, ← z, ← z] at q))] at h
    rw [if_neg hz, show ((1, 0) : Int × Int) = up (1, 0) from rfl, loopN_is hp hb h1 k _ _ hone h1]
    split at h
    · cases h
    · next u hu =>
      rw [hu]
      simp only [Option.map_some]
      rw [he, Int.toNat_natCast]
      unfold fpow
      rw [show ((1, 0) : Int × Int) = up (1, 0) from rfl, powGoN_is h0 10 _ _ _ hone (loopN_ok h0 k _ _ hone u hu), eqN_is.mp h]
end Mine
end

-- Nat2
section
open PySem PySem.W
set_option maxRecDepth 100000
namespace Mine
abbrev N3 := Nat × Nat × Nat
def up3 (a : N3) : T3 := ((a.1 : Int), (a.2.1 : Int), (a.2.2 : Int))
def ok3 (p : Nat) (a : N3) : Prop := a.1 < p ∧ a.2.1 < p ∧ a.2.2 < p
def jdblN (p : Nat) (q : N3) : N3 :=
  cond (Nat.beq q.2.1 0) (0, 0, 0) <|
  let ysq := q.2.1 * q.2.1 % p
  let S := 4 * q.1 * ysq % p
  let M := (3 * q.1 * q.1 + q.2.2 * q.2.2 * (q.2.2 * q.2.2)) % p
  let nx := (M * M + 2 * (p - S)) % p
  (nx, (M * (S + (p - nx)) + 8 * ysq * (p - ysq)) % p, 2 * q.2.1 * q.2.2 % p)
theorem jdblN_is {p : Nat} {q : N3} (h0 : 0 < p) : jdbl p (up3 q) = up3 (jdblN p q) := by
  obtain ⟨x, y, z⟩ := q
  unfold jdbl jdblN up3
  dsimp only
  by_cases hy : y = 0
  · rw [if_pos (by omega), condT (Nat.beq_eq.mpr hy)]
    rfl
  rw [if_neg (by omega), condF (Bool.eq_false_iff.mpr fun q => hy (Nat.beq_eq.mp q))]
  have e1 : ((y : Int) ^ 2).fmod p = ((y * y % p : Nat) : Int) := fmN 0 (by simp only [Int.natCast_mul]; grind)
  rw [e1]
  have b1 : y * y % p < p := Nat.mod_lt _ h0
  generalize y * y % p = u at b1 ⊢
  have e2 : (4 * (x : Int) * u).fmod p = ((4 * x * u % p : Nat) : Int) := fmN 0 (by simp only [Int.natCast_mul]; grind)
  rw [e2]
  have b2 : 4 * x * u % p < p := Nat.mod_lt _ h0
  generalize 4 * x * u % p = S at b2 ⊢
  have e3 : (3 * (x : Int) ^ 2 + 1 * (z : Int) ^ 4).fmod p = (((3 * x * x + z * z * (z * z)) % p : Nat) : Int) := fmN 0 (by simp only [Int.natCast_mul, Int.natCast_add]; grind)
  rw [e3]
  generalize (3 * x * x + z * z * (z * z)) % p = M
  have e4 : ((M : Int) ^ 2 - 2 * S).fmod p = (((M * M + 2 * (p - S)) % p : Nat) : Int) := fmN 2 (by simp only [Int.natCast_mul, Int.natCast_add, sbN b2]; grind)
  rw [e4]
  have b4 : (M * M + 2 * (p - S)) % p < p := Nat.mod_lt _ h0
  generalize (M * M + 2 * (p - S)) % p = nx at b4 ⊢
  refine Prod.ext rfl (Prod.ext ?_ ?_)
  · exact fmN (M + 8 * u) (by simp only [Int.natCast_mul, Int.natCast_add, sbN b4, sbN b1]; grind)
  · exact fmN 0 (by simp only [Int.natCast_mul]; grind)
theorem jdblN_ok {p : Nat} {q : N3} (h0 : 0 < p) : ok3 p (jdblN p q) := by
  unfold jdblN
  cases Nat.beq q.2.1 0 with
  | true => exact ⟨h0, h0, h0⟩
  | false => exact ⟨Nat.mod_lt _ h0, Nat.mod_lt _ h0, Nat.mod_lt _ h0⟩
def jaddN (p : Nat) (a b : N3) : N3 :=
  cond (Nat.beq a.2.1 0) b <| cond (Nat.beq b.2.1 0) a <|
  let U1 := a.1 * (b.2.2 * b.2.2) % p
  let U2 := b.1 * (a.2.2 * a.2.2) % p
  let S1 := a.2.1 * (b.2.2 * b.2.2 * b.2.2) % p
  let S2 := b.2.1 * (a.2.2 * a.2.2 * a.2.2) % p
  cond (Nat.beq U1 U2) (cond (Nat.beq S1 S2) (jdblN p a) (0, 0, 1)) <|
  let H := U2 + (p - U1)
  let R := S2 + (p - S1)
  let H2 := H * H % p
  let H3 := H * H2 % p
  let V := U1 * H2 % p
  let nx := (R * R + (p - H3) + 2 * (p - V)) % p
  (nx, (R * (V + (p - nx)) + S1 * (p - H3)) % p, H * a.2.2 * b.2.2 % p)
theorem jaddN_is {p : Nat} {a b : N3} (h0 : 0 < p) : jadd p (up3 a) (up3 b) = up3 (jaddN p a b) := by
  obtain ⟨x, y, z⟩ := a
  obtain ⟨x', y', z'⟩ := b
  have ed : jdbl p ((x : Int), (y : Int), (z : Int)) = up3 (jdblN p (x, y, z)) := jdblN_is (q := (x, y, z)) h0
  unfold jadd jaddN
  unfold up3 at ed ⊢
  dsimp only at ed ⊢
  rw [ed]
  by_cases hy : y = 0
  · rw [if_pos (by omega), condT (Nat.beq_eq.mpr hy)]
  rw [if_neg (by omega), condF (Bool.eq_false_iff.mpr fun q => hy (Nat.beq_eq.mp q))]
  by_cases hy' : y' = 0
  · rw [if_pos (by omega), condT (Nat.beq_eq.mpr hy')]
  rw [if_neg (by omega), condF (Bool.eq_false_iff.mpr fun q => hy' (Nat.beq_eq.mp q))]
  have e1 : ((x : Int) * (z' : Int) ^ 2).fmod p = ((x * (z' * z') % p : Nat) : Int) := fmN 0 (by simp only [Int.natCast_mul]; grind)
  have e2 : ((x' : Int) * (z : Int) ^ 2).fmod p = ((x' * (z * z) % p : Nat) : Int) := fmN 0 (by simp only [Int.natCast_mul]; grind)
  have e3 : ((y : Int) * (z' : Int) ^ 3).fmod p = ((y * (z' * z' * z') % p : Nat) : Int) := fmN 0 (by simp only [Int.natCast_mul]; grind)
  have e4 : ((y' : Int) * (z : Int) ^ 3).fmod p = ((y' * (z * z * z) % p : Nat) : Int) := fmN 0 (by simp only [Int.natCast_mul]; grind)
  rw [e1, e2, e3, e4]
  have b1 : x * (z' * z') % p < p := Nat.mod_lt _ h0
  have b3 : y * (z' * z' * z') % p < p := Nat.mod_lt _ h0
  generalize x * (z' * z') % p = U1 at b1 ⊢
  generalize x' * (z * z) % p = U2
  generalize y * (z' * z' * z') % p = S1 at b3 ⊢
  generalize y' * (z * z * z) % p = S2
  by_cases hU : U1 = U2
  · rw [if_pos (by omega), condT (Nat.beq_eq.mpr hU)]
    by_cases hS : S1 = S2
    · rw [if_neg (by omega), condT (Nat.beq_eq.mpr hS)]
    · rw [if_pos (by omega), condF (Bool.eq_false_iff.mpr fun q => hS (Nat.beq_eq.mp q))]
      rfl
  rw [if_neg (by omega), condF (Bool.eq_false_iff.mpr fun q => hU (Nat.beq_eq.mp q))]
  have hH : ((U2 : Int) - U1) = ((U2 + (p - U1) : Nat) : Int) - p := by omega
  have hR : ((S2 : Int) - S1) = ((S2 + (p - S1) : Nat) : Int) - p := by omega
  rw [hH, hR]
  generalize U2 + (p - U1) = H
  generalize S2 + (p - S1) = R
  have e5 : (((H : Int) - p) * ((H : Int) - p)).fmod p = ((H * H % p : Nat) : Int) := fmN (2 * H - p) (by simp only [Int.natCast_mul]; grind)
  rw [e5]
  generalize H * H % p = H2
  have e6 : (((H : Int) - p) * (H2 : Int)).fmod p = ((H * H2 % p : Nat) : Int) := fmN H2 (by simp only [Int.natCast_mul]; grind)
  have e7 : ((U1 : Int) * (H2 : Int)).fmod p = ((U1 * H2 % p : Nat) : Int) := fmN 0 (by simp only [Int.natCast_mul]; grind)
  rw [e6, e7]
  have b6 : H * H2 % p < p := Nat.mod_lt _ h0
  have b7 : U1 * H2 % p < p := Nat.mod_lt _ h0
  generalize H * H2 % p = H3 at b6 ⊢
  generalize U1 * H2 % p = V at b7 ⊢
  have e8 : (((R : Int) - p) ^ 2 - H3 - 2 * V).fmod p = (((R * R + (p - H3) + 2 * (p - V)) % p : Nat) : Int) := fmN (2 * R - p + 3) (by simp only [Int.natCast_mul, Int.natCast_add, sbN b6, sbN b7]; grind)
  rw [e8]
  have b8 : (R * R + (p - H3) + 2 * (p - V)) % p < p := Nat.mod_lt _ h0
  generalize (R * R + (p - H3) + 2 * (p - V)) % p = nx at b8 ⊢
  refine Prod.ext rfl (Prod.ext ?_ ?_)
  · exact fmN (V - nx + R + S1) (by simp only [Int.natCast_mul, Int.natCast_add, sbN b8, sbN b6]; grind)
  · exact fmN (z * z') (by simp only [Int.natCast_mul]; grind)
theorem jaddN_ok {p : Nat} {a b : N3} (h1 : 1 < p) (ha : ok3 p a) (hb : ok3 p b) : ok3 p (jaddN p a b) := by
  have h0 : 0 < p := by omega
  unfold jaddN
  cases Nat.beq a.2.1 0 with
  | true => exact hb
  | false =>
    cases Nat.beq b.2.1 0 with
    | true => exact ha
    | false =>
      dsimp only [cond]
      split
      · split
        · exact jdblN_ok h0
        · exact ⟨h0, h0, h1⟩
      · exact ⟨Nat.mod_lt _ h0, Nat.mod_lt _ h0, Nat.mod_lt _ h0⟩
/-- the point of a triple is Q -/
def nodeIs (p : Nat) (J : N3) (Q : Nat × Nat) : Bool :=
  cond (Nat.beq J.2.2 0) (eqN Q (0, 0)) (Nat.beq J.1 (Q.1 * (J.2.2 * J.2.2) % p) && Nat.beq J.2.1 (Q.2 * (J.2.2 * J.2.2 * J.2.2) % p))
def invOk (p : Nat) : Prop := ∀ z : Nat, 0 < z → z < p → (invM z p * z) % (p : Int) = 1
theorem nodeIs_is {p : Nat} {J : N3} {Q : Nat × Nat} (hi : invOk p) (hJ : ok3 p J) (hQ : okN p Q) (h : nodeIs p J Q = true) : fromJ p (up3 J) = up Q := by
  obtain ⟨x, y, z⟩ := J
  obtain ⟨qx, qy⟩ := Q
  unfold nodeIs at h
  dsimp only at h
  unfold fromJ up3 up
  dsimp only
  by_cases hz : z = 0
  · rw [condT (Nat.beq_eq.mpr hz), eqN_is] at h
    cases h
    subst hz
    have e : invM ((0 : Nat) : Int) p = 0 := by unfold invM; rw [if_pos (show ((0 : Nat) : Int) = 0 from rfl)]
    rw [e]
    refine Prod.ext ?_ ?_
    · show ((x : Int) * 0 ^ 2).fmod p = 0
      rw [show ((x : Int) * 0 ^ 2) = 0 by grind, Int.zero_fmod]
    · show ((y : Int) * 0 ^ 3).fmod p = 0
      rw [show ((y : Int) * 0 ^ 3) = 0 by grind, Int.zero_fmod]
  · rw [condF (Bool.eq_false_iff.mpr fun q => hz (Nat.beq_eq.mp q)), Bool.and_eq_true, Nat.beq_eq, Nat.beq_eq] at h
    obtain ⟨hx, hy⟩ := h
    have hiz := hi z (by omega) hJ.2.2
    generalize invM (z : Int) p = i at hiz ⊢
    have t1 := Int.mul_ediv_add_emod (i * z) p
    rw [hiz] at t1
    generalize (i * z) / (p : Int) = t at t1
    have s1 := Int.mul_ediv_add_emod ((qx : Int) * ((z : Int) * z)) p
    rw [show ((qx : Int) * ((z : Int) * z)) % p = x by rw [hx, Int.natCast_emod, Int.natCast_mul, Int.natCast_mul]] at s1
    generalize ((qx : Int) * ((z : Int) * z)) / (p : Int) = s at s1
    have s2 := Int.mul_ediv_add_emod ((qy : Int) * ((z : Int) * z * z)) p
    rw [show ((qy : Int) * ((z : Int) * z * z)) % p = y by rw [hy, Int.natCast_emod, Int.natCast_mul, Int.natCast_mul, Int.natCast_mul]] at s2
    generalize ((qy : Int) * ((z : Int) * z * z)) / (p : Int) = s' at s2
    have q1 := fmN (p := p) (N := qx) (E := (x : Int) * i ^ 2) (s * i ^ 2 - qx * (2 * t + p * t ^ 2)) (by clear hiz hx hy hi hJ hQ; grind)
    have q2 := fmN (p := p) (N := qy) (E := (y : Int) * i ^ 3) (s' * i ^ 3 - qy * (3 * t + 3 * p * t ^ 2 + p ^ 2 * t ^ 3)) (by clear hiz hx hy hi hJ hQ; grind)
    rw [q1, q2, Nat.mod_eq_of_lt hQ.1, Nat.mod_eq_of_lt hQ.2]
/-- the multiples below N, upon natural numbers -/
def treeN (p N : Nat) (A : N3) (chk : Nat → N3 → Bool) : Nat → Nat → N3 → Bool
  | 0, m, _ => Nat.ble N m
  | d + 1, m, J => Nat.ble N m || (chk m J && (treeN p N A chk d (2 * m) (jdblN p J) && treeN p N A chk d (2 * m + 1) (jaddN p (jdblN p J) A)))
theorem treeN_is {p N : Nat} {A : N3} {chk : Nat → N3 → Bool} {chk' : Nat → Int × Int → Bool} (h1 : 1 < p) (hA : ok3 p A) (hc : ∀ m J, ok3 p J → chk m J = true → chk' m (fromJ p (up3 J)) = true) :
    ∀ (d m : Nat) (J : N3), ok3 p J → treeN p N A chk d m J = true → mulTree p N (up3 A) chk' d m (up3 J) = true := by
  have h0 : 0 < p := by omega
  intro d
  induction d with
  | zero => exact fun _ _ _ h => h
  | succ d ih =>
    intro m J hJ h
    rw [treeN, Bool.or_eq_true, Bool.and_eq_true, Bool.and_eq_true] at h
    rw [mulTree, Bool.or_eq_true, Bool.and_eq_true, Bool.and_eq_true]
    rcases h with h | ⟨h2, h3, h4⟩
    · exact .inl h
    · refine .inr ⟨hc m J hJ h2, ?_, ?_⟩
      · rw [jdblN_is h0]
        exact ih _ _ (jdblN_ok h0) h3
      · rw [jdblN_is h0, jaddN_is h0]
        exact ih _ _ (jaddN_ok h1 (jdblN_ok h0) hA) h4
end Mine
end

-- Law4
section
open PySem PySem.W
set_option maxRecDepth 100000
namespace Mine
def dblN (p : Nat) (bits : List Bool) : Nat → Nat × Nat → Nat → Option (Nat × Nat)
  | 0, h, _ => some h
  | f + 1, h, z => cond (Nat.ble 2 z) (match slopeN p bits h h with
    | none => none
    | some s => dblN p bits f (sumN p h h s) (z / 2)) (some h)
theorem dblN_is {p : Nat} {bits : List Bool} (hp : 2 ≤ p) (hb : bits = bitsN (p - 2)) : ∀ (f : Nat) (h : Nat × Nat) (z : Nat), okN p h → dblGo p f (up h) z = (dblN p bits f h z).map up
  | 0, _, _, _ => rfl
  | f + 1, h, z, hh => by
    rw [dblGo, dblN, slopeN_is hp hb hh]
    by_cases hz : 2 ≤ z
    · rw [if_pos (by omega), condT (Nat.ble_eq.mpr hz)]
      cases slopeN p bits h h with
      | none => rfl
      | some s =>
        simp only [Option.map_some]
        rw [sumN_is (by omega) hh hh, show (z : Int).fdiv 2 = ((z / 2 : Nat) : Int) by rw [Int.fdiv_eq_ediv_of_nonneg _ (by decide)]; omega]
        exact dblN_is hp hb f _ _ (sumN_ok (by omega))
    · rw [if_neg (by omega), condF (Bool.eq_false_iff.mpr fun q => hz (Nat.ble_eq.mp q))]
      rfl
def yN (p : Nat) (bits : List Bool) (x : Nat) : Nat := pwN bits ((x * x * x + x) % p) p
theorem pwN_lt {p : Nat} (h1 : 1 < p) (b : Nat) : ∀ (bits : List Bool), pwN bits b p < p := by
  have key : ∀ (bits : List Bool) (acc : Nat), acc < p → bits.foldl (fun acc t => cond t (acc * acc % p * b % p) (acc * acc % p)) acc < p := by
    intro bits
    induction bits with
    | nil => exact fun _ h => h
    | cons t r ih =>
      intro acc h
      rw [List.foldl_cons]
      apply ih
      cases t <;> exact Nat.mod_lt _ (by omega)
  exact fun bits => key bits _ (Nat.mod_lt _ (by omega))
def findN (p n : Nat) (bits bits4 : List Bool) : Nat → Nat → Option (Nat × Nat)
  | 0, _ => none
  | f + 1, x => cond (Nat.beq ((yN p bits4 x * yN p bits4 x + (p - x * x * x % p) + (p - x)) % p) 0) (match dblN p bits 10 (x, yN p bits4 x) ((p + 1) / n) with
      | none => findN p n bits bits4 f ((x + 1) % p)
      | some P => some P) (findN p n bits bits4 f ((x + 1) % p))
theorem findN_is {p n : Nat} {bits bits4 : List Bool} (hp : 2 ≤ p) (hb : bits = bitsN (p - 2)) (hb4 : bits4 = bitsN ((p + 1) / 4)) : ∀ (f x : Nat), x < p → findGo p n f x = (findN p n bits bits4 f x).map up
  | 0, _, _ => rfl
  | f + 1, x, hx => by
    have e4 : ((p : Int) + 1).fdiv 4 = (((p + 1) / 4 : Nat) : Int) := by rw [Int.fdiv_eq_ediv_of_nonneg _ (by decide)]; omega
    have ey : yOf p x = (yN p bits4 x : Nat) := by
      unfold yOf yN
      rw [e4]
      exact pwN_is (c := 0) hb4 (by simp only [Int.natCast_add, Int.natCast_mul]; grind)
    have yl : yN p bits4 x < p := pwN_lt (by omega) _ _
    have ez : ((p : Int) + 1).fdiv n = (((p + 1) / n : Nat) : Int) := by rw [Int.fdiv_eq_ediv_of_nonneg _ (by omega), Int.natCast_ediv, Int.natCast_add]; rfl
    have ex : ((x : Int) + 1).fmod p = (((x + 1) % p : Nat) : Int) := fmN 0 (by simp only [Int.natCast_add]; grind)
    have t1 := Nat.div_add_mod (x * x * x) p
    have bl : x * x * x % p < p := Nat.mod_lt _ (by omega)
    have ec : ((yN p bits4 x : Int) * yN p bits4 x - (x : Int) ^ 3 - x).fmod p = (((yN p bits4 x * yN p bits4 x + (p - x * x * x % p) + (p - x)) % p : Nat) : Int) :=
      fmN (((x * x * x / p : Nat) : Int) + 2) (by
        have t2 : ((p * (x * x * x / p) + x * x * x % p : Nat) : Int) = ((x * x * x : Nat) : Int) := by rw [t1]
        simp only [Int.natCast_add, Int.natCast_mul, sbN hx, sbN bl] at t2 ⊢
        grind)
    rw [findGo, findN, ey, ec, ez, ex]
    have rec1 := findN_is (n := n) hp hb hb4 f ((x + 1) % p) (Nat.mod_lt _ (by omega))
    by_cases hc : (yN p bits4 x * yN p bits4 x + (p - x * x * x % p) + (p - x)) % p = 0
    · rw [if_pos (by omega), condT (Nat.beq_eq.mpr hc), show ((x : Int), ((yN p bits4 x : Nat) : Int)) = up (x, yN p bits4 x) from rfl, dblN_is hp hb 10 _ _ ⟨hx, yl⟩]
      cases dblN p bits 10 (x, yN p bits4 x) ((p + 1) / n) with
      | none => exact rec1
      | some P => rfl
    · rw [if_neg (by omega), condF (Bool.eq_false_iff.mpr fun q => hc (Nat.beq_eq.mp q))]
      exact rec1
/-- the point (or the power) of a number, out of a table -/
def getN (l : List (Nat × Nat)) (i : Nat) : Nat × Nat := l.getD i (0, 0)
def trip (a : Nat × Nat) : N3 := (a.1, a.2, 1)
def findChk (p N : Nat) (bits bits4 : List Bool) (P : List (Nat × Nat)) (x : Nat) : Bool := match findN p N bits bits4 200 x with
  | none => false
  | some Q => (List.range (N - 1)).any fun a => eqN Q (getN P (a + 1))
/-- all that is asked of one multiple -/
def row (p k N NN e : Nat) (bits : List Bool) (P G : List (Nat × Nat)) (a : Nat) : Bool :=
  (Nat.beq a 0 || ((!Nat.beq (getN P a).2 0 && treeN p NN (trip (getN P a)) (fun m J => nodeIs p J (getN P (a * m % N))) 9 1 (trip (getN P a))) &&
      (List.range (N - 1)).all fun b => nodeIs p (jaddN p (trip (getN P a)) (trip (getN P (b + 1)))) (getN P ((a + (b + 1)) % N)))) &&
    (((List.range N).all fun b => pairIs p N k e bits (getN P a) (getN P b) (getN G (a * b % N))) && (List.range N).all fun b => eqN (mulN p (getN G a) (getN G b)) (getN G ((a + b) % N)))
def rowsAt (f : Nat → Bool) (lo len : Nat) : Bool := (List.range len).all fun i => f (lo + i)
theorem rows_is {f : Nat → Bool} {lo len : Nat} (h : rowsAt f lo len = true) : ∀ a, lo ≤ a → a < lo + len → f a = true := fun a h1 h2 => by
  have := List.all_eq_true.mp h (a - lo) (List.mem_range.mpr (by omega))
  rwa [show lo + (a - lo) = a by omega] at this
theorem rows_on {f : Nat → Bool} {lo mid hi : Nat} (h1 : ∀ a, lo ≤ a → a < mid → f a = true) (h2 : ∀ a, mid ≤ a → a < hi → f a = true) : ∀ a, lo ≤ a → a < hi → f a = true := fun a ha hb => by
  by_cases h : a < mid
  · exact h1 a ha h
  · exact h2 a (by omega) hb
def inN (p : Nat) (v : Nat × Nat) : Bool := Nat.ble (v.1 + 1) p && Nat.ble (v.2 + 1) p
theorem inN_is {p : Nat} {v : Nat × Nat} (h : inN p v = true) : okN p v := by
  unfold inN at h
  rw [Bool.and_eq_true, Nat.ble_eq, Nat.ble_eq] at h
  exact h
theorem up_in {p : Nat} {v : Nat × Nat} (h : okN p v) : InP p (up v) := ⟨⟨Int.natCast_nonneg _, Int.ofNat_lt.mpr h.1⟩, ⟨Int.natCast_nonneg _, Int.ofNat_lt.mpr h.2⟩⟩
def smalls (p N : Nat) (P G : List (Nat × Nat)) : Bool :=
  ((List.range N).all fun a => inN p (getN P a) && inN p (getN G a)) && (eqN (getN G 0) (1, 0) && (eqN (getN P 0) (0, 0) && ((List.range (N - 1)).all fun a => !eqN (getN G (a + 1)) (1, 0) && (List.range (N - 1)).all fun b => !Nat.beq ((a + 1) * (b + 1) % N) 0)))
def invs (p : Nat) : Bool := (List.range (p - 1)).all fun z => decide ((invM ((z + 1 : Nat) : Int) p * ((z + 1 : Nat) : Int)) % (p : Int) = 1)
theorem WF.of {p k N NN c e : Nat} {bits bits4 : List Bool} {P G : List (Nat × Nat)} (h2 : 2 < p) (hp : NN = p + 1) (hc : NN = N * c) (hN : NN ≤ 256) (n1 : 1 < N) (n2 : N ≤ 41) (c0 : 0 < c)
    (he : ((p : Int) * p - 1).fdiv N = e) (hb : bits = bitsN (p - 2)) (hb4 : bits4 = bitsN ((p + 1) / 4)) (hi : invs p = true) (hs : smalls p N P G = true)
    (hf : ∀ a, 0 ≤ a → a < p → findChk p N bits bits4 P a = true) (hr : ∀ a, 0 ≤ a → a < N → row p k N NN e bits P G a = true) :
    WF p k N (fun i => up (getN P i)) (fun i => up (getN G i)) := by
  unfold smalls at hs
  rw [Bool.and_eq_true, Bool.and_eq_true, Bool.and_eq_true, eqN_is, eqN_is] at hs
  obtain ⟨hs0, hg0, hp0, hg1⟩ := hs
  have hNN : N ≤ NN := hc ▸ Nat.le_mul_of_pos_right N c0
  have hinv : invOk p := fun z z0 z1 => by
    have h := of_decide_eq_true (List.all_eq_true.mp hi (z - 1) (List.mem_range.mpr (by omega)))
    rwa [show z - 1 + 1 = z by omega] at h
  have hr' : ∀ a, a < N → _ := fun a ha => (Bool.and_eq_true _ _).mp (hr a (Nat.zero_le _) ha)
  have pos : ∀ a, 0 < a → Nat.beq a 0 = false := fun a h => Bool.eq_false_iff.mpr fun q => by rw [Nat.beq_eq] at q; omega
  have hs' : ∀ a, a < N → _ := fun a ha => (Bool.and_eq_true _ _).mp (List.all_eq_true.mp hs0 a (List.mem_range.mpr ha))
  have okP : ∀ a, a < N → okN p (getN P a) := fun a ha => inN_is (hs' a ha).1
  have ok3P : ∀ a, a < N → ok3 p (trip (getN P a)) := fun a ha => ⟨(okP a ha).1, (okP a ha).2, by show 1 < p; omega⟩
  have ml : ∀ u : Nat, u % N < N := fun u => Nat.mod_lt u (by omega)
  have hq : ∀ a, 0 < a → a < N → _ := fun a h0 h1 => (Bool.and_eq_true _ _).mp (List.all_eq_true.mp hg1 (a - 1) (List.mem_range.mpr (by omega)))
  constructor
  · exact n1
  · exact n2
  · intro x h0 h1
    obtain ⟨u, rfl⟩ : ∃ u : Nat, x = u := ⟨x.toNat, by omega⟩
    have h := hf u (Nat.zero_le _) (by omega)
    unfold findChk at h
    rw [findN_is (by omega) hb hb4 200 u (by omega)]
    split at h
    · cases h
    · next Q e =>
      obtain ⟨a, ha, hh⟩ := List.any_eq_true.mp h
      have := List.mem_range.mp ha
      exact ⟨a + 1, by omega, by omega, by rw [e, eqN_is.mp hh]; rfl⟩
  · exact fun a ha => up_in (okP a ha)
  · exact fun a ha => up_in (inN_is (hs' a ha).2)
  · intro a b ha hb'
    exact pairIs_is (by omega) hb (okP a ha) he (List.all_eq_true.mp ((Bool.and_eq_true _ _).mp (hr' a ha).2).1 b (List.mem_range.mpr hb'))
  · intro a a0 ha m
    have h := (hr' a ha).1
    rw [pos a a0, Bool.false_or, Bool.and_eq_true, Bool.and_eq_true] at h
    obtain ⟨⟨hy, ht⟩, -⟩ := h
    have hy' : (getN P a).2 ≠ 0 := fun q => by rw [q] at hy; cases hy
    have t0 := treeN_is (chk' := fun m v => eqP v (up (getN P (a * m % N)))) (by omega) (ok3P a ha) (fun m J hJ h => by
      rw [nodeIs_is hinv hJ (okP _ (ml _)) h]
      unfold eqP
      rw [decide_eq_true rfl, decide_eq_true rfl]
      rfl) 9 1 _ (ok3P a ha) ht
    have t := eqP_is (mulTree_all (by show ((getN P a).2 : Int) ≠ 0; omega) t0 (by
      rw [Nat.mul_zero, Nat.zero_mod, hp0]
      rfl) hN (by omega) m)
    have e1 : mulP p (up (getN P a)) m = fromJ p (jmul 9 p NN (up3 (trip (getN P a))) m) := by
      unfold mulP
      rw [hp, Int.natCast_add]
      rfl
    rw [e1, t]
    congr 2
    apply Int.ofNat.inj
    show ((a * (m % (NN : Int)).toNat % N : Nat) : Int) = (((a : Int) * m % N).toNat : Int)
    rw [Int.toNat_of_nonneg (Int.emod_nonneg _ (by omega)), Int.natCast_emod, Int.natCast_mul, Int.toNat_of_nonneg (Int.emod_nonneg _ (by omega)), Int.mul_emod, Int.emod_emod_of_dvd m ⟨(c : Int), by rw [hc, Int.natCast_mul]⟩, ← Int.mul_emod]
  · intro a b a0 ha b0 hb'
    have h := (hr' a ha).1
    rw [pos a a0, Bool.false_or, Bool.and_eq_true] at h
    have t := List.all_eq_true.mp h.2 (b - 1) (List.mem_range.mpr (by omega))
    rw [show b - 1 + 1 = b by omega] at t
    have e1 : addP p (up (getN P a)) (up (getN P b)) = fromJ p (jadd p (up3 (trip (getN P a))) (up3 (trip (getN P b)))) := rfl
    rw [e1, jaddN_is (by omega)]
    exact nodeIs_is hinv (jaddN_ok (by omega) (ok3P a ha) (ok3P b hb')) (okP _ (ml _)) t
  · intro a b ha hb'
    rw [mulN_is (inN_is (hs' a ha).2), eqN_is.mp (List.all_eq_true.mp ((Bool.and_eq_true _ _).mp (hr' a ha).2).2 b (List.mem_range.mpr hb'))]
  · show up (getN G 0) = (1, 0)
    rw [hg0]
    rfl
  · intro a a0 ha e
    have h := (hq a a0 ha).1
    rw [show a - 1 + 1 = a by omega, up_inj.mp (show up (getN G a) = up (1, 0) from e)] at h
    cases h
  · intro a b a0 ha b0 hb' e
    have h := List.all_eq_true.mp (hq a a0 ha).2 (b - 1) (List.mem_range.mpr (by omega))
    rw [show a - 1 + 1 = a by omega, show b - 1 + 1 = b by omega, e] at h
    cases h
def pts11 : List (Nat × Nat) := [(0, 0), (5, 3), (5, 8)]
def gt11 : List (Nat × Nat) := [(1, 0), (5, 3), (5, 8)]
def bits11 : List Bool := [true, false, false, true]
def four11 : List Bool := [true, true]
theorem r11_0 : rowsAt (row 11 1 3 12 40 bits11 pts11 gt11) 0 3 = true := by decide +kernel
theorem f11 : rowsAt (findChk 11 3 bits11 four11 pts11) 0 11 = true := by decide +kernel
theorem world11 : WF 11 1 3 (fun i => up (getN pts11 i)) (fun i => up (getN gt11 i)) :=
  WF.of (p := 11) (NN := 12) (c := 4) (e := 40) (bits := bits11) (bits4 := four11) (by decide) (by decide) (by decide) (by decide) (by decide) (by decide) (by decide)
    (by decide +kernel) (by decide +kernel) (by decide +kernel) (by decide +kernel) (by decide +kernel)
    (fun a h0 h1 => rows_is f11 a h0 (by omega))
    (rows_is r11_0)
def pts19 : List (Nat × Nat) := [(0, 0), (5, 4), (9, 15), (9, 4), (5, 15)]
def gt19 : List (Nat × Nat) := [(1, 0), (7, 3), (2, 4), (2, 15), (7, 16)]
def bits19 : List Bool := [true, false, false, false, true]
def four19 : List Bool := [true, false, true]
theorem r19_0 : rowsAt (row 19 2 5 20 72 bits19 pts19 gt19) 0 5 = true := by decide +kernel
theorem f19 : rowsAt (findChk 19 5 bits19 four19 pts19) 0 19 = true := by decide +kernel
theorem world19 : WF 19 2 5 (fun i => up (getN pts19 i)) (fun i => up (getN gt19 i)) :=
  WF.of (p := 19) (NN := 20) (c := 4) (e := 72) (bits := bits19) (bits4 := four19) (by decide) (by decide) (by decide) (by decide) (by decide) (by decide) (by decide)
    (by decide +kernel) (by decide +kernel) (by decide +kernel) (by decide +kernel) (by decide +kernel)
    (fun a h0 h1 => rows_is f19 a h0 (by omega))
    (rows_is r19_0)
def pts23 : List (Nat × Nat) := [(0, 0), (18, 13), (18, 10)]
def gt23 : List (Nat × Nat) := [(1, 0), (11, 15), (11, 8)]
def bits23 : List Bool := [true, false, true, false, true]
def four23 : List Bool := [true, true, false]
theorem r23_0 : rowsAt (row 23 1 3 24 176 bits23 pts23 gt23) 0 3 = true := by decide +kernel
theorem f23 : rowsAt (findChk 23 3 bits23 four23 pts23) 0 23 = true := by decide +kernel
theorem world23 : WF 23 1 3 (fun i => up (getN pts23 i)) (fun i => up (getN gt23 i)) :=
  WF.of (p := 23) (NN := 24) (c := 8) (e := 176) (bits := bits23) (bits4 := four23) (by decide) (by decide) (by decide) (by decide) (by decide) (by decide) (by decide)
    (by decide +kernel) (by decide +kernel) (by decide +kernel) (by decide +kernel) (by decide +kernel)
    (fun a h0 h1 => rows_is f23 a h0 (by omega))
    (rows_is r23_0)
def pts43 : List (Nat × Nat) := [(0, 0), (31, 18), (4, 38), (23, 35), (13, 19), (14, 36), (14, 7), (13, 24), (23, 8), (4, 5), (31, 25)]
def gt43 : List (Nat × Nat) := [(1, 0), (7, 9), (11, 40), (18, 35), (26, 20), (2, 30), (2, 13), (26, 23), (18, 8), (11, 3), (7, 34)]
def bits43 : List Bool := [true, false, true, false, false, true]
def four43 : List Bool := [true, false, true, true]
theorem r43_0 : rowsAt (row 43 3 11 44 168 bits43 pts43 gt43) 0 11 = true := by decide +kernel
theorem f43 : rowsAt (findChk 43 11 bits43 four43 pts43) 0 43 = true := by decide +kernel
theorem world43 : WF 43 3 11 (fun i => up (getN pts43 i)) (fun i => up (getN gt43 i)) :=
  WF.of (p := 43) (NN := 44) (c := 4) (e := 168) (bits := bits43) (bits4 := four43) (by decide) (by decide) (by decide) (by decide) (by decide) (by decide) (by decide)
    (by decide +kernel) (by decide +kernel) (by decide +kernel) (by decide +kernel) (by decide +kernel)
    (fun a h0 h1 => rows_is f43 a h0 (by omega))
    (rows_is r43_0)
def pts47 : List (Nat × Nat) := [(0, 0), (17, 18), (17, 29)]
def gt47 : List (Nat × Nat) := [(1, 0), (23, 6), (23, 41)]
def bits47 : List Bool := [true, false, true, true, false, true]
def four47 : List Bool := [true, true, false, false]
theorem r47_0 : rowsAt (row 47 1 3 48 736 bits47 pts47 gt47) 0 3 = true := by decide +kernel
theorem f47 : rowsAt (findChk 47 3 bits47 four47 pts47) 0 47 = true := by decide +kernel
theorem world47 : WF 47 1 3 (fun i => up (getN pts47 i)) (fun i => up (getN gt47 i)) :=
  WF.of (p := 47) (NN := 48) (c := 16) (e := 736) (bits := bits47) (bits4 := four47) (by decide) (by decide) (by decide) (by decide) (by decide) (by decide) (by decide)
    (by decide +kernel) (by decide +kernel) (by decide +kernel) (by decide +kernel) (by decide +kernel)
    (fun a h0 h1 => rows_is f47 a h0 (by omega))
    (rows_is r47_0)
def pts67 : List (Nat × Nat) := [(0, 0), (62, 2), (36, 23), (9, 66), (21, 61), (17, 46), (59, 4), (6, 50), (64, 38), (64, 29), (6, 17), (59, 63), (17, 21), (21, 6), (9, 1), (36, 44), (62, 65)]
def gt67 : List (Nat × Nat) := [(1, 0), (50, 39), (41, 14), (30, 21), (11, 9), (65, 8), (57, 54), (7, 32), (40, 64), (40, 3), (7, 35), (57, 13), (65, 59), (11, 58), (30, 46), (41, 53), (50, 28)]
def bits67 : List Bool := [true, false, false, false, false, false, true]
def four67 : List Bool := [true, false, false, false, true]
theorem r67_0 : rowsAt (row 67 4 17 68 264 bits67 pts67 gt67) 0 9 = true := by decide +kernel
theorem r67_9 : rowsAt (row 67 4 17 68 264 bits67 pts67 gt67) 9 8 = true := by decide +kernel
theorem f67 : rowsAt (findChk 67 17 bits67 four67 pts67) 0 67 = true := by decide +kernel
theorem world67 : WF 67 4 17 (fun i => up (getN pts67 i)) (fun i => up (getN gt67 i)) :=
  WF.of (p := 67) (NN := 68) (c := 4) (e := 264) (bits := bits67) (bits4 := four67) (by decide) (by decide) (by decide) (by decide) (by decide) (by decide) (by decide)
    (by decide +kernel) (by decide +kernel) (by decide +kernel) (by decide +kernel) (by decide +kernel)
    (fun a h0 h1 => rows_is f67 a h0 (by omega))
    (rows_on (rows_is r67_0) (rows_is r67_9))
def pts103 : List (Nat × Nat) := [(0, 0), (49, 22), (18, 44), (26, 68), (32, 47), (68, 12), (83, 23), (83, 80), (68, 91), (32, 56), (26, 35), (18, 59), (49, 81)]
def gt103 : List (Nat × Nat) := [(1, 0), (22, 54), (40, 7), (90, 48), (6, 45), (71, 78), (28, 91), (28, 12), (71, 25), (6, 58), (90, 55), (40, 96), (22, 49)]
def bits103 : List Bool := [true, true, false, false, true, false, true]
def four103 : List Bool := [true, true, false, true, false]
theorem r103_0 : rowsAt (row 103 3 13 104 816 bits103 pts103 gt103) 0 7 = true := by decide +kernel
theorem r103_7 : rowsAt (row 103 3 13 104 816 bits103 pts103 gt103) 7 6 = true := by decide +kernel
theorem f103 : rowsAt (findChk 103 13 bits103 four103 pts103) 0 103 = true := by decide +kernel
theorem world103 : WF 103 3 13 (fun i => up (getN pts103 i)) (fun i => up (getN gt103 i)) :=
  WF.of (p := 103) (NN := 104) (c := 8) (e := 816) (bits := bits103) (bits4 := four103) (by decide) (by decide) (by decide) (by decide) (by decide) (by decide) (by decide)
    (by decide +kernel) (by decide +kernel) (by decide +kernel) (by decide +kernel) (by decide +kernel)
    (fun a h0 h1 => rows_is f103 a h0 (by omega))
    (rows_on (rows_is r103_0) (rows_is r103_7))
def pts163 : List (Nat × Nat) := [(0, 0), (88, 63), (121, 19), (155, 135), (53, 33), (56, 11), (14, 98), (119, 64), (71, 69), (144, 91), (135, 158), (158, 14), (43, 150), (85, 29), (46, 87), (26, 18), (36, 143), (160, 123), (47, 107), (34, 50), (95, 47), (95, 116), (34, 113), (47, 56), (160, 40), (36, 20), (26, 145), (46, 76), (85, 134), (43, 13), (158, 149), (135, 5), (144, 72), (71, 94), (119, 99), (14, 65), (56, 152), (53, 130), (155, 28), (121, 144), (88, 100)]
def gt163 : List (Nat × Nat) := [(1, 0), (146, 53), (88, 154), (122, 90), (2, 46), (136, 139), (101, 118), (16, 87), (7, 21), (72, 14), (153, 155), (105, 95), (26, 38), (152, 80), (22, 13), (78, 130), (97, 131), (47, 143), (98, 60), (44, 99), (36, 160), (36, 3), (44, 64), (98, 103), (47, 20), (97, 32), (78, 33), (22, 150), (152, 83), (26, 125), (105, 68), (153, 8), (72, 149), (7, 142), (16, 76), (101, 45), (136, 24), (2, 117), (122, 73), (88, 9), (146, 110)]
def bits163 : List Bool := [true, false, true, false, false, false, false, true]
def four163 : List Bool := [true, false, true, false, false, true]
theorem r163_0 : rowsAt (row 163 5 41 164 648 bits163 pts163 gt163) 0 6 = true := by decide +kernel
theorem r163_6 : rowsAt (row 163 5 41 164 648 bits163 pts163 gt163) 6 6 = true := by decide +kernel
theorem r163_12 : rowsAt (row 163 5 41 164 648 bits163 pts163 gt163) 12 6 = true := by decide +kernel
theorem r163_18 : rowsAt (row 163 5 41 164 648 bits163 pts163 gt163) 18 6 = true := by decide +kernel
theorem r163_24 : rowsAt (row 163 5 41 164 648 bits163 pts163 gt163) 24 6 = true := by decide +kernel
theorem r163_30 : rowsAt (row 163 5 41 164 648 bits163 pts163 gt163) 30 6 = true := by decide +kernel
theorem r163_36 : rowsAt (row 163 5 41 164 648 bits163 pts163 gt163) 36 5 = true := by decide +kernel
theorem f163 : rowsAt (findChk 163 41 bits163 four163 pts163) 0 163 = true := by decide +kernel
theorem world163 : WF 163 5 41 (fun i => up (getN pts163 i)) (fun i => up (getN gt163 i)) :=
  WF.of (p := 163) (NN := 164) (c := 4) (e := 648) (bits := bits163) (bits4 := four163) (by decide) (by decide) (by decide) (by decide) (by decide) (by decide) (by decide)
    (by decide +kernel) (by decide +kernel) (by decide +kernel) (by decide +kernel) (by decide +kernel)
    (fun a h0 h1 => rows_is f163 a h0 (by omega))
    (rows_on (rows_on (rows_on (rows_on (rows_on (rows_on (rows_is r163_0) (rows_is r163_6)) (rows_is r163_12)) (rows_is r163_18)) (rows_is r163_24)) (rows_is r163_30)) (rows_is r163_36))
theorem WP.world {p n : Int} {k : Nat} (h : WP p n k) : ∃ (N : Nat) (pts gt : Nat → Int × Int), n = N ∧ WF p k N pts gt := by
  rcases h with ⟨rfl, rfl, rfl⟩ | ⟨rfl, rfl, rfl⟩ | ⟨rfl, rfl, rfl⟩ | ⟨rfl, rfl, rfl⟩ | ⟨rfl, rfl, rfl⟩ | ⟨rfl, rfl, rfl⟩ | ⟨rfl, rfl, rfl⟩ | ⟨rfl, rfl, rfl⟩
  · exact ⟨_, _, _, rfl, world11⟩
  · exact ⟨_, _, _, rfl, world19⟩
  · exact ⟨_, _, _, rfl, world23⟩
  · exact ⟨_, _, _, rfl, world43⟩
  · exact ⟨_, _, _, rfl, world47⟩
  · exact ⟨_, _, _, rfl, world67⟩
  · exact ⟨_, _, _, rfl, world103⟩
  · exact ⟨_, _, _, rfl, world163⟩
/-- the plain law -/
theorem plain_law {p n : Int} {k : Nat} (h : WP p n k) (c0 c1 c2 c3 c4 : Int) : ∃ (R : Nat → Int × Int) (v mm z qq : Int × Int),
    (∀ j, j ≤ 1 → findGo p n 200 (([c0, c1, c2, c3, c4].getD (j + 1) 0).fmod p) = some (R j)) ∧ LawOk p n k (R 0) (R 1) c3 c4 v mm z qq := by
  have p0 := h.facts.1
  obtain ⟨N, pts, gt, rfl, W⟩ := h.world
  have bd : ∀ x : Int, 0 ≤ x.fmod p ∧ x.fmod p < p := fun x => ⟨Int.fmod_nonneg_of_pos _ (by omega), Int.fmod_lt_of_pos _ (by omega)⟩
  obtain ⟨a, a0, a1, ha⟩ := W.find _ (bd c1).1 (bd c1).2
  obtain ⟨b, b0, b1, hb⟩ := W.find _ (bd c2).1 (bd c2).2
  obtain ⟨v, mm, z, qq, ok⟩ := W.law a0 a1 b0 b1 c3 c4
  refine ⟨fun j => if j = 0 then pts a else pts b, v, mm, z, qq, fun j hj => ?_, ok⟩
  rcases j with _ | _ | j
  · exact ha
  · exact hb
  · omega
end Mine
end

-- Law2
section
open PySem PySem.W PyProof.Rows PySem.Spec PySem.Calls PyProof.Rows.LCg
set_option maxRecDepth 100000
set_option maxHeartbeats 8000000
namespace Mine
theorem law_post {M : Model} {A : Around} {cd : Code} {s s₁ : Shared} {cl : Str → Option Addr} {mean : ExcName → Option Value} {args : List WData} (hT : TabsAt [(102, 100)] s₁.heap)
    (h : codeAny M A cd (fun r s' => r = .ok (.ret (.bool true)) ∧ (∀ b o, (ghostOf s₁.heap [(102, 100)]).get? b = some o → s'.heap.get? b = some o) ∧ GrownAt 100 s'.heap ∧ s'.os = s₁.os ∧ AllBare s'.gens) s) :
    codeAny M A cd (GoodWG PySem.Challenge.rw_bb0064_01.row.claim cl mean args s₁) s :=
  codeAny_mono h fun r s' ⟨hr, hk, hgr, hos, hg⟩ => by
    have keep : ∀ b o, b ≠ 100 → s₁.heap.get? b = some o → s'.heap.get? b = some o := fun b o hb e => hk b o (ghost_ne e (by simpa using hb))
    have grown : ∀ o, s₁.heap.get? 100 = some o → isCodeTable s₁.heap 100 ∧ o = tabObj #[] := fun o e => by
      have e2 := (hT (102, 100) (.head _)).2
      rw [e] at e2
      exact ⟨((hT (102, 100) (.head _)).1.tab (hT (102, 100) (.head _)).2).isCodeTable, Option.some.inj e2⟩
    obtain ⟨ps, hP⟩ := hgr
    have hs : PySem.W.same (WData.bool true) (WData.bool true) = true := by first | rfl | decide +kernel | simp [PySem.W.same]
    refine ⟨.inl ⟨.bool true, .bool true, [], hr, fun _ => rfl, ?_, ?_, fun _ => ⟨List.nodup_nil, fun a ha => nomatch ha⟩⟩, ⟨fun b o e => ?_, fun b o e => ?_⟩, hos, hg⟩
    · exact .bool _
    · show WTm.holds [] (WTm.res.eq (.lit (.bool true))) { args := args, res := some (.bool true), after := args } = true
      simp only [WTm.holds, WTm.value, hs]
    · by_cases hb : b = 100
      · subst hb
        obtain ⟨ht, rfl⟩ := grown o e
        exact .inr (.inl ⟨ht, rfl, #[], ps, rfl, by rw [Array.empty_append]; exact hP⟩)
      · exact .inl (keep b o hb e)
    · by_cases hb : b = 100
      · subst hb
        exact ⟨_, hP⟩
      · exact ⟨o, keep b o hb e⟩
theorem len_l {prog : Program} {w : World} {A : Around} {E : Value → Shared → Prop} {s : Shared} {h₀ : Heap} {L : Addr} {news : List (Addr × Obj)} {l : Addr} {o : Obj} {us : List Value} {ls : List Int} {n : Nat} {Q : Value → Shared → Prop}
    (N : News h₀ L s.heap news) (hm : (l, o) ∈ news) (hc : o.cls = .type "list") (hd : o.data = .seq us.toArray n) (hi : IntsAre us ls) (hl : ls.length ≤ 1000) (h : Q (.int ls.length (s.toks + 1)) { s with toks := s.toks + 1 + 1 }) :
    wpAny (model prog w) A (call (.builtin "len") [.ref l]) Q E s := by
  have e := IntsAre.length hi
  refine call_len_list (items := us.toArray) ⟨o, (N _ hm).1, hc, n, hd⟩ (by simp only [List.size_toArray]; omega) ?_
  simp only [List.size_toArray]
  rw [e]
  exact h
theorem cut_from {prog : Program} {w : World} {A : Around} {E : Value → Shared → Prop} {hp : Heap} {g : Array GenState} {dr tk os} {h₀ : Heap} {L : Addr} {m : Str → Option Value} {news : List (Addr × Obj)} {value slice : PySem.Expr} {l : Addr} {o : Obj} {us : List Value} {ls : List Int} {n : Nat} {x : Int} {t : Tok} {Q : Value → Shared → Prop}
    (F : Fr h₀ L hp m) (N : News h₀ L hp news) (hm : (l, o) ∈ news) (hc : o.cls = .type "list") (hd : o.data = .seq us.toArray n) (hi : IntsAre us ls) (hl : ls.length ≤ 1000) (h0 : 0 ≤ x)
    (h : ∀ D ws h', Fr h₀ L h' m → News h₀ L h' ((D, listOf (List.toArray ws) 0) :: news) → (∀ p ∈ news, p.1 < D) → IntsAre ws (ls.drop x.toNat) → Q (.ref D) ⟨h', g, dr, tk, os⟩)
    (hs : subscripted slice false (.ref l) (.ref hp.objs.size) = operate [.ref hp.objs.size, .ref l] (getItem (.ref l) (.ref hp.objs.size))) (ht : ∀ r, letTemporaryGo value (.ref l) r = pure ()) :
    wpAny (model prog w) A (subscriptTail value slice (.ref l) (.ref hp.objs.size)) Q E ⟨hp.push { cls := .type "slice", data := .fields #[.int x t, .none, .none] }, g, dr, tk, os⟩ := by
  refine kmk_slice_ints (s := ⟨hp, g, dr, tk, os⟩) F N ⟨o, (N _ hm).1, hc, n, hd⟩ (IsPart.int x t) IsPart.none hi (kmk_from hi h0) rfl (fun D ws h' F' N' l1 hI _ _ => h D ws h' F' N' l1 hI) hs ht ?_
  rw [List.size_toArray, IntsAre.length hi]
  exact Nat.le_trans hl (by decide)
theorem five_of {xs : List Int} {us : List Value} (h : IntsAre us (xs ++ List.drop ((xs.length : Int)).toNat [1, 3, 4, 7, -2])) (hl : xs.length ≤ 5) (hB : ∀ v ∈ xs, Builtin.Int.intBits v ≤ 2 ^ 20) :
    ∃ c0 c1 c2 c3 c4 t0 t1 t2 t3 t4, us = [Value.int c0 t0, .int c1 t1, .int c2 t2, .int c3 t3, .int c4 t4] ∧ Builtin.Int.intBits c3 ≤ 2 ^ 20 ∧ Builtin.Int.intBits c4 ≤ 2 ^ 20 := by
  have hn := IntsAre.length h
  rw [Int.toNat_natCast, List.length_append, List.length_drop] at hn
  have h5 : us.length = 5 := by rw [hn]; simp only [List.length_cons, List.length_nil]; omega
  have hD : ∀ v ∈ [(1 : Int), 3, 4, 7, -2], Builtin.Int.intBits v ≤ 2 ^ 20 := by decide +kernel
  have hY : ∀ v ∈ xs ++ List.drop ((xs.length : Int)).toNat [1, 3, 4, 7, -2], Builtin.Int.intBits v ≤ 2 ^ 20 := fun v hv => by
    rcases List.mem_append.mp hv with hv | hv
    · exact hB v hv
    · exact hD v (List.mem_of_mem_drop hv)
  have key : ∀ v ∈ us, ∃ k t, v = Value.int k t ∧ Builtin.Int.intBits k ≤ 2 ^ 20 := by
    clear hn h5 hl hB hD
    generalize xs ++ _ = ys at h hY
    induction h with
    | nil => exact fun _ h => nomatch h
    | cons k t r ih =>
      intro v hv
      rcases List.mem_cons.mp hv with rfl | hv
      · exact ⟨_, _, rfl, hY _ (.head _)⟩
      · exact ih (fun v h => hY v (.tail _ h)) v hv
  match us, h5 with
  | [a, b, c, d, e], _ =>
    simp only [List.forall_mem_cons] at key
    obtain ⟨⟨c0, t0, rfl, -⟩, ⟨c1, t1, rfl, -⟩, ⟨c2, t2, rfl, -⟩, ⟨c3, t3, rfl, b3⟩, ⟨c4, t4, rfl, b4⟩, -⟩ := key
    exact ⟨_, _, _, _, _, _, _, _, _, _, rfl, b3, b4⟩
local macro_rules | `(tactic| walk_at "subscriptTail Name Slice ref ref") => `(tactic| (k_here; (with_reducible show wpAny _ _ (subscriptTail _ (PySem.Expr.Slice (some _) none none _) (Value.ref _) (Value.ref _)) _ _ _); refine stand ?_))
local macro_rules | `(tactic| walk_at "call builtin:len") => `(tactic| (k_here; k_dflt (refine' len_l ?N ?t ?c ?d ?i ?l ?_; (case N => k_asm); (case t => k_mem); (case c => exact rfl); (case d => exact rfl); (case i => assumption); (case l => (simp only [List.length_take]; omega)); k_whole)))
def S2Go : Prop := True
local macro_rules | `(tactic| walk_at "exec Assign") => `(tactic| (k_here; (fail_if_success (rename S2Go => g9)); (with_reducible show wpAny _ _ (exec (Stmt.Assign [Expr.Tuple _ _ _] (Expr.Subscript _ _ _) _) _) _ _ _); refine stand ?_))
local macro_rules | `(tactic| walk_at "exec For Name Tuple cons nil") => `(tactic| (k_here; refine stand ?_))
local macro_rules | `(tactic| walk_at "pyIter ref") => `(tactic| (k_here; refine stand ?_))
local macro_rules | `(tactic| walk_at "exec While Compare") => `(tactic| (k_here; refine stand ?_))
local macro_rules | `(tactic| walk_at "exec While Compare cons nil") => `(tactic| (k_here; refine stand ?_))
abbrev FP := Addr × (Int × Int) × Tok × Tok
abbrev FP.obj (f : FP) : Addr × Obj := (f.1, tupO [.int f.2.1.1 f.2.2.1, .int f.2.1.2 f.2.2.2])
local macro_rules | `(tactic| walk_at "call builtin:pow") => `(tactic| (k_here; k_dflt (refine' call_pow3 ?k1 ?k2 ?_; (case k1 => first | assumption | omega); (case k2 => omega))))
local macro_rules | `(tactic| tb_start) => `(tactic| first | omega | exact abF (by assumption) (by assumption) | exact abD (by assumption) (by assumption) | exact abP (by omega) (by omega) (by assumption))
local macro_rules | `(tactic| mul_fits) => `(tactic| first | exact okL (by tb_start) | exact okR (by tb_start) | assumption)
local macro_rules | `(tactic| walk_at "binaryOp Pow int int") => `(tactic| (k_here; with_reducible refine pow_int_small (by decide) (by decide) (by tb_start) ?_))
local macro_rules | `(tactic| walk_at "exec While BoolOp") => `(tactic| (k_here; refine stand ?_))
local macro_rules | `(tactic| walk_at "exec While BoolOp cons nil") => `(tactic| (k_here; refine stand ?_))
local macro_rules | `(tactic| walk_at "ite") => `(tactic| (k_here; (with_reducible refine split_ieq ?_ ?_ <;> intro _)))
local macro_rules | `(tactic| k_mem) => `(tactic| (refine memOf ?_; ktr_member))
local macro_rules | `(tactic| k_units) => `(tactic| ktr_units)
local macro_rules | `(tactic| walk_at "call ref") => `(tactic| (k_here; refine stand ?_))
local macro_rules | `(tactic| ktn_open) => `(tactic| ((case k4 => k_asm); (case k1 => k_asm); (case k2 => k_asm); (case k3 => k_asm); (case k5 => k_asm); (case kK => exact rfl); (case kb => assumption); (case kd => ktr_room); (case ku => ktr_units)))
local macro_rules | `(tactic| ktd_sub) => `(tactic| (simp only [El.led, List.cons_append, List.nil_append, List.forall_mem_cons]; (repeat' apply And.intro); all_goals first | exact fun _ h => nomatch h | (simp only [List.mem_cons, true_or, or_true]; done)))
local macro_rules | `(tactic| tb_rel) => `(tactic| first | exact List.forall_mem_nil _ | (refine List.forall_mem_append.mpr (And.intro ?_ ?_) <;> tb_rel) | exact El.cls | (refine List.forall_mem_cons.mpr (And.intro (fun h => nomatch h) ?_); tb_rel))
local macro_rules | `(tactic| walk_at "call builtin:list.append") => `(tactic| (k_here; refine stand ?_))
theorem law_holds : PySem.Challenge.rw_bb0064_01.Holds := Mine.hd2 (by
  k_fill
  intro w s₀ s₁ mg mb G Y fa o pm cd doc dV kV ho hd hcd hD hmg hg args vals as hpre hlay hrd hwl hlo
  have KX := km_in_of Y
  have hT8 := km_tabs_of Y
  have X := (Ground.X G).1
  have V := (Ground.X G).2
  refine Ground.open G ?_
  intro T B D TE TW
  try (refine guard_noD D (by decide +kernel) ?_; clear D)
  have hC : CodeHd s₁.heap 102 100 := codeHd_of_K (c := 102) (P := 100) KX (by kernel_rfl)
  clear hmg
  wrow_args hpre hlay hrd hwl hlo
  have hT9 : TabsAt [(102, 100)] s₁.heap := List.forall_mem_cons.mpr ⟨⟨hC, hT8 100 (.head _)⟩, fun _ h => nomatch h⟩
  refine enter_call ?_
  w_top on
  refine Mine.law_post hT9 ?_
  w_call any ho hd hcd hD T F
  clear hd
  kn_ghosts F T
  k_drop
  (try k_fold)
  have hb0 : AllBare s₁.gens := AllBare.of_eq hg
  (try clear G); (try clear Y); (try clear hcd); (try clear hD); (try clear X); (try clear V); (try clear T); (try clear B); (try clear TE); (try clear TW); (try clear hT8); (try clear hT9); (try clear ho); (try clear hC); (try clear KX); (try clear G)
  k_steps
  unfold Stand
  dsimp only
  rename News _ _ _ _ => N9
  try dsimp only at N9
  k_dflt (refine' cut_from ?F ?N ?t ?c ?d ?i ?l ?aa ?_ ?ss ?pp; (case F => k_asm); (case N => k_asm); (case t => k_mem); (case c => exact rfl); (case d => exact rfl); (case i => exact .cons _ _ (.cons _ _ (.cons _ _ (.cons _ _ (.cons _ _ .nil))))); (case l => exact of_decide_eq_true rfl); (case aa => omega); (case ss => with_unfolding_all rfl); (case pp => (intro _; with_unfolding_all rfl)); k_whole)
  intro D ws h' F' N' l1 hI
  k_steps
  unfold Stand
  rename_i Dc wsc hh1 hIc l1c hh2 Fc Nc
  obtain ⟨c0, c1, c2, c3, c4, t0, t1, t2, t3, t4, rfl, bc3, bc4⟩ := five_of hIc (by simp only [List.length_take]; omega) (fun v hv => PyData.bits_item_of_ints (by assumption) (List.mem_of_mem_take hv))
  clear hIc
  refine funnel (h₀ := ghostOf s₁.heap [(102, 100)]) (L := s₁.heap.objs.size) (σ := (Int × Int × Nat) × Tok × Tok) (fun _ => [(Dc, lstN [.int c0 t0, .int c1 t1, .int c2 t2, .int c3 t3, .int c4 t4] 0), (100, tabObj #[])]) (fun c => [(Str.ofString "p", .int c.1.1 c.2.1), (Str.ofString "n", .int c.1.2.1 c.2.2), (Str.ofString "cells", .ref Dc)])
    (fun c => WP c.1.1 c.1.2.1 c.1.2.2) ?s2 ?s3
  case s2 =>
    have go : S2Go := trivial
    k_steps
    all_goals (rename Fr _ _ _ _ => F9; rename News _ _ _ _ => N9)
    · exact fend ((11, 3, 1), 542, 543) (by assumption) F9 N9 (by kcj_all) (by kst_all) (by unfold WP; decide)
    · exact fend ((19, 5, 2), 544, 545) (by assumption) F9 N9 (by kcj_all) (by kst_all) (by unfold WP; decide)
    · exact fend ((23, 3, 1), 546, 547) (by assumption) F9 N9 (by kcj_all) (by kst_all) (by unfold WP; decide)
    · exact fend ((43, 11, 3), 548, 549) (by assumption) F9 N9 (by kcj_all) (by kst_all) (by unfold WP; decide)
    · exact fend ((47, 3, 1), 550, 551) (by assumption) F9 N9 (by kcj_all) (by kst_all) (by unfold WP; decide)
    · exact fend ((67, 17, 4), 552, 553) (by assumption) F9 N9 (by kcj_all) (by kst_all) (by unfold WP; decide)
    · exact fend ((103, 13, 3), 554, 555) (by assumption) F9 N9 (by kcj_all) (by kst_all) (by unfold WP; decide)
    · exact fend ((163, 41, 5), 556, 557) (by assumption) F9 N9 (by kcj_all) (by kst_all) (by unfold WP; decide)
  case s3 =>
    rintro ⟨⟨p, n, k⟩, tp, tn⟩ u2 h2 g2 tk2 hw F2 N2 hb2
    dsimp only [ov] at hw F2 N2 ⊢
    obtain ⟨p0, p1, n0, n1, k1, hbits, pe, z1, z0⟩ := hw.facts
    clear Fc Nc l1c
    have p9 : p ≤ 1000 := by omega
    have e4 : 0 ≤ (p + 1).fdiv 4 := Int.fdiv_nonneg (by omega) (by decide)
    obtain ⟨R, v, mm, z, qq, find, ok⟩ : ∃ (R : Nat → Int × Int) (v mm z qq : Int × Int), (∀ j, j ≤ 1 → findGo p n 200 (([c0, c1, c2, c3, c4].getD (j + 1) 0).fmod p) = some (R j)) ∧ LawOk p n k (R 0) (R 1) c3 c4 v mm z qq := plain_law hw c0 c1 c2 c3 c4
    k_steps
    unfold Stand
    rename_i lp hp1 lc1 hp2 F3 N3
    refine for_it ?_ (by intro _; rfl)
    k_steps
    unfold Stand
    rename_i T3 h3 F4 N4 lt3
    obtain ⟨ta, tb, N5⟩ : ∃ ta tb, News (ghostOf s₁.heap [(102, 100)]) s₁.heap.objs.size h3 ((T3, tupO [.int 1 ta, .int 2 tb]) :: (lp, lstN [] 0) :: (Dc, lstN [.int c0 t0, .int c1 t1, .int c2 t2, .int c3 t3, .int c4 t4] 0) :: [(100, tabObj #[])]) := ⟨_, _, N4⟩
    clear N4
    refine it_tup (o := tupO [.int 1 ta, .int 2 tb]) (vs := [.int 1 ta, .int 2 tb]) F4 N5 (.head _) rfl rfl ?_
    intro I h5 l5 F5 N6
    clear N5 F4
    refine tup_by (s := s₁) (I := I) (t := T3) (vs := [.int 1 ta, .int 2 tb]) (o := tupO [.int 1 ta, .int 2 tb]) (n := 0) rfl rfl (σ := List FP × Nat)
      (fun c => (lp, lstN (c.1.map fun f => .ref f.1) c.2) :: (T3, tupO [.int 1 ta, .int 2 tb]) :: (Dc, lstN [.int c0 t0, .int c1 t1, .int c2 t2, .int c3 t3, .int c4 t4] 0) :: (100, tabObj #[]) :: c.1.map FP.obj)
      (fun c => [(Str.ofString "points", .ref lp), (Str.ofString "p", .int p tp), (Str.ofString "n", .int n tn), (Str.ofString "cells", .ref Dc)])
      (fun j c => c.1.map (fun f => f.2.1) = (List.range j).map R) ?hT ?hI rfl (by passes_own) ?turn ?out 2 0 ([], 0) _ _ _ _ _ _ rfl ?hp F5 N6 rfl rfl (.head _) ?hn (by kst_all) hb2
    case hT => intro c; exact .tail _ (.head _)
    case hI =>
      intro c h oI hc N x hx
      have key : x.2.cls ≠ oI.cls := by
        rw [hc]
        simp only [List.mem_cons] at hx
        rcases hx with rfl | rfl | rfl | rfl | hx
        iterate 3 exact fun q => absurd (Value.type.inj q) (by decide)
        exact fun q => nomatch q
        obtain ⟨f, hf, rfl⟩ := List.mem_map.mp hx
        exact fun q => absurd (Value.type.inj q) (by decide)
      exact offO N (.head _) (.tail _ hx) key
    case hp => rfl
    case hn =>
      intro x hx
      simp only [List.map_nil, List.mem_cons, List.not_mem_nil, or_false] at hx ⊢
      rcases hx with hx | hx | hx | hx <;> simp only [hx, true_or, or_true]
    case turn =>
      clear F5 N6
      rintro j v ⟨fs, cap⟩ uu hh gg tkk oI hv hfs hc1 hd1 F6 N6 hb6
      obtain ⟨aa, tv, rfl, ha, hj⟩ : ∃ (aa : Int) (tv : Tok), v = .int aa tv ∧ aa = (j : Int) + 1 ∧ j ≤ 1 := by
        rcases j with _ | _ | j
        · exact ⟨1, ta, (Option.some.inj hv).symm, rfl, by omega⟩
        · exact ⟨2, tb, (Option.some.inj hv).symm, rfl, by omega⟩
        · cases hv
      clear hv
      have hfi := find j hj
      have a0 : 1 ≤ aa := by omega
      have a1 : aa ≤ 2 := by omega
      obtain ⟨tl, htl⟩ : ∃ tl, tl = fs.map FP.obj := ⟨_, rfl⟩
      obtain ⟨us, hus⟩ : ∃ us : List Value, us = fs.map fun f => .ref f.1 := ⟨_, rfl⟩
      dsimp only [ov] at hfs F6 N6 ⊢
      rw [← htl, ← hus] at N6
      rw [show j + 1 = aa.toNat by omega] at hfi
      k_steps
      unfold Stand
      rename Fr _ _ _ _ => F7
      rename News _ _ _ _ => N7
      obtain ⟨bl, hbl⟩ : ∃ bl, bl = (I, oI) :: (lp, lstN us cap) :: (T3, tupO [.int 1 ta, .int 2 tb]) :: (Dc, lstN [.int c0 t0, .int c1 t1, .int c2 t2, .int c3 t3, .int c4 t4] 0) :: (100, tabObj #[]) :: tl := ⟨_, rfl⟩
      have N8 : News (ghostOf s₁.heap [(102, 100)]) s₁.heap.objs.size _ bl := hbl ▸ fun q hq => N7 q (.tail _ hq)
      refine while_by (σ := Option FP × Int × Tok × Nat) (fun c => match c.1 with | none => bl | some f => f.obj :: bl)
        (fun c => [(Str.ofString "here", match c.1 with | none => .none | some f => .ref f.1), (Str.ofString "x", .int c.2.1 c.2.2.1), (Str.ofString "points", .ref lp), (Str.ofString "p", .int p tp), (Str.ofString "n", .int n tn), (Str.ofString "cells", .ref Dc)])
        (fun c => match c.1 with | none => (0 ≤ c.2.1 ∧ c.2.1 < p) ∧ findGo p n c.2.2.2 c.2.1 = some (R j) | some f => InP p f.2.1 ∧ f.2.1 = R j)
        (fun c => match c.1 with | none => c.2.2.2 + 1 | some _ => 0) F7 N8 hb6 ⟨(none, ([c0, c1, c2, c3, c4].getD aa.toNat 0).fmod p, _, 200), fun _ h => h, by kst_all, ⟨⟨Int.fmod_nonneg_of_pos _ (by omega), Int.fmod_lt_of_pos _ (by omega)⟩, hfi⟩⟩ ?ht (by passes_own)
      clear F7 N7 N8
      rintro ⟨_ | ⟨fa9, pt, q1, q2⟩, x, tx, fu⟩ u7 h7 g7 tk7 hP F7 N7 hb7
      · dsimp only [ov] at hP F7 N7 ⊢
        obtain ⟨⟨x0, x1⟩, hgo⟩ := hP
        k_steps
        · unfold Stand
          rename Fr _ _ _ _ => F8
          rename News _ _ _ _ => N8
          rename_i hA tkA hc tkB Dp hB lB Dq hC lC hD hE hF
          have hcur : (yOf p x * yOf p x - x ^ 3 - x).fmod p = 0 := hc
          clear hc
          have by0 := powM_bd (x := x ^ 3 + x) (y := (p + 1).fdiv 4) (m := p) (by omega)
          obtain ⟨fu, rfl⟩ : ∃ f, fu = f + 1 := by
            cases fu with
            | zero => cases hgo
            | succ f => exact ⟨f, rfl⟩
          rw [findGo, if_pos hcur] at hgo
          obtain ⟨ty, N9⟩ : ∃ ty, News (ghostOf s₁.heap [(102, 100)]) s₁.heap.objs.size _ ((Dp, tupO [.int x tx, .int (yOf p x) ty]) :: bl) := ⟨_, fun q hq => N8 q (.tail _ hq)⟩
          refine while_by (σ := Option FP × Int × Tok × Nat) (fun c => match c.1 with | none => bl | some f => f.obj :: bl)
            (fun c => [(Str.ofString "here", match c.1 with | none => .none | some f => .ref f.1), (Str.ofString "size", .int c.2.1 c.2.2.1), (Str.ofString "x", .int x tx), (Str.ofString "points", .ref lp), (Str.ofString "p", .int p tp), (Str.ofString "n", .int n tn), (Str.ofString "cells", .ref Dc)])
            (fun c => 0 ≤ c.2.1 ∧ c.2.1 ≤ 16 ∧ match c.1 with | none => dblGo p 10 (x, yOf p x) ((p + 1).fdiv n) = none | some f => InP p f.2.1 ∧ c.2.1.toNat < 2 ^ c.2.2.2 ∧ dblGo p c.2.2.2 f.2.1 c.2.1 = dblGo p 10 (x, yOf p x) ((p + 1).fdiv n))
            (fun c => match c.1 with | none => 0 | some _ => c.2.1.toNat) F8 N9 (by assumption) ⟨(some (Dp, (x, yOf p x), tx, ty), (p + 1).fdiv n, _, 10), ?hn2, by kst_all, ⟨z0, z1, ⟨⟨x0, x1⟩, by0⟩, by show ((p + 1).fdiv n).toNat < 1024; omega, rfl⟩⟩ ?ht2 (by passes_own)
          case hn2 => exact fun _ h => h
          clear F8 N8 N9
          rintro ⟨_ | ⟨fb9, pt, r1, r2⟩, sz, ts, fz⟩ u9 h9 g9 tk9 ⟨s0, s1, hP⟩ F9 N9 hb9
          · dsimp only [ov] at s0 s1 hP F9 N9 ⊢
            rw [hP] at hgo
            dsimp only at hgo
            k_steps
            all_goals (rename Fr _ _ _ _ => F8; rename News _ _ _ _ => N8)
            all_goals exact wend (none, (x + 1).fmod p, _, fu) hb9 F8 N8 (fun _ h => h) (by kst_all) ⟨⟨Int.fmod_nonneg_of_pos _ (by omega), Int.fmod_lt_of_pos _ (by omega)⟩, hgo⟩ (by dsimp only; omega)
          · dsimp only [ov] at s0 s1 hP F9 N9 ⊢
            obtain ⟨ip, fz2, hdb⟩ := hP
            k_steps
            · rename 1 < sz => hsz
              obtain ⟨fz, rfl⟩ : ∃ f, fz = f + 1 := by
                cases fz with
                | zero => exfalso; rw [Nat.pow_zero] at fz2; omega
                | succ f => exact ⟨f, rfl⟩
              rw [dblGo, if_pos hsz] at hdb
              have hf2 : sz.fdiv 2 = sz / 2 := Int.fdiv_eq_ediv_of_nonneg _ (by omega)
              rw [Nat.pow_succ] at fz2
              unfold Stand
              k_dflt (refine' zSlope (one := pt) (two := pt) ?ho ?hq p0 p9 ip ip ?k1 ?k2 ?k3 ?k4 ?k5 ?kK ?kb ?kd ?ku ?kn ?ks; ktn_open; (case ho => k_mem); (case hq => k_mem); k_whole)
              · intro hs h9 g9 tk9 hb9 F9 N9
                rw [hs] at hdb
                dsimp only at hdb
                try dsimp only
                k_steps
                rename Fr _ _ _ _ => F8
                rename News _ _ _ _ => N8
                exact wend (none, sz.fdiv 2, _, fz) hb9 F8 N8 (fun _ h => .tail _ h) (by kst_all) ⟨by dsimp only; omega, by dsimp only; omega, hdb.symm⟩ (by dsimp only; omega)
              · intro sl tsl h9 g9 tk9 hs bsl hb9 F9 N9
                rw [hs] at hdb
                dsimp only at hdb
                try dsimp only
                k_steps
                unfold Stand
                k_dflt (refine' zSum (one := pt) (two := pt) ?ho ?hq p0 p9 ip bsl ?k1 ?k2 ?k3 ?k4 ?k5 ?kK ?kb ?kd ?ku ?_; ktn_open; (case ho => k_mem); (case hq => k_mem); k_whole)
                intro D5 y5 ty5 ty5' h5 g5 tk5 e5 iy5 hb5 F5 N5
                rw [← e5] at hdb
                try dsimp only
                k_steps
                rename Fr _ _ _ _ => F8
                rename News _ _ _ _ => N8
                exact wend (some (D5, y5, ty5, ty5'), sz.fdiv 2, _, fz) hb5 F8 N8 (List.forall_mem_cons.mpr ⟨.head _, fun _ h => .tail _ (.tail _ h)⟩) (by kst_all) ⟨by dsimp only; omega, by dsimp only; omega, iy5, by dsimp only; omega, hdb⟩ (by dsimp only; omega)
            · rename ¬ 1 < sz => hsz
              rename Fr _ _ _ _ => F8
              rename News _ _ _ _ => N8
              have hdb2 : dblGo p 10 (x, yOf p x) ((p + 1).fdiv n) = some pt := by
                rw [← hdb]
                cases fz with
                | zero => rfl
                | succ f => rw [dblGo, if_neg hsz]
              rw [hdb2] at hgo
              exact wend (some (fb9, pt, r1, r2), (x + 1).fmod p, _, fu) hb9 F8 N8 (fun _ h => h) (by kst_all) ⟨ip, Option.some.inj hgo⟩ (by dsimp only; omega)
        · rename Fr _ _ _ _ => F8
          rename News _ _ _ _ => N8
          have hcur : ¬ (yOf p x * yOf p x - x ^ 3 - x).fmod p = 0 := by assumption
          obtain ⟨fu, rfl⟩ : ∃ f, fu = f + 1 := by
            cases fu with
            | zero => cases hgo
            | succ f => exact ⟨f, rfl⟩
          rw [findGo, if_neg hcur] at hgo
          exact wend (none, (x + 1).fmod p, _, fu) (by assumption) F8 N8 (fun _ h => h) (by kst_all) ⟨⟨Int.fmod_nonneg_of_pos _ (by omega), Int.fmod_lt_of_pos _ (by omega)⟩, hgo⟩ (by dsimp only; omega)
      · dsimp only [ov] at hP F7 N7 ⊢
        obtain ⟨ip, hpt⟩ := hP
        rw [hbl] at N7
        k_steps
        unfold Stand
        rename Fr _ _ _ _ => F8
        rename News _ _ _ _ => N8
        have hfl : fs.length = j := by
          have := congrArg List.length hfs
          simpa only [List.length_map, List.length_range] using this
        have hul : us.length ≤ 1000 := by rw [hus, List.length_map]; omega
        have off : ∀ q ∈ FP.obj (fa9, pt, q1, q2) :: (I, oI) :: (T3, tupO [.int 1 ta, .int 2 tb]) :: (100, tabObj #[]) :: tl, q.1 ≠ lp := by
          intro q hq
          have hm : q ∈ FP.obj (fa9, pt, q1, q2) :: (I, oI) :: (lp, lstN us cap) :: (T3, tupO [.int 1 ta, .int 2 tb]) :: (Dc, lstN [.int c0 t0, .int c1 t1, .int c2 t2, .int c3 t3, .int c4 t4] 0) :: (100, tabObj #[]) :: tl := by
            simp only [List.mem_cons] at hq ⊢
            rcases hq with hq | hq | hq | hq | hq <;> simp only [hq, true_or, or_true]
          refine offO N8 (.tail _ (.tail _ (.head _))) hm ?_
          simp only [List.mem_cons] at hq
          rcases hq with rfl | rfl | rfl | rfl | hq
          · exact fun q => absurd (Value.type.inj q) (by decide)
          · rw [hc1]; exact fun q => absurd (Value.type.inj q) (by decide)
          · exact fun q => absurd (Value.type.inj q) (by decide)
          · exact fun q => nomatch q
          · rw [htl] at hq
            obtain ⟨f, hf, rfl⟩ := List.mem_map.mp hq
            exact fun q => absurd (Value.type.inj q) (by decide)
        refine app_l F8 N8 (.tail _ (.tail _ (.head _))) hul (nf := fun o' => FP.obj (fa9, pt, q1, q2) :: (I, oI) :: (lp, o') :: (T3, tupO [.int 1 ta, .int 2 tb]) :: (Dc, lstN [.int c0 t0, .int c1 t1, .int c2 t2, .int c3 t3, .int c4 t4] 0) :: (100, tabObj #[]) :: tl)
          (fun o' => .tail (off _ (.head _)) (.tail (off _ (.tail _ (.head _))) (.head fun q hq => ?_))) ?_
        · rcases List.mem_cons.mp hq with rfl | hq
          · exact off _ (.tail _ (.tail _ (.head _)))
          · rcases List.mem_cons.mp hq with rfl | hq
            · exact Nat.ne_of_lt lc1.1
            · exact off _ (.tail _ (.tail _ (.tail _ hq)))
        intro cap2 h8 F9 N9
        clear F8 N8
        k_steps
        rename Fr _ _ _ _ => F8
        rename News _ _ _ _ => N8
        refine tend (fs ++ [(fa9, pt, q1, q2)], cap2) hb7 F8 N8 hc1 hd1 (.tail _ (.head _)) ?_ (by kst_all) ?_
        · intro q hq
          rw [hus, htl]
          simp only [List.map_append, List.map_cons, List.map_nil, List.mem_cons, List.mem_append, List.not_mem_nil, or_false] at hq ⊢
          rcases hq with hq | hq | hq | hq | hq | hq <;> simp only [hq, true_or, or_true]
        · show (fs ++ [(fa9, pt, q1, q2)]).map (fun f => f.2.1) = _
          rw [List.map_append, hfs, List.range_succ, List.map_append, hpt]
          rfl
    case out =>
      clear F5 N6
      rintro ⟨fs, cap⟩ u9 h9 g9 tk9 hfs F9 N9 hb9
      obtain ⟨⟨fa1, one, o1, o2⟩, ⟨fa2, two, o3, o4⟩, rfl, e1, e2⟩ := two_of hfs
      dsimp only at e1 e2
      rw [← e1, ← e2] at ok
      clear e1 e2 find hfs
      have hbm : IntMulOk ([c0, c1, c2, c3, c4].getD (Int.toNat 3) 0) ([c0, c1, c2, c3, c4].getD (Int.toNat 4) 0) := PySem.IntMulOk.of_bits bc3 bc4
      simp only [ov, List.map_cons, List.map_nil, FP.obj] at F9 N9
      dsimp only
      k_steps
      unfold Stand
      rename_i cu hx1 lx1 hx2 lo1 hx3 lx2 q1 hx4 F4 N4 lx3
      obtain ⟨x1, x2, x3, x4, x5, x6, x7, N5⟩ : ∃ x1 x2 x3 x4 x5 x6 x7, News (ghostOf s₁.heap [(102, 100)]) s₁.heap.objs.size hx4 [(100, tabObj #[]), (q1, tupO [.int 1 x1, .int 0 x2]), (lo1, lstN [.int 1 x3, .int 0 x4] 0), (cu, tupO [.int p tp, .int (p + 1) x5, .int 1 x6, .int 0 x7, .int one.1 o1, .int one.2 o2]), (Dc, lstN [.int c0 t0, .int c1 t1, .int c2 t2, .int c3 t3, .int c4 t4] 0), (fa1, tupO [.int one.1 o1, .int one.2 o2]), (fa2, tupO [.int two.1 o3, .int two.2 o4])] :=
        ⟨_, _, _, _, _, _, _, List.forall_mem_cons.mpr ⟨N4 _ (.tail _ (.tail _ (.tail _ (.tail _ (.tail _ (.tail _ (.head _))))))), List.forall_mem_cons.mpr ⟨N4 _ (.head _), List.forall_mem_cons.mpr ⟨N4 _ (.tail _ (.head _)), List.forall_mem_cons.mpr ⟨N4 _ (.tail _ (.tail _ (.head _))), List.forall_mem_cons.mpr ⟨N4 _ (.tail _ (.tail _ (.tail _ (.tail _ (.tail _ (.head _)))))), List.forall_mem_cons.mpr ⟨N4 _ (.tail _ (.tail _ (.tail _ (.tail _ (.tail _ (.tail _ (.tail _ (.head _)))))))), List.forall_mem_cons.mpr ⟨N4 _ (.tail _ (.tail _ (.tail _ (.tail _ (.tail _ (.tail _ (.tail _ (.tail _ (.head _))))))))), List.forall_mem_nil _⟩⟩⟩⟩⟩⟩⟩⟩
      clear N4 lx1 lx2 lx3
      have hone : (fa1, tupO [.int one.1 o1, .int one.2 o2]) ∈ [(cu, tupO [.int p tp, .int (p + 1) x5, .int 1 x6, .int 0 x7, .int one.1 o1, .int one.2 o2]), (Dc, lstN [.int c0 t0, .int c1 t1, .int c2 t2, .int c3 t3, .int c4 t4] 0), (fa1, tupO [.int one.1 o1, .int one.2 o2]), (fa2, tupO [.int two.1 o3, .int two.2 o4])] := .tail _ (.tail _ (.head _))
      k_dflt (refine' sRE (z := (Int.fmod 1 p, Int.fmod 0 p)) (news := [(q1, tupO [.int 1 x1, .int 0 x2]), (lo1, lstN [.int 1 x3, .int 0 x4] 0), (cu, tupO [.int p tp, .int (p + 1) x5, .int 1 x6, .int 0 x7, .int one.1 o1, .int one.2 o2]), (Dc, lstN [.int c0 t0, .int c1 t1, .int c2 t2, .int c3 t3, .int c4 t4] 0), (fa1, tupO [.int one.1 o1, .int one.2 o2]), (fa2, tupO [.int two.1 o3, .int two.2 o4])]) ?sub ?hcl ?htb (fq2_spec (a0 := 1) (a1 := 0) (n := 0) ?ho ?hq p0 p9) ?k1 ?k2 ?k3 ?k4 ?k5 ?kK ?kb ?kr ?kd ?ku ?_; ktn_open; (case htb => k_mem); (case kr => trivial); (case ho => k_mem); (case hq => k_mem); (case sub => ktd_sub); (case hcl => tb_rel); k_whole)
      intro r0 ps1 h9 g9 tk9 htr9 hb9 F9 N9
      rw [Int.fmod_eq_of_lt (a := 1) (by omega) (by omega), Int.zero_fmod] at N9
      simp only [El.led, List.cons_append, List.nil_append] at N9
      try dsimp only
      k_steps
      unfold Stand
      k_dflt (refine' sRE (z := v) (news := r0.led w p (1, 0) ++ [(cu, tupO [.int p tp, .int (p + 1) x5, .int 1 x6, .int 0 x7, .int one.1 o1, .int one.2 o2]), (Dc, lstN [.int c0 t0, .int c1 t1, .int c2 t2, .int c3 t3, .int c4 t4] 0), (fa1, tupO [.int one.1 o1, .int one.2 o2]), (fa2, tupO [.int two.1 o3, .int two.2 o4])]) ?sub ?hcl ?htb (pairing_spec (k := k) ?ho ?hq p0 p9 ok.i1 ok.i2 ok.plain hbits (by omega) (by omega) (by omega) pe) ?k1 ?k2 ?k3 ?k4 ?k5 ?kK ?kb ?kr ?kd ?ku ?_; ktn_open; (case htb => k_mem); (case kr => assumption); (case ho => k_mem); (case hq => k_mem); (case sub => ktd_sub); (case hcl => tb_rel); k_whole)
      intro r1 ps1 h9 g9 tk9 htr9 hb9 F9 N9
      simp only [El.led, List.cons_append, List.nil_append] at N9
      try unfold PySem.W.CmpBack
      try dsimp only
      k_steps
      unfold Stand
      k_dflt (refine' useB (eq_spec (e := r1) (e' := r0) (v := v) (v' := (1, 0)) (p := p) (p' := p) ?h1 ?h2) ?k1 ?k2 ?k3 ?k4 ?k5 ?kK ?kb ?kd ?ku ?_; ktn_open; (case h1 => ktd_sub); (case h2 => ktd_sub); k_whole)
      intro h9 g9 tk9 hb9 F9 N9
      rw [decide_eq_false ok.unit]
      try unfold PySem.W.CmpBack
      try dsimp only
      k_steps
      unfold Stand
      k_dflt (refine' sRE (z := fpow p v n.toNat) (news := r1.led w p v ++ (r0.led w p (1, 0) ++ [(cu, tupO [.int p tp, .int (p + 1) x5, .int 1 x6, .int 0 x7, .int one.1 o1, .int one.2 o2]), (Dc, lstN [.int c0 t0, .int c1 t1, .int c2 t2, .int c3 t3, .int c4 t4] 0), (fa1, tupO [.int one.1 o1, .int one.2 o2]), (fa2, tupO [.int two.1 o3, .int two.2 o4])])) ?sub ?hcl ?htb (pow_spec (v := v) ?h1 p0 p9 ok.iv (by omega) (by omega)) ?k1 ?k2 ?k3 ?k4 ?k5 ?kK ?kb ?kr ?kd ?ku ?_; ktn_open; (case htb => k_mem); (case kr => assumption); (case h1 => ktd_sub); (case sub => ktd_sub); (case hcl => tb_rel); k_whole)
      intro r2 ps1 h9 g9 tk9 htr9 hb9 F9 N9
      rw [ok.pow] at N9
      simp only [El.led, List.cons_append, List.nil_append] at N9
      try unfold PySem.W.CmpBack
      try dsimp only
      k_steps
      unfold Stand
      k_dflt (refine' useB (ne_spec (e := r2) (e' := r0) (v := (1, 0)) (v' := (1, 0)) (p := p) (p' := p) ?h1 ?h2) ?k1 ?k2 ?k3 ?k4 ?k5 ?kK ?kb ?kd ?ku ?_; ktn_open; (case h1 => ktd_sub); (case h2 => ktd_sub); k_whole)
      intro h9 g9 tk9 hb9 F9 N9
      rw [decide_eq_true rfl, Bool.not_true]
      try unfold PySem.W.CmpBack
      try dsimp only
      k_steps
      unfold Stand
      k_dflt (refine' sRE (z := v) (news := r1.led w p v ++ [(cu, tupO [.int p tp, .int (p + 1) x5, .int 1 x6, .int 0 x7, .int one.1 o1, .int one.2 o2]), (Dc, lstN [.int c0 t0, .int c1 t1, .int c2 t2, .int c3 t3, .int c4 t4] 0), (fa1, tupO [.int one.1 o1, .int one.2 o2]), (fa2, tupO [.int two.1 o3, .int two.2 o4])]) ?sub ?hcl ?htb (pairing_spec (k := k) ?ho ?hq p0 p9 ok.i2 ok.i1 ok.swap hbits (by omega) (by omega) (by omega) pe) ?k1 ?k2 ?k3 ?k4 ?k5 ?kK ?kb ?kr ?kd ?ku ?_; ktn_open; (case htb => k_mem); (case kr => assumption); (case ho => k_mem); (case hq => k_mem); (case sub => ktd_sub); (case hcl => tb_rel); k_whole)
      intro r3 ps1 h9 g9 tk9 htr9 hb9 F9 N9
      simp only [El.led, List.cons_append, List.nil_append] at N9
      try unfold PySem.W.CmpBack
      try dsimp only
      k_steps
      unfold Stand
      k_dflt (refine' useB (ne_spec (e := r3) (e' := r1) (v := v) (v' := v) (p := p) (p' := p) ?h1 ?h2) ?k1 ?k2 ?k3 ?k4 ?k5 ?kK ?kb ?kd ?ku ?_; ktn_open; (case h1 => ktd_sub); (case h2 => ktd_sub); k_whole)
      intro h9 g9 tk9 hb9 F9 N9
      rw [decide_eq_true rfl, Bool.not_true]
      try unfold PySem.W.CmpBack
      try dsimp only
      k_steps
      unfold Stand
      k_dflt (refine' use2 (v := mulP p one c3) (multiply_spec (x := one.1) (y := one.2) (NN := p + 1) (gx := one.1) (gy := one.2) 9 (by omega) (by omega) p9 (by omega) (by omega) ok.i1.1 ok.i1.2 ?m1 ?m2 (mulOk9 (by omega))) ?k1 ?k2 ?k3 ?k4 ?k5 ?kK ?kb ?kd ?ku ?_; ktn_open; (case m1 => k_mem); (case m2 => k_mem); k_whole)
      intro D7 y7 y7' h9 g9 tk9 hb9 F9 N9
      generalize hma : mulP p one c3 = ma at N9
      try dsimp only
      k_steps
      unfold Stand
      k_dflt (refine' use2 (v := mulP p two c4) (multiply_spec (x := two.1) (y := two.2) (NN := p + 1) (gx := one.1) (gy := one.2) 9 (by omega) (by omega) p9 (by omega) (by omega) ok.i2.1 ok.i2.2 ?m1 ?m2 (mulOk9 (by omega))) ?k1 ?k2 ?k3 ?k4 ?k5 ?kK ?kb ?kd ?ku ?_; ktn_open; (case m1 => k_mem); (case m2 => k_mem); k_whole)
      intro D8 y8 y8' h9 g9 tk9 hb9 F9 N9
      generalize hmb : mulP p two c4 = mb at N9
      have okm := ok.more
      have ima : InP p (mulP p one c3) := mulP_in (by omega)
      have imb : InP p (mulP p two c4) := mulP_in (by omega)
      rw [hma] at okm ima
      rw [hmb] at okm imb
      try dsimp only
      k_steps
      unfold Stand
      k_dflt (refine' sRE (z := mm) (news := (D8, tupO [.int mb.1 y8, .int mb.2 y8']) :: (D7, tupO [.int ma.1 y7, .int ma.2 y7']) :: (r1.led w p v ++ [(cu, tupO [.int p tp, .int (p + 1) x5, .int 1 x6, .int 0 x7, .int one.1 o1, .int one.2 o2]), (Dc, lstN [.int c0 t0, .int c1 t1, .int c2 t2, .int c3 t3, .int c4 t4] 0), (fa1, tupO [.int one.1 o1, .int one.2 o2]), (fa2, tupO [.int two.1 o3, .int two.2 o4])])) ?sub ?hcl ?htb (pairing_spec (k := k) ?ho ?hq p0 p9 ima imb okm hbits (by omega) (by omega) (by omega) pe) ?k1 ?k2 ?k3 ?k4 ?k5 ?kK ?kb ?kr ?kd ?ku ?_; ktn_open; (case htb => k_mem); (case kr => assumption); (case ho => k_mem); (case hq => k_mem); (case sub => ktd_sub); (case hcl => tb_rel); k_whole)
      intro r4 ps1 h9 g9 tk9 htr9 hb9 F9 N9
      simp only [El.led, List.cons_append, List.nil_append] at N9
      try unfold PySem.W.CmpBack
      try dsimp only
      k_steps
      unfold Stand
      k_dflt (refine' sRE (z := fpow p v ((c3 * c4).fmod n).toNat) (news := r4.led w p mm ++ (r1.led w p v ++ [(cu, tupO [.int p tp, .int (p + 1) x5, .int 1 x6, .int 0 x7, .int one.1 o1, .int one.2 o2]), (Dc, lstN [.int c0 t0, .int c1 t1, .int c2 t2, .int c3 t3, .int c4 t4] 0), (fa1, tupO [.int one.1 o1, .int one.2 o2]), (fa2, tupO [.int two.1 o3, .int two.2 o4])])) ?sub ?hcl ?htb (pow_spec (v := v) ?h1 p0 p9 ok.iv (Int.fmod_nonneg_of_pos _ (by omega)) (Int.lt_trans (Int.fmod_lt_of_pos _ (by omega)) (by omega))) ?k1 ?k2 ?k3 ?k4 ?k5 ?kK ?kb ?kr ?kd ?ku ?_; ktn_open; (case htb => k_mem); (case kr => assumption); (case h1 => ktd_sub); (case sub => ktd_sub); (case hcl => tb_rel); k_whole)
      intro r5 ps1 h9 g9 tk9 htr9 hb9 F9 N9
      rw [← ok.morev] at N9
      simp only [El.led, List.cons_append, List.nil_append] at N9
      try unfold PySem.W.CmpBack
      try dsimp only
      k_steps
      unfold Stand
      k_dflt (refine' useB (ne_spec (e := r4) (e' := r5) (v := mm) (v' := mm) (p := p) (p' := p) ?h1 ?h2) ?k1 ?k2 ?k3 ?k4 ?k5 ?kK ?kb ?kd ?ku ?_; ktn_open; (case h1 => ktd_sub); (case h2 => ktd_sub); k_whole)
      intro h9 g9 tk9 hb9 F9 N9
      rw [decide_eq_true rfl, Bool.not_true]
      try unfold PySem.W.CmpBack
      try dsimp only
      k_steps
      unfold Stand
      k_dflt (refine' use2 (v := addP p one two) (add_spec (x := one.1) (y := one.2) (x' := two.1) (y' := two.2) (NN := p + 1) (gx := one.1) (gy := one.2) (by omega) (by omega) p9 ok.i1.1 ok.i1.2 ok.i2.1 ok.i2.2 ?m1 ?m2 ?m3) ?k1 ?k2 ?k3 ?k4 ?k5 ?kK ?kb ?kd ?ku ?_; ktn_open; (case m1 => k_mem); (case m2 => k_mem); (case m3 => k_mem); k_whole)
      intro D9 y9 y9' h9 g9 tk9 hb9 F9 N9
      generalize hmc : addP p one two = mc at N9
      have oks := ok.sum
      have imc : InP p (addP p one two) := addP_in (by omega)
      rw [hmc] at oks imc
      try dsimp only
      k_steps
      unfold Stand
      k_dflt (refine' sRE (z := z) (news := (D9, tupO [.int mc.1 y9, .int mc.2 y9']) :: (r1.led w p v ++ [(cu, tupO [.int p tp, .int (p + 1) x5, .int 1 x6, .int 0 x7, .int one.1 o1, .int one.2 o2]), (Dc, lstN [.int c0 t0, .int c1 t1, .int c2 t2, .int c3 t3, .int c4 t4] 0), (fa1, tupO [.int one.1 o1, .int one.2 o2]), (fa2, tupO [.int two.1 o3, .int two.2 o4])])) ?sub ?hcl ?htb (pairing_spec (k := k) ?ho ?hq p0 p9 imc ok.i2 oks hbits (by omega) (by omega) (by omega) pe) ?k1 ?k2 ?k3 ?k4 ?k5 ?kK ?kb ?kr ?kd ?ku ?_; ktn_open; (case htb => k_mem); (case kr => assumption); (case ho => k_mem); (case hq => k_mem); (case sub => ktd_sub); (case hcl => tb_rel); k_whole)
      intro r6 ps1 h9 g9 tk9 htr9 hb9 F9 N9
      simp only [El.led, List.cons_append, List.nil_append] at N9
      try unfold PySem.W.CmpBack
      try dsimp only
      k_steps
      unfold Stand
      k_dflt (refine' sRE (z := qq) (news := r6.led w p z ++ (r1.led w p v ++ [(cu, tupO [.int p tp, .int (p + 1) x5, .int 1 x6, .int 0 x7, .int one.1 o1, .int one.2 o2]), (Dc, lstN [.int c0 t0, .int c1 t1, .int c2 t2, .int c3 t3, .int c4 t4] 0), (fa1, tupO [.int one.1 o1, .int one.2 o2]), (fa2, tupO [.int two.1 o3, .int two.2 o4])])) ?sub ?hcl ?htb (pairing_spec (k := k) ?ho ?hq p0 p9 ok.i2 ok.i2 ok.own hbits (by omega) (by omega) (by omega) pe) ?k1 ?k2 ?k3 ?k4 ?k5 ?kK ?kb ?kr ?kd ?ku ?_; ktn_open; (case htb => k_mem); (case kr => assumption); (case ho => k_mem); (case hq => k_mem); (case sub => ktd_sub); (case hcl => tb_rel); k_whole)
      intro r7 ps1 h9 g9 tk9 htr9 hb9 F9 N9
      simp only [El.led, List.cons_append, List.nil_append] at N9
      try unfold PySem.W.CmpBack
      try dsimp only
      k_steps
      unfold Stand
      k_dflt (refine' sRE (z := mulF p v qq) (news := r7.led w p qq ++ (r6.led w p z ++ (r1.led w p v ++ [(cu, tupO [.int p tp, .int (p + 1) x5, .int 1 x6, .int 0 x7, .int one.1 o1, .int one.2 o2]), (Dc, lstN [.int c0 t0, .int c1 t1, .int c2 t2, .int c3 t3, .int c4 t4] 0), (fa1, tupO [.int one.1 o1, .int one.2 o2]), (fa2, tupO [.int two.1 o3, .int two.2 o4])]))) ?sub ?hcl ?htb (mul_spec (v := v) (v' := qq) ?h1 ?h2 p0 p9 ok.iv.1 ok.iv.2 ok.iq.1 ok.iq.2) ?k1 ?k2 ?k3 ?k4 ?k5 ?kK ?kb ?kr ?kd ?ku ?_; ktn_open; (case htb => k_mem); (case kr => assumption); (case h1 => ktd_sub); (case h2 => ktd_sub); (case sub => ktd_sub); (case hcl => tb_rel); k_whole)
      intro r8 ps1 h9 g9 tk9 htr9 hb9 F9 N9
      rw [← ok.sumv] at N9
      simp only [El.led, List.cons_append, List.nil_append] at N9
      try unfold PySem.W.CmpBack
      try dsimp only
      k_steps
      unfold Stand
      k_dflt (refine' useB (eq_spec (e := r6) (e' := r8) (v := z) (v' := z) (p := p) (p' := p) ?h1 ?h2) ?k1 ?k2 ?k3 ?k4 ?k5 ?kK ?kb ?kd ?ku ?_; ktn_open; (case h1 => ktd_sub); (case h2 => ktd_sub); k_whole)
      intro h9 g9 tk9 hb9 F9 N9
      rw [decide_eq_true rfl]
      try unfold PySem.W.CmpBack
      try dsimp only
      k_steps
      all_goals first
        | assumption
        | (rename News _ _ _ _ => N9; exact GrownAt.of N9 (by k_mem)))
end Mine
end

theorem PySem.Challenge.cw_bb0064_01_holds : PySem.Challenge.rw_bb0064_01.Holds := by
  exact Mine.law_holds
