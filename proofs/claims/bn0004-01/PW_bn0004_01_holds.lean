import PyProof.Rows.All
import Wide.All
import OpenK.AllK
import Wide.FinOn
import PySem.Challenge.RW_bn0004_01
open PySem PySem.W PyProof.Rows
set_option Elab.async false
set_option linter.unusedVariables false
set_option linter.unusedSimpArgs false
namespace Mine
set_option maxRecDepth 100000 in
set_option maxHeartbeats 8000000 in
open_top hd for PySem.Challenge.rw_bn0004_01
section
abbrev P0 : Program := PySem.Challenge.rw_bn0004_01.row.prog
abbrev Ret := Heap → Addr → (Str → Option Value) → List (Addr × Obj) → Shared → (Value → Shared → Prop) → Prop
/-- one int comes back -/
abbrev RI (x : Int) : Ret := fun h₀ L m news s Q => ∀ (t : Tok) (h' : Heap) (tk' : Nat), Fr h₀ L h' m → News h₀ L h' news → Q (.int x t) { s with heap := h', toks := tk' }
/-- one int comes back, and P is so -/
abbrev RIP (x : Int) (P : Prop) : Ret := fun h₀ L m news s Q => ∀ (t : Tok) (h' : Heap) (tk' : Nat), P → Fr h₀ L h' m → News h₀ L h' news → Q (.int x t) { s with heap := h', toks := tk' }
/-- one bool comes back -/
abbrev RB (x : Bool) : Ret := fun h₀ L m news s Q => ∀ (h' : Heap) (tk' : Nat), Fr h₀ L h' m → News h₀ L h' news → Q (.bool x) { s with heap := h', toks := tk' }
abbrev Ask (w : World) (mean : ExcName → Option Value) (mg mb : Str → Option Value) (k : Nat) (f : Addr) (vs : List Value) (R : Ret) : Prop :=
  ∀ (dp un : Nat) (gd : Option (List Code)) (cn : Str) (cs : Scope) (a : Addr) (ccd : Value) (cl : List (Str × Addr)) (outer : List Env) (A₀ : Around) (base h₀ : Heap) (L : Addr) (m : Str → Option Value) (news : List (Addr × Obj)) (s : Shared) (Q E : Value → Shared → Prop),
    Below A₀ base outer h₀ → Fr h₀ L s.heap m → (hd.heap_39 w.params).In h₀ → News h₀ L s.heap news → Top hd.view_39 (looseW hd.view_39 []) mean mg mb h₀ → cs.kind = .function → dp + k < recursionLimit → un + 8 * k < cLine → R h₀ L m news s Q →
      wpAny (model PySem.Challenge.rw_bn0004_01.row.prog w) (ktrTop dp un gd cn cs L a ccd cl outer) (call (.ref f) vs) Q E s
theorem retI {h₀ h' : Heap} {L : Addr} {m : Str → Option Value} {news news' : List (Addr × Obj)} {s : Shared} {Q : Value → Shared → Prop} {x y : Int} {t : Tok} {tk' : Nat}
    (hret : RI x h₀ L m news s Q) (e : y = x) (F : Fr h₀ L h' m) (N : News h₀ L h' news') (hs : ∀ p ∈ news, p ∈ news') : Q (.int y t) { s with heap := h', toks := tk' } := by
  subst e
  exact hret t h' tk' F fun p hp => N p (hs p hp)
theorem retIP {h₀ h' : Heap} {L : Addr} {m : Str → Option Value} {news news' : List (Addr × Obj)} {s : Shared} {Q : Value → Shared → Prop} {x y : Int} {P : Prop} {t : Tok} {tk' : Nat}
    (hret : RIP x P h₀ L m news s Q) (e : y = x) (p : P) (F : Fr h₀ L h' m) (N : News h₀ L h' news') (hs : ∀ p ∈ news, p ∈ news') : Q (.int y t) { s with heap := h', toks := tk' } := by
  subst e
  exact hret t h' tk' p F fun p hp => N p (hs p hp)
theorem retB {h₀ h' : Heap} {L : Addr} {m : Str → Option Value} {news news' : List (Addr × Obj)} {s : Shared} {Q : Value → Shared → Prop} {x y : Bool} {tk' : Nat}
    (hret : RB x h₀ L m news s Q) (e : y = x) (F : Fr h₀ L h' m) (N : News h₀ L h' news') (hs : ∀ p ∈ news, p ∈ news') : Q (.bool y) { s with heap := h', toks := tk' } := by
  subst e
  exact hret h' tk' F fun p hp => N p (hs p hp)

abbrev tup3 (a b c : Int) (t u v : Tok) (n : Nat) : Obj := { cls := .type "tuple", data := .seq #[.int a t, .int b u, .int c v] n }
abbrev RT3 (x y z : Int) : Ret := fun h₀ L m news s Q => ∀ (D : Addr) (t u v : Tok) (n : Nat) (h' : Heap) (tk' : Nat), Fr h₀ L h' m → News h₀ L h' ((D, tup3 x y z t u v n) :: news) → (∀ p ∈ news, p.1 < D) → Q (.ref D) { s with heap := h', toks := tk' }
theorem retT3 {h₀ h' : Heap} {L : Addr} {m : Str → Option Value} {news news' : List (Addr × Obj)} {s : Shared} {Q : Value → Shared → Prop} {x y z a b c : Int} {t u v : Tok} {n : Nat} {D : Addr} {tk' : Nat}
    (hret : RT3 x y z h₀ L m news s Q) (e1 : a = x) (e2 : b = y) (e3 : c = z) (F : Fr h₀ L h' m) (N : News h₀ L h' news') (hm : (D, tup3 a b c t u v n) ∈ news') (hs : ∀ p ∈ news, p ∈ news') (hl : ∀ p ∈ news, p.1 < D) : Q (.ref D) { s with heap := h', toks := tk' } := by
  subst e1 e2 e3
  refine hret D t u v n h' tk' F (fun p hp => ?_) hl
  rcases List.mem_cons.mp hp with rfl | hp
  · exact N _ hm
  · exact N p (hs p hp)
theorem ask_use {w : World} {mean : ExcName → Option Value} {mg mb : Str → Option Value} {k : Nat} {f : Addr} {vs : List Value} {R : Ret} (C : Ask w mean mg mb k f vs R)
    {dp un : Nat} {gd : Option (List Code)} {cn : Str} {cs : Scope} {a : Addr} {ccd : Value} {cl : List (Str × Addr)} {outer : List Env} {A₀ : Around} {base h₀ : Heap} {L : Addr} {m : Str → Option Value} {news : List (Addr × Obj)} {s : Shared} {Q E : Value → Shared → Prop}
    (B : Below A₀ base outer h₀) (F : Fr h₀ L s.heap m) (X : (hd.heap_39 w.params).In h₀) (N : News h₀ L s.heap news) (T : Top hd.view_39 (looseW hd.view_39 []) mean mg mb h₀) (hk : cs.kind = .function) (hd : dp + k < recursionLimit) (hu : un + 8 * k < cLine) (r : R h₀ L m news s Q) :
    wpAny (model PySem.Challenge.rw_bn0004_01.row.prog w) (ktrTop dp un gd cn cs L a ccd cl outer) (call (.ref f) vs) Q E s :=
  C _ _ _ _ _ _ _ _ _ _ _ _ _ _ _ _ _ _ B F X N T hk hd hu r

def leapF (y : Int) : Bool := decide ((y * 7 + 1).fmod 19 < 7)
def ymF (y : Int) : Int := if leapF y then 13 else 12
def moF (y : Int) : Int := (235 * y - 234).fdiv 19
def dayF (y : Int) : Int := moF y * 29 + (12084 + 13753 * moF y).fdiv 25920
def d1F (y : Int) : Int := if (3 * (dayF y + 1)).fmod 7 < 3 then dayF y + 1 else dayF y
def d2F (y : Int) : Int := if d1F (y + 1) - d1F y = 356 then 2 else if d1F y - d1F (y - 1) = 382 then 1 else 0
def midF (j : Int) : Int := if 0 < j then j else j + 1
def tF (y : Int) : Int := midF (347996 + d1F y + d2F y + 1 + 1)
def ydF (y : Int) : Int := tF (y + 1) - tF y
def mlF (y m : Int) : Int := if m = 2 ∨ m = 4 ∨ m = 6 ∨ m = 10 ∨ m = 13 then 29 else if m = 12 ∧ leapF y = false then 29 else if m = 8 ∧ (ydF y).fmod 10 ≠ 5 then 29 else if m = 9 ∧ (ydF y).fmod 10 = 3 then 29 else 30
def sumF (y : Int) (ms : List Int) : Int := (ms.map (mlF y)).sum
def jdF (y m d : Int) : Int := midF (if m < 7 then 347996 + d1F y + d2F y + d + 1 + sumF y (rangeKs 7 (ymF y + 1 - 7).toNat) + sumF y (rangeKs 1 (m - 1).toNat) else 347996 + d1F y + d2F y + d + 1 + sumF y (rangeKs 7 (m - 7).toNat))
theorem sumF_nil {y j : Int} : j = j + sumF y [] := by simp [sumF]
theorem sumF_snoc {y j a k : Int} {pre : List Int} (h : a = j + sumF y pre) : a + mlF y k = j + sumF y (pre ++ [k]) := by
  subst h
  simp only [sumF, List.map_append, List.map_cons, List.map_nil, List.sum_append, List.sum_cons, List.sum_nil]
  omega
theorem ymF_le (y : Int) : 12 ≤ ymF y ∧ ymF y ≤ 13 := by unfold ymF; split <;> omega
theorem fj_exit {jd Y i y : Int} (hT : ∀ i, tF i ≤ jd ↔ i ≤ Y) (hI : y = i - 1) (hJ : i ≤ Y + 1) (hx : ¬ tF i ≤ jd) : Y = y := by
  have := hT i
  omega
theorem fj_turn {jd Y i y : Int} (hT : ∀ i, tF i ≤ jd ↔ i ≤ Y) (hI : y = i - 1) (hJ : i ≤ Y + 1) (hx : tF i ≤ jd) : y + 1 = i + 1 - 1 ∧ i + 1 ≤ Y + 1 := by
  have := hT i
  omega
theorem fj_meas {jd Y i : Int} (hT : ∀ i, tF i ≤ jd ↔ i ≤ Y) (hx : tF i ≤ jd) : (Y + 1 - (i + 1)).toNat < (Y + 1 - i).toNat := by
  have := hT i
  omega
theorem fj2_start {f0 M g : Int} {p : Prop} (h : p → f0 = g) (hp : p) (hf : 1 ≤ f0 ∧ f0 ≤ M ∧ M ≤ 13) : g = g ∧ f0 ≤ g ∧ g ≤ M := by
  have := h hp
  omega
theorem fj2_turn {jd Y f0 M i m : Int} (hM : ∀ k, f0 ≤ k → k ≤ M → (jdF Y k (mlF Y k) < jd ↔ k < M)) (h1 : m = i) (h2 : f0 ≤ i) (h3 : i ≤ M) (hx : jdF Y i (mlF Y i) < jd) : m + 1 = i + 1 ∧ f0 ≤ i + 1 ∧ i + 1 ≤ M := by
  have := (hM i h2 h3).mp hx
  omega
theorem fj2_meas {jd Y f0 M i : Int} (hM : ∀ k, f0 ≤ k → k ≤ M → (jdF Y k (mlF Y k) < jd ↔ k < M)) (h2 : f0 ≤ i) (h3 : i ≤ M) (hx : jdF Y i (mlF Y i) < jd) : (M - (i + 1)).toNat < (M - i).toNat := by
  have := (hM i h2 h3).mp hx
  omega
theorem fj2_exit {jd Y f0 M i m : Int} (hM : ∀ k, f0 ≤ k → k ≤ M → (jdF Y k (mlF Y k) < jd ↔ k < M)) (h1 : m = i) (h2 : f0 ≤ i) (h3 : i ≤ M) (hx : ¬ jdF Y i (mlF Y i) < jd) : m = M := by
  by_cases h : i < M
  · exact absurd ((hM i h2 h3).mpr h) hx
  · omega
def thF (y : Int) : Bool := [3, 6, 8, 11, 14, 17, 19].any fun x => x == (y - 1).fmod 19 + 1
def g1F (y : Int) : Int := if thF y = true then 22091 else 9924
def g2F (y : Int) : Int := if thF y = true then 45360 else (if thF (y - 1) then 42709 else 45360)
def g3F (y : Int) : Int := if thF y = true then 71280 else 61764
def g4F (y : Int) : Int := if thF y = true then 90335 else 113604
def g5F (y : Int) : Int := if thF y = true then 123120 else 123120
def g6F (y : Int) : Int := if thF y = true then 151691 else (if thF (y + 1) then 139524 else 130008)
def g7F (y : Int) : Int := if thF y = true then 174960 else 174960
def g8F (y : Int) : Int := if thF y = true then 181440 else 181440
def n1F (y : Int) : Int := if thF y = true then 383 else 353
def n2F (y : Int) : Int := if thF y = true then 385 else 355
def n3F (y : Int) : Int := if thF y = true then 384 else 354
def n4F (y : Int) : Int := if thF y = true then 383 else 354
def n5F (y : Int) : Int := if thF y = true then 385 else 355
def n6F (y : Int) : Int := if thF y = true then 383 else 353
def n7F (y : Int) : Int := if thF y = true then 385 else 355
def n8F (y : Int) : Int := if thF y = true then 383 else 353
abbrev tup8 (d1 d2 d3 d4 d5 d6 d7 d8 : Addr) : Obj := { cls := .type "tuple", data := .seq #[.ref d1, .ref d2, .ref d3, .ref d4, .ref d5, .ref d6, .ref d7, .ref d8] 0 }
abbrev gatesP (y : Int) : Prop := g1F y < g2F y ∧ g2F y < g3F y ∧ g3F y < g4F y ∧ g4F y < g5F y ∧ g5F y < g6F y ∧ g6F y < g7F y ∧ g7F y < g8F y ∧ g8F y = 181440
theorem gates_p (y : Int) : gatesP y := by
  unfold gatesP g1F g2F g3F g4F g5F g6F g7F g8F
  cases thF y <;> cases thF (y - 1) <;> cases thF (y + 1) <;> decide
abbrev RG (y : Int) : Ret := fun h₀ L m news s Q => ∀ (D d1 d2 d3 d4 d5 d6 d7 d8 : Addr) (t1 u1 v1 t2 u2 v2 t3 u3 v3 t4 u4 v4 t5 u5 v5 t6 u6 v6 t7 u7 v7 t8 u8 v8 : Tok) (h' : Heap) (tk' : Nat), gatesP y → Fr h₀ L h' m → News h₀ L h' ((D, tup8 d1 d2 d3 d4 d5 d6 d7 d8) :: (d8, tup3 (g8F y) 1 (n8F y) t8 u8 v8 0) :: (d7, tup3 (g7F y) 6 (n7F y) t7 u7 v7 0) :: (d6, tup3 (g6F y) 6 (n6F y) t6 u6 v6 0) :: (d5, tup3 (g5F y) 4 (n5F y) t5 u5 v5 0) :: (d4, tup3 (g4F y) 4 (n4F y) t4 u4 v4 0) :: (d3, tup3 (g3F y) 2 (n3F y) t3 u3 v3 0) :: (d2, tup3 (g2F y) 1 (n2F y) t2 u2 v2 0) :: (d1, tup3 (g1F y) 1 (n1F y) t1 u1 v1 0) :: news) → Q (.ref D) { s with heap := h', toks := tk' }
theorem retG {h₀ h' : Heap} {L : Addr} {m : Str → Option Value} {news : List (Addr × Obj)} {s : Shared} {Q : Value → Shared → Prop} {y : Int} {D d1 d2 d3 d4 d5 d6 d7 d8 : Addr} {t1 u1 v1 t2 u2 v2 t3 u3 v3 t4 u4 v4 t5 u5 v5 t6 u6 v6 t7 u7 v7 t8 u8 v8 : Tok} {x1 y1 z1 x2 y2 z2 x3 y3 z3 x4 y4 z4 x5 y5 z5 x6 y6 z6 x7 y7 z7 x8 y8 z8 : Int} {tk' : Nat}
    (hret : RG y h₀ L m news s Q) (a1 : x1 = g1F y) (b1 : y1 = 1) (c1 : z1 = n1F y) (a2 : x2 = g2F y) (b2 : y2 = 1) (c2 : z2 = n2F y) (a3 : x3 = g3F y) (b3 : y3 = 2) (c3 : z3 = n3F y) (a4 : x4 = g4F y) (b4 : y4 = 4) (c4 : z4 = n4F y) (a5 : x5 = g5F y) (b5 : y5 = 4) (c5 : z5 = n5F y) (a6 : x6 = g6F y) (b6 : y6 = 6) (c6 : z6 = n6F y) (a7 : x7 = g7F y) (b7 : y7 = 6) (c7 : z7 = n7F y) (a8 : x8 = g8F y) (b8 : y8 = 1) (c8 : z8 = n8F y) (F : Fr h₀ L h' m) (N : News h₀ L h' ((D, tup8 d1 d2 d3 d4 d5 d6 d7 d8) :: (d8, tup3 x8 y8 z8 t8 u8 v8 0) :: (d7, tup3 x7 y7 z7 t7 u7 v7 0) :: (d6, tup3 x6 y6 z6 t6 u6 v6 0) :: (d5, tup3 x5 y5 z5 t5 u5 v5 0) :: (d4, tup3 x4 y4 z4 t4 u4 v4 0) :: (d3, tup3 x3 y3 z3 t3 u3 v3 0) :: (d2, tup3 x2 y2 z2 t2 u2 v2 0) :: (d1, tup3 x1 y1 z1 t1 u1 v1 0) :: news)) : Q (.ref D) { s with heap := h', toks := tk' } := by
  subst a1 b1 c1 a2 b2 c2 a3 b3 c3 a4 b4 c4 a5 b5 c5 a6 b6 c6 a7 b7 c7 a8 b8 c8
  exact hret _ _ _ _ _ _ _ _ _ _ _ _ _ _ _ _ _ _ _ _ _ _ _ _ _ _ _ _ _ _ _ _ _ _ _ (gates_p y) F N
def sumT (ms : List Int) : Int := (ms.map fun e => if thF e = true then (13 : Int) else 12).sum
theorem sumT_nil {j : Int} : j = j + sumT [] := by simp [sumT]
theorem sumT_t {j a k : Int} {pre : List Int} (h : a = j + sumT pre) (ht : thF k = true) : a + 13 = j + sumT (pre ++ [k]) := by
  subst h
  simp only [sumT, List.map_append, List.map_cons, List.map_nil, List.sum_append, List.sum_cons, List.sum_nil, ht, if_true]
  omega
theorem sumT_f {j a k : Int} {pre : List Int} (h : a = j + sumT pre) (ht : thF k = false) : a + 12 = j + sumT (pre ++ [k]) := by
  subst h
  simp only [sumT, List.map_append, List.map_cons, List.map_nil, List.sum_append, List.sum_cons, List.sum_nil, ht, Bool.false_eq_true, if_false]
  omega
def wF (y q : Int) : Int := if q < g2F y then 1 else if q < g3F y then 2 else if q < g5F y then 4 else if q < g7F y then 6 else 1
def moonsF (y : Int) : Int := 235 * (y - 1).fdiv 19 + sumT (rangeKs 1 ((y - 1).fmod 19 + 1 - 1).toNat)
def partsF (y : Int) : Int := 31524 + 765433 * moonsF y
def qF (y : Int) : Int := (partsF y).fmod 181440
def nqF (y : Int) : Int := if qF y < g1F y then n1F y else if qF y < g2F y then n2F y else if qF y < g3F y then n3F y else if qF y < g4F y then n4F y else if qF y < g5F y then n5F y else if qF y < g6F y then n6F y else if qF y < g7F y then n7F y else n8F y
def evF (y : Int) : Int := (partsF y).fdiv 25920 + (wF y (qF y) - (partsF y).fdiv 25920) % 7
theorem wF_lt (y q : Int) : 0 ≤ wF y q ∧ wF y q < 7 := by unfold wF; repeat' split <;> omega
abbrev tup2 (a b : Int) (t u : Tok) (n : Nat) : Obj := { cls := .type "tuple", data := .seq #[.int a t, .int b u] n }
abbrev RT2 (x y : Int) : Ret := fun h₀ L m news s Q => ∀ (D : Addr) (t u : Tok) (n : Nat) (h' : Heap) (tk' : Nat), Fr h₀ L h' m → News h₀ L h' ((D, tup2 x y t u n) :: news) → (∀ p ∈ news, p.1 < D) → Q (.ref D) { s with heap := h', toks := tk' }
theorem retT2 {h₀ h' : Heap} {L : Addr} {m : Str → Option Value} {news news' : List (Addr × Obj)} {s : Shared} {Q : Value → Shared → Prop} {x y a b : Int} {t u : Tok} {n : Nat} {D : Addr} {tk' : Nat}
    (hret : RT2 x y h₀ L m news s Q) (e1 : a = x) (e2 : b = y) (F : Fr h₀ L h' m) (N : News h₀ L h' news') (hm : (D, tup2 a b t u n) ∈ news') (hs : ∀ p ∈ news, p ∈ news') (hl : ∀ p ∈ news, p.1 < D) : Q (.ref D) { s with heap := h', toks := tk' } := by
  subst e1 e2
  refine hret D t u n h' tk' F (fun p hp => ?_) hl
  rcases List.mem_cons.mp hp with rfl | hp
  · exact N _ hm
  · exact N p (hs p hp)
theorem gates_pick {y : Int} (P : gatesP y) {news : List (Addr × Obj)} {D d1 d2 d3 d4 d5 d6 d7 d8 : Addr} {t1 u1 v1 t2 u2 v2 t3 u3 v3 t4 u4 v4 t5 u5 v5 t6 u6 v6 t7 u7 v7 t8 u8 v8 : Tok} :
    ∃ (d : Addr) (g : Int) (t u v : Tok) (rest : List Value), ([] ++ (([(Value.ref d1, decide (qF y < g1F y)), (Value.ref d2, decide (qF y < g2F y)), (Value.ref d3, decide (qF y < g3F y)), (Value.ref d4, decide (qF y < g4F y)), (Value.ref d5, decide (qF y < g5F y)), (Value.ref d6, decide (qF y < g6F y)), (Value.ref d7, decide (qF y < g7F y)), (Value.ref d8, decide (qF y < g8F y))] : List (Value × Bool)).drop 0 |>.filter (·.2)).map (·.1)) = .ref d :: rest ∧
      (d, tup3 g (wF y (qF y)) (nqF y) t u v 0) ∈ ((D, tup8 d1 d2 d3 d4 d5 d6 d7 d8) :: (d8, tup3 (g8F y) 1 (n8F y) t8 u8 v8 0) :: (d7, tup3 (g7F y) 6 (n7F y) t7 u7 v7 0) :: (d6, tup3 (g6F y) 6 (n6F y) t6 u6 v6 0) :: (d5, tup3 (g5F y) 4 (n5F y) t5 u5 v5 0) :: (d4, tup3 (g4F y) 4 (n4F y) t4 u4 v4 0) :: (d3, tup3 (g3F y) 2 (n3F y) t3 u3 v3 0) :: (d2, tup3 (g2F y) 1 (n2F y) t2 u2 v2 0) :: (d1, tup3 (g1F y) 1 (n1F y) t1 u1 v1 0) :: news) := by
  obtain ⟨p1, p2, p3, p4, p5, p6, p7, p8⟩ := P
  have hq : qF y < 181440 := by unfold qF; rw [Int.fmod_eq_emod_of_nonneg _ (by omega)]; omega
  unfold nqF wF
  by_cases h1 : qF y < g1F y
  · have k2 : qF y < g2F y := (by omega); have k3 : qF y < g3F y := (by omega); have k4 : qF y < g4F y := (by omega); have k5 : qF y < g5F y := (by omega); have k6 : qF y < g6F y := (by omega); have k7 : qF y < g7F y := (by omega); have k8 : qF y < g8F y := (by omega); exact ⟨d1, g1F y, t1, u1, v1, [.ref d2, .ref d3, .ref d4, .ref d5, .ref d6, .ref d7, .ref d8], by simp [h1, k2, k3, k4, k5, k6, k7, k8], by simp [h1, k2, k3, k4, k5, k6, k7, k8]⟩
  ·
    by_cases h2 : qF y < g2F y
    · have k3 : qF y < g3F y := (by omega); have k4 : qF y < g4F y := (by omega); have k5 : qF y < g5F y := (by omega); have k6 : qF y < g6F y := (by omega); have k7 : qF y < g7F y := (by omega); have k8 : qF y < g8F y := (by omega); exact ⟨d2, g2F y, t2, u2, v2, [.ref d3, .ref d4, .ref d5, .ref d6, .ref d7, .ref d8], by simp [h1, h2, k3, k4, k5, k6, k7, k8], by simp [h1, h2, k3, k4, k5, k6, k7, k8]⟩
    ·
      by_cases h3 : qF y < g3F y
      · have k4 : qF y < g4F y := (by omega); have k5 : qF y < g5F y := (by omega); have k6 : qF y < g6F y := (by omega); have k7 : qF y < g7F y := (by omega); have k8 : qF y < g8F y := (by omega); exact ⟨d3, g3F y, t3, u3, v3, [.ref d4, .ref d5, .ref d6, .ref d7, .ref d8], by simp [h1, h2, h3, k4, k5, k6, k7, k8], by simp [h1, h2, h3, k4, k5, k6, k7, k8]⟩
      ·
        by_cases h4 : qF y < g4F y
        · have k5 : qF y < g5F y := (by omega); have k6 : qF y < g6F y := (by omega); have k7 : qF y < g7F y := (by omega); have k8 : qF y < g8F y := (by omega); exact ⟨d4, g4F y, t4, u4, v4, [.ref d5, .ref d6, .ref d7, .ref d8], by simp [h1, h2, h3, h4, k5, k6, k7, k8], by simp [h1, h2, h3, h4, k5, k6, k7, k8]⟩
        ·
          by_cases h5 : qF y < g5F y
          · have k6 : qF y < g6F y := (by omega); have k7 : qF y < g7F y := (by omega); have k8 : qF y < g8F y := (by omega); exact ⟨d5, g5F y, t5, u5, v5, [.ref d6, .ref d7, .ref d8], by simp [h1, h2, h3, h4, h5, k6, k7, k8], by simp [h1, h2, h3, h4, h5, k6, k7, k8]⟩
          ·
            by_cases h6 : qF y < g6F y
            · have k7 : qF y < g7F y := (by omega); have k8 : qF y < g8F y := (by omega); exact ⟨d6, g6F y, t6, u6, v6, [.ref d7, .ref d8], by simp [h1, h2, h3, h4, h5, h6, k7, k8], by simp [h1, h2, h3, h4, h5, h6, k7, k8]⟩
            ·
              by_cases h7 : qF y < g7F y
              · have k8 : qF y < g8F y := (by omega); exact ⟨d7, g7F y, t7, u7, v7, [.ref d8], by simp [h1, h2, h3, h4, h5, h6, h7, k8], by simp [h1, h2, h3, h4, h5, h6, h7, k8]⟩
              ·
                by_cases h8 : qF y < g8F y
                · exact ⟨d8, g8F y, t8, u8, v8, [], by simp [h1, h2, h3, h4, h5, h6, h7, h8], by simp [h1, h2, h3, h4, h5, h6, h7, h8]⟩
                · omega
theorem ev_start {W e : Int} : e ≤ e ∧ e ≤ e + (W - e) % 7 := by omega
theorem ev_turn {W e0 e : Int} (hw : 0 ≤ W ∧ W < 7) (h1 : e0 ≤ e) (h2 : e ≤ e0 + (W - e0) % 7) (hx : e.fmod 7 ≠ W) : e0 ≤ e + 1 ∧ e + 1 ≤ e0 + (W - e0) % 7 := by
  rw [Int.fmod_eq_emod_of_nonneg _ (by omega)] at hx
  omega
theorem ev_meas {W e0 e : Int} (hw : 0 ≤ W ∧ W < 7) (h1 : e0 ≤ e) (h2 : e ≤ e0 + (W - e0) % 7) (hx : e.fmod 7 ≠ W) : (e0 + (W - e0) % 7 - (e + 1)).toNat < (e0 + (W - e0) % 7 - e).toNat := by
  have := ev_turn hw h1 h2 hx
  omega
theorem ev_exit {W e0 e : Int} (h1 : e0 ≤ e) (h2 : e ≤ e0 + (W - e0) % 7) (hx : e.fmod 7 = W) : e = e0 + (W - e0) % 7 := by
  rw [Int.fmod_eq_emod_of_nonneg _ (by omega)] at hx
  omega
/-- one of two ints -/
def selI (c : Bool) (a b : Int) : Int := if c = true then a else b
theorem ite_consts {M : Model} {A : Around} {E : Value → Shared → Prop} {s : Shared} {env : Env} {c : Bool} {a b : Int} {k k' : Nat} {p p' : Pos} {Q : Value → Shared → Prop} (h : Q (.int (selI c a b) s.toks) { s with toks := s.toks + 1 }) :
    if c = true then wpAny M A (eval (.Constant (.int a) k p) env) Q E s else wpAny M A (eval (.Constant (.int b) k' p') env) Q E s := by
  cases c with
  | true => exact wpAny_Constant_int h
  | false => exact wpAny_Constant_int h
theorem whlif_split {c : Prop} [Decidable c] {T F : Prop} (ht : c → T) (hf : ¬ c → F) : WhlIf (decide c) T F := by
  by_cases h : c
  · exact WhlIf.yes (decide_eq_true h) (ht h)
  · exact WhlIf.no (decide_eq_false h) (hf h)
-- the plain law: the year
theorem fdv (a : Int) {b : Int} (h : 0 ≤ b) : a.fdiv b = a / b := Int.fdiv_eq_ediv_of_nonneg a h
theorem fmd (a : Int) {b : Int} (h : 0 ≤ b) : a.fmod b = a % b := Int.fmod_eq_emod_of_nonneg a h
theorem mo_e (y : Int) : moF y = (235 * y - 234) / 19 := by unfold moF; exact fdv _ (by decide)
theorem day_e (y : Int) : dayF y = (12084 + 765433 * moF y) / 25920 := by unfold dayF; rw [fdv _ (by decide)]; omega
theorem leap_e (y : Int) : leapF y = true ↔ (y * 7 + 1) % 19 < 7 := by unfold leapF; rw [fmd _ (by decide)]; exact decide_eq_true_iff
theorem leap_f (y : Int) : leapF y = false ↔ ¬ (y * 7 + 1) % 19 < 7 := by rw [← leap_e]; cases leapF y <;> simp
theorem y_split (y : Int) : ∃ t : Int, y = 19 * t + 1 ∨ y = 19 * t + 2 ∨ y = 19 * t + 3 ∨ y = 19 * t + 4 ∨ y = 19 * t + 5 ∨ y = 19 * t + 6 ∨ y = 19 * t + 7 ∨ y = 19 * t + 8 ∨ y = 19 * t + 9 ∨ y = 19 * t + 10 ∨ y = 19 * t + 11 ∨ y = 19 * t + 12 ∨ y = 19 * t + 13 ∨ y = 19 * t + 14 ∨ y = 19 * t + 15 ∨ y = 19 * t + 16 ∨ y = 19 * t + 17 ∨ y = 19 * t + 18 ∨ y = 19 * t + 19 := ⟨(y - 1) / 19, by omega⟩
theorem th_leap (y : Int) : thF y = leapF y := by
  have h : thF y = true ↔ leapF y = true := by
    rw [leap_e]
    unfold thF
    simp only [fmd _ (show (0 : Int) ≤ 19 by decide), List.any_cons, List.any_nil, Bool.or_false, Bool.or_eq_true, beq_iff_eq]
    obtain ⟨t, ht⟩ := y_split y; rcases ht with rfl | rfl | rfl | rfl | rfl | rfl | rfl | rfl | rfl | rfl | rfl | rfl | rfl | rfl | rfl | rfl | rfl | rfl | rfl <;> omega
  cases h1 : thF y <;> cases h2 : leapF y <;> simp_all
theorem mo_step (y : Int) : (leapF y = true ∧ moF (y + 1) = moF y + 13) ∨ (leapF y = false ∧ moF (y + 1) = moF y + 12) := by
  rw [mo_e, mo_e, leap_e, leap_f]
  obtain ⟨t, ht⟩ := y_split y; rcases ht with rfl | rfl | rfl | rfl | rfl | rfl | rfl | rfl | rfl | rfl | rfl | rfl | rfl | rfl | rfl | rfl | rfl | rfl | rfl <;> omega
theorem sumT_k : ∀ k : Nat, k < 19 → sumT (rangeKs 1 k) = (235 * (k : Int) + 1) / 19 := by decide
theorem moons_mo (y : Int) : moonsF y = moF y := by
  unfold moonsF
  rw [mo_e, fdv _ (by decide), fmd _ (by decide), sumT_k _ (by omega)]
  omega
theorem parts_e (y : Int) : partsF y = 31524 + 765433 * moF y := by unfold partsF; rw [moons_mo]
theorem parts_step (y : Int) : (thF y = true ∧ partsF (y + 1) = partsF y + 9950629) ∨ (thF y = false ∧ partsF (y + 1) = partsF y + 9185196) := by
  rw [parts_e, parts_e, th_leap]
  rcases mo_step y with h | h
  · left; exact ⟨h.1, by omega⟩
  · right; exact ⟨h.1, by omega⟩
theorem th_pat (y : Int) : (thF y = true ∧ thF (y - 1) = false ∧ thF (y + 1) = false) ∨ (thF y = false ∧ (thF (y - 1) = true ∨ thF (y + 1) = true)) := by
  rw [th_leap, th_leap, th_leap, leap_e, leap_e, leap_e, leap_f, leap_f, leap_f]
  obtain ⟨t, ht⟩ := y_split y; rcases ht with rfl | rfl | rfl | rfl | rfl | rfl | rfl | rfl | rfl | rfl | rfl | rfl | rfl | rfl | rfl | rfl | rfl | rfl | rfl <;> omega

/-- the pieces of the first delay, by the place z in the week -/
def Pc (z v : Int) : Prop := (z < 45360 ∧ v = 0) ∨ (45360 ≤ z ∧ z < 71280 ∧ v = 1) ∨ (71280 ≤ z ∧ z < 123120 ∧ v = 3) ∨ (123120 ≤ z ∧ z < 174960 ∧ v = 5) ∨ (174960 ≤ z ∧ z < 226800 ∧ v = 7) ∨
  (226800 ≤ z ∧ z < 252720 ∧ v = 8) ∨ (252720 ≤ z ∧ z < 304560 ∧ v = 10) ∨ (304560 ≤ z ∧ z < 356400 ∧ v = 12) ∨ (356400 ≤ z ∧ v = 14)
theorem d1_e (y : Int) : d1F y = if (3 * ((partsF y - 19440) / 25920 + 1)) % 7 < 3 then (partsF y - 19440) / 25920 + 1 else (partsF y - 19440) / 25920 := by
  have h : dayF y = (partsF y - 19440) / 25920 := by rw [day_e, parts_e]; congr 1; omega
  unfold d1F
  rw [fmd _ (by decide), h]
theorem d1_pc {y w z : Int} (h : partsF y = 181440 * w + z) (h0 : 0 ≤ z) (h1 : z < 362880) : Pc z (d1F y - 7 * w) := by
  have e : (partsF y - 19440) / 25920 = 7 * w + (z - 19440) / 25920 := by omega
  rw [d1_e, e]
  generalize hd : (z - 19440) / 25920 = d
  have hd1 : d = -1 ∨ d = 0 ∨ d = 1 ∨ d = 2 ∨ d = 3 ∨ d = 4 ∨ d = 5 ∨ d = 6 ∨ d = 7 ∨ d = 8 ∨ d = 9 ∨ d = 10 ∨ d = 11 ∨ d = 12 ∨ d = 13 := by omega
  unfold Pc
  rcases hd1 with rfl | rfl | rfl | rfl | rfl | rfl | rfl | rfl | rfl | rfl | rfl | rfl | rfl | rfl | rfl <;> (split <;> omega)
theorem d2_cases (y : Int) : (d1F (y + 1) - d1F y = 356 ∧ d2F y = 2) ∨ (d1F (y + 1) - d1F y ≠ 356 ∧ d1F y - d1F (y - 1) = 382 ∧ d2F y = 1) ∨ (d1F (y + 1) - d1F y ≠ 356 ∧ d1F y - d1F (y - 1) ≠ 382 ∧ d2F y = 0) := by
  unfold d2F
  split
  · left; exact ⟨by assumption, rfl⟩
  · split
    · right; left; exact ⟨by assumption, by assumption, rfl⟩
    · right; right; exact ⟨by assumption, by assumption, rfl⟩
/-- a year's start before the midnight's turn -/
def sF (y : Int) : Int := 347998 + d1F y + d2F y
theorem t_e (y : Int) : tF y = midF (sF y) := by unfold tF sF; congr 1; omega
theorem s_bounds (y : Int) : 347998 + (partsF y - 19440) / 25920 ≤ sF y ∧ sF y ≤ 347998 + (partsF y - 19440) / 25920 + 3 := by
  have h1 : (partsF y - 19440) / 25920 ≤ d1F y ∧ d1F y ≤ (partsF y - 19440) / 25920 + 1 := by rw [d1_e]; split <;> omega
  have h2 := d2_cases y
  unfold sF
  omega
theorem s_mono {i j : Int} (h : i < j) : sF i + 300 ≤ sF j := by
  have h1 := s_bounds i
  have h2 := s_bounds j
  rw [parts_e, mo_e] at h1 h2
  omega
theorem t_mono {i j : Int} (h : i < j) : tF i < tF j := by
  have := s_mono h
  rw [t_e, t_e]
  unfold midF
  split <;> split <;> omega
theorem s_pos {y : Int} (h : -951 ≤ y) : 0 < sF y := by
  have h1 := s_bounds y
  rw [parts_e, mo_e] at h1
  omega
theorem t_s {y : Int} (h : -951 ≤ y) : tF y = sF y := by rw [t_e]; unfold midF; rw [if_pos (s_pos h)]
theorem t_iff {jd Y : Int} (h1 : tF Y ≤ jd) (h2 : jd < tF (Y + 1)) : ∀ i, tF i ≤ jd ↔ i ≤ Y := by
  intro i
  constructor
  · intro h
    by_cases hi : i ≤ Y
    · exact hi
    · exfalso
      by_cases he : i = Y + 1
      · subst he; omega
      · have := t_mono (show Y + 1 < i by omega); omega
  · intro h
    by_cases he : i = Y
    · subst he; exact h1
    · have := t_mono (show i < Y by omega); omega
theorem count_le {jd Y : Int} (hY : -951 ≤ Y) (h2 : jd < tF (Y + 1)) : ((jd - 347996) * 98496).fdiv 35975351 ≤ Y + 1 := by
  rw [t_s (by omega)] at h2
  have h := (s_bounds (Y + 1)).2
  rw [parts_e, mo_e] at h
  rw [fdv _ (by decide)]
  omega
end

section
theorem pc0 {z v : Int} (h : Pc z v) (h2 : z < 45360) : v = 0 := by unfold Pc at h; omega
theorem pc1 {z v : Int} (h : Pc z v) (h1 : 45360 ≤ z) (h2 : z < 71280) : v = 1 := by unfold Pc at h; omega
theorem pc2 {z v : Int} (h : Pc z v) (h1 : 71280 ≤ z) (h2 : z < 123120) : v = 3 := by unfold Pc at h; omega
theorem pc3 {z v : Int} (h : Pc z v) (h1 : 123120 ≤ z) (h2 : z < 174960) : v = 5 := by unfold Pc at h; omega
theorem pc4 {z v : Int} (h : Pc z v) (h1 : 174960 ≤ z) (h2 : z < 226800) : v = 7 := by unfold Pc at h; omega
theorem pc5 {z v : Int} (h : Pc z v) (h1 : 226800 ≤ z) (h2 : z < 252720) : v = 8 := by unfold Pc at h; omega
theorem pc6 {z v : Int} (h : Pc z v) (h1 : 252720 ≤ z) (h2 : z < 304560) : v = 10 := by unfold Pc at h; omega
theorem pc7 {z v : Int} (h : Pc z v) (h1 : 304560 ≤ z) (h2 : z < 356400) : v = 12 := by unfold Pc at h; omega
theorem pc8 {z v : Int} (h : Pc z v) (h1 : 356400 ≤ z) : v = 14 := by unfold Pc at h; omega
theorem core_L {q a b c m e f wq nq : Int} (h0 : 0 ≤ q) (hq : q < 181440) (ha : Pc q a) (hb : Pc (q + 152869) b) (hc : Pc (q + 84625) c) (hm : Pc (q + 68244) m)
    (he : (b + 7 * 54 - a = 356 ∧ e = 2) ∨ (b + 7 * 54 - a ≠ 356 ∧ a - (m - 7 * 51) = 382 ∧ e = 1) ∨ (b + 7 * 54 - a ≠ 356 ∧ a - (m - 7 * 51) ≠ 382 ∧ e = 0))
    (hf : (c + 7 * 105 - (b + 7 * 54) = 356 ∧ f = 2) ∨ (c + 7 * 105 - (b + 7 * 54) ≠ 356 ∧ b + 7 * 54 - a = 382 ∧ f = 1) ∨ (c + 7 * 105 - (b + 7 * 54) ≠ 356 ∧ b + 7 * 54 - a ≠ 382 ∧ f = 0))
    (hw : wq = if q < 45360 then (1 : Int) else if q < 71280 then 2 else if q < 123120 then 4 else if q < 174960 then 6 else 1) (hn : nq = if q < 22091 then (383 : Int) else if q < 45360 then (385 : Int) else if q < 71280 then (384 : Int) else if q < 90335 then (383 : Int) else if q < 123120 then (385 : Int) else if q < 151691 then (383 : Int) else if q < 174960 then (385 : Int) else 383) :
    1 + a + e = q / 25920 + (wq - q / 25920) % 7 ∧ b + 7 * 54 + f - a - e = nq := by
  by_cases k0 : q < 3036
  · have ha' := pc0 ha (by omega); have hb' := pc3 hb (by omega) (by omega); have hc' := pc2 hc (by omega) (by omega); have hm' := pc1 hm (by omega) (by omega); rw [if_pos (by omega)] at hw; rw [if_pos (by omega)] at hn; have hd : q / 25920 = 0 := (by omega); clear ha hb hc hm; rw [hd]; omega
  by_cases k1 : q < 22091
  · have ha' := pc0 ha (by omega); have hb' := pc3 hb (by omega) (by omega); have hc' := pc2 hc (by omega) (by omega); have hm' := pc2 hm (by omega) (by omega); rw [if_pos (by omega)] at hw; rw [if_pos (by omega)] at hn; have hd : q / 25920 = 0 := (by omega); clear ha hb hc hm; rw [hd]; omega
  by_cases k2 : q < 25920
  · have ha' := pc0 ha (by omega); have hb' := pc4 hb (by omega) (by omega); have hc' := pc2 hc (by omega) (by omega); have hm' := pc2 hm (by omega) (by omega); rw [if_pos (by omega)] at hw; rw [if_neg (by omega), if_pos (by omega)] at hn; have hd : q / 25920 = 0 := (by omega); clear ha hb hc hm; rw [hd]; omega
  by_cases k3 : q < 38495
  · have ha' := pc0 ha (by omega); have hb' := pc4 hb (by omega) (by omega); have hc' := pc2 hc (by omega) (by omega); have hm' := pc2 hm (by omega) (by omega); rw [if_pos (by omega)] at hw; rw [if_neg (by omega), if_pos (by omega)] at hn; have hd : q / 25920 = 1 := (by omega); clear ha hb hc hm; rw [hd]; omega
  by_cases k4 : q < 45360
  · have ha' := pc0 ha (by omega); have hb' := pc4 hb (by omega) (by omega); have hc' := pc3 hc (by omega) (by omega); have hm' := pc2 hm (by omega) (by omega); rw [if_pos (by omega)] at hw; rw [if_neg (by omega), if_pos (by omega)] at hn; have hd : q / 25920 = 1 := (by omega); clear ha hb hc hm; rw [hd]; omega
  by_cases k5 : q < 51840
  · have ha' := pc1 ha (by omega) (by omega); have hb' := pc4 hb (by omega) (by omega); have hc' := pc3 hc (by omega) (by omega); have hm' := pc2 hm (by omega) (by omega); rw [if_neg (by omega), if_pos (by omega)] at hw; rw [if_neg (by omega), if_neg (by omega), if_pos (by omega)] at hn; have hd : q / 25920 = 1 := (by omega); clear ha hb hc hm; rw [hd]; omega
  by_cases k6 : q < 54876
  · have ha' := pc1 ha (by omega) (by omega); have hb' := pc4 hb (by omega) (by omega); have hc' := pc3 hc (by omega) (by omega); have hm' := pc2 hm (by omega) (by omega); rw [if_neg (by omega), if_pos (by omega)] at hw; rw [if_neg (by omega), if_neg (by omega), if_pos (by omega)] at hn; have hd : q / 25920 = 2 := (by omega); clear ha hb hc hm; rw [hd]; omega
  by_cases k7 : q < 71280
  · have ha' := pc1 ha (by omega) (by omega); have hb' := pc4 hb (by omega) (by omega); have hc' := pc3 hc (by omega) (by omega); have hm' := pc3 hm (by omega) (by omega); rw [if_neg (by omega), if_pos (by omega)] at hw; rw [if_neg (by omega), if_neg (by omega), if_pos (by omega)] at hn; have hd : q / 25920 = 2 := (by omega); clear ha hb hc hm; rw [hd]; omega
  by_cases k8 : q < 73931
  · have ha' := pc2 ha (by omega) (by omega); have hb' := pc4 hb (by omega) (by omega); have hc' := pc3 hc (by omega) (by omega); have hm' := pc3 hm (by omega) (by omega); rw [if_neg (by omega), if_neg (by omega), if_pos (by omega)] at hw; rw [if_neg (by omega), if_neg (by omega), if_neg (by omega), if_pos (by omega)] at hn; have hd : q / 25920 = 2 := (by omega); clear ha hb hc hm; rw [hd]; omega
  by_cases k9 : q < 77760
  · have ha' := pc2 ha (by omega) (by omega); have hb' := pc5 hb (by omega) (by omega); have hc' := pc3 hc (by omega) (by omega); have hm' := pc3 hm (by omega) (by omega); rw [if_neg (by omega), if_neg (by omega), if_pos (by omega)] at hw; rw [if_neg (by omega), if_neg (by omega), if_neg (by omega), if_pos (by omega)] at hn; have hd : q / 25920 = 2 := (by omega); clear ha hb hc hm; rw [hd]; omega
  by_cases k10 : q < 90335
  · have ha' := pc2 ha (by omega) (by omega); have hb' := pc5 hb (by omega) (by omega); have hc' := pc3 hc (by omega) (by omega); have hm' := pc3 hm (by omega) (by omega); rw [if_neg (by omega), if_neg (by omega), if_pos (by omega)] at hw; rw [if_neg (by omega), if_neg (by omega), if_neg (by omega), if_pos (by omega)] at hn; have hd : q / 25920 = 3 := (by omega); clear ha hb hc hm; rw [hd]; omega
  by_cases k11 : q < 99851
  · have ha' := pc2 ha (by omega) (by omega); have hb' := pc5 hb (by omega) (by omega); have hc' := pc4 hc (by omega) (by omega); have hm' := pc3 hm (by omega) (by omega); rw [if_neg (by omega), if_neg (by omega), if_pos (by omega)] at hw; rw [if_neg (by omega), if_neg (by omega), if_neg (by omega), if_neg (by omega), if_pos (by omega)] at hn; have hd : q / 25920 = 3 := (by omega); clear ha hb hc hm; rw [hd]; omega
  by_cases k12 : q < 103680
  · have ha' := pc2 ha (by omega) (by omega); have hb' := pc6 hb (by omega) (by omega); have hc' := pc4 hc (by omega) (by omega); have hm' := pc3 hm (by omega) (by omega); rw [if_neg (by omega), if_neg (by omega), if_pos (by omega)] at hw; rw [if_neg (by omega), if_neg (by omega), if_neg (by omega), if_neg (by omega), if_pos (by omega)] at hn; have hd : q / 25920 = 3 := (by omega); clear ha hb hc hm; rw [hd]; omega
  by_cases k13 : q < 106716
  · have ha' := pc2 ha (by omega) (by omega); have hb' := pc6 hb (by omega) (by omega); have hc' := pc4 hc (by omega) (by omega); have hm' := pc3 hm (by omega) (by omega); rw [if_neg (by omega), if_neg (by omega), if_pos (by omega)] at hw; rw [if_neg (by omega), if_neg (by omega), if_neg (by omega), if_neg (by omega), if_pos (by omega)] at hn; have hd : q / 25920 = 4 := (by omega); clear ha hb hc hm; rw [hd]; omega
  by_cases k14 : q < 123120
  · have ha' := pc2 ha (by omega) (by omega); have hb' := pc6 hb (by omega) (by omega); have hc' := pc4 hc (by omega) (by omega); have hm' := pc4 hm (by omega) (by omega); rw [if_neg (by omega), if_neg (by omega), if_pos (by omega)] at hw; rw [if_neg (by omega), if_neg (by omega), if_neg (by omega), if_neg (by omega), if_pos (by omega)] at hn; have hd : q / 25920 = 4 := (by omega); clear ha hb hc hm; rw [hd]; omega
  by_cases k15 : q < 129600
  · have ha' := pc3 ha (by omega) (by omega); have hb' := pc6 hb (by omega) (by omega); have hc' := pc4 hc (by omega) (by omega); have hm' := pc4 hm (by omega) (by omega); rw [if_neg (by omega), if_neg (by omega), if_neg (by omega), if_pos (by omega)] at hw; rw [if_neg (by omega), if_neg (by omega), if_neg (by omega), if_neg (by omega), if_neg (by omega), if_pos (by omega)] at hn; have hd : q / 25920 = 4 := (by omega); clear ha hb hc hm; rw [hd]; omega
  by_cases k16 : q < 142175
  · have ha' := pc3 ha (by omega) (by omega); have hb' := pc6 hb (by omega) (by omega); have hc' := pc4 hc (by omega) (by omega); have hm' := pc4 hm (by omega) (by omega); rw [if_neg (by omega), if_neg (by omega), if_neg (by omega), if_pos (by omega)] at hw; rw [if_neg (by omega), if_neg (by omega), if_neg (by omega), if_neg (by omega), if_neg (by omega), if_pos (by omega)] at hn; have hd : q / 25920 = 5 := (by omega); clear ha hb hc hm; rw [hd]; omega
  by_cases k17 : q < 151691
  · have ha' := pc3 ha (by omega) (by omega); have hb' := pc6 hb (by omega) (by omega); have hc' := pc5 hc (by omega) (by omega); have hm' := pc4 hm (by omega) (by omega); rw [if_neg (by omega), if_neg (by omega), if_neg (by omega), if_pos (by omega)] at hw; rw [if_neg (by omega), if_neg (by omega), if_neg (by omega), if_neg (by omega), if_neg (by omega), if_pos (by omega)] at hn; have hd : q / 25920 = 5 := (by omega); clear ha hb hc hm; rw [hd]; omega
  by_cases k18 : q < 155520
  · have ha' := pc3 ha (by omega) (by omega); have hb' := pc7 hb (by omega) (by omega); have hc' := pc5 hc (by omega) (by omega); have hm' := pc4 hm (by omega) (by omega); rw [if_neg (by omega), if_neg (by omega), if_neg (by omega), if_pos (by omega)] at hw; rw [if_neg (by omega), if_neg (by omega), if_neg (by omega), if_neg (by omega), if_neg (by omega), if_neg (by omega), if_pos (by omega)] at hn; have hd : q / 25920 = 5 := (by omega); clear ha hb hc hm; rw [hd]; omega
  by_cases k19 : q < 158556
  · have ha' := pc3 ha (by omega) (by omega); have hb' := pc7 hb (by omega) (by omega); have hc' := pc5 hc (by omega) (by omega); have hm' := pc4 hm (by omega) (by omega); rw [if_neg (by omega), if_neg (by omega), if_neg (by omega), if_pos (by omega)] at hw; rw [if_neg (by omega), if_neg (by omega), if_neg (by omega), if_neg (by omega), if_neg (by omega), if_neg (by omega), if_pos (by omega)] at hn; have hd : q / 25920 = 6 := (by omega); clear ha hb hc hm; rw [hd]; omega
  by_cases k20 : q < 168095
  · have ha' := pc3 ha (by omega) (by omega); have hb' := pc7 hb (by omega) (by omega); have hc' := pc5 hc (by omega) (by omega); have hm' := pc5 hm (by omega) (by omega); rw [if_neg (by omega), if_neg (by omega), if_neg (by omega), if_pos (by omega)] at hw; rw [if_neg (by omega), if_neg (by omega), if_neg (by omega), if_neg (by omega), if_neg (by omega), if_neg (by omega), if_pos (by omega)] at hn; have hd : q / 25920 = 6 := (by omega); clear ha hb hc hm; rw [hd]; omega
  by_cases k21 : q < 174960
  · have ha' := pc3 ha (by omega) (by omega); have hb' := pc7 hb (by omega) (by omega); have hc' := pc6 hc (by omega) (by omega); have hm' := pc5 hm (by omega) (by omega); rw [if_neg (by omega), if_neg (by omega), if_neg (by omega), if_pos (by omega)] at hw; rw [if_neg (by omega), if_neg (by omega), if_neg (by omega), if_neg (by omega), if_neg (by omega), if_neg (by omega), if_pos (by omega)] at hn; have hd : q / 25920 = 6 := (by omega); clear ha hb hc hm; rw [hd]; omega
  · have ha' := pc4 ha (by omega) (by omega); have hb' := pc7 hb (by omega) (by omega); have hc' := pc6 hc (by omega) (by omega); have hm' := pc5 hm (by omega) (by omega); rw [if_neg (by omega), if_neg (by omega), if_neg (by omega), if_neg (by omega)] at hw; rw [if_neg (by omega), if_neg (by omega), if_neg (by omega), if_neg (by omega), if_neg (by omega), if_neg (by omega), if_neg (by omega)] at hn; have hd : q / 25920 = 6 := (by omega); clear ha hb hc hm; rw [hd]; omega
theorem core_P {q a b c m e f wq nq : Int} (h0 : 0 ≤ q) (hq : q < 181440) (ha : Pc q a) (hb : Pc (q + 113196) b) (hc : Pc (q + 44952) c) (hm : Pc (q + 28571) m)
    (he : (b + 7 * 50 - a = 356 ∧ e = 2) ∨ (b + 7 * 50 - a ≠ 356 ∧ a - (m - 7 * 55) = 382 ∧ e = 1) ∨ (b + 7 * 50 - a ≠ 356 ∧ a - (m - 7 * 55) ≠ 382 ∧ e = 0))
    (hf : (c + 7 * 101 - (b + 7 * 50) = 356 ∧ f = 2) ∨ (c + 7 * 101 - (b + 7 * 50) ≠ 356 ∧ b + 7 * 50 - a = 382 ∧ f = 1) ∨ (c + 7 * 101 - (b + 7 * 50) ≠ 356 ∧ b + 7 * 50 - a ≠ 382 ∧ f = 0))
    (hw : wq = if q < 42709 then (1 : Int) else if q < 61764 then 2 else if q < 123120 then 4 else if q < 174960 then 6 else 1) (hn : nq = if q < 9924 then (353 : Int) else if q < 42709 then (355 : Int) else if q < 61764 then (354 : Int) else if q < 113604 then (354 : Int) else if q < 123120 then (355 : Int) else if q < 130008 then (353 : Int) else if q < 174960 then (355 : Int) else 353) :
    1 + a + e = q / 25920 + (wq - q / 25920) % 7 ∧ b + 7 * 50 + f - a - e = nq := by
  by_cases k0 : q < 408
  · have ha' := pc0 ha (by omega); have hb' := pc2 hb (by omega) (by omega); have hc' := pc0 hc (by omega); have hm' := pc0 hm (by omega); rw [if_pos (by omega)] at hw; rw [if_pos (by omega)] at hn; have hd : q / 25920 = 0 := (by omega); clear ha hb hc hm; rw [hd]; omega
  by_cases k1 : q < 9924
  · have ha' := pc0 ha (by omega); have hb' := pc2 hb (by omega) (by omega); have hc' := pc1 hc (by omega) (by omega); have hm' := pc0 hm (by omega); rw [if_pos (by omega)] at hw; rw [if_pos (by omega)] at hn; have hd : q / 25920 = 0 := (by omega); clear ha hb hc hm; rw [hd]; omega
  by_cases k2 : q < 16789
  · have ha' := pc0 ha (by omega); have hb' := pc3 hb (by omega) (by omega); have hc' := pc1 hc (by omega) (by omega); have hm' := pc0 hm (by omega); rw [if_pos (by omega)] at hw; rw [if_neg (by omega), if_pos (by omega)] at hn; have hd : q / 25920 = 0 := (by omega); clear ha hb hc hm; rw [hd]; omega
  by_cases k3 : q < 25920
  · have ha' := pc0 ha (by omega); have hb' := pc3 hb (by omega) (by omega); have hc' := pc1 hc (by omega) (by omega); have hm' := pc1 hm (by omega) (by omega); rw [if_pos (by omega)] at hw; rw [if_neg (by omega), if_pos (by omega)] at hn; have hd : q / 25920 = 0 := (by omega); clear ha hb hc hm; rw [hd]; omega
  by_cases k4 : q < 26328
  · have ha' := pc0 ha (by omega); have hb' := pc3 hb (by omega) (by omega); have hc' := pc1 hc (by omega) (by omega); have hm' := pc1 hm (by omega) (by omega); rw [if_pos (by omega)] at hw; rw [if_neg (by omega), if_pos (by omega)] at hn; have hd : q / 25920 = 1 := (by omega); clear ha hb hc hm; rw [hd]; omega
  by_cases k5 : q < 42709
  · have ha' := pc0 ha (by omega); have hb' := pc3 hb (by omega) (by omega); have hc' := pc2 hc (by omega) (by omega); have hm' := pc1 hm (by omega) (by omega); rw [if_pos (by omega)] at hw; rw [if_neg (by omega), if_pos (by omega)] at hn; have hd : q / 25920 = 1 := (by omega); clear ha hb hc hm; rw [hd]; omega
  by_cases k6 : q < 45360
  · have ha' := pc0 ha (by omega); have hb' := pc3 hb (by omega) (by omega); have hc' := pc2 hc (by omega) (by omega); have hm' := pc2 hm (by omega) (by omega); rw [if_neg (by omega), if_pos (by omega)] at hw; rw [if_neg (by omega), if_neg (by omega), if_pos (by omega)] at hn; have hd : q / 25920 = 1 := (by omega); clear ha hb hc hm; rw [hd]; omega
  by_cases k7 : q < 51840
  · have ha' := pc1 ha (by omega) (by omega); have hb' := pc3 hb (by omega) (by omega); have hc' := pc2 hc (by omega) (by omega); have hm' := pc2 hm (by omega) (by omega); rw [if_neg (by omega), if_pos (by omega)] at hw; rw [if_neg (by omega), if_neg (by omega), if_pos (by omega)] at hn; have hd : q / 25920 = 1 := (by omega); clear ha hb hc hm; rw [hd]; omega
  by_cases k8 : q < 61764
  · have ha' := pc1 ha (by omega) (by omega); have hb' := pc3 hb (by omega) (by omega); have hc' := pc2 hc (by omega) (by omega); have hm' := pc2 hm (by omega) (by omega); rw [if_neg (by omega), if_pos (by omega)] at hw; rw [if_neg (by omega), if_neg (by omega), if_pos (by omega)] at hn; have hd : q / 25920 = 2 := (by omega); clear ha hb hc hm; rw [hd]; omega
  by_cases k9 : q < 71280
  · have ha' := pc1 ha (by omega) (by omega); have hb' := pc4 hb (by omega) (by omega); have hc' := pc2 hc (by omega) (by omega); have hm' := pc2 hm (by omega) (by omega); rw [if_neg (by omega), if_neg (by omega), if_pos (by omega)] at hw; rw [if_neg (by omega), if_neg (by omega), if_neg (by omega), if_pos (by omega)] at hn; have hd : q / 25920 = 2 := (by omega); clear ha hb hc hm; rw [hd]; omega
  by_cases k10 : q < 77760
  · have ha' := pc2 ha (by omega) (by omega); have hb' := pc4 hb (by omega) (by omega); have hc' := pc2 hc (by omega) (by omega); have hm' := pc2 hm (by omega) (by omega); rw [if_neg (by omega), if_neg (by omega), if_pos (by omega)] at hw; rw [if_neg (by omega), if_neg (by omega), if_neg (by omega), if_pos (by omega)] at hn; have hd : q / 25920 = 2 := (by omega); clear ha hb hc hm; rw [hd]; omega
  by_cases k11 : q < 78168
  · have ha' := pc2 ha (by omega) (by omega); have hb' := pc4 hb (by omega) (by omega); have hc' := pc2 hc (by omega) (by omega); have hm' := pc2 hm (by omega) (by omega); rw [if_neg (by omega), if_neg (by omega), if_pos (by omega)] at hw; rw [if_neg (by omega), if_neg (by omega), if_neg (by omega), if_pos (by omega)] at hn; have hd : q / 25920 = 3 := (by omega); clear ha hb hc hm; rw [hd]; omega
  by_cases k12 : q < 94549
  · have ha' := pc2 ha (by omega) (by omega); have hb' := pc4 hb (by omega) (by omega); have hc' := pc3 hc (by omega) (by omega); have hm' := pc2 hm (by omega) (by omega); rw [if_neg (by omega), if_neg (by omega), if_pos (by omega)] at hw; rw [if_neg (by omega), if_neg (by omega), if_neg (by omega), if_pos (by omega)] at hn; have hd : q / 25920 = 3 := (by omega); clear ha hb hc hm; rw [hd]; omega
  by_cases k13 : q < 103680
  · have ha' := pc2 ha (by omega) (by omega); have hb' := pc4 hb (by omega) (by omega); have hc' := pc3 hc (by omega) (by omega); have hm' := pc3 hm (by omega) (by omega); rw [if_neg (by omega), if_neg (by omega), if_pos (by omega)] at hw; rw [if_neg (by omega), if_neg (by omega), if_neg (by omega), if_pos (by omega)] at hn; have hd : q / 25920 = 3 := (by omega); clear ha hb hc hm; rw [hd]; omega
  by_cases k14 : q < 113604
  · have ha' := pc2 ha (by omega) (by omega); have hb' := pc4 hb (by omega) (by omega); have hc' := pc3 hc (by omega) (by omega); have hm' := pc3 hm (by omega) (by omega); rw [if_neg (by omega), if_neg (by omega), if_pos (by omega)] at hw; rw [if_neg (by omega), if_neg (by omega), if_neg (by omega), if_pos (by omega)] at hn; have hd : q / 25920 = 4 := (by omega); clear ha hb hc hm; rw [hd]; omega
  by_cases k15 : q < 123120
  · have ha' := pc2 ha (by omega) (by omega); have hb' := pc5 hb (by omega) (by omega); have hc' := pc3 hc (by omega) (by omega); have hm' := pc3 hm (by omega) (by omega); rw [if_neg (by omega), if_neg (by omega), if_pos (by omega)] at hw; rw [if_neg (by omega), if_neg (by omega), if_neg (by omega), if_neg (by omega), if_pos (by omega)] at hn; have hd : q / 25920 = 4 := (by omega); clear ha hb hc hm; rw [hd]; omega
  by_cases k16 : q < 129600
  · have ha' := pc3 ha (by omega) (by omega); have hb' := pc5 hb (by omega) (by omega); have hc' := pc3 hc (by omega) (by omega); have hm' := pc3 hm (by omega) (by omega); rw [if_neg (by omega), if_neg (by omega), if_neg (by omega), if_pos (by omega)] at hw; rw [if_neg (by omega), if_neg (by omega), if_neg (by omega), if_neg (by omega), if_neg (by omega), if_pos (by omega)] at hn; have hd : q / 25920 = 4 := (by omega); clear ha hb hc hm; rw [hd]; omega
  by_cases k17 : q < 130008
  · have ha' := pc3 ha (by omega) (by omega); have hb' := pc5 hb (by omega) (by omega); have hc' := pc3 hc (by omega) (by omega); have hm' := pc3 hm (by omega) (by omega); rw [if_neg (by omega), if_neg (by omega), if_neg (by omega), if_pos (by omega)] at hw; rw [if_neg (by omega), if_neg (by omega), if_neg (by omega), if_neg (by omega), if_neg (by omega), if_pos (by omega)] at hn; have hd : q / 25920 = 5 := (by omega); clear ha hb hc hm; rw [hd]; omega
  by_cases k18 : q < 139524
  · have ha' := pc3 ha (by omega) (by omega); have hb' := pc5 hb (by omega) (by omega); have hc' := pc4 hc (by omega) (by omega); have hm' := pc3 hm (by omega) (by omega); rw [if_neg (by omega), if_neg (by omega), if_neg (by omega), if_pos (by omega)] at hw; rw [if_neg (by omega), if_neg (by omega), if_neg (by omega), if_neg (by omega), if_neg (by omega), if_neg (by omega), if_pos (by omega)] at hn; have hd : q / 25920 = 5 := (by omega); clear ha hb hc hm; rw [hd]; omega
  by_cases k19 : q < 146389
  · have ha' := pc3 ha (by omega) (by omega); have hb' := pc6 hb (by omega) (by omega); have hc' := pc4 hc (by omega) (by omega); have hm' := pc3 hm (by omega) (by omega); rw [if_neg (by omega), if_neg (by omega), if_neg (by omega), if_pos (by omega)] at hw; rw [if_neg (by omega), if_neg (by omega), if_neg (by omega), if_neg (by omega), if_neg (by omega), if_neg (by omega), if_pos (by omega)] at hn; have hd : q / 25920 = 5 := (by omega); clear ha hb hc hm; rw [hd]; omega
  by_cases k20 : q < 155520
  · have ha' := pc3 ha (by omega) (by omega); have hb' := pc6 hb (by omega) (by omega); have hc' := pc4 hc (by omega) (by omega); have hm' := pc4 hm (by omega) (by omega); rw [if_neg (by omega), if_neg (by omega), if_neg (by omega), if_pos (by omega)] at hw; rw [if_neg (by omega), if_neg (by omega), if_neg (by omega), if_neg (by omega), if_neg (by omega), if_neg (by omega), if_pos (by omega)] at hn; have hd : q / 25920 = 5 := (by omega); clear ha hb hc hm; rw [hd]; omega
  by_cases k21 : q < 174960
  · have ha' := pc3 ha (by omega) (by omega); have hb' := pc6 hb (by omega) (by omega); have hc' := pc4 hc (by omega) (by omega); have hm' := pc4 hm (by omega) (by omega); rw [if_neg (by omega), if_neg (by omega), if_neg (by omega), if_pos (by omega)] at hw; rw [if_neg (by omega), if_neg (by omega), if_neg (by omega), if_neg (by omega), if_neg (by omega), if_neg (by omega), if_pos (by omega)] at hn; have hd : q / 25920 = 6 := (by omega); clear ha hb hc hm; rw [hd]; omega
  · have ha' := pc4 ha (by omega) (by omega); have hb' := pc6 hb (by omega) (by omega); have hc' := pc4 hc (by omega) (by omega); have hm' := pc4 hm (by omega) (by omega); rw [if_neg (by omega), if_neg (by omega), if_neg (by omega), if_neg (by omega)] at hw; rw [if_neg (by omega), if_neg (by omega), if_neg (by omega), if_neg (by omega), if_neg (by omega), if_neg (by omega), if_neg (by omega)] at hn; have hd : q / 25920 = 6 := (by omega); clear ha hb hc hm; rw [hd]; omega
theorem core_N {q a b c m e f wq nq : Int} (h0 : 0 ≤ q) (hq : q < 181440) (ha : Pc q a) (hb : Pc (q + 113196) b) (hc : Pc (q + 84625) c) (hm : Pc (q + 68244) m)
    (he : (b + 7 * 50 - a = 356 ∧ e = 2) ∨ (b + 7 * 50 - a ≠ 356 ∧ a - (m - 7 * 51) = 382 ∧ e = 1) ∨ (b + 7 * 50 - a ≠ 356 ∧ a - (m - 7 * 51) ≠ 382 ∧ e = 0))
    (hf : (c + 7 * 105 - (b + 7 * 50) = 356 ∧ f = 2) ∨ (c + 7 * 105 - (b + 7 * 50) ≠ 356 ∧ b + 7 * 50 - a = 382 ∧ f = 1) ∨ (c + 7 * 105 - (b + 7 * 50) ≠ 356 ∧ b + 7 * 50 - a ≠ 382 ∧ f = 0))
    (hw : wq = if q < 45360 then (1 : Int) else if q < 61764 then 2 else if q < 123120 then 4 else if q < 174960 then 6 else 1) (hn : nq = if q < 9924 then (353 : Int) else if q < 45360 then (355 : Int) else if q < 61764 then (354 : Int) else if q < 113604 then (354 : Int) else if q < 123120 then (355 : Int) else if q < 139524 then (353 : Int) else if q < 174960 then (355 : Int) else 353) :
    1 + a + e = q / 25920 + (wq - q / 25920) % 7 ∧ b + 7 * 50 + f - a - e = nq := by
  by_cases k0 : q < 3036
  · have ha' := pc0 ha (by omega); have hb' := pc2 hb (by omega) (by omega); have hc' := pc2 hc (by omega) (by omega); have hm' := pc1 hm (by omega) (by omega); rw [if_pos (by omega)] at hw; rw [if_pos (by omega)] at hn; have hd : q / 25920 = 0 := (by omega); clear ha hb hc hm; rw [hd]; omega
  by_cases k1 : q < 9924
  · have ha' := pc0 ha (by omega); have hb' := pc2 hb (by omega) (by omega); have hc' := pc2 hc (by omega) (by omega); have hm' := pc2 hm (by omega) (by omega); rw [if_pos (by omega)] at hw; rw [if_pos (by omega)] at hn; have hd : q / 25920 = 0 := (by omega); clear ha hb hc hm; rw [hd]; omega
  by_cases k2 : q < 25920
  · have ha' := pc0 ha (by omega); have hb' := pc3 hb (by omega) (by omega); have hc' := pc2 hc (by omega) (by omega); have hm' := pc2 hm (by omega) (by omega); rw [if_pos (by omega)] at hw; rw [if_neg (by omega), if_pos (by omega)] at hn; have hd : q / 25920 = 0 := (by omega); clear ha hb hc hm; rw [hd]; omega
  by_cases k3 : q < 38495
  · have ha' := pc0 ha (by omega); have hb' := pc3 hb (by omega) (by omega); have hc' := pc2 hc (by omega) (by omega); have hm' := pc2 hm (by omega) (by omega); rw [if_pos (by omega)] at hw; rw [if_neg (by omega), if_pos (by omega)] at hn; have hd : q / 25920 = 1 := (by omega); clear ha hb hc hm; rw [hd]; omega
  by_cases k4 : q < 45360
  · have ha' := pc0 ha (by omega); have hb' := pc3 hb (by omega) (by omega); have hc' := pc3 hc (by omega) (by omega); have hm' := pc2 hm (by omega) (by omega); rw [if_pos (by omega)] at hw; rw [if_neg (by omega), if_pos (by omega)] at hn; have hd : q / 25920 = 1 := (by omega); clear ha hb hc hm; rw [hd]; omega
  by_cases k5 : q < 51840
  · have ha' := pc1 ha (by omega) (by omega); have hb' := pc3 hb (by omega) (by omega); have hc' := pc3 hc (by omega) (by omega); have hm' := pc2 hm (by omega) (by omega); rw [if_neg (by omega), if_pos (by omega)] at hw; rw [if_neg (by omega), if_neg (by omega), if_pos (by omega)] at hn; have hd : q / 25920 = 1 := (by omega); clear ha hb hc hm; rw [hd]; omega
  by_cases k6 : q < 54876
  · have ha' := pc1 ha (by omega) (by omega); have hb' := pc3 hb (by omega) (by omega); have hc' := pc3 hc (by omega) (by omega); have hm' := pc2 hm (by omega) (by omega); rw [if_neg (by omega), if_pos (by omega)] at hw; rw [if_neg (by omega), if_neg (by omega), if_pos (by omega)] at hn; have hd : q / 25920 = 2 := (by omega); clear ha hb hc hm; rw [hd]; omega
  by_cases k7 : q < 61764
  · have ha' := pc1 ha (by omega) (by omega); have hb' := pc3 hb (by omega) (by omega); have hc' := pc3 hc (by omega) (by omega); have hm' := pc3 hm (by omega) (by omega); rw [if_neg (by omega), if_pos (by omega)] at hw; rw [if_neg (by omega), if_neg (by omega), if_pos (by omega)] at hn; have hd : q / 25920 = 2 := (by omega); clear ha hb hc hm; rw [hd]; omega
  by_cases k8 : q < 71280
  · have ha' := pc1 ha (by omega) (by omega); have hb' := pc4 hb (by omega) (by omega); have hc' := pc3 hc (by omega) (by omega); have hm' := pc3 hm (by omega) (by omega); rw [if_neg (by omega), if_neg (by omega), if_pos (by omega)] at hw; rw [if_neg (by omega), if_neg (by omega), if_neg (by omega), if_pos (by omega)] at hn; have hd : q / 25920 = 2 := (by omega); clear ha hb hc hm; rw [hd]; omega
  by_cases k9 : q < 77760
  · have ha' := pc2 ha (by omega) (by omega); have hb' := pc4 hb (by omega) (by omega); have hc' := pc3 hc (by omega) (by omega); have hm' := pc3 hm (by omega) (by omega); rw [if_neg (by omega), if_neg (by omega), if_pos (by omega)] at hw; rw [if_neg (by omega), if_neg (by omega), if_neg (by omega), if_pos (by omega)] at hn; have hd : q / 25920 = 2 := (by omega); clear ha hb hc hm; rw [hd]; omega
  by_cases k10 : q < 90335
  · have ha' := pc2 ha (by omega) (by omega); have hb' := pc4 hb (by omega) (by omega); have hc' := pc3 hc (by omega) (by omega); have hm' := pc3 hm (by omega) (by omega); rw [if_neg (by omega), if_neg (by omega), if_pos (by omega)] at hw; rw [if_neg (by omega), if_neg (by omega), if_neg (by omega), if_pos (by omega)] at hn; have hd : q / 25920 = 3 := (by omega); clear ha hb hc hm; rw [hd]; omega
  by_cases k11 : q < 103680
  · have ha' := pc2 ha (by omega) (by omega); have hb' := pc4 hb (by omega) (by omega); have hc' := pc4 hc (by omega) (by omega); have hm' := pc3 hm (by omega) (by omega); rw [if_neg (by omega), if_neg (by omega), if_pos (by omega)] at hw; rw [if_neg (by omega), if_neg (by omega), if_neg (by omega), if_pos (by omega)] at hn; have hd : q / 25920 = 3 := (by omega); clear ha hb hc hm; rw [hd]; omega
  by_cases k12 : q < 106716
  · have ha' := pc2 ha (by omega) (by omega); have hb' := pc4 hb (by omega) (by omega); have hc' := pc4 hc (by omega) (by omega); have hm' := pc3 hm (by omega) (by omega); rw [if_neg (by omega), if_neg (by omega), if_pos (by omega)] at hw; rw [if_neg (by omega), if_neg (by omega), if_neg (by omega), if_pos (by omega)] at hn; have hd : q / 25920 = 4 := (by omega); clear ha hb hc hm; rw [hd]; omega
  by_cases k13 : q < 113604
  · have ha' := pc2 ha (by omega) (by omega); have hb' := pc4 hb (by omega) (by omega); have hc' := pc4 hc (by omega) (by omega); have hm' := pc4 hm (by omega) (by omega); rw [if_neg (by omega), if_neg (by omega), if_pos (by omega)] at hw; rw [if_neg (by omega), if_neg (by omega), if_neg (by omega), if_pos (by omega)] at hn; have hd : q / 25920 = 4 := (by omega); clear ha hb hc hm; rw [hd]; omega
  by_cases k14 : q < 123120
  · have ha' := pc2 ha (by omega) (by omega); have hb' := pc5 hb (by omega) (by omega); have hc' := pc4 hc (by omega) (by omega); have hm' := pc4 hm (by omega) (by omega); rw [if_neg (by omega), if_neg (by omega), if_pos (by omega)] at hw; rw [if_neg (by omega), if_neg (by omega), if_neg (by omega), if_neg (by omega), if_pos (by omega)] at hn; have hd : q / 25920 = 4 := (by omega); clear ha hb hc hm; rw [hd]; omega
  by_cases k15 : q < 129600
  · have ha' := pc3 ha (by omega) (by omega); have hb' := pc5 hb (by omega) (by omega); have hc' := pc4 hc (by omega) (by omega); have hm' := pc4 hm (by omega) (by omega); rw [if_neg (by omega), if_neg (by omega), if_neg (by omega), if_pos (by omega)] at hw; rw [if_neg (by omega), if_neg (by omega), if_neg (by omega), if_neg (by omega), if_neg (by omega), if_pos (by omega)] at hn; have hd : q / 25920 = 4 := (by omega); clear ha hb hc hm; rw [hd]; omega
  by_cases k16 : q < 139524
  · have ha' := pc3 ha (by omega) (by omega); have hb' := pc5 hb (by omega) (by omega); have hc' := pc4 hc (by omega) (by omega); have hm' := pc4 hm (by omega) (by omega); rw [if_neg (by omega), if_neg (by omega), if_neg (by omega), if_pos (by omega)] at hw; rw [if_neg (by omega), if_neg (by omega), if_neg (by omega), if_neg (by omega), if_neg (by omega), if_pos (by omega)] at hn; have hd : q / 25920 = 5 := (by omega); clear ha hb hc hm; rw [hd]; omega
  by_cases k17 : q < 142175
  · have ha' := pc3 ha (by omega) (by omega); have hb' := pc6 hb (by omega) (by omega); have hc' := pc4 hc (by omega) (by omega); have hm' := pc4 hm (by omega) (by omega); rw [if_neg (by omega), if_neg (by omega), if_neg (by omega), if_pos (by omega)] at hw; rw [if_neg (by omega), if_neg (by omega), if_neg (by omega), if_neg (by omega), if_neg (by omega), if_neg (by omega), if_pos (by omega)] at hn; have hd : q / 25920 = 5 := (by omega); clear ha hb hc hm; rw [hd]; omega
  by_cases k18 : q < 155520
  · have ha' := pc3 ha (by omega) (by omega); have hb' := pc6 hb (by omega) (by omega); have hc' := pc5 hc (by omega) (by omega); have hm' := pc4 hm (by omega) (by omega); rw [if_neg (by omega), if_neg (by omega), if_neg (by omega), if_pos (by omega)] at hw; rw [if_neg (by omega), if_neg (by omega), if_neg (by omega), if_neg (by omega), if_neg (by omega), if_neg (by omega), if_pos (by omega)] at hn; have hd : q / 25920 = 5 := (by omega); clear ha hb hc hm; rw [hd]; omega
  by_cases k19 : q < 158556
  · have ha' := pc3 ha (by omega) (by omega); have hb' := pc6 hb (by omega) (by omega); have hc' := pc5 hc (by omega) (by omega); have hm' := pc4 hm (by omega) (by omega); rw [if_neg (by omega), if_neg (by omega), if_neg (by omega), if_pos (by omega)] at hw; rw [if_neg (by omega), if_neg (by omega), if_neg (by omega), if_neg (by omega), if_neg (by omega), if_neg (by omega), if_pos (by omega)] at hn; have hd : q / 25920 = 6 := (by omega); clear ha hb hc hm; rw [hd]; omega
  by_cases k20 : q < 168095
  · have ha' := pc3 ha (by omega) (by omega); have hb' := pc6 hb (by omega) (by omega); have hc' := pc5 hc (by omega) (by omega); have hm' := pc5 hm (by omega) (by omega); rw [if_neg (by omega), if_neg (by omega), if_neg (by omega), if_pos (by omega)] at hw; rw [if_neg (by omega), if_neg (by omega), if_neg (by omega), if_neg (by omega), if_neg (by omega), if_neg (by omega), if_pos (by omega)] at hn; have hd : q / 25920 = 6 := (by omega); clear ha hb hc hm; rw [hd]; omega
  by_cases k21 : q < 174960
  · have ha' := pc3 ha (by omega) (by omega); have hb' := pc6 hb (by omega) (by omega); have hc' := pc6 hc (by omega) (by omega); have hm' := pc5 hm (by omega) (by omega); rw [if_neg (by omega), if_neg (by omega), if_neg (by omega), if_pos (by omega)] at hw; rw [if_neg (by omega), if_neg (by omega), if_neg (by omega), if_neg (by omega), if_neg (by omega), if_neg (by omega), if_pos (by omega)] at hn; have hd : q / 25920 = 6 := (by omega); clear ha hb hc hm; rw [hd]; omega
  · have ha' := pc4 ha (by omega) (by omega); have hb' := pc6 hb (by omega) (by omega); have hc' := pc6 hc (by omega) (by omega); have hm' := pc5 hm (by omega) (by omega); rw [if_neg (by omega), if_neg (by omega), if_neg (by omega), if_neg (by omega)] at hw; rw [if_neg (by omega), if_neg (by omega), if_neg (by omega), if_neg (by omega), if_neg (by omega), if_neg (by omega), if_neg (by omega)] at hn; have hd : q / 25920 = 6 := (by omega); clear ha hb hc hm; rw [hd]; omega
theorem core_B {q a b c m e f wq nq : Int} (h0 : 0 ≤ q) (hq : q < 181440) (ha : Pc q a) (hb : Pc (q + 113196) b) (hc : Pc (q + 84625) c) (hm : Pc (q + 28571) m)
    (he : (b + 7 * 50 - a = 356 ∧ e = 2) ∨ (b + 7 * 50 - a ≠ 356 ∧ a - (m - 7 * 55) = 382 ∧ e = 1) ∨ (b + 7 * 50 - a ≠ 356 ∧ a - (m - 7 * 55) ≠ 382 ∧ e = 0))
    (hf : (c + 7 * 105 - (b + 7 * 50) = 356 ∧ f = 2) ∨ (c + 7 * 105 - (b + 7 * 50) ≠ 356 ∧ b + 7 * 50 - a = 382 ∧ f = 1) ∨ (c + 7 * 105 - (b + 7 * 50) ≠ 356 ∧ b + 7 * 50 - a ≠ 382 ∧ f = 0))
    (hw : wq = if q < 42709 then (1 : Int) else if q < 61764 then 2 else if q < 123120 then 4 else if q < 174960 then 6 else 1) (hn : nq = if q < 9924 then (353 : Int) else if q < 42709 then (355 : Int) else if q < 61764 then (354 : Int) else if q < 113604 then (354 : Int) else if q < 123120 then (355 : Int) else if q < 139524 then (353 : Int) else if q < 174960 then (355 : Int) else 353) :
    1 + a + e = q / 25920 + (wq - q / 25920) % 7 ∧ b + 7 * 50 + f - a - e = nq := by
  by_cases k0 : q < 9924
  · have ha' := pc0 ha (by omega); have hb' := pc2 hb (by omega) (by omega); have hc' := pc2 hc (by omega) (by omega); have hm' := pc0 hm (by omega); rw [if_pos (by omega)] at hw; rw [if_pos (by omega)] at hn; have hd : q / 25920 = 0 := (by omega); clear ha hb hc hm; rw [hd]; omega
  by_cases k1 : q < 16789
  · have ha' := pc0 ha (by omega); have hb' := pc3 hb (by omega) (by omega); have hc' := pc2 hc (by omega) (by omega); have hm' := pc0 hm (by omega); rw [if_pos (by omega)] at hw; rw [if_neg (by omega), if_pos (by omega)] at hn; have hd : q / 25920 = 0 := (by omega); clear ha hb hc hm; rw [hd]; omega
  by_cases k2 : q < 25920
  · have ha' := pc0 ha (by omega); have hb' := pc3 hb (by omega) (by omega); have hc' := pc2 hc (by omega) (by omega); have hm' := pc1 hm (by omega) (by omega); rw [if_pos (by omega)] at hw; rw [if_neg (by omega), if_pos (by omega)] at hn; have hd : q / 25920 = 0 := (by omega); clear ha hb hc hm; rw [hd]; omega
  by_cases k3 : q < 38495
  · have ha' := pc0 ha (by omega); have hb' := pc3 hb (by omega) (by omega); have hc' := pc2 hc (by omega) (by omega); have hm' := pc1 hm (by omega) (by omega); rw [if_pos (by omega)] at hw; rw [if_neg (by omega), if_pos (by omega)] at hn; have hd : q / 25920 = 1 := (by omega); clear ha hb hc hm; rw [hd]; omega
  by_cases k4 : q < 42709
  · have ha' := pc0 ha (by omega); have hb' := pc3 hb (by omega) (by omega); have hc' := pc3 hc (by omega) (by omega); have hm' := pc1 hm (by omega) (by omega); rw [if_pos (by omega)] at hw; rw [if_neg (by omega), if_pos (by omega)] at hn; have hd : q / 25920 = 1 := (by omega); clear ha hb hc hm; rw [hd]; omega
  by_cases k5 : q < 45360
  · have ha' := pc0 ha (by omega); have hb' := pc3 hb (by omega) (by omega); have hc' := pc3 hc (by omega) (by omega); have hm' := pc2 hm (by omega) (by omega); rw [if_neg (by omega), if_pos (by omega)] at hw; rw [if_neg (by omega), if_neg (by omega), if_pos (by omega)] at hn; have hd : q / 25920 = 1 := (by omega); clear ha hb hc hm; rw [hd]; omega
  by_cases k6 : q < 51840
  · have ha' := pc1 ha (by omega) (by omega); have hb' := pc3 hb (by omega) (by omega); have hc' := pc3 hc (by omega) (by omega); have hm' := pc2 hm (by omega) (by omega); rw [if_neg (by omega), if_pos (by omega)] at hw; rw [if_neg (by omega), if_neg (by omega), if_pos (by omega)] at hn; have hd : q / 25920 = 1 := (by omega); clear ha hb hc hm; rw [hd]; omega
  by_cases k7 : q < 61764
  · have ha' := pc1 ha (by omega) (by omega); have hb' := pc3 hb (by omega) (by omega); have hc' := pc3 hc (by omega) (by omega); have hm' := pc2 hm (by omega) (by omega); rw [if_neg (by omega), if_pos (by omega)] at hw; rw [if_neg (by omega), if_neg (by omega), if_pos (by omega)] at hn; have hd : q / 25920 = 2 := (by omega); clear ha hb hc hm; rw [hd]; omega
  by_cases k8 : q < 71280
  · have ha' := pc1 ha (by omega) (by omega); have hb' := pc4 hb (by omega) (by omega); have hc' := pc3 hc (by omega) (by omega); have hm' := pc2 hm (by omega) (by omega); rw [if_neg (by omega), if_neg (by omega), if_pos (by omega)] at hw; rw [if_neg (by omega), if_neg (by omega), if_neg (by omega), if_pos (by omega)] at hn; have hd : q / 25920 = 2 := (by omega); clear ha hb hc hm; rw [hd]; omega
  by_cases k9 : q < 77760
  · have ha' := pc2 ha (by omega) (by omega); have hb' := pc4 hb (by omega) (by omega); have hc' := pc3 hc (by omega) (by omega); have hm' := pc2 hm (by omega) (by omega); rw [if_neg (by omega), if_neg (by omega), if_pos (by omega)] at hw; rw [if_neg (by omega), if_neg (by omega), if_neg (by omega), if_pos (by omega)] at hn; have hd : q / 25920 = 2 := (by omega); clear ha hb hc hm; rw [hd]; omega
  by_cases k10 : q < 90335
  · have ha' := pc2 ha (by omega) (by omega); have hb' := pc4 hb (by omega) (by omega); have hc' := pc3 hc (by omega) (by omega); have hm' := pc2 hm (by omega) (by omega); rw [if_neg (by omega), if_neg (by omega), if_pos (by omega)] at hw; rw [if_neg (by omega), if_neg (by omega), if_neg (by omega), if_pos (by omega)] at hn; have hd : q / 25920 = 3 := (by omega); clear ha hb hc hm; rw [hd]; omega
  by_cases k11 : q < 94549
  · have ha' := pc2 ha (by omega) (by omega); have hb' := pc4 hb (by omega) (by omega); have hc' := pc4 hc (by omega) (by omega); have hm' := pc2 hm (by omega) (by omega); rw [if_neg (by omega), if_neg (by omega), if_pos (by omega)] at hw; rw [if_neg (by omega), if_neg (by omega), if_neg (by omega), if_pos (by omega)] at hn; have hd : q / 25920 = 3 := (by omega); clear ha hb hc hm; rw [hd]; omega
  by_cases k12 : q < 103680
  · have ha' := pc2 ha (by omega) (by omega); have hb' := pc4 hb (by omega) (by omega); have hc' := pc4 hc (by omega) (by omega); have hm' := pc3 hm (by omega) (by omega); rw [if_neg (by omega), if_neg (by omega), if_pos (by omega)] at hw; rw [if_neg (by omega), if_neg (by omega), if_neg (by omega), if_pos (by omega)] at hn; have hd : q / 25920 = 3 := (by omega); clear ha hb hc hm; rw [hd]; omega
  by_cases k13 : q < 113604
  · have ha' := pc2 ha (by omega) (by omega); have hb' := pc4 hb (by omega) (by omega); have hc' := pc4 hc (by omega) (by omega); have hm' := pc3 hm (by omega) (by omega); rw [if_neg (by omega), if_neg (by omega), if_pos (by omega)] at hw; rw [if_neg (by omega), if_neg (by omega), if_neg (by omega), if_pos (by omega)] at hn; have hd : q / 25920 = 4 := (by omega); clear ha hb hc hm; rw [hd]; omega
  by_cases k14 : q < 123120
  · have ha' := pc2 ha (by omega) (by omega); have hb' := pc5 hb (by omega) (by omega); have hc' := pc4 hc (by omega) (by omega); have hm' := pc3 hm (by omega) (by omega); rw [if_neg (by omega), if_neg (by omega), if_pos (by omega)] at hw; rw [if_neg (by omega), if_neg (by omega), if_neg (by omega), if_neg (by omega), if_pos (by omega)] at hn; have hd : q / 25920 = 4 := (by omega); clear ha hb hc hm; rw [hd]; omega
  by_cases k15 : q < 129600
  · have ha' := pc3 ha (by omega) (by omega); have hb' := pc5 hb (by omega) (by omega); have hc' := pc4 hc (by omega) (by omega); have hm' := pc3 hm (by omega) (by omega); rw [if_neg (by omega), if_neg (by omega), if_neg (by omega), if_pos (by omega)] at hw; rw [if_neg (by omega), if_neg (by omega), if_neg (by omega), if_neg (by omega), if_neg (by omega), if_pos (by omega)] at hn; have hd : q / 25920 = 4 := (by omega); clear ha hb hc hm; rw [hd]; omega
  by_cases k16 : q < 139524
  · have ha' := pc3 ha (by omega) (by omega); have hb' := pc5 hb (by omega) (by omega); have hc' := pc4 hc (by omega) (by omega); have hm' := pc3 hm (by omega) (by omega); rw [if_neg (by omega), if_neg (by omega), if_neg (by omega), if_pos (by omega)] at hw; rw [if_neg (by omega), if_neg (by omega), if_neg (by omega), if_neg (by omega), if_neg (by omega), if_pos (by omega)] at hn; have hd : q / 25920 = 5 := (by omega); clear ha hb hc hm; rw [hd]; omega
  by_cases k17 : q < 142175
  · have ha' := pc3 ha (by omega) (by omega); have hb' := pc6 hb (by omega) (by omega); have hc' := pc4 hc (by omega) (by omega); have hm' := pc3 hm (by omega) (by omega); rw [if_neg (by omega), if_neg (by omega), if_neg (by omega), if_pos (by omega)] at hw; rw [if_neg (by omega), if_neg (by omega), if_neg (by omega), if_neg (by omega), if_neg (by omega), if_neg (by omega), if_pos (by omega)] at hn; have hd : q / 25920 = 5 := (by omega); clear ha hb hc hm; rw [hd]; omega
  by_cases k18 : q < 146389
  · have ha' := pc3 ha (by omega) (by omega); have hb' := pc6 hb (by omega) (by omega); have hc' := pc5 hc (by omega) (by omega); have hm' := pc3 hm (by omega) (by omega); rw [if_neg (by omega), if_neg (by omega), if_neg (by omega), if_pos (by omega)] at hw; rw [if_neg (by omega), if_neg (by omega), if_neg (by omega), if_neg (by omega), if_neg (by omega), if_neg (by omega), if_pos (by omega)] at hn; have hd : q / 25920 = 5 := (by omega); clear ha hb hc hm; rw [hd]; omega
  by_cases k19 : q < 155520
  · have ha' := pc3 ha (by omega) (by omega); have hb' := pc6 hb (by omega) (by omega); have hc' := pc5 hc (by omega) (by omega); have hm' := pc4 hm (by omega) (by omega); rw [if_neg (by omega), if_neg (by omega), if_neg (by omega), if_pos (by omega)] at hw; rw [if_neg (by omega), if_neg (by omega), if_neg (by omega), if_neg (by omega), if_neg (by omega), if_neg (by omega), if_pos (by omega)] at hn; have hd : q / 25920 = 5 := (by omega); clear ha hb hc hm; rw [hd]; omega
  by_cases k20 : q < 168095
  · have ha' := pc3 ha (by omega) (by omega); have hb' := pc6 hb (by omega) (by omega); have hc' := pc5 hc (by omega) (by omega); have hm' := pc4 hm (by omega) (by omega); rw [if_neg (by omega), if_neg (by omega), if_neg (by omega), if_pos (by omega)] at hw; rw [if_neg (by omega), if_neg (by omega), if_neg (by omega), if_neg (by omega), if_neg (by omega), if_neg (by omega), if_pos (by omega)] at hn; have hd : q / 25920 = 6 := (by omega); clear ha hb hc hm; rw [hd]; omega
  by_cases k21 : q < 174960
  · have ha' := pc3 ha (by omega) (by omega); have hb' := pc6 hb (by omega) (by omega); have hc' := pc6 hc (by omega) (by omega); have hm' := pc4 hm (by omega) (by omega); rw [if_neg (by omega), if_neg (by omega), if_neg (by omega), if_pos (by omega)] at hw; rw [if_neg (by omega), if_neg (by omega), if_neg (by omega), if_neg (by omega), if_neg (by omega), if_neg (by omega), if_pos (by omega)] at hn; have hd : q / 25920 = 6 := (by omega); clear ha hb hc hm; rw [hd]; omega
  · have ha' := pc4 ha (by omega) (by omega); have hb' := pc6 hb (by omega) (by omega); have hc' := pc6 hc (by omega) (by omega); have hm' := pc4 hm (by omega) (by omega); rw [if_neg (by omega), if_neg (by omega), if_neg (by omega), if_neg (by omega)] at hw; rw [if_neg (by omega), if_neg (by omega), if_neg (by omega), if_neg (by omega), if_neg (by omega), if_neg (by omega), if_neg (by omega)] at hn; have hd : q / 25920 = 6 := (by omega); clear ha hb hc hm; rw [hd]; omega
theorem year_s (y : Int) : 347997 + evF y = sF y ∧ nqF y = sF (y + 1) - sF y := by
  have hq : partsF y = 181440 * (partsF y / 181440) + qF y := by unfold qF; rw [fmd _ (by decide)]; omega
  have hq0 : 0 ≤ qF y := by unfold qF; rw [fmd _ (by decide)]; omega
  have hq1 : qF y < 181440 := by unfold qF; rw [fmd _ (by decide)]; omega
  have ha := d1_pc hq hq0 (by omega)
  have hE : evF y = 7 * (partsF y / 181440) + (qF y / 25920 + (wF y (qF y) - qF y / 25920) % 7) := by
    unfold evF
    rw [fdv _ (by decide)]
    omega
  have p1 := parts_step y
  have p2 := parts_step (y + 1)
  have pm := parts_step (y - 1)
  rw [Int.sub_add_cancel] at pm
  have e0 := d2_cases y
  have e1 := d2_cases (y + 1)
  rw [Int.add_sub_cancel] at e1
  rw [hE]
  unfold sF
  rcases th_pat y with ⟨t0, tp, tn⟩ | ⟨t0, h⟩
  · simp only [t0, tp, tn, Bool.false_eq_true, Bool.true_eq_false, true_and, false_and, or_false, false_or] at p1 p2 pm
    have hb := d1_pc (y := y + 1) (w := partsF y / 181440 + 54) (z := qF y + 152869) (by omega) (by omega) (by omega)
    have hc := d1_pc (y := y + 1 + 1) (w := partsF y / 181440 + 105) (z := qF y + 84625) (by omega) (by omega) (by omega)
    have hm := d1_pc (y := y - 1) (w := partsF y / 181440 - 51) (z := qF y + 68244) (by omega) (by omega) (by omega)
    have r := core_L (e := d2F y) (f := d2F (y + 1)) (wq := wF y (qF y)) (nq := nqF y) hq0 hq1 ha hb hc hm (by omega) (by omega) (by simp only [wF, g2F, g3F, g5F, g7F, t0, tp, tn, if_true, if_false, Bool.false_eq_true]) (by simp only [nqF, g1F, g2F, g3F, g4F, g5F, g6F, g7F, n1F, n2F, n3F, n4F, n5F, n6F, n7F, n8F, t0, tp, tn, if_true, if_false, Bool.false_eq_true])
    omega
  · cases tp : thF (y - 1) <;> cases tn : thF (y + 1)
    · rw [tp, tn] at h; simp at h
    · simp only [t0, tp, tn, Bool.false_eq_true, Bool.true_eq_false, true_and, false_and, or_false, false_or] at p1 p2 pm
      have hb := d1_pc (y := y + 1) (w := partsF y / 181440 + 50) (z := qF y + 113196) (by omega) (by omega) (by omega)
      have hc := d1_pc (y := y + 1 + 1) (w := partsF y / 181440 + 105) (z := qF y + 84625) (by omega) (by omega) (by omega)
      have hm := d1_pc (y := y - 1) (w := partsF y / 181440 - 51) (z := qF y + 68244) (by omega) (by omega) (by omega)
      have r := core_N (e := d2F y) (f := d2F (y + 1)) (wq := wF y (qF y)) (nq := nqF y) hq0 hq1 ha hb hc hm (by omega) (by omega) (by simp only [wF, g2F, g3F, g5F, g7F, t0, tp, tn, if_true, if_false, Bool.false_eq_true]) (by simp only [nqF, g1F, g2F, g3F, g4F, g5F, g6F, g7F, n1F, n2F, n3F, n4F, n5F, n6F, n7F, n8F, t0, tp, tn, if_true, if_false, Bool.false_eq_true])
      omega
    · simp only [t0, tp, tn, Bool.false_eq_true, Bool.true_eq_false, true_and, false_and, or_false, false_or] at p1 p2 pm
      have hb := d1_pc (y := y + 1) (w := partsF y / 181440 + 50) (z := qF y + 113196) (by omega) (by omega) (by omega)
      have hc := d1_pc (y := y + 1 + 1) (w := partsF y / 181440 + 101) (z := qF y + 44952) (by omega) (by omega) (by omega)
      have hm := d1_pc (y := y - 1) (w := partsF y / 181440 - 55) (z := qF y + 28571) (by omega) (by omega) (by omega)
      have r := core_P (e := d2F y) (f := d2F (y + 1)) (wq := wF y (qF y)) (nq := nqF y) hq0 hq1 ha hb hc hm (by omega) (by omega) (by simp only [wF, g2F, g3F, g5F, g7F, t0, tp, tn, if_true, if_false, Bool.false_eq_true]) (by simp only [nqF, g1F, g2F, g3F, g4F, g5F, g6F, g7F, n1F, n2F, n3F, n4F, n5F, n6F, n7F, n8F, t0, tp, tn, if_true, if_false, Bool.false_eq_true])
      omega
    · simp only [t0, tp, tn, Bool.false_eq_true, Bool.true_eq_false, true_and, false_and, or_false, false_or] at p1 p2 pm
      have hb := d1_pc (y := y + 1) (w := partsF y / 181440 + 50) (z := qF y + 113196) (by omega) (by omega) (by omega)
      have hc := d1_pc (y := y + 1 + 1) (w := partsF y / 181440 + 105) (z := qF y + 84625) (by omega) (by omega) (by omega)
      have hm := d1_pc (y := y - 1) (w := partsF y / 181440 - 55) (z := qF y + 28571) (by omega) (by omega) (by omega)
      have r := core_B (e := d2F y) (f := d2F (y + 1)) (wq := wF y (qF y)) (nq := nqF y) hq0 hq1 ha hb hc hm (by omega) (by omega) (by simp only [wF, g2F, g3F, g5F, g7F, t0, tp, tn, if_true, if_false, Bool.false_eq_true]) (by simp only [nqF, g1F, g2F, g3F, g4F, g5F, g6F, g7F, n1F, n2F, n3F, n4F, n5F, n6F, n7F, n8F, t0, tp, tn, if_true, if_false, Bool.false_eq_true])
      omega
theorem year_ok {y : Int} (h : -951 ≤ y) : 347997 + evF y = tF y ∧ nqF y = ydF y := by
  unfold ydF
  rw [t_s h, t_s (show -951 ≤ y + 1 by omega)]
  exact year_s y
end

section
-- the plain law: the months
theorem nq_cases (y : Int) : (thF y = true ∧ (nqF y = 383 ∨ nqF y = 384 ∨ nqF y = 385)) ∨ (thF y = false ∧ (nqF y = 353 ∨ nqF y = 354 ∨ nqF y = 355)) := by
  unfold nqF n1F n2F n3F n4F n5F n6F n7F n8F
  cases h : thF y
  · right; simp only [Bool.false_eq_true, if_false, true_and]; repeat' split <;> omega
  · left; simp only [if_true, true_and]; repeat' split <;> omega
theorem yd_cases {y : Int} (hy : -951 ≤ y) : (leapF y = true ∧ (ydF y = 383 ∨ ydF y = 384 ∨ ydF y = 385)) ∨ (leapF y = false ∧ (ydF y = 353 ∨ ydF y = 354 ∨ ydF y = 355)) := by
  rw [← (year_ok hy).2, ← th_leap]
  exact nq_cases y
theorem ml7 (y : Int) : mlF y 7 = 30 := by simp [mlF]
theorem ml10 (y : Int) : mlF y 10 = 29 := by simp [mlF]
theorem ml11 (y : Int) : mlF y 11 = 30 := by simp [mlF]
theorem ml13 (y : Int) : mlF y 13 = 29 := by simp [mlF]
theorem ml1 (y : Int) : mlF y 1 = 30 := by simp [mlF]
theorem ml2 (y : Int) : mlF y 2 = 29 := by simp [mlF]
theorem ml3 (y : Int) : mlF y 3 = 30 := by simp [mlF]
theorem ml4 (y : Int) : mlF y 4 = 29 := by simp [mlF]
theorem ml5 (y : Int) : mlF y 5 = 30 := by simp [mlF]
theorem ml6 (y : Int) : mlF y 6 = 29 := by simp [mlF]
theorem ml8 (y : Int) : ((ydF y) % 10 = 5 ∧ mlF y 8 = 30) ∨ ((ydF y) % 10 ≠ 5 ∧ mlF y 8 = 29) := by
  rw [← fmd _ (show (0 : Int) ≤ 10 by decide)]
  by_cases h : (ydF y).fmod 10 = 5 <;> simp [mlF, h]
theorem ml9 (y : Int) : ((ydF y) % 10 = 3 ∧ mlF y 9 = 29) ∨ ((ydF y) % 10 ≠ 3 ∧ mlF y 9 = 30) := by
  rw [← fmd _ (show (0 : Int) ≤ 10 by decide)]
  by_cases h : (ydF y).fmod 10 = 3 <;> simp [mlF, h]
theorem ml12 (y : Int) : (leapF y = true ∧ mlF y 12 = 30) ∨ (leapF y = false ∧ mlF y 12 = 29) := by
  cases h : leapF y <;> simp [mlF, h]
theorem ml_two (y m : Int) : mlF y m = 29 ∨ mlF y m = 30 := by unfold mlF; repeat' split <;> omega
/-- the days of a year ahead of a month -/
def offF (y m : Int) : Int :=
  if m < 7 then sumF y (rangeKs 7 (ymF y + 1 - 7).toNat) + sumF y (rangeKs 1 (m - 1).toNat) else sumF y (rangeKs 7 (m - 7).toNat)
theorem sum_nonneg (y : Int) (l : List Int) : 0 ≤ sumF y l := by
  unfold sumF
  induction l with
  | nil => simp
  | cons a l ih =>
    rw [List.map_cons, List.sum_cons]
    have := ml_two y a
    omega
theorem off_nonneg (y m : Int) : 0 ≤ offF y m := by
  unfold offF
  have h1 := sum_nonneg y (rangeKs 7 (ymF y + 1 - 7).toNat)
  have h2 := sum_nonneg y (rangeKs 1 (m - 1).toNat)
  have h3 := sum_nonneg y (rangeKs 7 (m - 7).toNat)
  split <;> omega
theorem jd_off {y : Int} (hy : -951 ≤ y) (m d : Int) (hd : 1 ≤ d) : jdF y m d = tF y + offF y m + (d - 1) := by
  have h := s_pos hy
  have ho := off_nonneg y m
  rw [t_s hy]
  have e : jdF y m d = midF (sF y + offF y m + (d - 1)) := by
    unfold jdF offF sF
    congr 1
    split <;> omega
  rw [e]
  unfold midF
  rw [if_pos (by omega)]
theorem sum_step (y a : Int) (n : Nat) : sumF y (rangeKs a (n + 1)) = sumF y (rangeKs a n) + mlF y (a + n) := by
  unfold sumF rangeKs
  rw [List.range_succ]
  simp
theorem sum_zero (y a : Int) : sumF y (rangeKs a 0) = 0 := by simp [sumF, rangeKs]
theorem off7 (y : Int) : offF y 7 = 0 := by unfold offF; rw [if_neg (by omega)]; exact sum_zero y 7
theorem off_step {y m : Int} (h : 7 ≤ m) : offF y (m + 1) = offF y m + mlF y m := by
  unfold offF
  rw [if_neg (by omega), if_neg (by omega), show (m + 1 - 7).toNat = (m - 7).toNat + 1 by omega, sum_step]
  congr 2
  omega
theorem off_step1 {y m : Int} (h0 : 1 ≤ m) (h : m < 6) : offF y (m + 1) = offF y m + mlF y m := by
  unfold offF
  rw [if_pos (by omega), if_pos (by omega), show (m + 1 - 1).toNat = (m - 1).toNat + 1 by omega, sum_step, ← Int.add_assoc]
  congr 2
  omega
theorem off1 (y : Int) : offF y 1 = offF y (ymF y + 1) := by
  have := ymF_le y
  unfold offF
  rw [if_pos (by omega), if_neg (by omega)]
  show _ + sumF y (rangeKs 1 0) = _
  rw [sum_zero]
  omega
/-- all the places of the months in the year -/
theorem offs {y : Int} (hy : -951 ≤ y) : offF y 8 = 30 ∧ offF y 9 = 30 + mlF y 8 ∧ offF y 10 = 30 + mlF y 8 + mlF y 9 ∧ offF y 11 = 59 + mlF y 8 + mlF y 9 ∧ offF y 12 = 89 + mlF y 8 + mlF y 9 ∧
    offF y 2 = offF y 1 + 30 ∧ offF y 3 = offF y 1 + 59 ∧ offF y 4 = offF y 1 + 89 ∧ offF y 5 = offF y 1 + 118 ∧ offF y 6 = offF y 1 + 148 ∧ offF y 1 + 177 = ydF y ∧
    ((leapF y = true ∧ offF y 13 = 119 + mlF y 8 + mlF y 9 ∧ offF y 1 = 148 + mlF y 8 + mlF y 9) ∨ (leapF y = false ∧ offF y 1 = 118 + mlF y 8 + mlF y 9)) := by
  have s7 := off_step (y := y) (m := 7) (by decide)
  have s8 := off_step (y := y) (m := 8) (by decide)
  have s9 := off_step (y := y) (m := 9) (by decide)
  have s10 := off_step (y := y) (m := 10) (by decide)
  have s11 := off_step (y := y) (m := 11) (by decide)
  have s12 := off_step (y := y) (m := 12) (by decide)
  have s13 := off_step (y := y) (m := 13) (by decide)
  have u1 := off_step1 (y := y) (m := 1) (by decide) (by decide)
  have u2 := off_step1 (y := y) (m := 2) (by decide) (by decide)
  have u3 := off_step1 (y := y) (m := 3) (by decide) (by decide)
  have u4 := off_step1 (y := y) (m := 4) (by decide) (by decide)
  have u5 := off_step1 (y := y) (m := 5) (by decide) (by decide)
  have h1 := off1 y
  have o7 := off7 y
  rw [ml7] at s7; rw [ml10] at s10; rw [ml11] at s11; rw [ml13] at s13; rw [ml1] at u1; rw [ml2] at u2; rw [ml3] at u3; rw [ml4] at u4; rw [ml5] at u5
  have e8 := ml8 y
  have e9 := ml9 y
  have hyd := yd_cases hy
  simp only [Int.reduceAdd] at s7 s8 s9 s10 s11 s12 s13 u1 u2 u3 u4 u5
  cases hl : leapF y
  · have hym : ymF y = 12 := by unfold ymF; simp [hl]
    have e12 := ml12 y
    simp only [hl, Bool.false_eq_true, Bool.true_eq_false, true_and, false_and, or_false, false_or] at hyd e12 ⊢
    rw [hym] at h1
    simp only [Int.reduceAdd] at h1
    omega
  · have hym : ymF y = 13 := by unfold ymF; simp [hl]
    have e12 := ml12 y
    simp only [hl, Bool.false_eq_true, Bool.true_eq_false, true_and, false_and, or_false, false_or] at hyd e12 ⊢
    rw [hym] at h1
    simp only [Int.reduceAdd] at h1
    omega
theorem off_mono7 (y : Int) {k : Int} (h : 7 ≤ k) : ∀ n : Nat, offF y k ≤ offF y (k + n) := by
  intro n
  induction n with
  | zero => simp
  | succ n ih =>
    have s := off_step (y := y) (m := k + n) (by omega)
    have e : k + ((n + 1 : Nat) : Int) = k + n + 1 := by omega
    rw [e, s]
    have := ml_two y (k + n)
    omega
theorem off_lt7 {y k m : Int} (h : 7 ≤ k) (hk : k < m) : offF y k + mlF y k ≤ offF y m := by
  rw [← off_step h]
  have := off_mono7 y (k := k + 1) (by omega) (m - (k + 1)).toNat
  rw [show k + 1 + ((m - (k + 1)).toNat : Int) = m by omega] at this
  exact this
theorem off_mono1 (y : Int) {k : Int} (h : 1 ≤ k) : ∀ n : Nat, k + n ≤ 6 → offF y k ≤ offF y (k + n) := by
  intro n
  induction n with
  | zero => intro _; simp
  | succ n ih =>
    intro h6
    have s := off_step1 (y := y) (m := k + n) (by omega) (by omega)
    have e : k + ((n + 1 : Nat) : Int) = k + n + 1 := by omega
    rw [e, s]
    have := ml_two y (k + n)
    have := ih (by omega)
    omega
theorem off_lt1 {y k m : Int} (h : 1 ≤ k) (hk : k < m) (hm : m < 7) : offF y k + mlF y k ≤ offF y m := by
  rw [← off_step1 h (by omega)]
  have := off_mono1 y (k := k + 1) (by omega) (m - (k + 1)).toNat (by omega)
  rw [show k + 1 + ((m - (k + 1)).toNat : Int) = m by omega] at this
  exact this
/-- what is so of a day's number, its year, its month, the month's length and first day -/
def MonthOK (number own month size begin_ : Int) : Prop :=
  (1 ≤ month ∧ month ≤ 13) ∧ begin_ = jdF own month 1 ∧ size = mlF own month ∧ (size = 29 ∨ size = 30) ∧ jdF own month (number - begin_ + 1) = number ∧ (∀ i, tF i ≤ number ↔ i ≤ own) ∧ ((number - 347996) * 98496).fdiv 35975351 ≤ own + 1 ∧
    ∃ f0 : Int, (number < jdF own 1 1 → f0 = 7) ∧ (¬ number < jdF own 1 1 → f0 = 1) ∧ (1 ≤ f0 ∧ f0 ≤ month ∧ month ≤ 13) ∧ ∀ k, f0 ≤ k → k ≤ month → (jdF own k (mlF own k) < number ↔ k < month)
theorem month_ok {y m number : Int} (hy : -951 ≤ y) (hm : (1 ≤ m ∧ m ≤ 12) ∨ (m = 13 ∧ leapF y = true)) (h1 : tF y + offF y m ≤ number) (h2 : number < tF y + offF y m + mlF y m) :
    MonthOK number y m (mlF y m) (tF y + offF y m) := by
  obtain ⟨o8, o9, o10, o11, o12, o2, o3, o4, o5, o6, oT, oL⟩ := offs hy
  have o7 := off7 y
  have e8 := ml_two y 8
  have e9 := ml_two y 9
  have e12 := ml12 y
  have e1 := ml1 y; have e2 := ml2 y; have e3 := ml3 y; have e4 := ml4 y; have e5 := ml5 y; have e6 := ml6 y; have e7 := ml7 y; have e10 := ml10 y; have e11 := ml11 y; have e13 := ml13 y
  have hT : tF (y + 1) = tF y + ydF y := by unfold ydF; omega
  have hm13 : 1 ≤ m ∧ m ≤ 13 := by omega
  have hlt : number < tF (y + 1) := by
    rw [hT]
    rcases (show m = 1 ∨ m = 2 ∨ m = 3 ∨ m = 4 ∨ m = 5 ∨ m = 6 ∨ m = 7 ∨ m = 8 ∨ m = 9 ∨ m = 10 ∨ m = 11 ∨ m = 12 ∨ m = 13 by omega) with rfl | rfl | rfl | rfl | rfl | rfl | rfl | rfl | rfl | rfl | rfl | rfl | rfl
    all_goals (cases hl : leapF y <;> simp only [hl, Bool.false_eq_true, Bool.true_eq_false, true_and, false_and, or_false, false_or, and_true, and_false] at e12 oL hm <;> omega)
  have hle : tF y ≤ number := by have := off_nonneg y m; omega
  refine ⟨hm13, ?_, rfl, ml_two y m, ?_, t_iff hle hlt, count_le hy hlt, ?_⟩
  · rw [jd_off hy _ _ (by decide)]; omega
  · rw [jd_off hy _ _ (by omega)]; omega
  · have hj : ∀ k, jdF y k (mlF y k) = tF y + offF y k + (mlF y k - 1) := fun k => jd_off hy _ _ (by have := ml_two y k; omega)
    have hN : jdF y 1 1 = tF y + offF y 1 := by rw [jd_off hy _ _ (by decide)]; omega
    rw [hN]
    refine ⟨if number < tF y + offF y 1 then 7 else 1, fun h => if_pos h, fun h => if_neg h, ?_, ?_⟩
    · rcases (show m = 1 ∨ m = 2 ∨ m = 3 ∨ m = 4 ∨ m = 5 ∨ m = 6 ∨ m = 7 ∨ m = 8 ∨ m = 9 ∨ m = 10 ∨ m = 11 ∨ m = 12 ∨ m = 13 by omega) with rfl | rfl | rfl | rfl | rfl | rfl | rfl | rfl | rfl | rfl | rfl | rfl | rfl
      all_goals (cases hl : leapF y <;> simp only [hl, Bool.false_eq_true, Bool.true_eq_false, true_and, false_and, or_false, false_or, and_true, and_false] at e12 oL hm <;> split <;> omega)
    · intro k hk1 hk2
      rw [hj]
      by_cases hkm : k = m
      · subst hkm
        omega
      · have hkl : k < m := by omega
        have hstep : offF y k + mlF y k ≤ offF y m := by
          split at hk1
          · exact off_lt7 hk1 hkl
          · by_cases hm7 : m < 7
            · exact off_lt1 hk1 hkl hm7
            · exfalso
              have h8 := off_mono7 y (show 7 ≤ m by omega)
              rcases (show m = 7 ∨ m = 8 ∨ m = 9 ∨ m = 10 ∨ m = 11 ∨ m = 12 ∨ m = 13 by omega) with rfl | rfl | rfl | rfl | rfl | rfl | rfl
              all_goals (cases hl : leapF y <;> simp only [hl, Bool.false_eq_true, Bool.true_eq_false, true_and, false_and, or_false, false_or, and_true, and_false] at e12 oL hm <;> omega)
        constructor
        · intro _; exact hkl
        · intro _; omega
theorem okm {y m number size b : Int} (hy : -951 ≤ y) (hm : (1 ≤ m ∧ m ≤ 12) ∨ (m = 13 ∧ leapF y = true)) (hs : size = mlF y m) (hb : b = tF y + offF y m) (h1 : b ≤ number) (h2 : number < b + size) : MonthOK number y m size b := by
  subst hs hb
  exact month_ok hy hm h1 h2
theorem any_355 {d : Int} : ([355, 385].any fun x => x == d) = true ↔ d = 355 ∨ d = 385 := by
  simp only [List.any_cons, List.any_nil, Bool.or_false, Bool.or_eq_true, beq_iff_eq]
  constructor <;> intro h <;> omega
theorem any_353 {d : Int} : ([353, 383].any fun x => x == d) = true ↔ d = 353 ∨ d = 383 := by
  simp only [List.any_cons, List.any_nil, Bool.or_false, Bool.or_eq_true, beq_iff_eq]
  constructor <;> intro h <;> omega
theorem sel8 {y : Int} (hy : -951 ≤ y) : selI ([355, 385].any fun x => x == ydF y) 30 29 = mlF y 8 := by
  have h := yd_cases hy
  have e := ml8 y
  unfold selI
  split
  · rename_i hc; rw [any_355] at hc; omega
  · rename_i hc; rw [any_355] at hc; omega
theorem sel9 {y : Int} (hy : -951 ≤ y) : selI ([353, 383].any fun x => x == ydF y) 29 30 = mlF y 9 := by
  have h := yd_cases hy
  have e := ml9 y
  unfold selI
  split
  · rename_i hc; rw [any_353] at hc; omega
  · rename_i hc; rw [any_353] at hc; omega
abbrev pairO (d : Addr) (b : Int) (t : Tok) (n : Nat) : Obj := { cls := .type "tuple", data := .seq #[.ref d, .int b t] n }
/-- a row of the months' table and its first day come back -/
abbrev RM (number : Int) : Ret := fun h₀ L m news s Q => ∀ (D d : Addr) (t u v t2 : Tok) (own month size b : Int) (n n2 : Nat) (h' : Heap) (tk' : Nat), MonthOK number own month size b → Fr h₀ L h' m → News h₀ L h' ((D, pairO d b t2 n2) :: (d, tup3 own month size t u v n) :: news) → (∀ p ∈ news, p.1 < D) → Q (.ref D) { s with heap := h', toks := tk' }
theorem retM {number : Int} {h₀ h' : Heap} {L : Addr} {m : Str → Option Value} {news news' : List (Addr × Obj)} {s : Shared} {Q : Value → Shared → Prop} {own month size b : Int} {t u v t2 : Tok} {n n2 : Nat} {D d : Addr} {tk' : Nat}
    (hret : RM number h₀ L m news s Q) (F : Fr h₀ L h' m) (N : News h₀ L h' news') (hm : (D, pairO d b t2 n2) ∈ news') (hd : (d, tup3 own month size t u v n) ∈ news') (hs : ∀ p ∈ news, p ∈ news') (hl : ∀ p ∈ news, p.1 < D) (ok : MonthOK number own month size b) : Q (.ref D) { s with heap := h', toks := tk' } := by
  refine hret D d t u v t2 own month size b n n2 h' tk' ok F (fun p hp => ?_) hl
  rcases List.mem_cons.mp hp with rfl | hp
  · exact N _ hm
  · rcases List.mem_cons.mp hp with rfl | hp
    · exact N _ hd
    · exact N p (hs p hp)
/-- a list of data comes back -/
abbrev RL (ds : List Dat) : Ret := fun h₀ L m news s Q => ∀ (D : Addr) (vs : List Value) (c : Nat) (l : List (Addr × Obj)) (h' : Heap) (tk' : Nat), DatAll l vs ds → Fr h₀ L h' m → News h₀ L h' ((D, listOf vs.toArray c) :: (l ++ news)) → Q (.ref D) { s with heap := h', toks := tk' }
theorem retL {ds : List Dat} {h₀ h' : Heap} {L : Addr} {m : Str → Option Value} {news news' : List (Addr × Obj)} {s : Shared} {Q : Value → Shared → Prop} {D : Addr} {vs : List Value} {c : Nat} {l : List (Addr × Obj)} {tk' : Nat}
    (hret : RL ds h₀ L m news s Q) (F : Fr h₀ L h' m) (N : News h₀ L h' news') (hm : (D, listOf vs.toArray c) ∈ news') (hd : DatAll l vs ds) (hl : ∀ p ∈ l, p ∈ news') (hs : ∀ p ∈ news, p ∈ news') : Q (.ref D) { s with heap := h', toks := tk' } := by
  refine hret D vs c l h' tk' hd F fun p hp => ?_
  rcases List.mem_cons.mp hp with rfl | hp
  · exact N _ hm
  · rcases List.mem_append.mp hp with hp | hp
    · exact N p (hl p hp)
    · exact N p (hs p hp)
section
open PySem.Spec PySem.Calls LCg LCt
variable {prog : Program} {w : World} {A : Around} {E : Value → Shared → Prop} {s : Shared} {h₀ : Heap} {L : Addr} {m : Str → Option Value} {env : Env}

/-- the tuple stands on the ledger -/
def TupOn (ax : Addr) (its : Array Value) (news : List (Addr × Obj)) : Prop := ∃ o, (ax, o) ∈ news ∧ o.cls = .type "tuple" ∧ ∃ n, o.data = .seq its n

theorem TupOn.at {h : Heap} {ax : Addr} {its : Array Value} {news : List (Addr × Obj)} (x : TupOn ax its news) (N : News h₀ L h news) : h.IsTuple ax its :=
  let ⟨o, hm, r⟩ := x; ⟨o, (N _ hm).1, r⟩

/-- where the source of a comprehension with one test comes back: a tuple of the call's own, and what is left of the turns -/
def TupSrc (prog : Program) (w : World) (A : Around) (h₀ : Heap) (L : Addr) (m : Str → Option Value) (env : Env) (ct elt : Expr) (x : Str) (scope : Scope) (cl : List (Str × Addr)) (Q : Value → Shared → Prop) (xv : Value) (s₁ : Shared) : Prop :=
  ∃ ax its news, xv = .ref ax ∧ A.handled = none ∧ Fr h₀ L s₁.heap m ∧ News h₀ L s₁.heap news ∧ TupOn ax its news ∧ its.size ≤ sizeLine ∧
    ∀ g, CompRestT prog w A h₀ L m env ct elt x scope cl { s₁ with heap := g } (TupOn ax its) (fun i v => its[i]? = some v) (FinE h₀ L m { s₁ with heap := g } Q) its.size 0 [] news

theorem comp_tuple (_F₀ : Fr h₀ L s.heap m) {ct elt iter : Expr} {x : Str} {px : Pos} {scope : Scope} {cl : List (Str × Addr)} {pos : Pos} {Q : Value → Shared → Prop}
    (hclos : closureFor scope env = pure cl) (hcell : ∀ y ∈ scope.names, y.2 ≠ .cell) (hkind : scope.kind = .function)
    (hnames : ∀ y ∈ scope.names, y.2 = .local → scope.names.lookup y.1 = some .local) (hx : scope.names.lookup x = some .local)
    (hs : ∀ x, foldedSetIterable iter env x = pure x)
    (h : wpAny (model prog w) A (eval iter env) (TupSrc prog w A h₀ L m env ct elt x scope cl Q) E s) :
    wpAny (model prog w) A (eval (.ListComp elt [⟨.Name x px, iter, [ct], 0⟩] scope pos) env) Q E s := by
  rw [eval_ListComp]
  refine wpAny_comprehension_free (use := none) rfl hs hclos hkind hnames (wpAny_mono h (fun xv s₁ h₁ => ?_) fun _ _ e => e)
  obtain ⟨ax, its, news, rfl, hh, F, N, S, hsz, R⟩ := h₁
  have ht := S.at N
  have hlt : ax < s₁.heap.objs.size := by obtain ⟨_, e, _⟩ := ht; exact Heap.lt_size e
  refine wpAny_pyIter_tuple ht ?_
  have up : ∀ b o, s₁.heap.get? b = some o → (s₁.heap.push { cls := .type "tuple_iterator", data := .fields #[.ref ax, .int 0 0] }).get? b = some o := fun b o e => Heap.get?_push_of_some _ e
  refine block_T (Walks.tuple hh s₁.heap.objs.size ax (Nat.ne_of_lt hlt) its) hsz (fun i h st => by obtain ⟨o, e, _⟩ := st.1; exact ⟨o, e⟩)
    (fun i h h' o nw st e e' _ N' S' => ⟨by obtain ⟨o', q, r⟩ := st.1; rw [e] at q; cases q; exact ⟨o, e', r⟩, S'.at N'⟩)
    hcell hkind hx ⟨⟨_, Heap.get?_push_size _ rfl, rfl, rfl⟩, ht.push _⟩ (fun b hb => ?_)
    (F.keeps up) (N.grown up) (Nat.ne_of_lt F.ns.lt) (next_is_new F) (fun p hp => Nat.ne_of_lt (Heap.lt_size (N p hp).1)) S (R _) ?_
  · show b < (s₁.heap.push _).objs.size
    rw [Heap.size_push]
    rcases List.mem_cons.mp hb with rfl | hb
    · exact Nat.lt_succ_self _
    · rw [List.mem_singleton.mp hb]; exact Nat.lt_succ_of_lt hlt
  · intro D C h tk m' ys news' F' N' o1 hn hC₀ hD₀ hCL hDL hCD offC fin
    refine ⟨m', hn, fun h'' hs'' => fin D h'' tk (F'.change hs'' hCL hC₀) (fun p hp => ?_) o1⟩
    refine ⟨hs''.extBut _ _ ?_ (N' p hp).1, (N' p hp).2⟩
    rcases List.mem_cons.mp hp with rfl | hp
    · exact Ne.symm hCD
    · exact offC p hp

theorem news_dup {h : Heap} {l : List (Addr × Obj)} {p : Addr × Obj} (N : News h₀ L h l) (hm : p ∈ l) : News h₀ L h (p :: l) := fun q hq => by
  rcases List.mem_cons.mp hq with rfl | hq
  · exact N _ hm
  · exact N q hq

/-- every test is pure and says its bool: what is left of the turns is the filter -/
theorem rest_pure {ct : Expr} {x : Str} {pe : Pos} {scope : Scope} {cl : List (Str × Addr)} {S : List (Addr × Obj) → Prop} {Fin : List Value → List (Addr × Obj) → Prop} {news : List (Addr × Obj)} (l : List (Value × Bool))
    (hkf : ∀ C, (compEnvC scope cl C env).scope.kind = .function) (hkl : ∀ C, (compEnvC scope cl C env).kindOf x = some .local) (hkd : (x == ("__debug__" : Str)) = false)
    (T : ∀ p ∈ l, ∀ I oI C oC D ys m₂ h tk (E' : Value → Shared → Prop), NsObj oC m₂ → m₂ x = some p.1 → Fr h₀ L h m → News h₀ L h ((I, oI) :: (C, oC) :: (D, lst ys) :: news) →
      wpAny (model prog w) A (isTrue ct (compEnvC scope cl C env) (eval ct (compEnvC scope cl C env))) (fun ok s' => ok = p.2 ∧ ∃ tk', s' = { s with heap := h, toks := tk' }) E' { s with heap := h, toks := tk })
    (hS : S news) : ∀ (k i : Nat) (ys : List Value), i + k = l.length → Fin (ys ++ ((l.drop i).filter (·.2)).map (·.1)) news →
      CompRestT prog w A h₀ L m env ct (.Name x pe) x scope cl s S (fun i v => (l.map (·.1)).toArray[i]? = some v) Fin k i ys news := by
  intro k
  induction k with
  | zero =>
    intro i ys hk hf
    have : l.drop i = [] := List.drop_eq_nil_of_le (by omega)
    rw [this] at hf
    exact CompRestT.zero (by simpa using hf)
  | succ k ih =>
    intro i ys hk hf
    refine CompRestT.succ fun v I oI C oC D m₂ h tk E' hv hC hx F N off ne => ?_
    have hi : i < l.length := by omega
    have hv' : v = l[i].1 := by
      have : (l.map (·.1))[i]? = some v := by simpa using hv
      rw [List.getElem?_map, List.getElem?_eq_getElem hi] at this
      exact (Option.some.inj this).symm
    subst hv'
    have hd : l.drop i = l[i] :: l.drop (i + 1) := List.drop_eq_getElem_cons hi
    rw [hd] at hf
    refine wpAny_mono (T _ (List.getElem_mem hi) I oI C oC D ys m₂ h tk E' hC hx F N) ?_ fun _ _ e => e
    rintro ok s' ⟨rfl, tk', rfl⟩
    by_cases hb : l[i].2 = true
    · rw [if_pos hb]
      refine W.LCgL.ld_own (oC := oC) (m₂ := m₂) N (.tail _ (.head _)) hC hx ?_ (hkf C) (hkl C) hkd
      refine CompEnd.intro F N news (fun _ hp => hp) off hS (ih (i + 1) _ (by omega) ?_)
      simp only [List.filter_cons, hb, if_true, List.map_cons] at hf
      rw [List.append_assoc]
      exact hf
    · rw [if_neg hb]
      refine CompEnd.intro F N news (fun _ hp => hp) off hS (ih (i + 1) _ (by omega) ?_)
      simp only [List.filter_cons, hb] at hf
      simpa using hf
end
end

section
theorem flat_none (n : Nat) : (List.replicate n [Value.none]).flatten = List.replicate n Value.none := by
  induction n with
  | zero => rfl
  | succ n ih => rw [List.replicate_succ, List.flatten_cons, ih, List.replicate_succ]; rfl
theorem dat_none (l : List (Addr × Obj)) (n : Nat) : DatAll l (List.replicate n Value.none) (List.replicate n Dat.none) := by
  induction n with
  | zero => exact .nil
  | succ n ih => rw [List.replicate_succ, List.replicate_succ]; exact .cons .none ih
theorem dat_ints {l : List (Addr × Obj)} {vs : List Value} {ns : List Int} (h : IntsAre vs ns) : DatAll l vs (ns.map Dat.int) := by
  induction h with
  | nil => exact .nil
  | cons i t _ ih => exact .cons (.int i t) ih
theorem dat_drop {l : List (Addr × Obj)} : ∀ {vs : List Value} {ds : List Dat} (n : Nat), DatAll l vs ds → DatAll l (vs.drop n) (ds.drop n)
  | _, _, 0, h => h
  | _, _, _ + 1, .nil => .nil
  | _, _, n + 1, .cons _ r => dat_drop n r
theorem dat_take {l : List (Addr × Obj)} : ∀ {vs : List Value} {ds : List Dat} (n : Nat), DatAll l vs ds → DatAll l (vs.take n) (ds.take n)
  | _, _, 0, _ => .nil
  | _, _, _ + 1, .nil => .nil
  | _, _, n + 1, .cons h r => .cons h (dat_take n r)
/-- the law's leaf as a plain fold: the whole weeks, the week at hand -/
def stepL (s : List Dat × List Dat) (k : Int) : List Dat × List Dat := if (s.2 ++ [Dat.int k]).length = 7 then (s.1 ++ [Dat.list (s.2 ++ [Dat.int k])], []) else (s.1, s.2 ++ [Dat.int k])
def loopL (p : Nat) (ks : List Int) : List Dat × List Dat := ks.foldl stepL ([], List.replicate p Dat.none)
def leafD (p n : Nat) : List Dat :=
  if (loopL p (rangeKs 1 n)).2.length = 0 then (loopL p (rangeKs 1 n)).1 else (loopL p (rangeKs 1 n)).1 ++ [Dat.list ((loopL p (rangeKs 1 n)).2 ++ List.replicate (7 - (loopL p (rangeKs 1 n)).2.length) Dat.none)]
/-- the program's leaf: slices of one row of cells -/
def cellsD (p n : Nat) : List Dat := List.replicate p Dat.none ++ (rangeKs 1 n).map Dat.int ++ List.replicate 7 Dat.none
def rowsD (p n : Nat) : List Dat := (List.range ((p + n - 1) / 7 + 1)).map fun i => Dat.list (((cellsD p n).drop (7 * i)).take 7)
theorem leaf_rows (p n : Nat) (hp : p < 7) (hn : n = 29 ∨ n = 30) : leafD p n = rowsD p n := by
  rcases hn with rfl | rfl
  · rcases (show p = 0 ∨ p = 1 ∨ p = 2 ∨ p = 3 ∨ p = 4 ∨ p = 5 ∨ p = 6 by omega) with rfl | rfl | rfl | rfl | rfl | rfl | rfl <;> kernel_rfl
  · rcases (show p = 0 ∨ p = 1 ∨ p = 2 ∨ p = 3 ∨ p = 4 ∨ p = 5 ∨ p = 6 by omega) with rfl | rfl | rfl | rfl | rfl | rfl | rfl <;> kernel_rfl
structure LeafSt where
  ws : List Value
  n : Nat
  a : Addr
  vs : List Value
  k : Nat
  D1 : List Dat
  D2 : List Dat
def LeafF (l : List (Addr × Obj)) (c : LeafSt) : Prop := DatAll l c.ws c.D1 ∧ (c.a, listOf c.vs.toArray c.k) ∈ l ∧ DatAll l c.vs c.D2
def LeafP (p : Nat) (pre : List Int) (c : LeafSt) : Prop := loopL p pre = (c.D1, c.D2) ∧ c.D2.length < 7 ∧ c.D1.length ≤ pre.length
theorem len_at {prog : Program} {w : World} {A : Around} {E : Value → Shared → Prop} {s : Shared} {l : Addr} {its : Array Value} {n : Int} {Q : Value → Shared → Prop} (hl : s.heap.IsList l its) (e : (its.size : Int) = n) (hn : n < 2 ^ 63)
    (h : Q (.int n (s.toks + 1)) { s with toks := s.toks + 1 + 1 }) : wpAny (model prog w) A (call (.builtin "len") [.ref l]) Q E s := by
  subst e
  exact PyProof.Rows.len_list hl hn h
theorem truthy_at {prog : Program} {w : World} {A : Around} {E : Value → Shared → Prop} {s : Shared} {l : Addr} {its : Array Value} {c : Bool} {Q : Bool → Shared → Prop} (hl : s.heap.IsList l its) (hn : (its.size : Int) < 2 ^ 63) (e : (!its.isEmpty) = c)
    (h : Q c { s with toks := s.toks + 1 + 1 }) : wpAny (model prog w) A (truthy (.ref l)) Q E s := by
  subst e
  exact wpAny_truthy_list hl hn h
theorem loopL_snoc (p : Nat) (pre : List Int) (k : Int) : loopL p (pre ++ [k]) = stepL (loopL p pre) k := by
  unfold loopL
  rw [List.foldl_append]
  rfl
theorem step_full {E1 E2 : List Dat} {k : Int} (h : (E2.length : Int) + 1 = 7) : stepL (E1, E2) k = (E1 ++ [Dat.list (E2 ++ [Dat.int k])], []) := by
  unfold stepL
  rw [if_pos (by simp; omega)]
theorem step_more {E1 E2 : List Dat} {k : Int} (h : (E2.length : Int) + 1 ≠ 7) : stepL (E1, E2) k = (E1, E2 ++ [Dat.int k]) := by
  unfold stepL
  rw [if_neg (by simp; omega)]
theorem leaf_end {p n : Nat} {E1 E2 : List Dat} (h : loopL p (rangeKs 1 n) = (E1, E2)) (h0 : 0 < E2.length) : leafD p n = E1 ++ [Dat.list (E2 ++ List.replicate (7 - (E2.length : Int)).toNat Dat.none)] := by
  unfold leafD
  rw [h, show (7 - (E2.length : Int)).toNat = 7 - E2.length by omega]
  exact if_neg (Nat.ne_of_gt h0)
theorem leaf_none {p n : Nat} {E1 E2 : List Dat} (h : loopL p (rangeKs 1 n) = (E1, E2)) (h0 : ¬ 0 < E2.length) : leafD p n = E1 := by
  unfold leafD
  rw [h]
  exact if_pos (Nat.eq_zero_of_not_pos h0)
end

section
section
open PySem.Spec PySem.Calls LCg
variable {prog : Program} {w : World} {A : Around} {E : Value → Shared → Prop} {s : Shared} {h₀ : Heap} {L : Addr} {m : Str → Option Value} {env : Env}

theorem range_walks_by {I : Addr} (hh : A.handled = none) (a c : Int) (n : Nat) : Walks prog w A I [I] [I] n (fun i v => i < n ∧ ∃ t, v = .int (a + (i : Int) * c) t) (fun i h => IsRangeIter h I (a + (i : Nat) * c) ((n : Int) - (i : Nat)) c) :=
  (Walks.range hh I a c n).bound

/-- where a range of any step comes back as the source of a comprehension without a test -/
def RngSrc (prog : Program) (w : World) (A : Around) (h₀ : Heap) (L : Addr) (m : Str → Option Value) (env : Env) (elt : Expr) (x : Str) (scope : Scope) (cl : List (Str × Addr)) (Q : Value → Shared → Prop) (xv : Value) (s₁ : Shared) : Prop :=
  ∃ r a b c t u v n news, xv = .ref r ∧ A.handled = none ∧ Fr h₀ L s₁.heap m ∧ News h₀ L s₁.heap news ∧ IsRange s₁.heap r a b c t u v ∧ Builtin.Range.small a b c = true ∧ Builtin.Range.rangeSize a b c = ((n : Nat) : Int) ∧ n ≤ sizeLine ∧
    ∀ g, CompRest prog w A h₀ L m env elt x scope cl { s₁ with heap := g } (fun _ => True) (fun i v => i < n ∧ ∃ t, v = .int (a + (i : Int) * c) t) (FinE h₀ L m { s₁ with heap := g } Q) n 0 [] news

theorem comp_range (_F₀ : Fr h₀ L s.heap m) {elt iter : Expr} {x : Str} {px : Pos} {scope : Scope} {cl : List (Str × Addr)} {pos : Pos} {Q : Value → Shared → Prop}
    (hclos : closureFor scope env = pure cl) (hcell : ∀ y ∈ scope.names, y.2 ≠ .cell) (hkind : scope.kind = .function)
    (hnames : ∀ y ∈ scope.names, y.2 = .local → scope.names.lookup y.1 = some .local) (hx : scope.names.lookup x = some .local)
    (hs : ∀ x, foldedSetIterable iter env x = pure x)
    (h : wpAny (model prog w) A (eval iter env) (RngSrc prog w A h₀ L m env elt x scope cl Q) E s) :
    wpAny (model prog w) A (eval (.ListComp elt [⟨.Name x px, iter, [], 0⟩] scope pos) env) Q E s := by
  rw [eval_ListComp]
  refine wpAny_comprehension_free (use := none) rfl hs hclos hkind hnames (wpAny_mono h (fun xv s₁ h₁ => ?_) fun _ _ e => e)
  obtain ⟨r, a, b, c, t, u, v, n, news, rfl, hh, F, N, hr, hsm, hn, hsz, R⟩ := h₁
  refine wpAny_pyIter_range hr hsm ?_
  refine block_U (range_walks_by hh a c n) hsz (fun i h st => ⟨_, st⟩)
    (fun i h h' o nw st e e' _ _ _ => by
      have st' : h.get? s₁.heap.objs.size = some _ := st
      show h'.get? _ = some _
      rw [e', ← e]; exact st') hcell hkind hx (by show IsRangeIter _ _ _ _ _; rw [hn]; simpa using Heap.get?_push_size _ rfl) (fun b hb => ?_)
    (F.keeps fun _ _ e => Heap.get?_push_of_some _ e) (N.grown fun _ _ e => Heap.get?_push_of_some _ e) (Nat.ne_of_lt F.ns.lt) (next_is_new F) (fun p hp => Nat.ne_of_lt (Heap.lt_size (N p hp).1)) trivial (R _) ?_
  · rw [List.mem_singleton.mp hb]
    show s₁.heap.objs.size < (s₁.heap.push _).objs.size
    rw [Heap.size_push]; exact Nat.lt_succ_self _
  · intro D C h tk m' ys news' F' N' o1 hn hC₀ hD₀ hCL hDL hCD offC fin
    refine ⟨m', hn, fun h'' hs'' => fin D h'' tk (F'.change hs'' hCL hC₀) (fun p hp => ?_) o1⟩
    refine ⟨hs''.extBut _ _ ?_ (N' p hp).1, (N' p hp).2⟩
    rcases List.mem_cons.mp hp with rfl | hp
    · exact Ne.symm hCD
    · exact offC p hp

/-- each turn makes one new list, whose items are known: what is left of the turns -/
theorem rest_rows {elt : Expr} {x : Str} {scope : Scope} {cl : List (Str × Addr)} {Fin : List Value → List (Addr × Obj) → Prop} {base : List (Addr × Obj)} {a c : Int} {n : Nat} (rowV : Nat → List Value) (rowE : Nat → List Dat)
    (hrow : ∀ i, DatAll base (rowV i) (rowE i))
    (T : ∀ i t I oI C oC D ys m₂ h tk (E' : Value → Shared → Prop) nw, i < n → NsObj oC m₂ → m₂ x = some (.int (a + (i : Int) * c) t) → Fr h₀ L h m → (∀ p ∈ base, p ∈ nw) → News h₀ L h ((I, oI) :: (C, oC) :: (D, lst ys) :: nw) →
      wpAny (model prog w) A (eval elt (compEnvC scope cl C env)) (fun y s' => ∃ B h' tk', y = .ref B ∧ s' = { s with heap := h', toks := tk' } ∧ Fr h₀ L h' m ∧ News h₀ L h' ((B, listOf (rowV i).toArray 0) :: (I, oI) :: (C, oC) :: (D, lst ys) :: nw) ∧ I < B ∧ C < B ∧ D < B) E' { s with heap := h, toks := tk }) :
    ∀ (k i : Nat) (ys : List Value) (nw : List (Addr × Obj)), i + k = n → (∀ p ∈ base, p ∈ nw) → DatAll nw ys ((List.range i).map fun j => Dat.list (rowE j)) →
      (∀ ys' nw', (∀ p ∈ base, p ∈ nw') → DatAll nw' ys' ((List.range n).map fun j => Dat.list (rowE j)) → Fin ys' nw') →
      CompRest prog w A h₀ L m env elt x scope cl s (fun _ => True) (fun i v => i < n ∧ ∃ t, v = .int (a + (i : Int) * c) t) Fin k i ys nw := by
  intro k
  induction k with
  | zero =>
    intro i ys nw hk hb hd hf
    have : i = n := by omega
    subst this
    exact CompRest.zero (hf ys nw hb hd)
  | succ k ih =>
    intro i ys nw hk hb hd hf
    refine CompRest.succ fun v I oI C oC D m₂ h tk E' hv hC hx F N off ne => ?_
    obtain ⟨hi, t, rfl⟩ := hv
    refine wpAny_mono (T i t I oI C oC D ys m₂ h tk E' nw hi hC hx F hb N) ?_ fun _ _ e => e
    rintro y s' ⟨B, h', tk', rfl, rfl, F', N', l1, l2, l3⟩
    refine CompEnd.intro F' N' ((B, listOf (rowV i).toArray 0) :: nw) (fun p hp => ?_) ⟨⟨Nat.ne_of_gt l1, Nat.ne_of_gt l2, Nat.ne_of_gt l3⟩, off⟩ trivial (ih (i + 1) _ _ (by omega) (fun p hp => .tail _ (hb p hp)) ?_ hf)
    · simp only [List.mem_cons] at hp ⊢
      rcases hp with h | h | h | h | h <;> simp [h]
    · rw [List.range_succ, List.map_append]
      exact (hd.mono fun p hp => .tail _ hp).append (DatAll.one (DatIn.list (.head _) ((hrow i).mono fun p hp => .tail _ (hb p hp))))

theorem slice7 (its : List Value) (k : Nat) : slicePick its.toArray (some (k : Int)) (some ((k : Int) + 7)) none = ((its.drop k).take 7).toArray := by
  have e : sliceBounds (some (k : Int)) (some ((k : Int) + 7)) none its.toArray.size = (((min k its.toArray.size : Nat) : Int), ((min (k + 7) its.toArray.size : Nat) : Int), 1) := by
    simp only [sliceBounds, Option.getD_none, show (1 : Int) > 0 by decide, if_true, if_neg (show ¬ ((k : Int) < 0) by omega), if_neg (show ¬ ((k : Int) + 7 < 0) by omega)]
    congr 1
    · omega
    · congr 1
      omega
  rw [kmk_pick_nat _ e]
  congr 1
  show (its.drop (min k its.toArray.size)).take (min (k + 7) its.toArray.size - min k its.toArray.size) = _
  rw [List.size_toArray, kmk_drop_min]
  by_cases h : k + 7 ≤ its.length
  · rw [Nat.min_eq_left h, Nat.min_eq_left (by omega), show k + 7 - k = 7 by omega]
  · by_cases h2 : k ≤ its.length
    · rw [Nat.min_eq_right (by omega), Nat.min_eq_left h2, List.take_of_length_le (by rw [List.length_drop]; omega), List.take_of_length_le (by rw [List.length_drop]; omega)]
    · rw [Nat.min_eq_right (by omega), Nat.min_eq_right (by omega), List.drop_eq_nil_of_le (by omega)]
      simp
end
theorem small7 {x : Int} (h : 29 ≤ x ∧ x ≤ 36) : Builtin.Range.small 0 x 7 = true := by
  rcases (show x = 29 ∨ x = 30 ∨ x = 31 ∨ x = 32 ∨ x = 33 ∨ x = 34 ∨ x = 35 ∨ x = 36 by omega) with rfl | rfl | rfl | rfl | rfl | rfl | rfl | rfl <;> decide
theorem size7 {x : Int} {p n : Nat} (e : x = (p : Int) + n) (h : 0 < n) : Builtin.Range.rangeSize 0 x 7 = (((p + n - 1) / 7 + 1 : Nat) : Int) := by
  subst e
  unfold Builtin.Range.rangeSize
  rw [if_pos (by decide), if_pos (by omega)]
  omega
end

section
theorem yd_bd {y : Int} (hy : -951 ≤ y) : 353 ≤ ydF y ∧ ydF y ≤ 385 := by have := yd_cases hy; omega
theorem num_mod {y x : Int} (hy : -951 ≤ y) : tF y ≤ tF y + x.fmod (ydF y + 1) ∧ tF y + x.fmod (ydF y + 1) ≤ tF y + ydF y := by
  have h := yd_bd hy
  rw [Int.fmod_eq_emod_of_nonneg _ (by omega)]
  have h1 := Int.emod_nonneg x (show ydF y + 1 ≠ 0 by omega)
  have h2 := Int.emod_lt_of_pos x (show 0 < ydF y + 1 by omega)
  omega
theorem num_all {y : Int} (hy : -951 ≤ y) : tF y ≤ tF y + ydF y ∧ tF y + ydF y ≤ tF y + ydF y := by have h := yd_bd hy; omega
theorem leaf_eq (j : Int) {n : Int} (hn : n = 29 ∨ n = 30) : rowsD ((j.fmod 7 + 1).fmod 7).toNat n.toNat = leafD ((j - 347997).fmod 7).toNat n.toNat := by
  have e : ((j.fmod 7 + 1).fmod 7).toNat = ((j - 347997).fmod 7).toNat := by
    simp only [fmd _ (show (0 : Int) ≤ 7 by decide)]
    omega
  have hp : ((j - 347997).fmod 7).toNat < 7 := by rw [fmd _ (by decide)]; omega
  rw [e]
  exact (leaf_rows _ _ hp (by omega)).symm
theorem rows_ok (p n : Nat) : ∀ d ∈ rowsD p n, kqdOk 8 d = true := by
  have cell : ∀ d ∈ cellsD p n, kqdOk 7 d = true := by
    intro d hd
    unfold cellsD at hd
    simp only [List.mem_append, List.mem_replicate, List.mem_map] at hd
    rcases hd with (⟨_, rfl⟩ | ⟨x, _, rfl⟩) | ⟨_, rfl⟩ <;> rfl
  intro d hd
  obtain ⟨i, _, rfl⟩ := List.mem_map.mp hd
  show (((cellsD p n).drop (7 * i)).take 7).all (kqdOk 7) = true
  rw [List.all_eq_true]
  intro x hx
  exact cell x (List.mem_of_mem_drop (List.mem_of_mem_take hx))
theorem same_ne {prog : Program} {w : World} {A : Around} {E : Value → Shared → Prop} {s : Shared} {h₀ : Heap} {L a b : Addr} {m : Str → Option Value} {news n₁ n₂ : List (Addr × Obj)} {xs ys : List Value} {ka kb : Nat} {ds es : List Dat} {Q : Value → Shared → Prop}
    (N : News h₀ L s.heap news) (Da : DatAll n₁ xs ds) (Db : DatAll n₂ ys es) (e : ds = es) (ha : ∀ d ∈ ds, kqdOk 8 d = true) (ma : (a, listOf xs.toArray ka) ∈ news) (sa : ∀ p ∈ n₁, p ∈ news)
    (mb : (b, listOf ys.toArray kb) ∈ news) (sb : ∀ p ∈ n₂, p ∈ news) (hu : A.units + 64 < cLine) (h : Q (.bool false) s) : wpAny (model prog w) A (compareOp .NotEq (.ref a) (.ref b)) Q E s := by
  subst e
  refine kqd_ne N ma rfl rfl Da sa mb rfl rfl Db sb ha ha hu ?_
  simpa using h
abbrev RT2P (x y : Int) (P : Prop) : Ret := fun h₀ L m news s Q => ∀ (D : Addr) (t u : Tok) (n : Nat) (h' : Heap) (tk' : Nat), P → Fr h₀ L h' m → News h₀ L h' ((D, tup2 x y t u n) :: news) → (∀ p ∈ news, p.1 < D) → Q (.ref D) { s with heap := h', toks := tk' }
theorem ne_same {prog : Program} {w : World} {A : Around} {E : Value → Shared → Prop} {s : Shared} {a b : Int} {t u : Tok} {Q : Value → Shared → Prop} (e : a = b) (h : Q (.bool false) s) : wpAny (model prog w) A (compareOp .NotEq (.int a t) (.int b u)) Q E s := by
  subst e
  refine PyProof.Rows.ne_int ?_
  simpa using h
end

section
local macro_rules | `(tactic| walk_at "eval Call") => `(tactic| ((with_reducible show wpAny _ _ (eval (Expr.Call (Expr.Name _ _) _ [] _) _) _ _ _); k_dflt (refine Call_ ?_)))
set_option maxRecDepth 100000 in
set_option maxHeartbeats 2000000 in
theorem c_leap (w : World) (mean : ExcName → Option Value) (mg mb : Str → Option Value) (y : Int) (ty : Tok) : Ask w mean mg mb 1 40 [.int y ty] (RB (leapF y)) := by
  unfold Ask
  k_fill
  intro dp un gd cn cs a ccd cl outer A₀ base h₀ L m news s Q E B F X N T hk hdp hun hret
  refine wpAny_call ?_
  k_dflt cell_enter
  repeat' (first | (k_unfold; (try dsimp only)) | ((try dsimp only); walk1) | walk1 | (leave1; walk_say "STEP leave1"; try dsimp only) | fail "no step")
  all_goals (refine' retB hret ?ze1 ?ze2 ?ze3 ?ze4; (case ze2 => k_asm); (case ze3 => k_asm); (case ze4 => first | exact fun _ h => h | (intro p hp; simp [hp])); (case ze1 => rfl))

local macro_rules | `(tactic| walk_at "call ref") => `(tactic| (k_here; (with_reducible show wpAny _ _ (PySem.call (Value.ref 40) _) _ _ _); k_dflt (refine' ask_use (c_leap _ _ _ _ _ _) ?k1 ?k2 ?k3 ?k4 ?k5 ?kK ?kd ?ku ?_; (case k1 => k_asm); (case k2 => k_asm); (case k3 => k_asm); (case k4 => k_asm); (case k5 => k_asm); (case kK => first | exact rfl | assumption); (case kd => ktr_room); (case ku => ktr_units)); intro h9 tk9 F9 N9; (try dsimp only); (try k_sweep); (try k_fold)))

set_option maxRecDepth 100000 in
set_option maxHeartbeats 2000000 in
theorem c_year_months (w : World) (mean : ExcName → Option Value) (mg mb : Str → Option Value) (y : Int) (ty : Tok) : Ask w mean mg mb 2 47 [.int y ty] (RIP (ymF y) (12 ≤ ymF y ∧ ymF y ≤ 13)) := by
  unfold Ask
  k_fill
  intro dp un gd cn cs a ccd cl outer A₀ base h₀ L m news s Q E B F X N T hk hdp hun hret
  refine wpAny_call ?_
  k_dflt cell_enter
  repeat' (first | (k_unfold; (try dsimp only)) | ((try dsimp only); walk1) | walk1 | (leave1; walk_say "STEP leave1"; try dsimp only) | fail "no step")
  all_goals (refine' retIP hret ?ze1 ?ze5 ?ze2 ?ze3 ?ze4; (case ze2 => k_asm); (case ze3 => k_asm); (case ze4 => first | exact fun _ h => h | (intro p hp; simp [hp])); (case ze1 => (unfold ymF; simp [*])); (case ze5 => exact ymF_le y))

local macro_rules | `(tactic| walk_at "call ref") => `(tactic| (k_here; (with_reducible show wpAny _ _ (PySem.call (Value.ref 47) _) _ _ _); k_dflt (refine' ask_use (c_year_months _ _ _ _ _ _) ?k1 ?k2 ?k3 ?k4 ?k5 ?kK ?kd ?ku ?_; (case k1 => k_asm); (case k2 => k_asm); (case k3 => k_asm); (case k4 => k_asm); (case k5 => k_asm); (case kK => first | exact rfl | assumption); (case kd => ktr_room); (case ku => ktr_units)); intro t9 h9 tk9 P9 F9 N9; (try dsimp only); (try k_sweep); (try k_fold)))

set_option maxRecDepth 100000 in
set_option maxHeartbeats 2000000 in
theorem c_delay_1 (w : World) (mean : ExcName → Option Value) (mg mb : Str → Option Value) (y : Int) (ty : Tok) : Ask w mean mg mb 1 54 [.int y ty] (RI (d1F y)) := by
  unfold Ask
  k_fill
  intro dp un gd cn cs a ccd cl outer A₀ base h₀ L m news s Q E B F X N T hk hdp hun hret
  refine wpAny_call ?_
  k_dflt cell_enter
  repeat' (first | (k_unfold; (try dsimp only)) | ((try dsimp only); walk1) | walk1 | (leave1; walk_say "STEP leave1"; try dsimp only) | fail "no step")
  all_goals (refine' retI hret ?ze1 ?ze2 ?ze3 ?ze4; (case ze2 => k_asm); (case ze3 => k_asm); (case ze4 => first | exact fun _ h => h | (intro p hp; simp [hp])); (case ze1 => (show _ = d1F y; unfold d1F dayF moF; first | rw [if_pos (by assumption)] | rw [if_neg (by assumption)])))

local macro_rules | `(tactic| walk_at "call ref") => `(tactic| (k_here; (with_reducible show wpAny _ _ (PySem.call (Value.ref 54) _) _ _ _); k_dflt (refine' ask_use (c_delay_1 _ _ _ _ _ _) ?k1 ?k2 ?k3 ?k4 ?k5 ?kK ?kd ?ku ?_; (case k1 => k_asm); (case k2 => k_asm); (case k3 => k_asm); (case k4 => k_asm); (case k5 => k_asm); (case kK => first | exact rfl | assumption); (case kd => ktr_room); (case ku => ktr_units)); intro t9 h9 tk9 F9 N9; (try dsimp only); (try k_sweep); (try k_fold)))

set_option maxRecDepth 100000 in
set_option maxHeartbeats 2000000 in
theorem c_delay_2 (w : World) (mean : ExcName → Option Value) (mg mb : Str → Option Value) (y : Int) (ty : Tok) : Ask w mean mg mb 2 61 [.int y ty] (RI (d2F y)) := by
  unfold Ask
  k_fill
  intro dp un gd cn cs a ccd cl outer A₀ base h₀ L m news s Q E B F X N T hk hdp hun hret
  refine wpAny_call ?_
  k_dflt cell_enter
  repeat' (first | (k_unfold; (try dsimp only)) | ((try dsimp only); walk1) | walk1 | (leave1; walk_say "STEP leave1"; try dsimp only) | fail "no step")
  all_goals (refine' retI hret ?ze1 ?ze2 ?ze3 ?ze4; (case ze2 => k_asm); (case ze3 => k_asm); (case ze4 => first | exact fun _ h => h | (intro p hp; simp [hp])); (case ze1 => (unfold d2F; simp_all)))

local macro_rules | `(tactic| walk_at "call ref") => `(tactic| (k_here; (with_reducible show wpAny _ _ (PySem.call (Value.ref 61) _) _ _ _); k_dflt (refine' ask_use (c_delay_2 _ _ _ _ _ _) ?k1 ?k2 ?k3 ?k4 ?k5 ?kK ?kd ?ku ?_; (case k1 => k_asm); (case k2 => k_asm); (case k3 => k_asm); (case k4 => k_asm); (case k5 => k_asm); (case kK => first | exact rfl | assumption); (case kd => ktr_room); (case ku => ktr_units)); intro t9 h9 tk9 F9 N9; (try dsimp only); (try k_sweep); (try k_fold)))

set_option maxRecDepth 100000 in
set_option maxHeartbeats 2000000 in
theorem c_midnight (w : World) (mean : ExcName → Option Value) (mg mb : Str → Option Value) (y : Int) (ty : Tok) : Ask w mean mg mb 1 21 [.int y ty] (RI (midF y)) := by
  unfold Ask
  k_fill
  intro dp un gd cn cs a ccd cl outer A₀ base h₀ L m news s Q E B F X N T hk hdp hun hret
  refine wpAny_call ?_
  k_dflt cell_enter
  repeat' (first | (k_unfold; (try dsimp only)) | ((try dsimp only); walk1) | walk1 | (leave1; walk_say "STEP leave1"; try dsimp only) | fail "no step")
  all_goals (refine' retI hret ?ze1 ?ze2 ?ze3 ?ze4; (case ze2 => k_asm); (case ze3 => k_asm); (case ze4 => first | exact fun _ h => h | (intro p hp; simp [hp])); (case ze1 => (unfold midF; first | rw [if_pos (by assumption)] | rw [if_neg (by assumption)])))

local macro_rules | `(tactic| walk_at "call ref") => `(tactic| (k_here; (with_reducible show wpAny _ _ (PySem.call (Value.ref 21) _) _ _ _); k_dflt (refine' ask_use (c_midnight _ _ _ _ _ _) ?k1 ?k2 ?k3 ?k4 ?k5 ?kK ?kd ?ku ?_; (case k1 => k_asm); (case k2 => k_asm); (case k3 => k_asm); (case k4 => k_asm); (case k5 => k_asm); (case kK => first | exact rfl | assumption); (case kd => ktr_room); (case ku => ktr_units)); intro t9 h9 tk9 F9 N9; (try dsimp only); (try k_sweep); (try k_fold)))

set_option maxRecDepth 100000 in
set_option maxHeartbeats 2000000 in
theorem c_jwday (w : World) (mean : ExcName → Option Value) (mg mb : Str → Option Value) (y : Int) (ty : Tok) : Ask w mean mg mb 1 28 [.int y ty] (RI (y.fmod 7)) := by
  unfold Ask
  k_fill
  intro dp un gd cn cs a ccd cl outer A₀ base h₀ L m news s Q E B F X N T hk hdp hun hret
  refine wpAny_call ?_
  k_dflt cell_enter
  repeat' (first | (k_unfold; (try dsimp only)) | ((try dsimp only); walk1) | walk1 | (leave1; walk_say "STEP leave1"; try dsimp only) | fail "no step")
  all_goals (refine' retI hret ?ze1 ?ze2 ?ze3 ?ze4; (case ze2 => k_asm); (case ze3 => k_asm); (case ze4 => first | exact fun _ h => h | (intro p hp; simp [hp])); (case ze1 => rfl))

local macro_rules | `(tactic| walk_at "call ref") => `(tactic| (k_here; (with_reducible show wpAny _ _ (PySem.call (Value.ref 28) _) _ _ _); k_dflt (refine' ask_use (c_jwday _ _ _ _ _ _) ?k1 ?k2 ?k3 ?k4 ?k5 ?kK ?kd ?ku ?_; (case k1 => k_asm); (case k2 => k_asm); (case k3 => k_asm); (case k4 => k_asm); (case k5 => k_asm); (case kK => first | exact rfl | assumption); (case kd => ktr_room); (case ku => ktr_units)); intro t9 h9 tk9 F9 N9; (try dsimp only); (try k_sweep); (try k_fold)))

set_option maxRecDepth 100000 in
set_option maxHeartbeats 2000000 in
theorem c_to_jd7 (w : World) (mean : ExcName → Option Value) (mg mb : Str → Option Value) (y d : Int) (ty tm td : Tok) : Ask w mean mg mb 4 89 [.int y ty, .int 7 tm, .int d td] (RI (midF (347996 + d1F y + d2F y + d + 1))) := by
  unfold Ask
  k_fill
  intro dp un gd cn cs a ccd cl outer A₀ base h₀ L m news s Q E B F X N T hk hdp hun hret
  refine wpAny_call ?_
  k_dflt cell_enter
  repeat' (first | (k_unfold; (try dsimp only)) | ((try dsimp only); walk1) | walk1 | (leave1; walk_say "STEP leave1"; try dsimp only) | fail "no step")
  all_goals (refine' retI hret ?ze1 ?ze2 ?ze3 ?ze4; (case ze2 => k_asm); (case ze3 => k_asm); (case ze4 => first | exact fun _ h => h | (intro p hp; simp [hp])); (case ze1 => rfl))

local macro_rules | `(tactic| walk_at "call ref") => `(tactic| (k_here; (with_reducible show wpAny _ _ (PySem.call (Value.ref 89) [_, Value.int 7 _, _]) _ _ _); k_dflt (refine' ask_use (c_to_jd7 _ _ _ _ _ _ _ _ _) ?k1 ?k2 ?k3 ?k4 ?k5 ?kK ?kd ?ku ?_; (case k1 => k_asm); (case k2 => k_asm); (case k3 => k_asm); (case k4 => k_asm); (case k5 => k_asm); (case kK => first | exact rfl | assumption); (case kd => ktr_room); (case ku => ktr_units)); intro t9 h9 tk9 F9 N9; (try dsimp only); (try k_sweep); (try k_fold)))

set_option maxRecDepth 100000 in
set_option maxHeartbeats 2000000 in
theorem c_year_days (w : World) (mean : ExcName → Option Value) (mg mb : Str → Option Value) (y : Int) (ty : Tok) : Ask w mean mg mb 5 68 [.int y ty] (RI (ydF y)) := by
  unfold Ask
  k_fill
  intro dp un gd cn cs a ccd cl outer A₀ base h₀ L m news s Q E B F X N T hk hdp hun hret
  refine wpAny_call ?_
  k_dflt cell_enter
  repeat' (first | (k_unfold; (try dsimp only)) | ((try dsimp only); walk1) | walk1 | (leave1; walk_say "STEP leave1"; try dsimp only) | fail "no step")
  all_goals (refine' retI hret ?ze1 ?ze2 ?ze3 ?ze4; (case ze2 => k_asm); (case ze3 => k_asm); (case ze4 => first | exact fun _ h => h | (intro p hp; simp [hp])); (case ze1 => rfl))

local macro_rules | `(tactic| walk_at "call ref") => `(tactic| (k_here; (with_reducible show wpAny _ _ (PySem.call (Value.ref 68) _) _ _ _); k_dflt (refine' ask_use (c_year_days _ _ _ _ _ _) ?k1 ?k2 ?k3 ?k4 ?k5 ?kK ?kd ?ku ?_; (case k1 => k_asm); (case k2 => k_asm); (case k3 => k_asm); (case k4 => k_asm); (case k5 => k_asm); (case kK => first | exact rfl | assumption); (case kd => ktr_room); (case ku => ktr_units)); intro t9 h9 tk9 F9 N9; (try dsimp only); (try k_sweep); (try k_fold)))

set_option maxRecDepth 100000 in
set_option maxHeartbeats 2000000 in
theorem c_month_length (w : World) (mean : ExcName → Option Value) (mg mb : Str → Option Value) (y m : Int) (ty tm : Tok) (hm : m ≤ 13) : Ask w mean mg mb 6 75 [.int y ty, .int m tm] (RI (mlF y m)) := by
  unfold Ask
  k_fill
  intro dp un gd cn cs a ccd cl outer A₀ base h₀ L m news s Q E B F X N T hk hdp hun hret
  refine wpAny_call ?_
  k_dflt cell_enter
  repeat' (first | (k_unfold; (try dsimp only)) | ((try dsimp only); walk1) | walk1 | (leave1; walk_say "STEP leave1"; try dsimp only) | fail "no step")
  all_goals (refine' retI hret ?ze1 ?ze2 ?ze3 ?ze4; (case ze2 => k_asm); (case ze3 => k_asm); (case ze4 => first | exact fun _ h => h | (intro p hp; simp [hp])); (case ze1 => (show _ = mlF _ _; unfold mlF; (try simp only [List.any_cons, List.any_nil, Bool.or_false, Bool.or_eq_true, Bool.or_eq_false_iff, beq_iff_eq, beq_eq_false_iff_ne, ne_eq] at *); (repeat' split) <;> first | rfl | omega | (exfalso; simp_all; done) | (exfalso; simp_all; omega))))

local macro_rules | `(tactic| walk_at "call ref") => `(tactic| (k_here; (with_reducible show wpAny _ _ (PySem.call (Value.ref 75) _) _ _ _); k_dflt (refine' ask_use (c_month_length _ _ _ _ _ _ _ _ ?p1) ?k1 ?k2 ?k3 ?k4 ?k5 ?kK ?kd ?ku ?_; (case k1 => k_asm); (case k2 => k_asm); (case k3 => k_asm); (case k4 => k_asm); (case k5 => k_asm); (case kK => first | exact rfl | assumption); (case p1 => first | assumption | omega); (case kd => ktr_room); (case ku => ktr_units)); intro t9 h9 tk9 F9 N9; (try dsimp only); (try k_sweep); (try k_fold)))

set_option maxRecDepth 100000 in
set_option maxHeartbeats 2000000 in
theorem c_month_days (w : World) (mean : ExcName → Option Value) (mg mb : Str → Option Value) (y m : Int) (ty tm : Tok) (hm : m ≤ 13) : Ask w mean mg mb 7 82 [.int y ty, .int m tm] (RI (mlF y m)) := by
  unfold Ask
  k_fill
  intro dp un gd cn cs a ccd cl outer A₀ base h₀ L m news s Q E B F X N T hk hdp hun hret
  refine wpAny_call ?_
  k_dflt cell_enter
  repeat' (first | (k_unfold; (try dsimp only)) | ((try dsimp only); walk1) | walk1 | (leave1; walk_say "STEP leave1"; try dsimp only) | fail "no step")
  all_goals (refine' retI hret ?ze1 ?ze2 ?ze3 ?ze4; (case ze2 => k_asm); (case ze3 => k_asm); (case ze4 => first | exact fun _ h => h | (intro p hp; simp [hp])); (case ze1 => rfl))

local macro_rules | `(tactic| walk_at "call ref") => `(tactic| (k_here; (with_reducible show wpAny _ _ (PySem.call (Value.ref 82) _) _ _ _); k_dflt (refine' ask_use (c_month_days _ _ _ _ _ _ _ _ ?p1) ?k1 ?k2 ?k3 ?k4 ?k5 ?kK ?kd ?ku ?_; (case k1 => k_asm); (case k2 => k_asm); (case k3 => k_asm); (case k4 => k_asm); (case k5 => k_asm); (case kK => first | exact rfl | assumption); (case p1 => first | assumption | omega); (case kd => ktr_room); (case ku => ktr_units)); intro t9 h9 tk9 F9 N9; (try dsimp only); (try k_sweep); (try k_fold)))

set_option maxRecDepth 100000 in
set_option maxHeartbeats 2000000 in
theorem c_to_jd (w : World) (mean : ExcName → Option Value) (mg mb : Str → Option Value) (y m d : Int) (ty tm td : Tok) (hm : 1 ≤ m ∧ m ≤ 14) : Ask w mean mg mb 8 89 [.int y ty, .int m tm, .int d td] (RI (jdF y m d)) := by
  unfold Ask
  k_fill
  intro dp un gd cn cs a ccd cl outer A₀ base h₀ L m news s Q E B F X N T hk hdp hun hret
  refine wpAny_call ?_
  k_dflt cell_enter
  k_with_none
  (k_with "pyIter ref" => k_state_given ["year", "jd!"] (fun y j pre a => a = j + sumF y pre) "jd")
  (k_with "state" => first | exact sumF_nil | exact sumF_snoc (by assumption))
  repeat' (first | (k_unfold; (try dsimp only)) | ((try dsimp only); walk1) | walk1 | (leave1; walk_say "STEP leave1"; try dsimp only) | fail "no step")
  all_goals (refine' retI hret ?ze1 ?ze2 ?ze3 ?ze4; (case ze2 => k_asm); (case ze3 => k_asm); (case ze4 => first | exact fun _ h => h | (intro p hp; simp [hp])); (case ze1 => (show midF _ = midF _; congr 1; first | (rw [if_pos (by assumption)]; omega) | (rw [if_neg (by assumption)]; omega))))

local macro_rules | `(tactic| walk_at "call ref") => `(tactic| (k_here; (with_reducible show wpAny _ _ (PySem.call (Value.ref 89) _) _ _ _); k_dflt (refine' ask_use (c_to_jd _ _ _ _ _ _ _ _ _ _ ?p1) ?k1 ?k2 ?k3 ?k4 ?k5 ?kK ?kd ?ku ?_; (case k1 => k_asm); (case k2 => k_asm); (case k3 => k_asm); (case k4 => k_asm); (case k5 => k_asm); (case kK => first | exact rfl | assumption); (case p1 => first | assumption | omega); (case kd => ktr_room); (case ku => ktr_units)); intro t9 h9 tk9 F9 N9; (try dsimp only); (try k_sweep); (try k_fold)))
local macro_rules | `(tactic| walk_at "call ref") => `(tactic| (k_here; (with_reducible show wpAny _ _ (PySem.call (Value.ref 89) [_, Value.int 7 _, _]) _ _ _); k_dflt (refine' ask_use (c_to_jd7 _ _ _ _ _ _ _ _ _) ?k1 ?k2 ?k3 ?k4 ?k5 ?kK ?kd ?ku ?_; (case k1 => k_asm); (case k2 => k_asm); (case k3 => k_asm); (case k4 => k_asm); (case k5 => k_asm); (case kK => first | exact rfl | assumption); (case kd => ktr_room); (case ku => ktr_units)); intro t9 h9 tk9 F9 N9; (try dsimp only); (try k_sweep); (try k_fold)))

set_option maxRecDepth 100000 in
set_option maxHeartbeats 2000000 in
theorem c_from_jd (w : World) (mean : ExcName → Option Value) (mg mb : Str → Option Value) (jd Y M f0 : Int) (tj : Tok) (hT : ∀ i, tF i ≤ jd ↔ i ≤ Y) (hC : ((jd - 347996) * 98496).fdiv 35975351 ≤ Y + 1) (h7 : jd < jdF Y 1 1 → f0 = 7) (h1 : ¬ jd < jdF Y 1 1 → f0 = 1) (hf : 1 ≤ f0 ∧ f0 ≤ M ∧ M ≤ 13) (hM : ∀ k, f0 ≤ k → k ≤ M → (jdF Y k (mlF Y k) < jd ↔ k < M)) : Ask w mean mg mb 9 96 [.int jd tj] (RT3 Y M (jd - jdF Y M 1 + 1)) := by
  unfold Ask
  k_fill
  intro dp un gd cn cs a ccd cl outer A₀ base h₀ L m news s Q E B F X N T hk hdp hun hret
  refine wpAny_call ?_
  k_dflt cell_enter
  k_with_none
  (k_with "exec While Compare cons nil" => k_while (fun script i year => year = i - 1 ∧ i ≤ Y + 1) (fun script i year => (Y + 1 - i).toNat) "i" "year")
  (k_with "exec While Compare cons nil" => k_while (fun script i month => month = i ∧ f0 ≤ i ∧ i ≤ M) (fun script i month => (M - i).toNat) "i" "month")
  (k_with "state" => first | exact fj_turn (by assumption) (by assumption) (by assumption) (by assumption) | exact fj2_start (by assumption) (by assumption) (by assumption) | exact fj2_turn (by assumption) (by assumption) (by assumption) (by assumption) (by assumption))
  (k_with "measure" => first | exact fj_meas (by assumption) (by assumption) | exact fj2_meas (by assumption) (by assumption) (by assumption) (by assumption))
  (k_with "exec If" => k_dflt ((have hY9 := fj_exit (by assumption) (by assumption) (by assumption) (by assumption)); subst hY9))
  (k_with "exec Assign" => k_dflt ((have hY9 := fj2_exit (by assumption) (by assumption) (by assumption) (by assumption) (by assumption)); subst hY9))
  repeat' (first | (k_unfold; (try dsimp only)) | ((try dsimp only); walk1) | walk1 | (leave1; walk_say "STEP leave1"; try dsimp only) | fail "no step")
  all_goals (refine' retT3 hret ?ze1 ?ze2 ?ze3 ?zf ?zn ?zm ?zs ?zl; (case zf => k_asm); (case zn => k_asm); (case zm => k_mem); (case zs => first | exact fun _ h => h | (intro p hp; simp [hp])); (case zl => assumption); (case ze1 => rfl); (case ze2 => rfl); (case ze3 => rfl))
end

section
local macro_rules | `(tactic| walk_at "eval Call") => `(tactic| ((with_reducible show wpAny _ _ (eval (Expr.Call (Expr.Name _ _) _ [] _) _) _ _ _); k_dflt (refine Call_ ?_)))
set_option maxRecDepth 100000 in
set_option maxHeartbeats 2000000 in
theorem c_thirteen (w : World) (mean : ExcName → Option Value) (mg mb : Str → Option Value) (y : Int) (ty : Tok) : Ask w mean mg mb 1 110 [.int y ty] (RB (thF y)) := by
  unfold Ask
  k_fill
  intro dp un gd cn cs a ccd cl outer A₀ base h₀ L m news s Q E B F X N T hk hdp hun hret
  refine wpAny_call ?_
  k_dflt cell_enter
  repeat' (first | (k_unfold; (try dsimp only)) | ((try dsimp only); walk1) | walk1 | (leave1; walk_say "STEP leave1"; try dsimp only) | fail "no step")
  all_goals (refine' retB hret ?ze1 ?ze2 ?ze3 ?ze4; (case ze2 => k_asm); (case ze3 => k_asm); (case ze4 => first | exact fun _ h => h | (intro p hp; simp [hp])); (case ze1 => rfl))

local macro_rules | `(tactic| walk_at "call ref") => `(tactic| (k_here; (with_reducible show wpAny _ _ (PySem.call (Value.ref 110) _) _ _ _); k_dflt (refine' ask_use (c_thirteen _ _ _ _ _ _) ?k1 ?k2 ?k3 ?k4 ?k5 ?kK ?kd ?ku ?_; (case k1 => k_asm); (case k2 => k_asm); (case k3 => k_asm); (case k4 => k_asm); (case k5 => k_asm); (case kK => first | exact rfl | assumption); (case kd => ktr_room); (case ku => ktr_units)); intro h9 tk9 F9 N9; (try dsimp only); (try k_sweep); (try k_fold)))

set_option maxRecDepth 100000 in
set_option maxHeartbeats 2000000 in
theorem c_gates (w : World) (mean : ExcName → Option Value) (mg mb : Str → Option Value) (y : Int) (ty : Tok) : Ask w mean mg mb 2 117 [.int y ty] (RG y) := by
  unfold Ask
  k_fill
  intro dp un gd cn cs a ccd cl outer A₀ base h₀ L m news s Q E B F X N T hk hdp hun hret
  refine wpAny_call ?_
  k_dflt cell_enter
  repeat' (first | (k_unfold; (try dsimp only)) | ((try dsimp only); walk1) | walk1 | (leave1; walk_say "STEP leave1"; try dsimp only) | fail "no step")
  all_goals (refine' retG hret ?za1 ?zb1 ?zc1 ?za2 ?zb2 ?zc2 ?za3 ?zb3 ?zc3 ?za4 ?zb4 ?zc4 ?za5 ?zb5 ?zc5 ?za6 ?zb6 ?zc6 ?za7 ?zb7 ?zc7 ?za8 ?zb8 ?zc8 ?zf ?zn; (case zf => k_asm); (case zn => k_asm); (case za1 => simp [g1F, *]); (case zb1 => rfl); (case zc1 => simp [n1F, *]); (case za2 => simp [g2F, *]); (case zb2 => rfl); (case zc2 => simp [n2F, *]); (case za3 => simp [g3F, *]); (case zb3 => rfl); (case zc3 => simp [n3F, *]); (case za4 => simp [g4F, *]); (case zb4 => rfl); (case zc4 => simp [n4F, *]); (case za5 => simp [g5F, *]); (case zb5 => rfl); (case zc5 => simp [n5F, *]); (case za6 => simp [g6F, *]); (case zb6 => rfl); (case zc6 => simp [n6F, *]); (case za7 => simp [g7F, *]); (case zb7 => rfl); (case zc7 => simp [n7F, *]); (case za8 => simp [g8F, *]); (case zb8 => rfl); (case zc8 => simp [n8F, *]))

set_option maxRecDepth 100000 in
set_option maxHeartbeats 2000000 in
theorem c_law_year (w : World) (mean : ExcName → Option Value) (mg mb : Str → Option Value) (y : Int) (ty : Tok) (hy : -951 ≤ y) : Ask w mean mg mb 4 122 [.int y ty] (RT2 (tF y) (ydF y)) := by
  unfold Ask
  k_fill
  intro dp un gd cn cs a ccd cl outer A₀ base h₀ L m news s Q E B F X N T hk hdp hun hret
  refine wpAny_call ?_
  k_dflt (refine' code_defC ?k1 ?k2 ?k3 ?k4 ?k5 ?kA ?kF ?kK ?k6 ?k7 ?k8 ?k9 ?kB ?kD ?_ ?c2 ?c3 ?c4; (case kA => exact rfl); (case kF => exact rfl); (case kK => assumption); (case k1 => k_asm); (case k2 => k_asm); (case k3 => k_asm); (case k4 => k_asm); (case k5 => k_asm); (case k6 => k_is); (case k7 => k_is); (case k8 => ktr_room); (case k9 => exact BindsTo.of_eq rfl); (case kB => exact rfl); (case kD => decide +kernel); (case c2 => exact rfl); (case c3 => exact rfl); (case c4 => exact rfl); k_whole; intro g' L' h' tk' cells' FG' F' N' Y' B' X' T' l1; (try k_lt l1); k_cells Y'; (try simp only [List.cons_append, List.nil_append] at N'); (try dsimp only); (try k_lift B'); (try k_fold))
  have hLc : @LT.lt Nat instLTNat (L' + 1) h'.objs.size := Heap.lt_size (N' _ (List.Mem.head _)).1
  have l2 : ∀ p ∈ news, p.1 < L' + 1 := fun p hp => Nat.lt_succ_of_lt (l1 p hp)
  k_with_none
  (k_with "pyIter ref" => k_state_given ["moons!"] (fun j pre a => a = j + sumT pre) "moons")
  (k_with "exec Assign" => subst kInv)
  (k_with "eval ListComp" => k_dflt (refine comp_tuple (by k_asm) (by with_unfolding_all rfl) (by decide) (by rfl) (by decide) (by rfl) (by intro _; rfl) ?_))
  (k_with "call ref" => (k_here; (with_reducible show wpAny _ _ (PySem.call (Value.ref 117) _) _ _ _); k_dflt (refine' ask_use (c_gates _ _ _ _ _ _) ?k1 ?k2 ?k3 ?k4 ?k5 ?kK ?kd ?ku ?_; (case k1 => k_asm); (case k2 => k_asm); (case k3 => k_asm); (case k4 => k_asm); (case k5 => k_asm); (case kK => first | exact rfl | assumption); (case kd => ktr_room); (case ku => ktr_units)); intro D8 d1 d2 d3 d4 d5 d6 d7 d8 t1 u1 v1 t2 u2 v2 t3 u3 v3 t4 u4 v4 t5 u5 v5 t6 u6 v6 t7 u7 v7 t8 u8 v8 h8 tk8 P8 F8 N8; (try dsimp only); (try k_sweep); (try k_fold)))
  (k_with "exec While Compare cons nil" => k_while_given ["evening!"] (fun e0 script e => e0 ≤ e ∧ e ≤ e0 + (wF y (qF y) - e0) % 7) (fun e0 script e => (e0 + (wF y (qF y) - e0) % 7 - e).toNat) "evening")
  (k_with "state" => first | exact sumT_nil | exact sumT_t (by assumption) (by assumption) | exact sumT_f (by assumption) (by assumption) | exact ev_start | exact ev_turn (wF_lt _ _) (by assumption) (by assumption) (by assumption))
  (k_with "measure" => exact ev_meas (wF_lt _ _) (by assumption) (by assumption) (by assumption))
  repeat' (first | (k_unfold; (try dsimp only)) | ((try dsimp only); walk1) | walk1 | (leave1; walk_say "STEP leave1"; try dsimp only) | fail "no step")
  
  refine ⟨_, _, _, rfl, rfl, by k_asm, by k_asm, ⟨_, by k_mem, rfl, _, rfl⟩, Nat.le_of_ble_eq_true rfl, fun g9 => ?_⟩
  refine rest_pure [(Value.ref d1, decide (qF y < g1F y)), (Value.ref d2, decide (qF y < g2F y)), (Value.ref d3, decide (qF y < g3F y)), (Value.ref d4, decide (qF y < g4F y)), (Value.ref d5, decide (qF y < g5F y)), (Value.ref d6, decide (qF y < g6F y)), (Value.ref d7, decide (qF y < g7F y)), (Value.ref d8, decide (qF y < g8F y))] (fun _ => rfl) (fun _ => rfl) (by decide) ?_ ⟨_, by k_mem, rfl, _, rfl⟩ 8 0 [] rfl ?_
  · intro p9 hp9
    simp only [List.mem_cons, List.not_mem_nil, or_false] at hp9
    rcases hp9 with rfl | rfl | rfl | rfl | rfl | rfl | rfl | rfl
    all_goals (intro I9 oI9 C9 oC9 D9 ys9 m9 h9 tk9 E9 hC9 hx9 F9 N9; (try k_fold); repeat' (first | (k_unfold; (try dsimp only)) | ((try dsimp only); walk1) | walk1 | (leave1; walk_say "STEP leave1"; try dsimp only) | fail "no step"))
  · unfold LCg.FinE
    intro D9 h9 tk9 F9 N9 o9
    obtain ⟨dk, gk, ta, tb, tc, rest, he, hm⟩ := gates_pick P8
    rw [he] at N9
    replace N9 := news_dup N9 (.tail _ hm)
    repeat' (first | (k_unfold; (try dsimp only)) | ((try dsimp only); walk1) | walk1 | (leave1; walk_say "STEP leave1"; try dsimp only) | fail "no step")
    rename (@LT.lt Nat _ dk _ ∧ _) => hl1
    exact retT2 hret ((congrArg (347997 + ·) (ev_exit (by assumption) (by assumption) (by assumption))).trans (year_ok hy).1) (year_ok hy).2 (by k_asm) (by assumption) (by k_mem) (by intro p hp; simp [hp]) (ktn_ltOf hl1.2.2.2.2.2.2.2.2.2.2.2.2.2)
end

section
local macro_rules | `(tactic| walk_at "eval Call") => `(tactic| ((with_reducible show wpAny _ _ (eval (Expr.Call (Expr.Name _ _) _ [] _) _) _ _ _); k_dflt (refine Call_ ?_)))
local macro_rules | `(tactic| walk_at "call ref") => `(tactic| (k_here; (with_reducible show wpAny _ _ (PySem.call (Value.ref 110) _) _ _ _); k_dflt (refine' ask_use (c_thirteen _ _ _ _ _ _) ?k1 ?k2 ?k3 ?k4 ?k5 ?kK ?kd ?ku ?_; (case k1 => k_asm); (case k2 => k_asm); (case k3 => k_asm); (case k4 => k_asm); (case k5 => k_asm); (case kK => first | exact rfl | assumption); (case kd => ktr_room); (case ku => ktr_units)); intro h9 tk9 F9 N9; (try dsimp only); (try k_sweep); (try k_fold)))

set_option maxRecDepth 100000 in
set_option maxHeartbeats 2000000 in
theorem c_law_month (w : World) (mean : ExcName → Option Value) (mg mb : Str → Option Value) (y number : Int) (ty t1 t2 t3 : Tok) (hy : -951 ≤ y) (h1 : tF y ≤ number) (h2 : number ≤ tF y + ydF y) : Ask w mean mg mb 4 129 [.int y ty, .int (tF y) t1, .int (ydF y) t2, .int number t3] (RM number) := by
  unfold Ask
  k_fill
  intro dp un gd cn cs a ccd cl outer A₀ base h₀ L m news s Q E B F X N T hk hdp hun hret
  refine wpAny_call ?_
  k_dflt cell_enter
  obtain ⟨o8, o9, o10, o11, o12, o2, o3, o4, o5, o6, oT, oL⟩ := offs hy
  have o7 := off7 y
  have p7 := off7 (y + 1)
  have q7 := ml7 (y + 1)
  have e8 := sel8 hy
  have e9 := sel9 hy
  have b8 := ml_two y 8
  have b9 := ml_two y 9
  have hth := th_leap y
  have e12 := ml12 y
  have e1 := ml1 y; have e2 := ml2 y; have e3 := ml3 y; have e4 := ml4 y; have e5 := ml5 y; have e6 := ml6 y; have e7 := ml7 y; have e10 := ml10 y; have e11 := ml11 y; have e13 := ml13 y
  have hT : tF (y + 1) = tF y + ydF y := by unfold ydF; omega
  k_with_none
  (k_with "ite" => k_dflt (refine ite_consts ?_))
  (k_with "subscriptTail Subscript Name Name Constant ref int" => k_dflt (refine' item_tupleT ?yt ?ya ?yb ?yc ?yd ?_; (case yt => exact News.isTup (by k_asm) (by k_mem)); (case ya => decide); (case yb => decide); (case yc => rfl); (case yd => rfl); k_whole))
  (k_with "subscriptTail Name Name ref int" => (with_unfolding_all refine' item_litK ?y1 ?y2 ?y3 ?y4 ?_ ?y6; (case y1 => is_list); (case y2 => decide); (case y3 => decide); (case y4 => rfl); (case y6 => with_unfolding_all rfl); k_whole))
  (k_with "exec While Compare cons nil" => k_dflt ((rename (@LT.lt Nat _ _ _ ∧ _) => hkp); revert hkp; (repeat (rename (@LT.lt Nat _ _ _ ∧ _) => hkz; clear hkz)); intro hkp; (rename (thF y = _) => hty); (rw [hth] at hty); (simp only [hty, Bool.false_eq_true, Bool.true_eq_false, true_and, false_and, or_false, false_or] at oL e12); (refine whl_start 100 ?_)))
  (k_with "WhlIf" => k_dflt (first | (refine WhlIf.no (by rw [decide_eq_false_iff_not]; omega) ?_) | (refine whlif_split (fun c9 => ?_) (fun c9 => ?_))))
  repeat' (first | (k_unfold; (try dsimp only)) | ((try dsimp only); walk1) | walk1 | (leave1; walk_say "STEP leave1"; try dsimp only) | fail "no step")
  all_goals (refine' retM hret ?zf ?zn ?zm ?zd ?zs ?zl ?zok; (case zf => k_asm); (case zn => k_asm); (case zm => k_mem); (case zd => k_mem); (case zs => first | exact fun _ h => h | (intro p hp; simp [hp])); (case zl => ((rename (@LT.lt Nat _ _ _ ∧ _) => hl1); (repeat (first | exact ktn_ltOf hl1 | replace hl1 := hl1.2)))); (case zok => first | exact okm hy (by first | exact .inl (by decide) | exact .inr ⟨rfl, by assumption⟩) (by omega) (by omega) (by omega) (by omega) | exact okm (show -951 ≤ y + 1 by omega) (.inl (by decide)) (by omega) (by omega) (by omega) (by omega)))
end

section
local macro_rules | `(tactic| walk_at "eval Call") => `(tactic| ((with_reducible show wpAny _ _ (eval (Expr.Call (Expr.Name _ _) _ [] _) _) _ _ _); k_dflt (refine Call_ ?_)))
local macro_rules | `(tactic| walk_at "call ref") => `(tactic| (k_here; (with_reducible show wpAny _ _ (PySem.call (Value.ref 89) _) _ _ _); k_dflt (refine' ask_use (c_to_jd _ _ _ _ _ _ _ _ _ _ ?p1) ?k1 ?k2 ?k3 ?k4 ?k5 ?kK ?kd ?ku ?_; (case k1 => k_asm); (case k2 => k_asm); (case k3 => k_asm); (case k4 => k_asm); (case k5 => k_asm); (case kK => first | exact rfl | assumption); (case p1 => first | assumption | omega); (case kd => ktr_room); (case ku => ktr_units)); intro t9 h9 tk9 F9 N9; (try dsimp only); (try k_sweep); (try k_fold)))
local macro_rules | `(tactic| walk_at "call ref") => `(tactic| (k_here; (with_reducible show wpAny _ _ (PySem.call (Value.ref 89) [_, Value.int 7 _, _]) _ _ _); k_dflt (refine' ask_use (c_to_jd7 _ _ _ _ _ _ _ _ _) ?k1 ?k2 ?k3 ?k4 ?k5 ?kK ?kd ?ku ?_; (case k1 => k_asm); (case k2 => k_asm); (case k3 => k_asm); (case k4 => k_asm); (case k5 => k_asm); (case kK => first | exact rfl | assumption); (case kd => ktr_room); (case ku => ktr_units)); intro t9 h9 tk9 F9 N9; (try dsimp only); (try k_sweep); (try k_fold)))
local macro_rules | `(tactic| walk_at "call ref") => `(tactic| (k_here; (with_reducible show wpAny _ _ (PySem.call (Value.ref 82) _) _ _ _); k_dflt (refine' ask_use (c_month_days _ _ _ _ _ _ _ _ ?p1) ?k1 ?k2 ?k3 ?k4 ?k5 ?kK ?kd ?ku ?_; (case k1 => k_asm); (case k2 => k_asm); (case k3 => k_asm); (case k4 => k_asm); (case k5 => k_asm); (case kK => first | exact rfl | assumption); (case p1 => first | assumption | omega); (case kd => ktr_room); (case ku => ktr_units)); intro t9 h9 tk9 F9 N9; (try dsimp only); (try k_sweep); (try k_fold)))
local macro_rules | `(tactic| walk_at "call ref") => `(tactic| (k_here; (with_reducible show wpAny _ _ (PySem.call (Value.ref 28) _) _ _ _); k_dflt (refine' ask_use (c_jwday _ _ _ _ _ _) ?k1 ?k2 ?k3 ?k4 ?k5 ?kK ?kd ?ku ?_; (case k1 => k_asm); (case k2 => k_asm); (case k3 => k_asm); (case k4 => k_asm); (case k5 => k_asm); (case kK => first | exact rfl | assumption); (case kd => ktr_room); (case ku => ktr_units)); intro t9 h9 tk9 F9 N9; (try dsimp only); (try k_sweep); (try k_fold)))

set_option maxRecDepth 100000 in
set_option maxHeartbeats 2000000 in
theorem c_law_leaf (w : World) (mean : ExcName → Option Value) (mg mb : Str → Option Value) (first size : Int) (t1 t2 : Tok) (hs : size = 29 ∨ size = 30) : Ask w mean mg mb 3 136 [.int first t1, .int size t2] (RL (leafD ((first - 347997).fmod 7).toNat size.toNat)) := by
  unfold Ask
  k_fill
  intro dp un gd cn cs a ccd cl outer A₀ base h₀ L m news s Q E B F X N T hk hdp hun hret
  refine wpAny_call ?_
  k_dflt cell_enter
  have hp0 : 0 ≤ (first - 347997).fmod 7 ∧ (first - 347997).fmod 7 < 7 := by rw [fmd _ (by decide)]; omega
  k_with_none
  (k_with "binaryOp Mult ref int" => (k_dflt (refine' KMa.mul (ws := List.replicate ((first - 347997).fmod 7).toNat Value.none) ?yF ?yN ?yl ?ylo ?yhi ?yz ?ye ?_; (case yF => k_asm); (case yN => k_asm); (case yl => is_list); (case ylo => omega); (case yhi => omega); (case yz => ((simp only [List.length_cons, List.length_nil]); omega)); (case ye => exact flat_none _)); intro D0 h0 F0 N0 l0; (have l0c := l0); (try k_lt l0c)))
  repeat' ((fail_if_success (with_reducible show wpAny _ _ (exec (Stmt.For _ _ _ _ _) _) _ _ _)); first | (k_unfold; (try dsimp only)) | ((try dsimp only); walk1) | walk1 | (leave1; walk_say "STEP leave1"; try dsimp only) | fail "no step")
  rename_i Dw ha la hb tka lN hc lb hd FX NX
  (with_unfolding_all refine' For_invVF FX ?w1 ?w2 ?_; (case w1 => exact rfl); (case w2 => exact rfl))
  repeat' ((fail_if_success (with_reducible show wpAny _ _ (pyIter _) _ _ _)); first | (k_unfold; (try dsimp only)) | ((try dsimp only); walk1) | walk1 | (leave1; walk_say "STEP leave1"; try dsimp only) | fail "no step")
  rename IsRange _ _ _ _ _ _ _ _ => rgX
  rename Fr _ _ _ _ => FY
  rename News _ _ _ _ => NY
  have hsz9 : Builtin.Range.rangeSize 1 (size + 1) 1 = ((size.toNat : Nat) : Int) := by rw [rangeSize_one]; split <;> omega
  refine kd_range (fun c : LeafSt => [(Dw, listOf c.ws.toArray c.n)]) ((D0, listOf (List.replicate ((first - 347997).fmod 7).toNat Value.none).toArray 0) :: (lN, listOf [Value.none].toArray 0) :: news) (fun c => [(Str.ofString "week", .ref c.a)]) LeafF [] (LeafP ((first - 347997).fmod 7).toNat) (Dw :: D0 :: lN :: news.map (·.1)) ⟨[], 0, D0, List.replicate ((first - 347997).fmod 7).toNat Value.none, 0, [], List.replicate ((first - 347997).fmod 7).toNat Dat.none⟩
    rfl rgX (small_one (by omega) (by omega) (by omega) (by omega)) hsz9 FY NY ?hn (fun c => rfl) ?hf ?hk ?hp ?turn ?done
  case hn => intro p hp; simp only [List.append_nil, List.cons_append, List.nil_append, List.mem_cons] at hp ⊢; rcases hp with h | h | h | h <;> simp [h]
  case hf => exact ⟨.nil, .head _, dat_none _ _⟩
  case hk => intro p hp; rw [List.mem_singleton.mp hp]; rfl
  case hp => exact ⟨rfl, by rw [List.length_replicate]; omega, Nat.le_refl _⟩
  case turn =>
    clear NY FY
    intro c9 tl pre k t u h9 tk9 own hk9 hlt9 hsep hoff hfa hP FT NT
    obtain ⟨ws, nn, aw, vs, kk, E1, E2⟩ := c9
    obtain ⟨hA1, hA2, hA3⟩ := hfa
    obtain ⟨hP1, hP2, hP3⟩ := hP
    dsimp only at hA1 hA2 hA3 hP1 hP2 hP3
    simp only [List.cons_append, List.nil_append] at NT
    have hvl : vs.length = E2.length := hA3.length
    have hwl : ws.length = E1.length := hA1.length
    have hm9 : (aw, listOf vs.toArray kk) ∈ (D0, listOf (List.replicate ((first - 347997).fmod 7).toNat Value.none).toArray 0) :: (lN, listOf [Value.none].toArray 0) :: (news ++ (tl ++ own)) := by
      simp only [List.cons_append, List.mem_cons, List.mem_append] at hA2 ⊢
      rcases hA2 with h | h | h | h <;> simp [h]
    have hrest : ∀ p ∈ (D0, listOf (List.replicate ((first - 347997).fmod 7).toNat Value.none).toArray 0) :: (lN, listOf [Value.none].toArray 0) :: (news ++ (tl ++ own)), p.1 ≠ Dw := by
      intro p hp
      simp only [List.mem_cons, List.mem_append] at hp
      rcases hp with rfl | rfl | hp | hp | hp
      · exact Nat.ne_of_gt l0c.2.1
      · exact Nat.ne_of_gt lb.1
      · exact Nat.ne_of_lt (la p hp)
      · exact hoff p (List.mem_append.mpr (.inl hp)) Dw (.head _)
      · exact hoff p (List.mem_append.mpr (.inr hp)) Dw (.head _)
    k_with_none
    (k_with "newList" => (k_dflt (refine' newList_K ?y1 ?y2 ?_; (case y1 => k_asm); (case y2 => k_asm); k_whole); intro nl hnl Fl Nl ll; (have llc := ll); (try k_lt llc)))
    (k_with "binaryOp Add ref ref" => k_dflt (refine' kmk_add_lit (its := vs.toArray) (its2 := #[Value.int k t]) (zs := vs ++ [Value.int k t]) Fl Nl (News.isList Nl (.tail _ (.tail _ hm9))) (News.isList Nl (.head _)) ?ye ?_ ?yz; (case ye => simp); (case yz => (simp only [List.length_cons, List.length_nil]; rw [sizeLine_eq]; omega)); intro D2 h2 F2 N2 l2; (have l2c := l2); (try k_lt l2c)))
    (k_with "call builtin:len" => k_dflt (refine len_at (its := (vs ++ [Value.int k t]).toArray) (n := (E2.length : Int) + 1) (News.isList (by k_asm) (.head _)) (by simp; omega) (by omega) ?_))
    (k_with "call builtin:list.append" => (k_dflt (refine' append_K (its := ws.toArray) (n := nn) ?yF ?yN ?yU ?_ ?yz; (case yF => k_asm); (case yN => k_asm); (case yU => exact .tail (by k_ne) (.tail (by k_ne) (.head hrest))); (case yz => (rw [List.size_toArray, sizeLine_eq]; omega))); intro h3 F3 N3))
    (try k_fold)
    repeat' (first | (k_unfold; (try dsimp only)) | ((try dsimp only); walk1) | walk1 | (leave1; walk_say "STEP leave1"; try dsimp only) | fail "no step")
    · rename News _ _ _ _ => NE
      rename Fr _ _ _ _ => FE
      rename (_ + 1 = (7 : Int)) => h7
      simp only [List.push_toArray] at NE
      have lt2 : ∀ b ∈ (Dw :: D0 :: lN :: news.map (·.1)), b < D2 := by
        intro b hb
        simp only [List.mem_cons, List.mem_map] at hb
        rcases hb with rfl | rfl | rfl | ⟨p, hp, rfl⟩
        · exact l2c.2.1
        · exact l2c.2.2.1
        · exact l2c.2.2.2.1
        · exact l2 p (by simp [hp])
      have ltn : ∀ b ∈ (Dw :: D0 :: lN :: news.map (·.1)), b < nl := fun b hb => Nat.lt_trans (lt2 b hb) llc.1
      refine kd_end (⟨ws ++ [.ref D2], nn + 1, nl, [], 0, E1 ++ [Dat.list (E2 ++ [Dat.int k])], []⟩ : LeafSt) [(D2, listOf (vs ++ [Value.int k t]).toArray 0), (nl, listOf [].toArray 0)] hsep FE NE ?zn ?zo rfl ?zb ?zw ?zk ?zr ?zf ?zp
      case zn => intro p hp; simp only [List.cons_append, List.nil_append, List.mem_cons, List.mem_append] at hp ⊢; rcases hp with h | h | h | h | h | h | h <;> simp [h]
      case zo => intro p hp; simp [hp]
      case zb => intro q hq b hb; simp only [List.mem_cons, List.not_mem_nil, or_false] at hq; rcases hq with rfl | rfl; exact Nat.ne_of_lt (lt2 b hb); exact Nat.ne_of_lt (ltn b hb)
      case zw => intro q hq p hp; simp only [List.mem_cons, List.not_mem_nil, or_false] at hq; rcases hq with rfl | rfl; exact Nat.ne_of_lt (l2 p (by simp [hp])); exact Nat.ne_of_lt (ll p (by simp [hp]))
      case zk => intro p hp; rw [List.mem_singleton.mp hp]; with_unfolding_all rfl
      case zr => intro z z1 z2 z3; have z4 := z2 _ (List.Mem.head _); simp [kstB, z1, z4]
      case zf => exact ⟨(hA1.mono kd_sub).append (DatAll.one (DatIn.list (kd_new (.head _)) ((hA3.mono kd_sub).append (DatAll.one (DatIn.int k t))))), kd_new (.tail _ (.head _)), .nil⟩
      case zp => exact ⟨by rw [loopL_snoc, hP1, step_full h7], (show (0 : Nat) < 7 by decide), by rw [List.length_append, List.length_append]; exact Nat.add_le_add_right hP3 1⟩
    · rename News _ _ _ _ => NE
      rename Fr _ _ _ _ => FE
      rename (_ + 1 ≠ (7 : Int)) => h7
      have lt2 : ∀ b ∈ (Dw :: D0 :: lN :: news.map (·.1)), b < D2 := by
        intro b hb
        simp only [List.mem_cons, List.mem_map] at hb
        rcases hb with rfl | rfl | rfl | ⟨p, hp, rfl⟩
        · exact l2c.2.1
        · exact l2c.2.2.1
        · exact l2c.2.2.2.1
        · exact l2 p (by simp [hp])
      refine kd_end (⟨ws, nn, D2, vs ++ [Value.int k t], 0, E1, E2 ++ [Dat.int k]⟩ : LeafSt) [(D2, listOf (vs ++ [Value.int k t]).toArray 0)] hsep FE NE ?zn ?zo rfl ?zb ?zw ?zk ?zr ?zf ?zp
      case zn => intro p hp; simp only [List.cons_append, List.nil_append, List.mem_cons, List.mem_append] at hp ⊢; rcases hp with h | h | h | h | h | h <;> simp [h]
      case zo => intro p hp; simp [hp]
      case zb => intro q hq b hb; rw [List.mem_singleton.mp hq]; exact Nat.ne_of_lt (lt2 b hb)
      case zw => intro q hq p hp; rw [List.mem_singleton.mp hq]; exact Nat.ne_of_lt (l2 p (by simp [hp]))
      case zk => intro p hp; rw [List.mem_singleton.mp hp]; with_unfolding_all rfl
      case zr => intro z z1 z2 z3; have z4 := z2 _ (List.Mem.head _); simp [kstB, z1, z4]
      case zf => exact ⟨hA1.mono kd_sub, kd_new (.head _), (hA3.mono kd_sub).append (DatAll.one (DatIn.int k t))⟩
      case zp => exact ⟨by rw [loopL_snoc, hP1, step_more h7], by rw [List.length_append]; show E2.length + 1 < 7; omega, by rw [List.length_append]; exact Nat.le_succ_of_le hP3⟩
  case done =>
    clear NY FY
    intro c9 tl u h9 tk9 hoff hfa hP FT NT
    obtain ⟨ws, nn, aw, vs, kk, E1, E2⟩ := c9
    obtain ⟨hA1, hA2, hA3⟩ := hfa
    obtain ⟨hP1, hP2, hP3⟩ := hP
    dsimp only at hA1 hA2 hA3 hP1 hP2 hP3
    simp only [List.cons_append, List.nil_append] at NT
    have hvl : vs.length = E2.length := hA3.length
    have hwl : ws.length = E1.length := hA1.length
    rw [rangeKs_length] at hP3
    have hm9 : (aw, listOf vs.toArray kk) ∈ (D0, listOf (List.replicate ((first - 347997).fmod 7).toNat Value.none).toArray 0) :: (lN, listOf [Value.none].toArray 0) :: (news ++ tl) := by
      simp only [List.cons_append, List.mem_cons, List.mem_append] at hA2 ⊢
      exact hA2
    have hrest : ∀ p ∈ (D0, listOf (List.replicate ((first - 347997).fmod 7).toNat Value.none).toArray 0) :: (lN, listOf [Value.none].toArray 0) :: (news ++ tl), p.1 ≠ Dw := by
      intro p hp
      simp only [List.mem_cons, List.mem_append] at hp
      rcases hp with rfl | rfl | hp | hp
      · exact Nat.ne_of_gt l0c.2.1
      · exact Nat.ne_of_gt lb.1
      · exact Nat.ne_of_lt (la p hp)
      · exact hoff p hp Dw (.head _)
    k_with_none
    (k_with "truthy ref" => k_dflt (refine truthy_at (its := vs.toArray) (c := decide (0 < E2.length)) (News.isList NT (.tail _ hm9)) (by rw [List.size_toArray]; omega) (by rw [← hvl]; cases vs <;> simp) ?_))
    (k_with "newList" => (k_dflt (refine' newList_K ?y1 ?y2 ?_; (case y1 => k_asm); (case y2 => k_asm); k_whole); intro nl hnl Fl Nl ll; (have llc := ll); (try k_lt llc)))
    (k_with "call builtin:len" => k_dflt (refine len_at (its := vs.toArray) (n := (E2.length : Int)) (News.isList Nl (.tail _ (.tail _ hm9))) (by rw [List.size_toArray, hvl]) (by omega) ?_))
    (k_with "binaryOp Mult ref int" => (k_dflt (refine' KMa.mul (ws := List.replicate (7 - (E2.length : Int)).toNat Value.none) ?yF ?yN ?yl ?ylo ?yhi ?yz ?ye ?_; (case yF => k_asm); (case yN => k_asm); (case yl => is_list); (case ylo => omega); (case yhi => omega); (case yz => ((simp only [List.length_cons, List.length_nil]); omega)); (case ye => exact flat_none _)); intro Dm hm Fm Nm lm; (have lmc := lm); (try k_lt lmc)))
    (k_with "binaryOp Add ref ref" => k_dflt (refine' kmk_add_lit (its := vs.toArray) (its2 := (List.replicate (7 - (E2.length : Int)).toNat Value.none).toArray) (zs := vs ++ List.replicate (7 - (E2.length : Int)).toNat Value.none) Fm Nm (News.isList Nm (.tail _ (.tail _ (.tail _ hm9)))) (News.isList Nm (.head _)) ?ye ?_ ?yz; (case ye => simp); (case yz => (simp only [List.length_replicate]; rw [sizeLine_eq]; omega)); intro D2 h2 F2 N2 l2; (have l2c := l2); (try k_lt l2c)))
    (k_with "call builtin:list.append" => (k_dflt (refine' append_K (its := ws.toArray) (n := nn) ?yF ?yN ?yU ?_ ?yz; (case yF => k_asm); (case yN => k_asm); (case yU => exact .tail (by k_ne) (.tail (by k_ne) (.tail (by k_ne) (.head hrest)))); (case yz => (rw [List.size_toArray, sizeLine_eq]; omega))); intro h3 F3 N3))
    (try k_fold)
    repeat' (first | (k_unfold; (try dsimp only)) | ((try dsimp only); walk1) | walk1 | (leave1; walk_say "STEP leave1"; try dsimp only) | fail "no step")
    · rename News _ _ _ _ => NE
      rename Fr _ _ _ _ => FE
      simp only [List.push_toArray] at NE
      rw [leaf_end hP1 (by assumption)] at hret
      have sub9 : ∀ p ∈ (D0, listOf (List.replicate ((first - 347997).fmod 7).toNat Value.none).toArray 0) :: (lN, listOf [Value.none].toArray 0) :: news ++ tl, p ∈ (D2, listOf (vs ++ List.replicate (7 - (E2.length : Int)).toNat Value.none).toArray 0) :: ((D0, listOf (List.replicate ((first - 347997).fmod 7).toNat Value.none).toArray 0) :: (lN, listOf [Value.none].toArray 0) :: news ++ tl) := fun p hp => .tail _ hp
      refine retL (vs := ws ++ [Value.ref D2]) (c := nn + 1) (l := (D2, listOf (vs ++ List.replicate (7 - (E2.length : Int)).toNat Value.none).toArray 0) :: ((D0, listOf (List.replicate ((first - 347997).fmod 7).toNat Value.none).toArray 0) :: (lN, listOf [Value.none].toArray 0) :: news ++ tl)) hret FE NE (by simp) ((hA1.mono sub9).append (DatAll.one (DatIn.list (.head _) ((hA3.mono sub9).append (dat_none _ _))))) ?zl (by intro p hp; simp [hp])
      intro p hp; simp only [List.cons_append, List.mem_cons, List.mem_append] at hp ⊢; rcases hp with h | h | h | h | h <;> simp [h]
    · rename News _ _ _ _ => NE
      rename Fr _ _ _ _ => FE
      rw [leaf_none hP1 (by assumption)] at hret
      exact retL (vs := ws) (c := nn) (l := (D0, listOf (List.replicate ((first - 347997).fmod 7).toNat Value.none).toArray 0) :: (lN, listOf [Value.none].toArray 0) :: news ++ tl) hret FE NE (.head _) hA1 (fun p hp => .tail _ hp) (by intro p hp; simp [hp])
end

section
local macro_rules | `(tactic| walk_at "eval Call") => `(tactic| ((with_reducible show wpAny _ _ (eval (Expr.Call (Expr.Name _ _) _ [] _) _) _ _ _); k_dflt (refine Call_ ?_)))
local macro_rules | `(tactic| walk_at "call ref") => `(tactic| (k_here; (with_reducible show wpAny _ _ (PySem.call (Value.ref 89) _) _ _ _); k_dflt (refine' ask_use (c_to_jd _ _ _ _ _ _ _ _ _ _ ?p1) ?k1 ?k2 ?k3 ?k4 ?k5 ?kK ?kd ?ku ?_; (case k1 => k_asm); (case k2 => k_asm); (case k3 => k_asm); (case k4 => k_asm); (case k5 => k_asm); (case kK => first | exact rfl | assumption); (case p1 => first | assumption | omega); (case kd => ktr_room); (case ku => ktr_units)); intro t9 h9 tk9 F9 N9; (try dsimp only); (try k_sweep); (try k_fold)))
local macro_rules | `(tactic| walk_at "call ref") => `(tactic| (k_here; (with_reducible show wpAny _ _ (PySem.call (Value.ref 89) [_, Value.int 7 _, _]) _ _ _); k_dflt (refine' ask_use (c_to_jd7 _ _ _ _ _ _ _ _ _) ?k1 ?k2 ?k3 ?k4 ?k5 ?kK ?kd ?ku ?_; (case k1 => k_asm); (case k2 => k_asm); (case k3 => k_asm); (case k4 => k_asm); (case k5 => k_asm); (case kK => first | exact rfl | assumption); (case kd => ktr_room); (case ku => ktr_units)); intro t9 h9 tk9 F9 N9; (try dsimp only); (try k_sweep); (try k_fold)))
local macro_rules | `(tactic| walk_at "call ref") => `(tactic| (k_here; (with_reducible show wpAny _ _ (PySem.call (Value.ref 82) _) _ _ _); k_dflt (refine' ask_use (c_month_days _ _ _ _ _ _ _ _ ?p1) ?k1 ?k2 ?k3 ?k4 ?k5 ?kK ?kd ?ku ?_; (case k1 => k_asm); (case k2 => k_asm); (case k3 => k_asm); (case k4 => k_asm); (case k5 => k_asm); (case kK => first | exact rfl | assumption); (case p1 => first | assumption | omega); (case kd => ktr_room); (case ku => ktr_units)); intro t9 h9 tk9 F9 N9; (try dsimp only); (try k_sweep); (try k_fold)))
local macro_rules | `(tactic| walk_at "call ref") => `(tactic| (k_here; (with_reducible show wpAny _ _ (PySem.call (Value.ref 28) _) _ _ _); k_dflt (refine' ask_use (c_jwday _ _ _ _ _ _) ?k1 ?k2 ?k3 ?k4 ?k5 ?kK ?kd ?ku ?_; (case k1 => k_asm); (case k2 => k_asm); (case k3 => k_asm); (case k4 => k_asm); (case k5 => k_asm); (case kK => first | exact rfl | assumption); (case kd => ktr_room); (case ku => ktr_units)); intro t9 h9 tk9 F9 N9; (try dsimp only); (try k_sweep); (try k_fold)))

local macro_rules | `(tactic| walk_at "eval ListComp") => `(tactic| (k_here; k_dflt (refine comp_range (by k_asm) (by with_unfolding_all rfl) (by decide) (by rfl) (by decide) (by rfl) (by intro _; rfl) ?_)))
local macro_rules | `(tactic| walk_at "eval Name") => `(tactic| (k_here; (with_reducible show wpAny _ _ (eval (Expr.Name _ _) (compEnvC _ _ _ _)) _ _ _); k_dflt (refine' lcf_cell ?N ?c ?m ?d ?_ ?a ?b; (case a => rfl); (case b => rfl); (case N => k_asm); (case c => rfl); (case m => exact List.Mem.tail _ (List.Mem.tail _ (List.Mem.tail _ (by assumption)))); (case d => k_asm); k_whole)))

set_option maxRecDepth 100000 in
set_option maxHeartbeats 2000000 in
theorem c_helper (w : World) (mean : ExcName → Option Value) (mg mb : Str → Option Value) (sw ml : Int) (t1 t2 : Tok) (hs : ml = 29 ∨ ml = 30) : Ask w mean mg mb 3 33 [.int sw t1, .int ml t2] (RL (rowsD ((sw + 1).fmod 7).toNat ml.toNat)) := by
  unfold Ask
  k_fill
  intro dp un gd cn cs a ccd cl outer A₀ base h₀ L m news s Q E B F X N T hk hdp hun hret
  refine wpAny_call ?_
  k_dflt (refine' code_defC ?k1 ?k2 ?k3 ?k4 ?k5 ?kA ?kF ?kK ?k6 ?k7 ?k8 ?k9 ?kB ?kD ?_ ?c2 ?c3 ?c4; (case kA => exact rfl); (case kF => exact rfl); (case kK => assumption); (case k1 => k_asm); (case k2 => k_asm); (case k3 => k_asm); (case k4 => k_asm); (case k5 => k_asm); (case k6 => k_is); (case k7 => k_is); (case k8 => ktr_room); (case k9 => exact BindsTo.of_eq rfl); (case kB => exact rfl); (case kD => decide +kernel); (case c2 => exact rfl); (case c3 => exact rfl); (case c4 => exact rfl); k_whole; intro g' L' h' tk' cells' FG' F' N' Y' B' X' T' l1; (try k_lt l1); k_cells Y'; (try simp only [List.cons_append, List.nil_append] at N'); (try dsimp only); (try k_lift B'); (try k_fold))
  have hLc : @LT.lt Nat instLTNat (L' + 1) h'.objs.size := Heap.lt_size (N' _ (List.Mem.head _)).1
  have l2 : ∀ p ∈ news, p.1 < L' + 1 := fun p hp => Nat.lt_succ_of_lt (l1 p hp)
  have hp0 : 0 ≤ (sw + 1).fmod 7 ∧ (sw + 1).fmod 7 < 7 := by rw [fmd _ (by decide)]; omega
  k_with_none
  (k_with "binaryOp Mult ref int" => (k_dflt (refine' KMa.mul (ws := List.replicate ((sw + 1).fmod 7).toNat Value.none) ?yF ?yN ?yl ?ylo ?yhi ?yz ?ye ?_; (case yF => k_asm); (case yN => k_asm); (case yl => is_list); (case ylo => omega); (case yhi => omega); (case yz => ((simp only [List.length_cons, List.length_nil]); omega)); (case ye => exact flat_none _)); intro D0 h0 F0 N0 l0; (have l0c := l0); (try k_lt l0c)))
  (k_with "binaryOp Add ref ref" => k_dflt (first
    | ((rename List Value => us); (rename IntsAre _ _ => hIs); (rw [show (1 + ml - 1).toNat = ml.toNat by omega] at hIs); refine' kmk_add_lit (its := (List.replicate ((sw + 1).fmod 7).toNat Value.none).toArray) (its2 := us.toArray) (zs := List.replicate ((sw + 1).fmod 7).toNat Value.none ++ us) ?yF ?yN ?ya ?yb ?ye ?_ ?yz; (case yF => k_asm); (case yN => k_asm); (case ya => kmk_list); (case yb => kmk_list); (case ye => simp); (case yz => (have hul := hIs.length; rw [rangeKs_length] at hul; simp only [List.length_replicate]; rw [sizeLine_eq]; omega)); intro DA hA FA NA lA; (have lAc := lA); (try k_lt lAc))
    | (refine' kmk_add_lit (its := (List.replicate ((sw + 1).fmod 7).toNat Value.none ++ us).toArray) (its2 := (List.replicate 7 Value.none).toArray) (zs := List.replicate ((sw + 1).fmod 7).toNat Value.none ++ us ++ List.replicate 7 Value.none) ?yF ?yN ?ya ?yb ?ye ?_ ?yz; (case yF => k_asm); (case yN => k_asm); (case ya => kmk_list); (case yb => kmk_list); (case ye => simp); (case yz => (have hul := hIs.length; rw [rangeKs_length] at hul; simp only [List.length_append, List.length_replicate]; rw [sizeLine_eq]; omega)); intro DB hB FB NB lB; (have lBc := lB); (try k_lt lBc))))
  (k_with "binaryOp Mult int ref" => ((rename News _ _ _ _ => NM); (rename Fr _ _ _ _ => FM); (have hLm := ltN (Heap.lt_size (NM _ (.tail _ (.tail _ (.tail _ (.tail _ (.tail _ (.head _))))))).1)); k_dflt (refine PyProof.Rows.mul_list_r FM NM (NM _ (.head _)).1 (by decide) (by decide) (by decide) ?_); intro h7 F7 N7; (change News _ _ _ ((_, listOf (List.replicate 7 Value.none).toArray 0) :: _) at N7)))
  repeat' ((fail_if_success (with_reducible show RngSrc _ _ _ _ _ _ _ _ _ _ _ _ _ _ )); first | (k_unfold; (try dsimp only)) | ((try dsimp only); walk1) | walk1 | (leave1; walk_say "STEP leave1"; try dsimp only) | fail "no step")
  rename IsRange _ _ _ _ _ _ _ _ => rgY
  rename News _ _ _ _ => NX
  rename Fr _ _ _ _ => FX
  have hx9 : (sw + 1).fmod 7 + ml = ((((sw + 1).fmod 7).toNat : Nat) : Int) + (ml.toNat : Int) := by omega
  have hul := hIs.length
  rw [rangeKs_length] at hul
  refine ⟨_, _, _, _, _, _, _, _, _, rfl, rfl, FX, NX, rgY, small7 (by omega), size7 hx9 (by omega), by rw [sizeLine_eq]; omega, fun g9 => ?_⟩
  refine rest_rows (fun i => ((List.replicate ((sw + 1).fmod 7).toNat Value.none ++ us ++ List.replicate 7 Value.none).drop (7 * i)).take 7) (fun i => ((cellsD ((sw + 1).fmod 7).toNat ml.toNat).drop (7 * i)).take 7) (fun i => dat_take 7 (dat_drop (7 * i) (((dat_none _ _).append (dat_ints hIs)).append (dat_none _ 7)))) ?rT _ 0 [] _ (Nat.zero_add _) (fun _ h => h) .nil ?rF
  case rT =>
    intro i t I9 oI9 C9 oC9 D9 ys9 m9 h9 tk9 E9 nw9 hi9 hC9 hx9 F9 hb9 N9
    have hmb : (DB, listOf (List.replicate ((sw + 1).fmod 7).toNat Value.none ++ us ++ List.replicate 7 Value.none).toArray 0) ∈ nw9 := hb9 _ (by k_mem)
    obtain ⟨oc, hoc, hdc⟩ : ∃ oc, (L' + 1, oc) ∈ nw9 ∧ oc.data = .cell (some (.ref DB)) := ⟨_, hb9 _ (by k_mem), by assumption⟩
    k_with_none
    (k_with "subscriptTail Name Slice ref ref" => (k_dflt (refine' kmk_slice (its := (List.replicate ((sw + 1).fmod 7).toNat Value.none ++ us ++ List.replicate 7 Value.none).toArray) (lo := some (0 + (i : Int) * 7)) (hi := some (0 + (i : Int) * 7 + 7)) ?yF ?yN ?yl ?yp ?yq ?_ ?ys ?yt ?yz; (case yF => k_asm); (case yN => k_asm); (case yl => exact News.isList N9 (.tail _ (.tail _ (.tail _ hmb)))); (case yp => exact IsPart.int _ _); (case yq => exact IsPart.int _ _); (case ys => with_unfolding_all rfl); (case yt => kmk_pure); (case yz => (simp only [List.size_toArray, List.length_append, List.length_replicate]; rw [sizeLine_eq]; omega))); intro Bn hBn FBn NBn lBn))
    (try k_fold)
    repeat' ((fail_if_success (with_reducible show Exists _)); first | (k_unfold; (try dsimp only)) | ((try dsimp only); walk1) | walk1 | (leave1; walk_say "STEP leave1"; try dsimp only) | fail "no step")
    have e9 : (0 + (i : Int) * 7) = ((7 * i : Nat) : Int) := by omega
    rw [e9, slice7] at NBn
    exact ⟨Bn, _, _, rfl, rfl, FBn, NBn, lBn _ (.head _), lBn _ (.tail _ (.head _)), lBn _ (.tail _ (.tail _ (.head _)))⟩
  case rF =>
    intro ys9 nw9 hb9 hd9
    unfold LCg.FinE
    intro D9 h9 tk9 F9 N9 o9
    repeat' (first | (k_unfold; (try dsimp only)) | ((try dsimp only); walk1) | walk1 | (leave1; walk_say "STEP leave1"; try dsimp only) | fail "no step")
    rename News _ _ _ _ => NE
    rename Fr _ _ _ _ => FE
    exact retL (vs := ys9) (c := ys9.length) (l := nw9) hret FE NE (.head _) hd9 (fun p hp => .tail _ hp) (fun p hp => .tail _ (hb9 p (by simp [hp])))


local macro_rules | `(tactic| walk_at "call ref") => `(tactic| (k_here; (with_reducible show wpAny _ _ (PySem.call (Value.ref 33) _) _ _ _); k_dflt (refine' ask_use (c_helper _ _ _ _ _ _ _ _ ?p1) ?k1 ?k2 ?k3 ?k4 ?k5 ?kK ?kd ?ku ?_; (case k1 => k_asm); (case k2 => k_asm); (case k3 => k_asm); (case k4 => k_asm); (case k5 => k_asm); (case kK => first | exact rfl | assumption); (case p1 => exact ml_two _ _); (case kd => ktr_room); (case ku => ktr_units)); intro D9 v9 c9 l9 h9 tk9 d9 F9 N9; (try dsimp only); (try k_sweep); (try k_fold)))

set_option maxRecDepth 100000 in
set_option maxHeartbeats 2000000 in
theorem c_monthcalendar (w : World) (mean : ExcName → Option Value) (mg mb : Str → Option Value) (y m : Int) (ty tm : Tok) (hm : 1 ≤ m ∧ m ≤ 13) : Ask w mean mg mb 9 103 [.int y ty, .int m tm] (RL (rowsD (((jdF y m 1).fmod 7 + 1).fmod 7).toNat (mlF y m).toNat)) := by
  unfold Ask
  k_fill
  intro dp un gd cn cs a ccd cl outer A₀ base h₀ L m news s Q E B F X N T hk hdp hun hret
  refine wpAny_call ?_
  k_dflt cell_enter
  repeat' (first | (k_unfold; (try dsimp only)) | ((try dsimp only); walk1) | walk1 | (leave1; walk_say "STEP leave1"; try dsimp only) | fail "no step")
  all_goals (refine' retL hret ?zf ?zn ?zm ?zd ?zl ?zs; (case zf => k_asm); (case zn => k_asm); (case zm => k_mem); (case zd => assumption); (case zl => (intro p hp; simp [hp])); (case zs => (intro p hp; simp [hp])))
end

section
local macro_rules | `(tactic| walk_at "eval Call") => `(tactic| ((with_reducible show wpAny _ _ (eval (Expr.Call (Expr.Name _ _) _ [] _) _) _ _ _); k_dflt (refine Call_ ?_)))
theorem c_law_year2 (w : World) (mean : ExcName → Option Value) (mg mb : Str → Option Value) (y : Int) (ty : Tok) (hy : -951 ≤ y) : Ask w mean mg mb 4 122 [.int y ty] (RT2P (tF y) (ydF y) (353 ≤ ydF y ∧ ydF y ≤ 385)) :=
  fun dp un gd cn cs a ccd cl outer A₀ base h₀ L m news s Q E B F X N T hk hdp hun hret => c_law_year w mean mg mb y ty hy dp un gd cn cs a ccd cl outer A₀ base h₀ L m news s Q E B F X N T hk hdp hun (fun D t u n h' tk' F' N' l' => hret D t u n h' tk' (yd_bd hy) F' N' l')

local macro_rules | `(tactic| walk_at "call ref") => `(tactic| (k_here; (with_reducible show wpAny _ _ (PySem.call (Value.ref 68) _) _ _ _); k_dflt (refine' ask_use (c_year_days _ _ _ _ _ _) ?k1 ?k2 ?k3 ?k4 ?k5 ?kK ?kd ?ku ?_; (case k1 => k_asm); (case k2 => k_asm); (case k3 => k_asm); (case k4 => k_asm); (case k5 => k_asm); (case kK => first | exact rfl | assumption); (case kd => ktr_room); (case ku => ktr_units)); intro t9 h9 tk9 F9 N9; (try dsimp only); (try k_sweep); (try k_fold)))
local macro_rules | `(tactic| walk_at "call ref") => `(tactic| (k_here; (with_reducible show wpAny _ _ (PySem.call (Value.ref 75) _) _ _ _); k_dflt (refine' ask_use (c_month_length _ _ _ _ _ _ _ _ ?p1) ?k1 ?k2 ?k3 ?k4 ?k5 ?kK ?kd ?ku ?_; (case k1 => k_asm); (case k2 => k_asm); (case k3 => k_asm); (case k4 => k_asm); (case k5 => k_asm); (case kK => first | exact rfl | assumption); (case p1 => first | assumption | omega); (case kd => ktr_room); (case ku => ktr_units)); intro t9 h9 tk9 F9 N9; (try dsimp only); (try k_sweep); (try k_fold)))
local macro_rules | `(tactic| walk_at "call ref") => `(tactic| (k_here; (with_reducible show wpAny _ _ (PySem.call (Value.ref 89) _) _ _ _); k_dflt (refine' ask_use (c_to_jd _ _ _ _ _ _ _ _ _ _ ?p1) ?k1 ?k2 ?k3 ?k4 ?k5 ?kK ?kd ?ku ?_; (case k1 => k_asm); (case k2 => k_asm); (case k3 => k_asm); (case k4 => k_asm); (case k5 => k_asm); (case kK => first | exact rfl | assumption); (case p1 => first | assumption | omega); (case kd => ktr_room); (case ku => ktr_units)); intro t9 h9 tk9 F9 N9; (try dsimp only); (try k_sweep); (try k_fold)))

local macro_rules | `(tactic| walk_at "call ref") => `(tactic| (k_here; (with_reducible show wpAny _ _ (PySem.call (Value.ref 122) _) _ _ _); k_dflt (refine' ask_use (c_law_year2 _ _ _ _ _ _ ?p1) ?k1 ?k2 ?k3 ?k4 ?k5 ?kK ?kd ?ku ?_; (case k1 => k_asm); (case k2 => k_asm); (case k3 => k_asm); (case k4 => k_asm); (case k5 => k_asm); (case kK => first | exact rfl | assumption); (case p1 => omega); (case kd => ktr_room); (case ku => ktr_units)); intro D9 ta tb n9 h9 tk9 P9 F9 N9 l9; (try dsimp only); (try k_sweep); (try k_fold)))

local macro_rules | `(tactic| walk_at "call ref") => `(tactic| (k_here; (with_reducible show wpAny _ _ (PySem.call (Value.ref 129) _) _ _ _); k_dflt (refine' ask_use (c_law_month _ _ _ _ _ _ _ _ _ _ ?p1 ?p2 ?p3) ?k1 ?k2 ?k3 ?k4 ?k5 ?kK ?kd ?ku ?_; (case k1 => k_asm); (case k2 => k_asm); (case k3 => k_asm); (case k4 => k_asm); (case k5 => k_asm); (case kK => first | exact rfl | assumption); (case p1 => omega); (case p2 => first | exact (num_mod (by omega)).1 | exact (num_all (by omega)).1); (case p3 => first | exact (num_mod (by omega)).2 | exact (num_all (by omega)).2); (case kd => ktr_room); (case ku => ktr_units)); intro D9 d9 ta tb tc td ow mo si be n9 n8 h9 tk9 ok9 F9 N9 l9; k_dflt ((obtain ⟨q1, qb, qs, q2, qj, qT, qC, f0, q7, q8, qf, qM⟩ := ok9); subst qb; subst qs); (try dsimp only); (try k_sweep); (try k_fold)))

local macro_rules | `(tactic| walk_at "call ref") => `(tactic| (k_here; (with_reducible show wpAny _ _ (PySem.call (Value.ref 96) _) _ _ _); k_dflt (refine' ask_use (c_from_jd _ _ _ _ _ _ _ _ _ ?p1 ?p2 ?p3 ?p4 ?p5 ?p6) ?k1 ?k2 ?k3 ?k4 ?k5 ?kK ?kd ?ku ?_; (case k1 => k_asm); (case k2 => k_asm); (case k3 => k_asm); (case k4 => k_asm); (case k5 => k_asm); (case kK => first | exact rfl | assumption); (case p1 => assumption); (case p2 => assumption); (case p3 => assumption); (case p4 => assumption); (case p5 => assumption); (case p6 => assumption); (case kd => ktr_room); (case ku => ktr_units)); intro D9 ta tb tc n9 h9 tk9 F9 N9 l9; (try dsimp only); (try k_sweep); (try k_fold)))

local macro_rules | `(tactic| walk_at "call ref") => `(tactic| (k_here; (with_reducible show wpAny _ _ (PySem.call (Value.ref 103) _) _ _ _); k_dflt (refine' ask_use (c_monthcalendar _ _ _ _ _ _ _ _ ?p1) ?k1 ?k2 ?k3 ?k4 ?k5 ?kK ?kd ?ku ?_; (case k1 => k_asm); (case k2 => k_asm); (case k3 => k_asm); (case k4 => k_asm); (case k5 => k_asm); (case kK => first | exact rfl | assumption); (case p1 => assumption); (case kd => ktr_room); (case ku => ktr_units)); intro D9 v9 c9 l9 h9 tk9 d9 F9 N9; (try dsimp only); (try k_sweep); (try k_fold)))

local macro_rules | `(tactic| walk_at "call ref") => `(tactic| (k_here; (with_reducible show wpAny _ _ (PySem.call (Value.ref 136) _) _ _ _); k_dflt (refine' ask_use (c_law_leaf _ _ _ _ _ _ _ _ ?p1) ?k1 ?k2 ?k3 ?k4 ?k5 ?kK ?kd ?ku ?_; (case k1 => k_asm); (case k2 => k_asm); (case k3 => k_asm); (case k4 => k_asm); (case k5 => k_asm); (case kK => first | exact rfl | assumption); (case p1 => first | assumption | exact ml_two _ _); (case kd => ktr_room); (case ku => ktr_units)); intro D9 v9 c9 l9 h9 tk9 d9 F9 N9; (try dsimp only); (try k_sweep); (try k_fold)))

local macro_rules | `(tactic| walk_at "compareOp NotEq int int") => `(tactic| (k_here; k_dflt (refine ne_same (by first | rfl | assumption) ?_)))
local macro_rules | `(tactic| walk_at "compareOp NotEq ref ref") => `(tactic| (k_here; k_dflt (refine' same_ne ?zN ?zDa ?zDb ?ze ?zha ?zma ?zsa ?zmb ?zsb ?zhu ?_; (case zN => k_asm); (case zma => first | k_mem | exact List.Mem.tail _ (List.mem_append.mpr (Or.inr (List.Mem.head _)))); (case zmb => k_mem); (case zDa => assumption); (case zDb => assumption); (case ze => exact leaf_eq _ (ml_two _ _)); (case zha => exact rows_ok _ _); (case zsa => (intro p hp; simp [hp])); (case zsb => (intro p hp; simp [hp])); (case zhu => ke_room))))

set_option maxRecDepth 100000 in
set_option maxHeartbeats 2000000 in
theorem law_holds : PySem.Challenge.rw_bn0004_01.Holds := hd (by
  k_go0
  all_goals try k_fold
  k_with_none
  all_goals (repeat' (first | (k_unfold; (try dsimp only)) | (k_end; kc_close) | ((try dsimp only); walk1) | walk1 | (leave1; walk_say "STEP leave1"; try dsimp only) | fail "no step"))
  all_goals exact Option.none)
end
end Mine
set_option maxRecDepth 100000 in
set_option maxHeartbeats 8000000 in
theorem PySem.Challenge.cw_bn0004_01_holds : PySem.Challenge.rw_bn0004_01.Holds :=
  Mine.law_holds
