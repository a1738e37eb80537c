import PyProof.Rows.All
import Wide.All
import OpenK.AllK
import Wide.FinOn
import PySem.Challenge.RW_bh0011_01
open PySem PySem.W PyProof.Rows
set_option Elab.async false
set_option maxRecDepth 100000
set_option maxHeartbeats 8000000
namespace Mine
open_top hd for PySem.Challenge.rw_bh0011_01
section PartC0
open PySem PySem.W PyProof.Rows
def haabL : List Str := [Str.ofString "Pop", Str.ofString "Wo'", Str.ofString "Zip", Str.ofString "Sotz'", Str.ofString "Sek", Str.ofString "Xul", Str.ofString "Yaxk'in'", Str.ofString "Mol", Str.ofString "Ch'en", Str.ofString "Yax", Str.ofString "Sak'", Str.ofString "Keh", Str.ofString "Mak", Str.ofString "K'ank'in", Str.ofString "Muwan'", Str.ofString "Pax", Str.ofString "K'ayab", Str.ofString "Kumk'u", Str.ofString "Wayeb'"]
def tzolL : List Str := [Str.ofString "Imix'", Str.ofString "Ik'", Str.ofString "Ak'b'al", Str.ofString "K'an", Str.ofString "Chikchan", Str.ofString "Kimi", Str.ofString "Manik'", Str.ofString "Lamat", Str.ofString "Muluk", Str.ofString "Ok", Str.ofString "Chuwen", Str.ofString "Eb'", Str.ofString "B'en", Str.ofString "Ix", Str.ofString "Men", Str.ofString "K'ib'", Str.ofString "Kab'an", Str.ofString "Etz'nab'", Str.ofString "Kawak", Str.ofString "Ajaw"]
def hDay (jd : Int) : Int := (jd - 584283 + 348).fmod 365
def hCount (jd : Int) : Int := (hDay jd).fmod 20
def hMonth (jd : Int) : Int := (hDay jd).fdiv 20
def hName (jd : Int) : Str := haabL.getD (hMonth jd).toNat Str.empty
def amodF (a b : Int) : Int := if a.fmod b = 0 then b else a.fmod b
def tNum (jd : Int) : Int := amodF (jd - 584283 + 4) 13
def tIdx (jd : Int) : Int := amodF (jd - 584283 + 20) 20 - 1
def tName (jd : Int) : Str := tzolL.getD (tIdx jd).toNat Str.empty

/-- what a call asks of the place it is made at -/
structure At (n : Nat) (w : World) (mean : ExcName → Option Value) (mg mb : Str → Option Value) (dp un : Nat) (cs : Scope) (outer : List Env) (A₀ : Around) (base h₀ : Heap) (L : Addr) (m : Str → Option Value) (s : Shared) (news : List (Addr × Obj)) : Prop where
  B : Below A₀ base outer h₀
  F : Fr h₀ L s.heap m
  X : (hd.heap_39 w.params).In h₀
  N : News h₀ L s.heap news
  T : Top hd.view_39 (looseW hd.view_39 [Str.ofString "to_jd_gregorian", Str.ofString "from_jd_gregorian", Str.ofString "HAAB", Str.ofString "TZOLKIN", Str.ofString "to_jd_mayan", Str.ofString "from_jd_mayan"]) mean mg mb h₀
  k : cs.kind = .function
  d : dp + n < recursionLimit
  u : un + 16 * n < cLine

/-- the call gives the value R, the ledger as it was -/
def SpecV (n : Nat) (f : Addr) (vs : List Value) (P : Prop) (R : Tok → Value) : Prop :=
  ∀ (w : World) (mean : ExcName → Option Value) (mg mb : Str → Option Value) (dp un : Nat) (gd : Option (List Code)) (cn : Str) (cs : Scope) (a : Addr) (ccd : Value) (cl : List (Str × Addr)) (outer : List Env) (A₀ : Around) (base h₀ : Heap) (L : Addr) (m : Str → Option Value) (s : Shared) (news : List (Addr × Obj)) (Q E : Value → Shared → Prop),
    At n w mean mg mb dp un cs outer A₀ base h₀ L m s news →
    (∀ t h' tk', P → Fr h₀ L h' m → News h₀ L h' news → Q (R t) { s with heap := h', toks := tk' }) →
    wpAny (model PySem.Challenge.rw_bh0011_01.row.prog w) (ktrTop dp un gd cn cs L a ccd cl outer) (call (.ref f) vs) Q E s
/-- the call gives a new tuple -/
def SpecT (n : Nat) (f : Addr) (vs : List Value) (P : Prop) (mk : Tok → Tok → Array Value) : Prop :=
  ∀ (w : World) (mean : ExcName → Option Value) (mg mb : Str → Option Value) (dp un : Nat) (gd : Option (List Code)) (cn : Str) (cs : Scope) (a : Addr) (ccd : Value) (cl : List (Str × Addr)) (outer : List Env) (A₀ : Around) (base h₀ : Heap) (L : Addr) (m : Str → Option Value) (s : Shared) (news : List (Addr × Obj)) (Q E : Value → Shared → Prop),
    At n w mean mg mb dp un cs outer A₀ base h₀ L m s news →
    (∀ D t1 t2 h' tk', P → Fr h₀ L h' m → News h₀ L h' ((D, ({cls := .type "tuple", data := .seq (mk t1 t2) 0} : Obj)) :: news) → (∀ p ∈ news, p.1 < D) → Q (.ref D) { s with heap := h', toks := tk' }) →
    wpAny (model PySem.Challenge.rw_bh0011_01.row.prog w) (ktrTop dp un gd cn cs L a ccd cl outer) (call (.ref f) vs) Q E s
/-- the call gives a new tuple of five ints -/
def SpecQ (n : Nat) (f : Addr) (vs : List Value) (P : Prop) (x1 x2 x3 x4 x5 : Int) : Prop :=
  ∀ (w : World) (mean : ExcName → Option Value) (mg mb : Str → Option Value) (dp un : Nat) (gd : Option (List Code)) (cn : Str) (cs : Scope) (a : Addr) (ccd : Value) (cl : List (Str × Addr)) (outer : List Env) (A₀ : Around) (base h₀ : Heap) (L : Addr) (m : Str → Option Value) (s : Shared) (news : List (Addr × Obj)) (Q E : Value → Shared → Prop),
    At n w mean mg mb dp un cs outer A₀ base h₀ L m s news →
    (∀ D t1 t2 t3 t4 t5 h' tk', P → Fr h₀ L h' m → News h₀ L h' ((D, ({cls := .type "tuple", data := .seq #[.int x1 t1, .int x2 t2, .int x3 t3, .int x4 t4, .int x5 t5] 0} : Obj)) :: news) → (∀ p ∈ news, p.1 < D) → Q (.ref D) { s with heap := h', toks := tk' }) →
    wpAny (model PySem.Challenge.rw_bh0011_01.row.prog w) (ktrTop dp un gd cn cs L a ccd cl outer) (call (.ref f) vs) Q E s
section
variable {x1 x2 x3 x4 x5 : Int} {n : Nat} {f : Addr} {vs : List Value} {P : Prop} {R : Tok → Value} {mk : Tok → Tok → Array Value} {w : World} {mean : ExcName → Option Value} {mg mb : Str → Option Value} {dp un : Nat} {gd : Option (List Code)} {cn : Str} {cs : Scope} {a : Addr} {ccd : Value} {cl : List (Str × Addr)} {outer : List Env} {A₀ : Around} {base h₀ : Heap} {L : Addr} {m : Str → Option Value} {s : Shared} {news : List (Addr × Obj)} {Q E : Value → Shared → Prop}
theorem specV_use (C : SpecV n f vs P R) (B : Below A₀ base outer h₀) (F : Fr h₀ L s.heap m) (X : (hd.heap_39 w.params).In h₀) (N : News h₀ L s.heap news)
    (T : Top hd.view_39 (looseW hd.view_39 [Str.ofString "to_jd_gregorian", Str.ofString "from_jd_gregorian", Str.ofString "HAAB", Str.ofString "TZOLKIN", Str.ofString "to_jd_mayan", Str.ofString "from_jd_mayan"]) mean mg mb h₀)
    (k : cs.kind = .function) (d : dp + n < recursionLimit) (u : un + 16 * n < cLine)
    (h : ∀ t h' tk', P → Fr h₀ L h' m → News h₀ L h' news → Q (R t) { s with heap := h', toks := tk' }) :
    wpAny (model PySem.Challenge.rw_bh0011_01.row.prog w) (ktrTop dp un gd cn cs L a ccd cl outer) (call (.ref f) vs) Q E s :=
  C w mean mg mb dp un gd cn cs a ccd cl outer A₀ base h₀ L m s news Q E ⟨B, F, X, N, T, k, d, u⟩ h
theorem specT_use (C : SpecT n f vs P mk) (B : Below A₀ base outer h₀) (F : Fr h₀ L s.heap m) (X : (hd.heap_39 w.params).In h₀) (N : News h₀ L s.heap news)
    (T : Top hd.view_39 (looseW hd.view_39 [Str.ofString "to_jd_gregorian", Str.ofString "from_jd_gregorian", Str.ofString "HAAB", Str.ofString "TZOLKIN", Str.ofString "to_jd_mayan", Str.ofString "from_jd_mayan"]) mean mg mb h₀)
    (k : cs.kind = .function) (d : dp + n < recursionLimit) (u : un + 16 * n < cLine)
    (h : ∀ D t1 t2 h' tk', P → Fr h₀ L h' m → News h₀ L h' ((D, ({cls := .type "tuple", data := .seq (mk t1 t2) 0} : Obj)) :: news) → AllLt D news → Q (.ref D) { s with heap := h', toks := tk' }) :
    wpAny (model PySem.Challenge.rw_bh0011_01.row.prog w) (ktrTop dp un gd cn cs L a ccd cl outer) (call (.ref f) vs) Q E s :=
  C w mean mg mb dp un gd cn cs a ccd cl outer A₀ base h₀ L m s news Q E ⟨B, F, X, N, T, k, d, u⟩ fun D t1 t2 h' tk' p F' N' l => h D t1 t2 h' tk' p F' N' (allLt_of l)
theorem specQ_use (C : SpecQ n f vs P x1 x2 x3 x4 x5) (B : Below A₀ base outer h₀) (F : Fr h₀ L s.heap m) (X : (hd.heap_39 w.params).In h₀) (N : News h₀ L s.heap news)
    (T : Top hd.view_39 (looseW hd.view_39 [Str.ofString "to_jd_gregorian", Str.ofString "from_jd_gregorian", Str.ofString "HAAB", Str.ofString "TZOLKIN", Str.ofString "to_jd_mayan", Str.ofString "from_jd_mayan"]) mean mg mb h₀)
    (k : cs.kind = .function) (d : dp + n < recursionLimit) (u : un + 16 * n < cLine)
    (h : ∀ D t1 t2 t3 t4 t5 h' tk', P → Fr h₀ L h' m → News h₀ L h' ((D, ({cls := .type "tuple", data := .seq #[.int x1 t1, .int x2 t2, .int x3 t3, .int x4 t4, .int x5 t5] 0} : Obj)) :: news) → AllLt D news → Q (.ref D) { s with heap := h', toks := tk' }) :
    wpAny (model PySem.Challenge.rw_bh0011_01.row.prog w) (ktrTop dp un gd cn cs L a ccd cl outer) (call (.ref f) vs) Q E s :=
  C w mean mg mb dp un gd cn cs a ccd cl outer A₀ base h₀ L m s news Q E ⟨B, F, X, N, T, k, d, u⟩ fun D t1 t2 t3 t4 t5 h' tk' p F' N' l => h D t1 t2 t3 t4 t5 h' tk' p F' N' (allLt_of l)
end
theorem retI {P : Prop} {h₀ h' : Heap} {L : Addr} {m : Str → Option Value} {news : List (Addr × Obj)} {s : Shared} {Q : Value → Shared → Prop} {t : Tok} {tk' : Nat} {x y : Int}
    (hret : ∀ (t : Tok) (h' : Heap) (tk' : Nat), P → Fr h₀ L h' m → News h₀ L h' news → Q (.int x t) { s with heap := h', toks := tk' }) (F : Fr h₀ L h' m) (N : News h₀ L h' news) (e : y = x) (p : P) : Q (.int y t) { s with heap := h', toks := tk' } := by
  subst e
  exact hret t h' tk' p F N
theorem retS {P : Prop} {h₀ h' : Heap} {L : Addr} {m : Str → Option Value} {news : List (Addr × Obj)} {s : Shared} {Q : Value → Shared → Prop} {t : Tok} {tk' : Nat} {x y : Str}
    (hret : ∀ (t : Tok) (h' : Heap) (tk' : Nat), P → Fr h₀ L h' m → News h₀ L h' news → Q (.str x t) { s with heap := h', toks := tk' }) (F : Fr h₀ L h' m) (N : News h₀ L h' news) (e : y = x) (p : P) : Q (.str y t) { s with heap := h', toks := tk' } := by
  subst e
  exact hret t h' tk' p F N
theorem retT5 {P : Prop} {h₀ h' : Heap} {L D : Addr} {m : Str → Option Value} {news : List (Addr × Obj)} {s : Shared} {Q : Value → Shared → Prop} {t1 t2 t3 t4 t5 : Tok} {tk' : Nat} {x1 x2 x3 x4 x5 y1 y2 y3 y4 y5 : Int}
    (hret : ∀ D t1 t2 t3 t4 t5 h' tk', P → Fr h₀ L h' m → News h₀ L h' ((D, ({cls := .type "tuple", data := .seq #[.int x1 t1, .int x2 t2, .int x3 t3, .int x4 t4, .int x5 t5] 0} : Obj)) :: news) → (∀ p ∈ news, p.1 < D) → Q (.ref D) { s with heap := h', toks := tk' })
    (F : Fr h₀ L h' m) (N : News h₀ L h' ((D, ({cls := .type "tuple", data := .seq #[.int y1 t1, .int y2 t2, .int y3 t3, .int y4 t4, .int y5 t5] 0} : Obj)) :: news)) (lt : ∀ p ∈ news, p.1 < D) (e1 : y1 = x1) (e2 : y2 = x2) (e3 : y3 = x3) (e4 : y4 = x4) (e5 : y5 = x5) (p : P) : Q (.ref D) { s with heap := h', toks := tk' } := by
  subst e1; subst e2; subst e3; subst e4; subst e5
  exact hret D t1 t2 t3 t4 t5 h' tk' p F N lt
theorem retT2 {P : Prop} {h₀ h' : Heap} {L D : Addr} {m : Str → Option Value} {news : List (Addr × Obj)} {s : Shared} {Q : Value → Shared → Prop} {t1 t2 : Tok} {tk' : Nat} {x y : Int} {x2 y2 : Str}
    (hret : ∀ D t1 t2 h' tk', P → Fr h₀ L h' m → News h₀ L h' ((D, ({cls := .type "tuple", data := .seq ((fun t1 t2 => #[.int x t1, .str x2 t2]) t1 t2) 0} : Obj)) :: news) → (∀ p ∈ news, p.1 < D) → Q (.ref D) { s with heap := h', toks := tk' })
    (F : Fr h₀ L h' m) (N : News h₀ L h' ((D, ({cls := .type "tuple", data := .seq #[.int y t1, .str y2 t2] 0} : Obj)) :: news)) (lt : ∀ p ∈ news, p.1 < D) (e : y = x) (e2 : y2 = x2) (p : P) : Q (.ref D) { s with heap := h', toks := tk' } := by
  subst e; subst e2
  exact hret D t1 t2 h' tk' p F N lt
theorem amodF_lo (a : Int) {b : Int} (h : 0 < b) : 1 ≤ amodF a b ∧ amodF a b ≤ b := by
  unfold amodF
  have h1 := Int.fmod_nonneg_of_pos a h
  have h2 := Int.fmod_lt_of_pos a h
  split <;> omega
theorem hDay_lo (jd : Int) : 0 ≤ hDay jd ∧ hDay jd < 365 := ⟨Int.fmod_nonneg_of_pos _ (by decide), Int.fmod_lt_of_pos _ (by decide)⟩
theorem hCount_lo (jd : Int) : 0 ≤ hCount jd ∧ hCount jd < 20 := ⟨Int.fmod_nonneg_of_pos _ (by decide), Int.fmod_lt_of_pos _ (by decide)⟩
theorem hMonth_lo (jd : Int) : 0 ≤ hMonth jd ∧ hMonth jd < 19 := by
  have h := hDay_lo jd
  unfold hMonth
  rw [Int.fdiv_eq_ediv_of_nonneg _ (by decide)]
  omega
theorem tNum_lo (jd : Int) : 1 ≤ tNum jd ∧ tNum jd ≤ 13 := amodF_lo _ (by decide)
theorem tIdx_lo (jd : Int) : 0 ≤ tIdx jd ∧ tIdx jd < 20 := by
  have h := amodF_lo (jd - 584283 + 20) (b := 20) (by decide)
  unfold tIdx
  omega
theorem getD_mem {α : Type} {xs : List α} {i : Nat} {d : α} (h : i < xs.length) : xs.getD i d ∈ xs := by
  rw [List.getD_eq_getElem?_getD, List.getElem?_eq_getElem h]
  exact List.getElem_mem h
theorem hName_mem (jd : Int) : hName jd ∈ haabL := by
  have h := hMonth_lo jd
  refine getD_mem ?_
  show (hMonth jd).toNat < 19
  omega
theorem tName_mem (jd : Int) : tName jd ∈ tzolL := by
  have h := tIdx_lo jd
  refine getD_mem ?_
  show (tIdx jd).toNat < 20
  omega
/-- the place of a month in the year's table -/
def hIdx (x : Str) : Int := (haabL.idxOf x : Nat)
def hCnt (day : Int) (x : Str) : Int := (if 360 < hIdx x * 20 then 360 else hIdx x * 20) + day
def nextH (x : Str) (jd : Int) : Int := jd + (if hName jd == x then 1 - hCount jd else (hCnt 1 x - hCnt (hCount jd) (hName jd)).fmod 365)
theorem nextH_pos {x : Str} {jd : Int} (h : (hName jd == x) = true) : jd + (1 - hCount jd) = nextH x jd := by
  unfold nextH
  rw [if_pos h]
theorem nextH_neg {x : Str} {jd : Int} (h : (hName jd == x) = false) : jd + (hCnt 1 x - hCnt (hCount jd) (hName jd)).fmod 365 = nextH x jd := by
  unfold nextH
  rw [h]
  rfl
/-- the five places of a day -/
def p0 (jd : Int) : Int := (jd - 584283).fdiv 144000
def p1 (jd : Int) : Int := ((jd - 584283).fmod 144000).fdiv 7200
def p2 (jd : Int) : Int := (((jd - 584283).fmod 144000).fmod 7200).fdiv 360
def p3 (jd : Int) : Int := ((((jd - 584283).fmod 144000).fmod 7200).fmod 360).fdiv 20
def p4 (jd : Int) : Int := ((((jd - 584283).fmod 144000).fmod 7200).fmod 360).fmod 20
end PartC0
section PartC1
open PySem PySem.W PyProof.Rows
theorem midnightS (jd : Int) (t : Tok) (hpre : 0 < jd) : SpecV 1 28 [.int jd t] True (fun t => .int jd t) := by
  unfold SpecV
  intro w mean mg mb dp un gd cn cs a ccd cl outer A₀ base h₀ L m s news Q E ⟨B, F, X, N, T, hk, hd, hu⟩ hret
  revert X; k_fill; intro X; w_top off
  refine wpAny_call ?_
  k_dflt cell_enter
  k_steps
  all_goals exact retI (Q := Q) (s := s) hret (by k_asm) (by k_asm) (by first | rfl | omega) True.intro
theorem amodS (a b : Int) (t1 t2 : Tok) (hpre : 0 < b) : SpecV 1 35 [.int a t1, .int b t2] (1 ≤ amodF a b ∧ amodF a b ≤ b) (fun t => .int (amodF a b) t) := by
  unfold SpecV
  intro w mean mg mb dp un gd cn cs a ccd cl outer A₀ base h₀ L m s news Q E ⟨B, F, X, N, T, hk, hd, hu⟩ hret
  revert X; k_fill; intro X; w_top off
  refine wpAny_call ?_
  k_dflt cell_enter
  k_steps
  all_goals exact retI (Q := Q) (s := s) hret (by k_asm) (by k_asm) (by unfold amodF; first | rfl | (split <;> omega)) (amodF_lo _ hpre)
end PartC1
section PartC2
open PySem PySem.W PyProof.Rows
local macro_rules | `(tactic| walk_at "mine ask") => `(tactic| (
  (case k1 => first | k_asm | ktn_no "mine: the frames below"); (case k2 => first | k_asm | ktn_no "mine: the frame"); (case k3 => first | k_asm | ktn_no "mine: the part"); (case k4 => first | k_asm | ktn_no "mine: the ledger"); (case k5 => first | k_asm | ktn_no "mine: the top");
  (case kK => first | exact rfl | assumption | ktn_no "mine: the caller"); (case kd => first | ktr_room | ktn_no "mine: room"); (case ku => first | ktr_units | ktn_no "mine: units")))
local macro_rules | `(tactic| walk_at "call ref") => `(tactic| (k_here; (with_reducible show wpAny _ _ (call (Value.ref 28) [Value.int _ _]) _ _ _); k_dflt (refine' specV_use (midnightS _ _ ?kp) ?k1 ?k2 ?k3 ?k4 ?k5 ?kK ?kd ?ku ?_); (case kp => first | omega | l_fact); walk_at "mine ask"; intro t9 h9 tk9 P9 F9 N9; (try dsimp only); (try k_fold)))
local macro_rules | `(tactic| walk_at "call ref") => `(tactic| (k_here; (with_reducible show wpAny _ _ (call (Value.ref 35) [Value.int _ _, Value.int _ _]) _ _ _); k_dflt (refine' specV_use (amodS _ _ _ _ ?kp) ?k1 ?k2 ?k3 ?k4 ?k5 ?kK ?kd ?ku ?_); (case kp => first | decide | omega | l_fact); walk_at "mine ask"; intro t9 h9 tk9 P9 F9 N9; (try dsimp only); (try k_fold)))
local macro_rules | `(tactic| walk_at "eval Call") => `(tactic| (k_here; (with_reducible show wpAny _ _ (eval (Expr.Call (Expr.Name (Str.ofString "amod") _) _ _ _) _) _ _ _); k_dflt (refine Call_ ?_)))
local macro_rules | `(tactic| walk_at "eval Call") => `(tactic| (k_here; (with_reducible show wpAny _ _ (eval (Expr.Call (Expr.Name (Str.ofString "midnight") _) _ _ _) _) _ _ _); k_dflt (refine Call_ ?_)))
theorem toHaabS (jd : Int) (t : Tok) (hpre : 584283 ≤ jd) : SpecT 2 87 [.int jd t] (0 ≤ hCount jd ∧ hCount jd < 20) (fun t1 t2 => #[.int (hCount jd) t1, .str (hName jd) t2]) := by
  unfold SpecT
  intro w mean mg mb dp un gd cn cs a ccd cl outer A₀ base h₀ L m s news Q E ⟨B, F, X, N, T, hk, hd, hu⟩ hret
  revert X; k_fill; intro X; w_top off
  refine wpAny_call ?_
  k_dflt cell_enter
  k_steps
  all_goals exact retT2 (Q := Q) (s := s) hret (by k_asm) (by k_asm) (by assumption) rfl rfl (hCount_lo _)
theorem toTzolkinS (jd : Int) (t : Tok) (hpre : 584283 ≤ jd) : SpecT 2 94 [.int jd t] (1 ≤ tNum jd ∧ tNum jd ≤ 13) (fun t1 t2 => #[.int (tNum jd) t1, .str (tName jd) t2]) := by
  unfold SpecT
  intro w mean mg mb dp un gd cn cs a ccd cl outer A₀ base h₀ L m s news Q E ⟨B, F, X, N, T, hk, hd, hu⟩ hret
  revert X; k_fill; intro X; w_top off
  refine wpAny_call ?_
  k_dflt cell_enter
  k_steps
  all_goals exact retT2 (Q := Q) (s := s) hret (by k_asm) (by k_asm) (by assumption) rfl rfl (tNum_lo _)
end PartC2
section PartC3
open PySem PySem.W PyProof.Rows PySem.SeqAt
theorem isStr_at (k : Str) : ∀ {vs : List Value} {ys : List Str}, StrsAre vs ys → ∀ (j : Nat) (h1 : j < vs.length) (h2 : j < ys.length), isStrOf k vs[j] = (ys[j] == k)
  | _, _, .cons _ _ _, 0, _, _ => rfl
  | _, _, .cons _ _ r, j + 1, h1, h2 => isStr_at k r j (Nat.lt_of_succ_lt_succ h1) (Nat.lt_of_succ_lt_succ h2)
theorem ne_of_lt_idxOfS {k : Str} : ∀ {ns : List Str} {j : Nat}, j < ns.idxOf k → ∀ (h2 : j < ns.length), (ns[j] == k) = false
  | n :: r, 0, h, _ => by
    by_cases e : n = k
    · subst e; simp at h
    · simpa using e
  | n :: r, j + 1, h, h2 => by
    by_cases e : n = k
    · subst e; simp at h
    · have hb : (n == k) = false := by simpa using e
      have h' : j < r.idxOf k := by
        rw [List.idxOf_cons, hb] at h
        exact Nat.lt_of_succ_lt_succ h
      exact ne_of_lt_idxOfS h' (Nat.lt_of_succ_lt_succ h2)
section
variable {prog : Program} {w : World} {A : Around} {E : Value → Shared → Prop} {s : Shared}
theorem index_list_strs {l : Addr} {vs : List Value} {ns : List Str} {k : Str} {t : Tok} {Q : Value → Shared → Prop} (hl : s.heap.IsList l vs.toArray) (hi : StrsAre vs ns)
    (hz : ns.length < 2 ^ 62) (hk : k ∈ ns) (h : Q (.int (ns.idxOf k : Nat) s.toks) { s with toks := s.toks + 1 }) :
    wpAny (model prog w) A (call (.builtin "list.index") [.ref l, .str k t]) Q E s := by
  obtain ⟨⟨cls, dd, data, sl⟩, ho, hc, n, hd⟩ := id hl
  simp only at hc hd
  subst hc hd
  have hlen := hi.length
  have hj : ns.idxOf k < ns.length := List.idxOf_lt_length_iff.mpr hk
  refine call_meets PySem.F.slot_list_index ⟨_, ho, rfl⟩ PySem.F.entry_list_index (PySem.F.args_list_index_2 _ _)
    (list_indexAt l vs.toArray n dd sl (.str k t) (isStrOf k) (ns.idxOf k) (by simpa [hlen] using hj) (by omega) ?_ ?_) ⟨ho, fun y hy => (eq_isStrOf k t hi y (by simpa using hy)).at _ _, h⟩
  · show isStrOf k vs[ns.idxOf k] = true
    rw [isStr_at k hi _ (by omega) hj]
    simpa using List.getElem_idxOf hj
  · intro j hjs hlt
    show isStrOf k vs[j] = false
    rw [isStr_at k hi j (by simpa using hjs) (by omega)]
    exact ne_of_lt_idxOfS hlt _
theorem method_indexK {M : Model} {K : Frag} {h₀ : Heap} {L a : Addr} {m : Str → Option Value} {pl : Sem Bool} {dat : Data} {Q : Value × List Value → Shared → Prop} (F : Fr h₀ L s.heap m) (X₀ : K.In h₀) (hl : K.lookup a = some ⟨.type "list", none, dat, #[]⟩)
    (h : Q (.builtin "list.index", [.ref a]) s) : wpAny M A (getMethod (.ref a) "index" pl) Q E s :=
  getMethod_builtin ⟨_, (X₀.keeps F.keep) _ _ hl, rfl⟩ PySem.F.plainAttrs_list PySem.F.slot_list_index PySem.F.type_list_index (fun a e => by cases e; exact ⟨_, (X₀.keeps F.keep) _ _ hl, rfl⟩) h
end
local macro_rules | `(tactic| walk_at "getMethod ref") => `(tactic| (k_here; (with_reducible show wpAny _ _ (getMethod (Value.ref 58) (Str.ofString "index") _) _ _ _); k_dflt (refine' method_indexK ?k1 ?k2 ?k3 ?_; (case k1 => k_asm); (case k2 => k_asm); (case k3 => k_is))))
local macro_rules | `(tactic| walk_at "call builtin:list.index") => `(tactic| (k_here; (with_reducible show wpAny _ _ (call (Value.builtin _) [Value.ref 58, Value.str _ _]) _ _ _); k_dflt (refine' index_list_strs (ns := haabL) ?k1 ?k2 ?k3 ?k4 ?_; (case k1 => ktb_isList); (case k2 => (unfold haabL; repeat constructor)); (case k3 => decide); (case k4 => assumption))))
theorem haabCountS (day : Int) (x : Str) (t1 t2 : Tok) (h0 : 0 ≤ day) (h1 : day < 20) (hx : x ∈ haabL) : SpecV 2 108 [.int day t1, .str x t2] True (fun t => .int (hCnt day x) t) := by
  unfold SpecV
  intro w mean mg mb dp un gd cn cs a ccd cl outer A₀ base h₀ L m s news Q E ⟨B, F, X, N, T, hk, hd, hu⟩ hret
  revert X; k_fill; intro X; w_top off
  refine wpAny_call ?_
  k_dflt cell_enter
  k_steps
  all_goals exact retI (Q := Q) (s := s) hret (by k_asm) (by k_asm) rfl True.intro
end PartC3
section PartC4
open PySem PySem.W PyProof.Rows
local macro_rules | `(tactic| walk_at "mine ask") => `(tactic| (
  (case k1 => first | k_asm | ktn_no "mine: the frames below"); (case k2 => first | k_asm | ktn_no "mine: the frame"); (case k3 => first | k_asm | ktn_no "mine: the part"); (case k4 => first | k_asm | ktn_no "mine: the ledger"); (case k5 => first | k_asm | ktn_no "mine: the top");
  (case kK => first | exact rfl | assumption | ktn_no "mine: the caller"); (case kd => first | ktr_room | ktn_no "mine: room"); (case ku => first | ktr_units | ktn_no "mine: units")))
local macro_rules | `(tactic| walk_at "call ref") => `(tactic| (k_here; (with_reducible show wpAny _ _ (call (Value.ref 28) [Value.int _ _]) _ _ _); k_dflt (refine' specV_use (midnightS _ _ ?kp) ?k1 ?k2 ?k3 ?k4 ?k5 ?kK ?kd ?ku ?_); (case kp => first | omega | l_fact); walk_at "mine ask"; intro t9 h9 tk9 P9 F9 N9; (try dsimp only); (try k_fold)))
local macro_rules | `(tactic| walk_at "call ref") => `(tactic| (k_here; (with_reducible show wpAny _ _ (call (Value.ref 35) [Value.int _ _, Value.int _ _]) _ _ _); k_dflt (refine' specV_use (amodS _ _ _ _ ?kp) ?k1 ?k2 ?k3 ?k4 ?k5 ?kK ?kd ?ku ?_); (case kp => first | decide | omega | l_fact); walk_at "mine ask"; intro t9 h9 tk9 P9 F9 N9; (try dsimp only); (try k_fold)))
local macro_rules | `(tactic| walk_at "eval Call") => `(tactic| (k_here; (with_reducible show wpAny _ _ (eval (Expr.Call (Expr.Name (Str.ofString "amod") _) _ _ _) _) _ _ _); k_dflt (refine Call_ ?_)))
local macro_rules | `(tactic| walk_at "eval Call") => `(tactic| (k_here; (with_reducible show wpAny _ _ (eval (Expr.Call (Expr.Name (Str.ofString "midnight") _) _ _ _) _) _ _ _); k_dflt (refine Call_ ?_)))
local macro_rules | `(tactic| walk_at "call ref") => `(tactic| (k_here; (with_reducible show wpAny _ _ (call (Value.ref 108) [Value.int _ _, Value.str _ _]) _ _ _); k_dflt (refine' specV_use (haabCountS _ _ _ _ ?kp ?kq ?kr) ?k1 ?k2 ?k3 ?k4 ?k5 ?kK ?kd ?ku ?_); (case kp => first | decide | omega | l_fact); (case kq => first | decide | omega | l_fact); (case kr => first | assumption | exact hName_mem _); walk_at "mine ask"; intro t9 h9 tk9 P9 F9 N9; (try dsimp only); (try k_fold)))
local macro_rules | `(tactic| walk_at "call ref") => `(tactic| (k_here; (with_reducible show wpAny _ _ (call (Value.ref 87) [Value.int _ _]) _ _ _); k_dflt (refine' specT_use (toHaabS _ _ ?kp) ?k1 ?k2 ?k3 ?k4 ?k5 ?kK ?kd ?ku ?_); (case kp => first | decide | omega | l_fact); walk_at "mine ask"; intro D9 t9 u9 h9 tk9 P9 F9 N9 l9; (try dsimp only at N9); (try simp only [AllLt, and_true] at l9); (try dsimp only); (try k_fold); (try k_sweep)))
local macro_rules | `(tactic| walk_at "eval Call") => `(tactic| (k_here; (with_reducible show wpAny _ _ (eval (Expr.Call (Expr.Name (Str.ofString "_haab_count") _) _ _ _) _) _ _ _); k_dflt (refine Call_ ?_)))
theorem nextHaabS (x : Str) (jd : Int) (t1 t2 : Tok) (h0 : 584283 ≤ jd) (hx : x ∈ haabL) : SpecV 4 115 [.str x t1, .int jd t2] True (fun t => .int (nextH x jd) t) := by
  unfold SpecV
  intro w mean mg mb dp un gd cn cs a ccd cl outer A₀ base h₀ L m s news Q E ⟨B, F, X, N, T, hk, hd, hu⟩ hret
  revert X; k_fill; intro X; w_top off
  refine wpAny_call ?_
  k_dflt cell_enter
  k_steps
  all_goals (refine' retI (Q := Q) (s := s) hret ?e1 ?e2 ?e3 True.intro; (case e1 => k_asm); (case e2 => exact cb_drop (by k_asm) (fun _ hp => List.Mem.tail _ hp)); (case e3 => first | exact nextH_pos (by assumption) | exact nextH_neg (by assumption)))
end PartC4
section PartF1
open PySem PySem.W PyProof.Rows PySem.Calls
open Builtin Builtin.Str
theorem key_num : ∀ i : Fin 4, fieldKey [48 + i.val] = .index i.val := by intro ⟨i, hi⟩; match i, hi with | 0, _ => kernel_rfl | 1, _ => kernel_rfl | 2, _ => kernel_rfl | 3, _ => kernel_rfl
section
variable {prog : Program} {w : World} {A : Around} {E : Value → Shared → Prop} {s : Shared}
theorem field_man {id : String} {a : Array Value} {byName : PySem.Str → Sem Value} {i c : Nat} {v : Value} {num : Numbering} {Q : Value × Numbering → Shared → Prop} (hc : fieldKey [c] = .index i) (hs : ([c].span fun c => c != 46 && c != 91) = ([c], [])) (hn : num = .unset ∨ num = .manual) (ha : a[i]? = some v)
    (h : Q (v, .manual) s) : wpAny (model prog w) A (fieldObject id (some a) byName [c] num) Q E s := by
  unfold fieldObject
  rw [hs]
  dsimp only
  rw [hc]
  refine wpAny_bind (wpAny_pure ?_)
  rcases hn with rfl | rfl
  all_goals
    refine wpAny_bind (wpAny_pure ?_)
    simp only [ha, pure_bind]
    rw [KPc.range_list]
    exact wpAny_bind (wpAny_pure (wpAny_pure h))
end
local macro_rules | `(tactic| kfm_field) => `(tactic| (
  refine wpAny_bind (field_man (by first | exact key_num 0 | exact key_num 1 | exact key_num 2 | exact key_num 3) (by decide) (by first | exact Or.inl rfl | exact Or.inr rfl) (by rfl) ?_)
  refine wpAny_bind (wpAny_holding (wpAny_of_eq (a := _) rfl ?_))
  kpc_if
  refine wpAny_bind (wpAny_pure ?_)
  kfm_val
  refine wpAny_bind (wpAny_of_eq (a := some _) rfl ?_)
  refine wpAny_pure ?_
  refine KFm.after_field (by kpc_g) (by kpc_text) (by kpc_obj) (by kfm_len) (by kpc_obj) (by kfm_cat2) (by kfm_rest) ?_
  intro _ _))
theorem args_5 (a b c d e : Value) : argsOk "str.format" ⟨[a, b, c, d, e], []⟩ := by
  unfold argsOk; rw [signature?_of (id := "str.format") (n := ['t', 'a', 'm', 'r', 'o', 'f']) (o := ['r', 't', 's']) (by kernel_rfl) F.owner_str]; kernel_rfl
theorem fmt4 {n1 n2 : Int} {x2 x4 : PySem.Str} {tX u1 u2 u3 u4 : Tok} (h1 : 0 ≤ n1) (h1' : n1 < 10 ^ 10) (h2 : 0 ≤ n2) (h2' : n2 < 10 ^ 10) (l2 : x2.length ≤ 1000000) (l4 : x4.length ≤ 1000000) :
    Meets («str.format» ⟨[.str (PySem.Str.mk #[123, 48, 125, 32, 123, 49, 125, 32, 123, 50, 125, 32, 123, 51, 125]) tX, .int n1 u1, .str x2 u2, .int n2 u3, .str x4 u4], []⟩)
      (fun _ R s => ∀ t' k, R (.ok (.ret (.str (PySem.Str.ofString (toString n1) ++ PySem.Str.ofString " " ++ x2 ++ PySem.Str.ofString " " ++ PySem.Str.ofString (toString n2) ++ PySem.Str.ofString " " ++ x4) t'))) { s with toks := k }) := by
  kfm_run
end PartF1
section PartF2
open PySem PySem.W PyProof.Rows PySem.Calls
open Builtin
def boundF (x : Str) (t : Tok) : Obj := { cls := .type "builtin_function_or_method", data := .fields #[.builtin "str.format", .str x t] }
theorem slot_mget : Slot "method_descriptor" "__get__" "method_descriptor.__get__" :=
  .of (owner := "method_descriptor") (n := "__get__") (by rw [typeLookup_type, builtinLookup_eq_fast]; kernel_rfl) (by decide +kernel) (by decide +kernel) (by decide +kernel)
    (by first | exact .inl (by decide +kernel) | exact .inr (by decide +kernel)) (by rw [isSubtype_type]; kernel_rfl)
theorem entry_mget : entryFor table "method_descriptor.__get__" = some Builtin.«method_descriptor.__get__» := entryFor_of_tree (by kernel_rfl)
theorem args_mget (a b c : Value) : argsOk "method_descriptor.__get__" ⟨[a, b, c], []⟩ := by unfold argsOk; kernel_rfl
theorem md_set : typeLookup (.type "method_descriptor") "__set__" = pure none := by rw [typeLookup_type, builtinLookup_eq_fast]; kernel_rfl
theorem md_del : typeLookup (.type "method_descriptor") "__delete__" = pure none := by rw [typeLookup_type, builtinLookup_eq_fast]; kernel_rfl
theorem owner_f : (kfb_private% "ownerAndName") "str.format" = ("str", "format") := by first | decide +kernel | kernel_rfl
theorem told : Manifest.toldItsClass.contains "str.format" = false := by decide +kernel
section
variable {prog : Program} {w : World} {M : Model} {A : Around} {E : Value → Shared → Prop} {s : Shared} {x : Str} {t : Tok}
theorem run_mget {P : Fin → Shared → Prop} (h : P (.done (.ret (.ref s.heap.objs.size))) { s with heap := s.heap.push (boundF x t) }) :
    wpAny M A (Builtin.«method_descriptor.__get__» ⟨[.builtin "str.format", .str x t, .type "str"], []⟩) P E s := by
  unfold Builtin.«method_descriptor.__get__»
  refine wpAny_bind (wpAny_of_eq (a := (.builtin "str.format", some (.str x t), some (.type "str"))) (by first | rfl | kernel_rfl) ?_)
  dsimp only
  simp only [told]
  refine KFB.if_not rfl ?_
  wp_step
  refine wpAny_bind ?_
  wp_step
  refine wpAny_bind (wpAny_of_eq (a := (Str.ofString "format", .type "str")) (by
    show pure (Str.ofString ((kfb_private% "ownerAndName") "str.format").2, Value.type ((kfb_private% "ownerAndName") "str.format").1) = _
    rw [owner_f]) ?_)
  refine wpAny_bind (wpAny_isInstance (T := "str") (b := true) rfl isSubtype_str_str ?_)
  refine KFB.if_not rfl ?_
  exact wpAny_pure (wpAny_bind (wpAny_newObj_type (wpAny_pure h)))
theorem getattribute_fmt {u : Tok} {P : Fin → Shared → Prop} (h : P (.done (.ret (.ref s.heap.objs.size))) { s with heap := s.heap.push (boundF x t) }) :
    wpAny (model prog w) A (Builtin.«object.__getattribute__» ⟨[.str x t, .str "format" u], []⟩) P E s := by
  obtain ⟨hp, g, d, tk, os⟩ := s
  have hT : ∀ s' : Shared, s'.TypeIs (.str x t) "str" := fun _ => rfl
  have l1 : typeLookup (.type "str") "format" = pure (some (.builtin "str.format")) := F.slot_str_format_m.lookup
  have ty : typeOf (.builtin "str.format") = pure (.type "method_descriptor") := F.type_str_format_m
  have l2 := slot_mget.lookup
  have l3 := md_set
  have l4 := md_del
  unfold Builtin.«object.__getattribute__»
  repeat (any_goals (first | assumption | ((with_reducible show wpAny _ _ (call (Value.builtin "method_descriptor.__get__") _ _) _ _ _); refine wpAny_call_entry slot_mget F.type_str_format_m entry_mget (run_mget ⟨_, rfl, ?_⟩) (args_mget _ _ _)) | wp_step))
theorem getAttr_fmt {Q : Value → Shared → Prop} (h : Q (.ref s.heap.objs.size) { s with heap := s.heap.push (boundF x t), toks := s.toks + 1 }) : wpAny (model prog w) A (getAttr (.str x t) "format" true) Q E s := by
  obtain ⟨hp, g, d, tk, os⟩ := s
  have hT : ∀ s' : Shared, s'.TypeIs (.str x t) "str" := fun _ => rfl
  have f3 := F.slot_str_getattribute.lookup
  have f4 := F.slot_str_getattribute.bind (.str x t)
  unfold getAttr getAttrBy
  repeat (any_goals (first | assumption | ((with_reducible show wpAny _ _ (call (Value.builtin "object.__getattribute__") _ _) _ _ _); refine wpAny_call_entry F.slot_str_getattribute (hT _) F.entry_object_getattribute (getattribute_fmt ⟨_, rfl, ?_⟩) (F.args_object_getattribute_2 _ _)) | wp_step))
theorem MethodCall_star {env : Env} {c : PySem.Const} {k : Nat} {cp : Pos} {name : Str} {apos pos p : Pos} {e : PySem.Expr} {Q : Value → Shared → Prop}
    (h : wpAny M A (PySem.eval (.Constant c k cp) env) (fun ov s₁ => wpAny M A (getAttr ov name true) (fun f s₂ => wpAny M A (callWith pos f [] (backTo pos (starEach [.Starred e p] env)) []) Q E s₂) E s₁) E s)
    (he : PySem.eval (.Call (.Attribute (.Constant c k cp) name apos) [.Starred e p] [] pos) env = (do
      let ov ← PySem.eval (.Constant c k cp) env
      standAt apos.atName
      let (f, first) ← holding [ov] (do pure (← getAttr ov name true, []))
      let callPos ← pure pos
      callWith callPos f first (backTo pos (starEach [.Starred e p] env)) []) := by rfl) :
    wpAny M A (PySem.eval (.Call (.Attribute (.Constant c k cp) name apos) [.Starred e p] [] pos) env) Q E s := by
  rw [he]
  refine wpAny_bind (wpAny_mono h (fun ov s₁ h₁ => wpAny_bind (wpAny_standAt (wpAny_bind (wpAny_holding (wpAny_bind (wpAny_mono h₁ (fun fx s₂ h₂ => wpAny_pure ?_) fun _ _ x => x)))))) fun _ _ x => x)
  exact wpAny_bind (wpAny_pure h₂)
def AtF (u : Addr) (x : Str) (t : Tok) (h : Heap) : Prop := h.get? u = some (boundF x t)
theorem looksF {u : Addr} {x : Str} {t : Tok} {h : Heap} (ho : AtF u x t h) : Looks M h (keeperOf (.ref u)) .machine := by
  refine (Looks.ld (part := none) ho).andThen ?_
  dsimp only [boundF]
  simp only [show (Value.type "builtin_function_or_method" != Value.type "method") = true by decide, show (Value.type "builtin_function_or_method" == Value.type "builtin_function_or_method" || Value.type "builtin_function_or_method" == Value.type "method-wrapper") = true by decide, if_true]
  exact .now
theorem callWith_F {env : Env} {u : Addr} {pos p : Pos} {e : PySem.Expr} {Q : Value → Shared → Prop}
    (h : wpAny M A (PySem.eval e env) (fun v s₁ => StarOf M A E v (fun vs s₂ => AtF u x t s₂.heap ∧ wpAny M A (call (.ref u) ([] ++ vs)) Q E s₂) s₁) E s)
    (he : starEach [.Starred e p] env = [(true, PySem.eval e env)] := by rfl) :
    wpAny M A (callWith pos (.ref u) [] (backTo pos (starEach [.Starred e p] env)) []) Q E s := by
  rw [he]
  exact ks_call (P := AtF u x t) rfl (fun h hP => ⟨.machine, .inr (.inl rfl), looksF hP⟩) (ks_lone h)
theorem quietF {as : Args} : (Code.builtin "str.format" as).quiet = true := Code.quiet_builtin _ (by decide +kernel)
theorem checkF {n1 n2 : Int} {x x2 x4 : Str} {t u1 u2 u3 u4 : Tok} : checkBoundCall "str.format" ⟨[.str x t, .int n1 u1, .str x2 u2, .int n2 u3, .str x4 u4], []⟩ = pure () := by first | kernel_rfl | rfl
theorem call_F {u : Addr} {X X' T : Str} {t u1 u2 u3 u4 : Tok} {n1 n2 : Int} {x2 x4 : Str} {Q : Value → Shared → Prop} (hX : X = X') (ho : AtF u X t s.heap)
    (hm : Meets (Builtin.«str.format» ⟨[.str X' t, .int n1 u1, .str x2 u2, .int n2 u3, .str x4 u4], []⟩) (fun _ R s => ∀ t' k, R (.ok (.ret (.str T t'))) { s with toks := k }))
    (h : ∀ t' k, Q (.str T t') { s with toks := k }) : wpAny (model prog w) A (call (.ref u) [.int n1 u1, .str x2 u2, .int n2 u3, .str x4 u4]) Q E s := by
  subst hX
  refine wpAny_call (codeAny_of_tree ?_)
  show wpAny _ A.in1 (callAny (.ref u) ⟨[.int n1 u1, .str x2 u2, .int n2 u3, .str x4 u4], []⟩) _ _ s
  simp only [callAny]
  refine wpAny_bind (wpAny_load ho ?_)
  simp only [boundF, show (Value.type "builtin_function_or_method" == Value.type "method" || Value.type "builtin_function_or_method" == Value.type "builtin_function_or_method" || Value.type "builtin_function_or_method" == Value.type "method-wrapper") = true by decide, if_true]
  refine KFB.if_so (by decide) ?_
  refine wpAny_bind (wpAny_of_eq (a := ()) checkF ?_)
  refine wpAny_bind (wpAny_pure (wpAny_pure ?_))
  refine ⟨quietF, codeAny_builtin F.entry_str_format_m ?_⟩
  rw [Around.under_plainId F.slot_str_format_m.plain _]
  exact hm prog w _ (wants Q E) s h
variable {h₀ : Heap} {L : Addr} {m : Str → Option Value} {news : List (Addr × Obj)}
theorem getAttr_fmtK {Q : Value → Shared → Prop} (F : Fr h₀ L s.heap m) (N : News h₀ L s.heap news)
    (h : ∀ u h', Fr h₀ L h' m → News h₀ L h' ((u, boundF x t) :: news) → AllLt u news → Q (.ref u) { s with heap := h', toks := s.toks + 1 }) :
    wpAny (model prog w) A (getAttr (.str x t) "format" true) Q E s :=
  getAttr_fmt (h _ _ (F.push _) (News.push F N _) (allLt_of fun p hp => Heap.lt_size (N p hp).1))
theorem atF_of {u : Addr} {h : Heap} (N : News h₀ L h news) (hm : (u, boundF x t) ∈ news) : AtF u x t h := (N _ hm).1
theorem callWith_FK {env : Env} {u : Addr} {pos p : Pos} {e : PySem.Expr} {Q : Value → Shared → Prop} (_N : News h₀ L s.heap news) (_hm : (u, boundF x t) ∈ news)
    (h : wpAny M A (PySem.eval e env) (fun v s₁ => StarOf M A E v (fun vs s₂ => AtF u x t s₂.heap ∧ wpAny M A (call (.ref u) ([] ++ vs)) Q E s₂) s₁) E s)
    (he : starEach [.Starred e p] env = [(true, PySem.eval e env)] := by rfl) :
    wpAny M A (callWith pos (.ref u) [] (backTo pos (starEach [.Starred e p] env)) []) Q E s := callWith_F h he
end
end PartF2
section PartC5
open PySem PySem.W PyProof.Rows
local macro_rules | `(tactic| walk_at "mine ask") => `(tactic| (
  (case k1 => first | k_asm | ktn_no "mine: the frames below"); (case k2 => first | k_asm | ktn_no "mine: the frame"); (case k3 => first | k_asm | ktn_no "mine: the part"); (case k4 => first | k_asm | ktn_no "mine: the ledger"); (case k5 => first | k_asm | ktn_no "mine: the top");
  (case kK => first | exact rfl | assumption | ktn_no "mine: the caller"); (case kd => first | ktr_room | ktn_no "mine: room"); (case ku => first | ktr_units | ktn_no "mine: units")))
local macro_rules | `(tactic| walk_at "call ref") => `(tactic| (k_here; (with_reducible show wpAny _ _ (call (Value.ref 28) [Value.int _ _]) _ _ _); k_dflt (refine' specV_use (midnightS _ _ ?kp) ?k1 ?k2 ?k3 ?k4 ?k5 ?kK ?kd ?ku ?_); (case kp => first | omega | l_fact); walk_at "mine ask"; intro t9 h9 tk9 P9 F9 N9; (try dsimp only); (try k_fold)))
local macro_rules | `(tactic| walk_at "call ref") => `(tactic| (k_here; (with_reducible show wpAny _ _ (call (Value.ref 35) [Value.int _ _, Value.int _ _]) _ _ _); k_dflt (refine' specV_use (amodS _ _ _ _ ?kp) ?k1 ?k2 ?k3 ?k4 ?k5 ?kK ?kd ?ku ?_); (case kp => first | decide | omega | l_fact); walk_at "mine ask"; intro t9 h9 tk9 P9 F9 N9; (try dsimp only); (try k_fold)))
local macro_rules | `(tactic| walk_at "eval Call") => `(tactic| (k_here; (with_reducible show wpAny _ _ (eval (Expr.Call (Expr.Name (Str.ofString "amod") _) _ _ _) _) _ _ _); k_dflt (refine Call_ ?_)))
local macro_rules | `(tactic| walk_at "eval Call") => `(tactic| (k_here; (with_reducible show wpAny _ _ (eval (Expr.Call (Expr.Name (Str.ofString "midnight") _) _ _ _) _) _ _ _); k_dflt (refine Call_ ?_)))
local macro_rules | `(tactic| walk_at "call ref") => `(tactic| (k_here; (with_reducible show wpAny _ _ (call (Value.ref 108) [Value.int _ _, Value.str _ _]) _ _ _); k_dflt (refine' specV_use (haabCountS _ _ _ _ ?kp ?kq ?kr) ?k1 ?k2 ?k3 ?k4 ?k5 ?kK ?kd ?ku ?_); (case kp => first | decide | omega | l_fact); (case kq => first | decide | omega | l_fact); (case kr => first | assumption | exact hName_mem _); walk_at "mine ask"; intro t9 h9 tk9 P9 F9 N9; (try dsimp only); (try k_fold)))
local macro_rules | `(tactic| walk_at "call ref") => `(tactic| (k_here; (with_reducible show wpAny _ _ (call (Value.ref 87) [Value.int _ _]) _ _ _); k_dflt (refine' specT_use (toHaabS _ _ ?kp) ?k1 ?k2 ?k3 ?k4 ?k5 ?kK ?kd ?ku ?_); (case kp => first | decide | omega | l_fact); walk_at "mine ask"; intro D9 t9 u9 h9 tk9 P9 F9 N9 l9; (try dsimp only at N9); (try simp only [AllLt, and_true] at l9); (try dsimp only); (try k_fold); (try k_sweep)))
local macro_rules | `(tactic| walk_at "eval Call") => `(tactic| (k_here; (with_reducible show wpAny _ _ (eval (Expr.Call (Expr.Name (Str.ofString "_haab_count") _) _ _ _) _) _ _ _); k_dflt (refine Call_ ?_)))

def toJ (b k t u n : Int) : Int := 584283 + b * 144000 + k * 7200 + t * 360 + u * 20 + n
theorem toJdS (b k t u n : Int) (t1 t2 t3 t4 t5 : Tok) : SpecV 1 66 [.int b t1, .int k t2, .int t t3, .int u t4, .int n t5] True (fun x => .int (toJ b k t u n) x) := by
  unfold SpecV
  intro w mean mg mb dp un gd cn cs a ccd cl outer A₀ base h₀ L m s news Q E ⟨B, F, X, N, T, hk, hd, hu⟩ hret
  revert X; k_fill; intro X; w_top off
  refine wpAny_call ?_
  k_dflt cell_enter
  k_steps
  all_goals exact retI (Q := Q) (s := s) hret (by k_asm) (by k_asm) rfl True.intro
def lcText (jd : Int) : Str := Str.ofString (toString (tNum jd)) ++ Str.ofString " " ++ tName jd ++ Str.ofString " " ++ Str.ofString (toString (hCount jd)) ++ Str.ofString " " ++ hName jd
theorem tName_len (jd : Int) : (tName jd).length ≤ 1000000 := (by decide +kernel : ∀ x ∈ tzolL, x.length ≤ 1000000) _ (tName_mem jd)
theorem hName_len (jd : Int) : (hName jd).length ≤ 1000000 := (by decide +kernel : ∀ x ∈ haabL, x.length ≤ 1000000) _ (hName_mem jd)
theorem fmtText : Str.ofString "{0} {1} {2} {3}" = Str.mk #[123, 48, 125, 32, 123, 49, 125, 32, 123, 50, 125, 32, 123, 51, 125] := by decide +kernel
local macro_rules | `(tactic| walk_at "call ref") => `(tactic| (k_here; (with_reducible show wpAny _ _ (call (Value.ref 94) [Value.int _ _]) _ _ _); k_dflt (refine' specT_use (toTzolkinS _ _ ?kp) ?k1 ?k2 ?k3 ?k4 ?k5 ?kK ?kd ?ku ?_); (case kp => first | decide | omega | l_fact); walk_at "mine ask"; intro D9 t9 u9 h9 tk9 P9 F9 N9 l9; (try dsimp only at N9); (try simp only [AllLt, and_true] at l9); (try dsimp only); (try k_fold); (try k_sweep)))
local macro_rules | `(tactic| walk_at "call ref") => `(tactic| (k_here; (with_reducible show wpAny _ _ (call (Value.ref 66) [Value.int _ _, Value.int _ _, Value.int _ _, Value.int _ _, Value.int _ _]) _ _ _); k_dflt (refine' specV_use (toJdS _ _ _ _ _ _ _ _ _ _) ?k1 ?k2 ?k3 ?k4 ?k5 ?kK ?kd ?ku ?_); walk_at "mine ask"; intro t9 h9 tk9 P9 F9 N9; (try dsimp only); (try k_fold)))
local macro_rules | `(tactic| walk_at "eval Call Attribute") => `(tactic| (k_here; (with_reducible show wpAny _ _ (eval (Expr.Call (Expr.Attribute (Expr.Constant _ _ _) (Str.ofString "format") _) [Expr.Starred _ _] [] _) _) _ _ _); k_dflt (refine MethodCall_star ?_)))
local macro_rules | `(tactic| walk_at "getAttr str") => `(tactic| (k_here; (with_reducible show wpAny _ _ (getAttr (Value.str _ _) (Str.ofString "format") true) _ _ _); k_dflt (refine' getAttr_fmtK ?k1 ?k2 ?_; (case k1 => k_asm); (case k2 => k_asm)); intro u9 h9 F9 N9 l9; (try simp only [AllLt, and_true] at l9); (try dsimp only); (try k_fold)))
local macro_rules | `(tactic| walk_at "callWith ref") => `(tactic| (k_here; (with_reducible show wpAny _ _ (callWith _ (Value.ref _) [] (backTo _ (starEach [Expr.Starred _ _] _)) []) _ _ _); k_dflt (refine' callWith_FK ?k1 ?k2 ?_; (case k1 => k_asm); (case k2 => k_mem))))
local macro_rules | `(tactic| walk_at "And") => `(tactic| ((with_reducible show AtF _ _ _ _ ∧ _); k_dflt (refine ⟨atF_of (by k_asm) (by k_mem), ?_⟩); (try dsimp only [List.nil_append, List.cons_append])))
local macro_rules | `(tactic| walk_at "call ref") => `(tactic| (k_here; (with_reducible show wpAny _ _ (call (Value.ref _) [Value.int _ _, Value.str _ _, Value.int _ _, Value.str _ _]) _ _ _); k_dflt (refine' call_F fmtText ?ko (fmt4 ?h1 ?h2 ?h3 ?h4 ?h5 ?h6) ?_; (case ko => exact atF_of (by k_asm) (by k_mem)); (case h1 => omega); (case h2 => omega); (case h3 => omega); (case h4 => omega); (case h5 => exact tName_len _); (case h6 => exact hName_len _)); intro t9 tk9; (try dsimp only); (try k_fold)))
theorem lcS (b k t u n : Int) (t1 t2 t3 t4 t5 : Tok) (h0 : 584283 ≤ toJ b k t u n) : SpecV 3 101 [.int b t1, .int k t2, .int t t3, .int u t4, .int n t5] True (fun x => .str (lcText (toJ b k t u n)) x) := by
  unfold SpecV
  intro w mean mg mb dp un gd cn cs a ccd cl outer A₀ base h₀ L m s news Q E ⟨B, F, X, N, T, hk, hd, hu⟩ hret
  revert X; k_fill; intro X; w_top off
  refine wpAny_call ?_
  k_dflt cell_enter
  k_steps
  all_goals (refine' retS (Q := Q) (s := s) hret ?e1 ?e2 ?e3 True.intro; (case e1 => k_asm); (case e2 => exact cb_drop (by k_asm) (by kcj_all)); (case e3 => rfl))
theorem fromJdS (jd : Int) (t1 : Tok) (h0 : 584283 ≤ jd) : SpecQ 1 73 [.int jd t1] True (p0 jd) (p1 jd) (p2 jd) (p3 jd) (p4 jd) := by
  unfold SpecQ
  intro w mean mg mb dp un gd cn cs a ccd cl outer A₀ base h₀ L m s news Q E ⟨B, F, X, N, T, hk, hd, hu⟩ hret
  revert X; k_fill; intro X; w_top off
  refine wpAny_call ?_
  k_dflt cell_enter
  k_steps
  all_goals exact retT5 (Q := Q) (s := s) hret (by k_asm) (by k_asm) (by assumption) rfl rfl rfl rfl rfl True.intro
end PartC5
section PartG1
open PySem PySem.W PyProof.Rows PySem.SeqAt
local macro_rules | `(tactic| walk_at "mine ask") => `(tactic| (
  (case k1 => first | k_asm | ktn_no "mine: the frames below"); (case k2 => first | k_asm | ktn_no "mine: the frame"); (case k3 => first | k_asm | ktn_no "mine: the part"); (case k4 => first | k_asm | ktn_no "mine: the ledger"); (case k5 => first | k_asm | ktn_no "mine: the top");
  (case kK => first | exact rfl | assumption | ktn_no "mine: the caller"); (case kd => first | ktr_room | ktn_no "mine: room"); (case ku => first | ktr_units | ktn_no "mine: units")))
section
variable {prog : Program} {w : World} {A : Around} {E : Value → Shared → Prop} {s : Shared}
theorem in_tupK {K : Frag} {h₀ : Heap} {L a : Addr} {m : Str → Option Value} {l : List Value} {ns : List Int} {n : Nat} {k : Int} {t : Tok} {b : Bool} {Q : Value → Shared → Prop} (F : Fr h₀ L s.heap m) (X₀ : K.In h₀) (hl : K.lookup a = some ⟨.type "tuple", none, .seq l.toArray n, #[]⟩)
    (hi : IntsAre l ns) (hb : l.toArray.any (isInt k) = b) (h : Q (.bool b) s) : wpAny (model prog w) A (compareOp .In (.int k t) (.ref a)) Q E s := by
  subst hb
  exact in_tupleAt (isInt k) ⟨_, (X₀.keeps F.keep) _ _ hl, rfl, n, rfl⟩ (fun y hy => (eq_isInt k t hi y (by simpa using hy)).at _ _) h
end
local macro_rules | `(tactic| walk_at "compareOp In int ref") => `(tactic| (k_here; (with_reducible show wpAny _ _ (compareOp CmpOp.In (Value.int _ _) (Value.ref 36)) _ _ _); k_dflt (refine' in_tupK (b := false) (ns := [4, 6, 9, 11]) ?k1 ?k2 ?k3 ?k4 ?k5 ?_; (case k1 => k_asm); (case k2 => k_asm); (case k3 => k_is); (case k4 => repeat constructor); (case k5 => decide +kernel))))
theorem legal1 (t1 t2 t3 : Tok) : SpecV 1 43 [.int 2012 t1, .int 1 t2, .int 1 t3] True (fun _ => .bool true) := by
  unfold SpecV
  intro w mean mg mb dp un gd cn cs a ccd cl outer A₀ base h₀ L m s news Q E ⟨B, F, X, N, T, hk, hd, hu⟩ hret
  revert X; k_fill; intro X; w_top off
  refine wpAny_call ?_
  k_dflt cell_enter
  k_steps
  all_goals exact hret 0 _ _ True.intro (by k_asm) (by k_asm)
theorem legal12 (t1 t2 t3 : Tok) : SpecV 1 43 [.int 2012 t1, .int 12 t2, .int 1 t3] True (fun _ => .bool true) := by
  unfold SpecV
  intro w mean mg mb dp un gd cn cs a ccd cl outer A₀ base h₀ L m s news Q E ⟨B, F, X, N, T, hk, hd, hu⟩ hret
  revert X; k_fill; intro X; w_top off
  refine wpAny_call ?_
  k_dflt cell_enter
  k_steps
  all_goals exact hret 0 _ _ True.intro (by k_asm) (by k_asm)
theorem leap12 (t1 : Tok) : SpecV 1 21 [.int 2012 t1] True (fun _ => .bool true) := by
  unfold SpecV
  intro w mean mg mb dp un gd cn cs a ccd cl outer A₀ base h₀ L m s news Q E ⟨B, F, X, N, T, hk, hd, hu⟩ hret
  revert X; k_fill; intro X; w_top off
  refine wpAny_call ?_
  k_dflt cell_enter
  k_steps
  all_goals exact hret 0 _ _ True.intro (by k_asm) (by k_asm)
local macro_rules | `(tactic| walk_at "call ref") => `(tactic| (k_here; (with_reducible show wpAny _ _ (call (Value.ref 43) [Value.int 2012 _, Value.int 1 _, Value.int 1 _]) _ _ _); k_dflt (refine' specV_use (legal1 _ _ _) ?k1 ?k2 ?k3 ?k4 ?k5 ?kK ?kd ?ku ?_); walk_at "mine ask"; intro t9 h9 tk9 P9 F9 N9; (try dsimp only); (try k_fold)))
local macro_rules | `(tactic| walk_at "call ref") => `(tactic| (k_here; (with_reducible show wpAny _ _ (call (Value.ref 43) [Value.int 2012 _, Value.int 12 _, Value.int 1 _]) _ _ _); k_dflt (refine' specV_use (legal12 _ _ _) ?k1 ?k2 ?k3 ?k4 ?k5 ?kK ?kd ?ku ?_); walk_at "mine ask"; intro t9 h9 tk9 P9 F9 N9; (try dsimp only); (try k_fold)))
local macro_rules | `(tactic| walk_at "call ref") => `(tactic| (k_here; (with_reducible show wpAny _ _ (call (Value.ref 21) [Value.int 2012 _]) _ _ _); k_dflt (refine' specV_use (leap12 _) ?k1 ?k2 ?k3 ?k4 ?k5 ?kK ?kd ?ku ?_); walk_at "mine ask"; intro t9 h9 tk9 P9 F9 N9; (try dsimp only); (try k_fold)))
local macro_rules | `(tactic| walk_at "eval Call") => `(tactic| (k_here; (with_reducible show wpAny _ _ (eval (Expr.Call (Expr.Name (Str.ofString "isleap") _) _ _ _) _) _ _ _); k_dflt (refine Call_ ?_)))
local macro_rules | `(tactic| walk_at "eval Call") => `(tactic| (k_here; (with_reducible show wpAny _ _ (eval (Expr.Call (Expr.Name (Str.ofString "legal_date") _) _ _ _) _) _ _ _); k_dflt (refine Call_ ?_)))
theorem toG1 (t1 t2 t3 : Tok) : SpecV 2 50 [.int 2012 t1, .int 1 t2, .int 1 t3] True (fun t => .int 2455928 t) := by
  unfold SpecV
  intro w mean mg mb dp un gd cn cs a ccd cl outer A₀ base h₀ L m s news Q E ⟨B, F, X, N, T, hk, hd, hu⟩ hret
  revert X; k_fill; intro X; w_top off
  refine wpAny_call ?_
  k_dflt cell_enter
  k_steps
  all_goals exact retI (Q := Q) (s := s) hret (by k_asm) (by k_asm) (by decide +kernel) True.intro
theorem toG12 (t1 t2 t3 : Tok) : SpecV 2 50 [.int 2012 t1, .int 12 t2, .int 1 t3] True (fun t => .int 2456263 t) := by
  unfold SpecV
  intro w mean mg mb dp un gd cn cs a ccd cl outer A₀ base h₀ L m s news Q E ⟨B, F, X, N, T, hk, hd, hu⟩ hret
  revert X; k_fill; intro X; w_top off
  refine wpAny_call ?_
  k_dflt cell_enter
  k_steps
  all_goals exact retI (Q := Q) (s := s) hret (by k_asm) (by k_asm) (by decide +kernel) True.intro
end PartG1
section PartG2
open PySem PySem.W PyProof.Rows PySem.SeqAt
local macro_rules | `(tactic| walk_at "mine ask") => `(tactic| (
  (case k1 => first | k_asm | ktn_no "mine: the frames below"); (case k2 => first | k_asm | ktn_no "mine: the frame"); (case k3 => first | k_asm | ktn_no "mine: the part"); (case k4 => first | k_asm | ktn_no "mine: the ledger"); (case k5 => first | k_asm | ktn_no "mine: the top");
  (case kK => first | exact rfl | assumption | ktn_no "mine: the caller"); (case kd => first | ktr_room | ktn_no "mine: room"); (case ku => first | ktr_units | ktn_no "mine: units")))
local macro_rules | `(tactic| walk_at "call ref") => `(tactic| (k_here; (with_reducible show wpAny _ _ (call (Value.ref 21) [Value.int 2012 _]) _ _ _); k_dflt (refine' specV_use (leap12 _) ?k1 ?k2 ?k3 ?k4 ?k5 ?kK ?kd ?ku ?_); walk_at "mine ask"; intro t9 h9 tk9 P9 F9 N9; (try dsimp only); (try k_fold)))
local macro_rules | `(tactic| walk_at "eval Call") => `(tactic| (k_here; (with_reducible show wpAny _ _ (eval (Expr.Call (Expr.Name (Str.ofString "isleap") _) _ _ _) _) _ _ _); k_dflt (refine Call_ ?_)))
local macro_rules | `(tactic| walk_at "eval Call") => `(tactic| (k_here; (with_reducible show wpAny _ _ (eval (Expr.Call (Expr.Name (Str.ofString "to_jd_gregorian") _) _ _ _) _) _ _ _); k_dflt (refine Call_ ?_)))
local macro_rules | `(tactic| walk_at "eval Call") => `(tactic| (k_here; (with_reducible show wpAny _ _ (eval (Expr.Call (Expr.Name (Str.ofString "to_jd_mayan") _) _ _ _) _) _ _ _); k_dflt (refine Call_ ?_)))
theorem toG1' (y m d : Int) (t1 t2 t3 : Tok) (h1 : y = 2012) (h2 : m = 1) (h3 : d = 1) : SpecV 2 50 [.int y t1, .int m t2, .int d t3] True (fun t => .int 2455928 t) := by
  subst h1; subst h2; subst h3
  exact toG1 _ _ _
theorem toG12' (y m d : Int) (t1 t2 t3 : Tok) (h1 : y = 2012) (h2 : m = 12) (h3 : d = 1) : SpecV 2 50 [.int y t1, .int m t2, .int d t3] True (fun t => .int 2456263 t) := by
  subst h1; subst h2; subst h3
  exact toG12 _ _ _
theorem leap12' (y : Int) (t1 : Tok) (h : y = 2012) : SpecV 1 21 [.int y t1] True (fun _ => .bool true) := by
  subst h
  exact leap12 _
local macro_rules | `(tactic| walk_at "call ref") => `(tactic| (k_here; (with_reducible show wpAny _ _ (call (Value.ref 50) [Value.int _ _, Value.int _ _, Value.int _ _]) _ _ _); k_dflt (refine' specV_use (toG1' _ _ _ _ _ _ ?h1 ?h2 ?h3) ?k1 ?k2 ?k3 ?k4 ?k5 ?kK ?kd ?ku ?_); (case h1 => decide +kernel); (case h2 => decide +kernel); (case h3 => decide +kernel); walk_at "mine ask"; intro t9 h9 tk9 P9 F9 N9; (try dsimp only); (try k_fold)))
local macro_rules | `(tactic| walk_at "call ref") => `(tactic| (k_here; (with_reducible show wpAny _ _ (call (Value.ref 50) [Value.int _ _, Value.int _ _, Value.int _ _]) _ _ _); k_dflt (refine' specV_use (toG12' _ _ _ _ _ _ ?h1 ?h2 ?h3) ?k1 ?k2 ?k3 ?k4 ?k5 ?kK ?kd ?ku ?_); (case h1 => decide +kernel); (case h2 => decide +kernel); (case h3 => decide +kernel); walk_at "mine ask"; intro t9 h9 tk9 P9 F9 N9; (try dsimp only); (try k_fold)))
local macro_rules | `(tactic| walk_at "call ref") => `(tactic| (k_here; (with_reducible show wpAny _ _ (call (Value.ref 21) [Value.int _ _]) _ _ _); k_dflt (refine' specV_use (leap12' _ _ ?h1) ?k1 ?k2 ?k3 ?k4 ?k5 ?kK ?kd ?ku ?_); (case h1 => decide +kernel); walk_at "mine ask"; intro t9 h9 tk9 P9 F9 N9; (try dsimp only); (try k_fold)))
/-- the call gives a new tuple of three ints -/
def SpecH (n : Nat) (f : Addr) (vs : List Value) (x1 x2 x3 : Int) : Prop :=
  ∀ (w : World) (mean : ExcName → Option Value) (mg mb : Str → Option Value) (dp un : Nat) (gd : Option (List Code)) (cn : Str) (cs : Scope) (a : Addr) (ccd : Value) (cl : List (Str × Addr)) (outer : List Env) (A₀ : Around) (base h₀ : Heap) (L : Addr) (m : Str → Option Value) (s : Shared) (news : List (Addr × Obj)) (Q E : Value → Shared → Prop),
    At n w mean mg mb dp un cs outer A₀ base h₀ L m s news →
    (∀ D t1 t2 t3 h' tk', True → Fr h₀ L h' m → News h₀ L h' ((D, ({cls := .type "tuple", data := .seq #[.int x1 t1, .int x2 t2, .int x3 t3] 0} : Obj)) :: news) → AllLt D news → Q (.ref D) { s with heap := h', toks := tk' }) →
    wpAny (model PySem.Challenge.rw_bh0011_01.row.prog w) (ktrTop dp un gd cn cs L a ccd cl outer) (call (.ref f) vs) Q E s
section
variable {x1 x2 x3 : Int} {n : Nat} {f : Addr} {vs : List Value} {w : World} {mean : ExcName → Option Value} {mg mb : Str → Option Value} {dp un : Nat} {gd : Option (List Code)} {cn : Str} {cs : Scope} {a : Addr} {ccd : Value} {cl : List (Str × Addr)} {outer : List Env} {A₀ : Around} {base h₀ : Heap} {L : Addr} {m : Str → Option Value} {s : Shared} {news : List (Addr × Obj)} {Q E : Value → Shared → Prop}
theorem specH_use (C : SpecH n f vs x1 x2 x3) (B : Below A₀ base outer h₀) (F : Fr h₀ L s.heap m) (X : (hd.heap_39 w.params).In h₀) (N : News h₀ L s.heap news)
    (T : Top hd.view_39 (looseW hd.view_39 [Str.ofString "to_jd_gregorian", Str.ofString "from_jd_gregorian", Str.ofString "HAAB", Str.ofString "TZOLKIN", Str.ofString "to_jd_mayan", Str.ofString "from_jd_mayan"]) mean mg mb h₀)
    (k : cs.kind = .function) (d : dp + n < recursionLimit) (u : un + 16 * n < cLine)
    (h : ∀ D t1 t2 t3 h' tk', True → Fr h₀ L h' m → News h₀ L h' ((D, ({cls := .type "tuple", data := .seq #[.int x1 t1, .int x2 t2, .int x3 t3] 0} : Obj)) :: news) → AllLt D news → Q (.ref D) { s with heap := h', toks := tk' }) :
    wpAny (model PySem.Challenge.rw_bh0011_01.row.prog w) (ktrTop dp un gd cn cs L a ccd cl outer) (call (.ref f) vs) Q E s :=
  C w mean mg mb dp un gd cn cs a ccd cl outer A₀ base h₀ L m s news Q E ⟨B, F, X, N, T, k, d, u⟩ h
theorem retT3 {h' : Heap} {D : Addr} {t1 t2 t3 : Tok} {tk' : Nat} {y1 y2 y3 : Int}
    (hret : ∀ D t1 t2 t3 h' tk', True → Fr h₀ L h' m → News h₀ L h' ((D, ({cls := .type "tuple", data := .seq #[.int x1 t1, .int x2 t2, .int x3 t3] 0} : Obj)) :: news) → AllLt D news → Q (.ref D) { s with heap := h', toks := tk' })
    (F : Fr h₀ L h' m) (N : News h₀ L h' ((D, ({cls := .type "tuple", data := .seq #[.int y1 t1, .int y2 t2, .int y3 t3] 0} : Obj)) :: news)) (lt : AllLt D news) (e1 : y1 = x1) (e2 : y2 = x2) (e3 : y3 = x3) : Q (.ref D) { s with heap := h', toks := tk' } := by
  subst e1; subst e2; subst e3
  exact hret D t1 t2 t3 h' tk' True.intro F N lt
end
theorem fromG (t1 : Tok) : SpecH 3 57 [.int 2456283 t1] 2012 12 21 := by
  unfold SpecH
  intro w mean mg mb dp un gd cn cs a ccd cl outer A₀ base h₀ L m s news Q E ⟨B, F, X, N, T, hk, hd, hu⟩ hret
  revert X; k_fill; intro X; w_top off
  refine wpAny_call ?_
  k_dflt cell_enter
  k_steps
  all_goals exact retT3 (Q := Q) (s := s) hret (by k_asm) (by k_asm) (allLt_of (by assumption)) (by decide +kernel) (by decide +kernel) (by decide +kernel)
end PartG2
section PartG3
open PySem PySem.W PyProof.Rows PySem.SeqAt
local macro_rules | `(tactic| walk_at "mine ask") => `(tactic| (
  (case k1 => first | k_asm | ktn_no "mine: the frames below"); (case k2 => first | k_asm | ktn_no "mine: the frame"); (case k3 => first | k_asm | ktn_no "mine: the part"); (case k4 => first | k_asm | ktn_no "mine: the ledger"); (case k5 => first | k_asm | ktn_no "mine: the top");
  (case kK => first | exact rfl | assumption | ktn_no "mine: the caller"); (case kd => first | ktr_room | ktn_no "mine: room"); (case ku => first | ktr_units | ktn_no "mine: units")))
theorem toJd13 (t1 t2 t3 t4 t5 : Tok) : SpecV 1 66 [.int 13 t1, .int 0 t2, .int 0 t3, .int 0 t4, .int 0 t5] True (fun x => .int 2456283 x) := by
  have h := toJdS 13 0 0 0 0 t1 t2 t3 t4 t5
  rwa [show toJ 13 0 0 0 0 = 2456283 by decide +kernel] at h
theorem toJd0 (t1 t2 t3 t4 t5 : Tok) : SpecV 1 66 [.int 0 t1, .int 0 t2, .int 0 t3, .int 0 t4, .int 0 t5] True (fun x => .int 584283 x) := by
  have h := toJdS 0 0 0 0 0 t1 t2 t3 t4 t5
  rwa [show toJ 0 0 0 0 0 = 584283 by decide +kernel] at h
theorem lc0 (t1 t2 t3 t4 t5 : Tok) : SpecV 3 101 [.int 0 t1, .int 0 t2, .int 0 t3, .int 0 t4, .int 0 t5] True (fun x => .str (Str.ofString "4 Ajaw 8 Kumk'u") x) := by
  have h := lcS 0 0 0 0 0 t1 t2 t3 t4 t5 (by decide +kernel)
  rwa [show lcText (toJ 0 0 0 0 0) = Str.ofString "4 Ajaw 8 Kumk'u" by decide +kernel] at h
local macro_rules | `(tactic| walk_at "call ref") => `(tactic| (k_here; (with_reducible show wpAny _ _ (call (Value.ref 66) [Value.int 13 _, Value.int 0 _, Value.int 0 _, Value.int 0 _, Value.int 0 _]) _ _ _); k_dflt (refine' specV_use (toJd13 _ _ _ _ _) ?k1 ?k2 ?k3 ?k4 ?k5 ?kK ?kd ?ku ?_); walk_at "mine ask"; intro t9 h9 tk9 P9 F9 N9; (try dsimp only); (try k_fold)))
local macro_rules | `(tactic| walk_at "call ref") => `(tactic| (k_here; (with_reducible show wpAny _ _ (call (Value.ref 57) [Value.int 2456283 _]) _ _ _); k_dflt (refine' specH_use (fromG _) ?k1 ?k2 ?k3 ?k4 ?k5 ?kK ?kd ?ku ?_); walk_at "mine ask"; intro D9 t9 u9 v9 h9 tk9 P9 F9 N9 l9; (try simp only [AllLt, and_true] at l9); (try dsimp only); (try k_fold); (try k_sweep)))
local macro_rules | `(tactic| walk_at "eval Call") => `(tactic| (k_here; (with_reducible show wpAny _ _ (eval (Expr.Call (Expr.Name (Str.ofString "to_jd_mayan") _) _ _ _) _) _ _ _); k_dflt (refine Call_ ?_)))
local macro_rules | `(tactic| walk_at "eval Call") => `(tactic| (k_here; (with_reducible show wpAny _ _ (eval (Expr.Call (Expr.Name (Str.ofString "from_jd_gregorian") _) _ _ _) _) _ _ _); k_dflt (refine Call_ ?_)))
theorem gregS (t1 t2 t3 t4 t5 : Tok) : SpecH 4 80 [.int 13 t1, .int 0 t2, .int 0 t3, .int 0 t4, .int 0 t5] 2012 12 21 := by
  unfold SpecH
  intro w mean mg mb dp un gd cn cs a ccd cl outer A₀ base h₀ L m s news Q E ⟨B, F, X, N, T, hk, hd, hu⟩ hret
  revert X; k_fill; intro X; w_top off
  refine wpAny_call ?_
  k_dflt cell_enter
  k_steps
  all_goals exact retT3 (Q := Q) (s := s) hret (by k_asm) (by k_asm) (by k_asm) rfl rfl rfl
end PartG3
section PartP0
open PySem PySem.W PyProof.Rows
theorem fm (a : Int) {b : Int} (h : 0 ≤ b) : a.fmod b = a % b := Int.fmod_eq_emod_of_nonneg a h
theorem fd (a : Int) {b : Int} (h : 0 ≤ b) : a.fdiv b = a / b := Int.fdiv_eq_ediv_of_nonneg a h
theorem hDay_e (jd : Int) : hDay jd = (jd - 584283 + 348) % 365 := fm _ (by decide)
theorem hCount_e (jd : Int) : hCount jd = hDay jd % 20 := fm _ (by decide)
theorem hMonth_e (jd : Int) : hMonth jd = hDay jd / 20 := fd _ (by decide)
theorem tNum_e (jd : Int) : tNum jd = (jd - 584283 + 3) % 13 + 1 := by
  unfold tNum amodF
  rw [fm _ (by decide)]
  split <;> omega
theorem tIdx_e (jd : Int) : tIdx jd = (jd - 584283 + 19) % 20 := by
  unfold tIdx amodF
  rw [fm _ (by decide)]
  split <;> omega
-- the months' names
theorem name_pop : ∀ i : Nat, i < 19 → (haabL.getD i Str.empty == Str.ofString "Pop") = decide (i = 0) := by decide +kernel
theorem name_idx : ∀ i : Nat, i < 19 → haabL.idxOf (haabL.getD i Str.empty) = i := by decide +kernel
theorem name_ne : ∀ i : Nat, i < 19 → i ≠ 0 → (Str.ofString "Pop" == haabL.getD i Str.empty) = false := by decide +kernel
theorem hName_pop (jd : Int) : (hName jd == Str.ofString "Pop") = decide (hDay jd < 20) := by
  have h := hMonth_lo jd
  unfold hName
  rw [name_pop _ (by omega)]
  have e := hMonth_e jd
  have d := hDay_lo jd
  congr 1
  apply propext
  omega
theorem hIdx_name (jd : Int) : hIdx (hName jd) = hMonth jd := by
  have h := hMonth_lo jd
  unfold hIdx hName
  rw [name_idx _ (by omega)]
  omega
theorem hCnt_name (jd : Int) : hCnt (hCount jd) (hName jd) = hDay jd := by
  unfold hCnt
  rw [hIdx_name, hCount_e, hMonth_e]
  have d := hDay_lo jd
  split <;> omega
theorem hIdx_pop : hIdx (Str.ofString "Pop") = 0 := by decide +kernel
theorem pop_mem : Str.ofString "Pop" ∈ haabL := by decide +kernel
/-- the next 1 Pop behind a day outside of Pop -/
theorem nextH_out {jd : Int} (h : 20 ≤ hDay jd) : nextH (Str.ofString "Pop") jd = jd + 366 - hDay jd := by
  have hp := hName_pop jd
  rw [decide_eq_false (by omega)] at hp
  rw [← nextH_neg hp, hCnt_name]
  have d := hDay_lo jd
  have e : hCnt 1 (Str.ofString "Pop") = 1 := by unfold hCnt; rw [hIdx_pop]; decide
  rw [e, fm _ (by decide)]
  omega
theorem hDay_next {jd : Int} : hDay (jd + 366 - hDay jd) = 1 := by
  rw [hDay_e (jd + 366 - hDay jd)]
  have := hDay_e jd
  omega
theorem hDay_365 {jd : Int} (h : hDay jd = 1) : hDay (jd + 365) = 1 := by
  rw [hDay_e] at h ⊢
  omega
theorem hDay_in {jd r : Int} (h : hDay jd = 1) (h0 : 0 ≤ r) (h1 : r < 345) : hDay (jd + 19 + r) = 20 + r := by
  rw [hDay_e] at h ⊢
  omega
theorem hDay_20 {jd : Int} (h : hDay jd < 20) : 20 ≤ hDay (jd + 20) := by
  rw [hDay_e] at h ⊢
  omega
theorem later_e {jd r : Int} (h : hDay jd = 1) (h0 : 0 ≤ r) (h1 : r < 345) : nextH (Str.ofString "Pop") (jd + 19 + r) = jd + 365 := by
  have e := hDay_in h h0 h1
  rw [nextH_out (by omega), e]
  omega
theorem first_pop {jd : Int} (h : hDay jd = 1) : hCount jd = 1 ∧ hName jd = Str.ofString "Pop" := by
  have hm : hMonth jd = 0 := by rw [hMonth_e, h]; decide
  refine ⟨by rw [hCount_e, h]; decide, ?_⟩
  unfold hName
  rw [hm]
  decide +kernel
/-- the first days of the other months lie twenty days apart -/
theorem month_e {n : Int} (h : hDay n = 1) {i : Nat} (h0 : 1 ≤ i) (h1 : i < 19) : nextH (haabL.getD i Str.empty) n = n + 20 * (i : Int) := by
  have hp := (first_pop h).2
  have ne : (hName n == haabL.getD i Str.empty) = false := by rw [hp]; exact name_ne i h1 (by omega)
  rw [← nextH_neg ne, hCnt_name, h]
  have e : hCnt 1 (haabL.getD i Str.empty) = 20 * (i : Int) + 1 := by
    unfold hCnt hIdx
    rw [name_idx i h1]
    split <;> omega
  rw [e, fm _ (by decide)]
  omega
theorem month_day {n : Int} (h : hDay n = 1) {i : Nat} (h0 : 1 ≤ i) (h1 : i < 19) : hCount (n + 20 * (i : Int)) = 1 ∧ hName (n + 20 * (i : Int)) = haabL.getD i Str.empty := by
  have d : hDay (n + 20 * (i : Int)) = 20 * (i : Int) + 1 := by
    rw [hDay_e] at h ⊢
    omega
  have hm : hMonth (n + 20 * (i : Int)) = (i : Int) := by rw [hMonth_e, d]; omega
  refine ⟨by rw [hCount_e, d]; omega, ?_⟩
  unfold hName
  rw [hm, Int.toNat_natCast]
-- the year's bearers
def bearL : List Str := [Str.ofString "Ak'b'al", Str.ofString "Lamat", Str.ofString "B'en", Str.ofString "Etz'nab'"]
theorem bear_at : ∀ j : Nat, j < 4 → tzolL.getD (5 * j + 2) Str.empty = bearL.getD j Str.empty ∧ bearL.idxOf (bearL.getD j Str.empty) = j ∧ bearL.getD j Str.empty ∈ bearL := by decide +kernel
theorem tIdx_bear {n : Int} (h : hDay n = 1) : ∃ j : Nat, j < 4 ∧ tIdx n = 5 * (j : Int) + 2 := by
  rw [hDay_e] at h
  have e := tIdx_e n
  refine ⟨(((n - 584283 + 19) % 20) / 5).toNat, by omega, by omega⟩
theorem tName_bear {n : Int} (h : hDay n = 1) : ∃ j : Nat, j < 4 ∧ tIdx n = 5 * (j : Int) + 2 ∧ tName n = bearL.getD j Str.empty := by
  obtain ⟨j, hj, e⟩ := tIdx_bear h
  refine ⟨j, hj, e, ?_⟩
  unfold tName
  rw [e, show (5 * (j : Int) + 2).toNat = 5 * j + 2 by omega]
  exact (bear_at j hj).1
theorem tName_mem_bear {n : Int} (h : hDay n = 1) : tName n ∈ bearL := by
  obtain ⟨j, hj, _, e⟩ := tName_bear h
  rw [e]
  exact (bear_at j hj).2.2
theorem tNum_later (n : Int) (y : Int) : tNum (n + 365 * y) = (tNum n + y - 1).fmod 13 + 1 := by
  rw [tNum_e, tNum_e, fm _ (by decide)]
  omega
theorem hDay_365y {n : Int} (h : hDay n = 1) (y : Int) : hDay (n + 365 * y) = 1 := by
  rw [hDay_e] at h ⊢
  omega
theorem tName_later {n : Int} (h : hDay n = 1) (y : Int) : tName (n + 365 * y) = bearL.getD ((((bearL.idxOf (tName n) : Nat) : Int) + y).fmod 4).toNat Str.empty := by
  obtain ⟨j, hj, e, nm⟩ := tName_bear h
  obtain ⟨j', hj', e', nm'⟩ := tName_bear (hDay_365y h y)
  rw [nm', nm, (bear_at j hj).2.1, fm _ (by decide)]
  congr 1
  rw [tIdx_e] at e e'
  omega
end PartP0
section PartS1
open PySem PySem.W PyProof.Rows PySem.SeqAt
-- the Long Count: places and carries
theorem carry20 (a b c : Int) : (a + b + c) % 20 = (c + (a % 20 + b % 20)) % 20 ∧ (a + b + c) / 20 = a / 20 + b / 20 + (c + (a % 20 + b % 20)) / 20 := by omega
theorem carry18 (a b c : Int) : (a + b + c) % 18 = (c + (a % 18 + b % 18)) % 18 ∧ (a + b + c) / 18 = a / 18 + b / 18 + (c + (a % 18 + b % 18)) / 18 := by omega
theorem p0_e (n : Int) : p0 n = (n - 584283) / 144000 := fd _ (by decide)
theorem p1_e (n : Int) : p1 n = ((n - 584283) / 7200) % 20 := by
  unfold p1
  rw [fm _ (by decide), fd _ (by decide)]
  omega
theorem p2_e (n : Int) : p2 n = ((n - 584283) / 360) % 20 := by
  unfold p2
  rw [fm _ (by decide), fm _ (by decide), fd _ (by decide)]
  omega
theorem p3_e (n : Int) : p3 n = ((n - 584283) / 20) % 18 := by
  unfold p3
  rw [fm _ (by decide), fm _ (by decide), fm _ (by decide), fd _ (by decide)]
  omega
theorem p4_e (n : Int) : p4 n = (n - 584283) % 20 := by
  unfold p4
  rw [fm _ (by decide), fm _ (by decide), fm _ (by decide), fm _ (by decide)]
  omega
theorem toJ_p (n : Int) : toJ (p0 n) (p1 n) (p2 n) (p3 n) (p4 n) = n := by
  rw [p0_e, p1_e, p2_e, p3_e, p4_e]
  unfold toJ
  omega
theorem digits (x : Int) : x / 144000 * 144000 + x / 7200 % 20 * 7200 + x / 360 % 20 * 360 + x / 20 % 18 * 20 + x % 20 = x := by omega
theorem toJ_sum (n d : Int) : toJ (p0 n + d.fdiv 144000) (p1 n + (d.fdiv 7200).fmod 20) (p2 n + (d.fdiv 360).fmod 20) (p3 n + (d.fdiv 20).fmod 18) (p4 n + d.fmod 20) = n + d := by
  have g1 := toJ_p n
  have g2 := digits d
  rw [← fd d (b := 144000) (by decide), ← fd d (b := 7200) (by decide), ← fd d (b := 360) (by decide), ← fd d (b := 20) (by decide), ← fm _ (b := 20) (by decide), ← fm _ (b := 20) (by decide), ← fm _ (b := 18) (by decide), ← fm _ (b := 20) (by decide)] at g2
  unfold toJ at g1 ⊢
  generalize d.fdiv 144000 = d0 at *
  generalize (d.fdiv 7200).fmod 20 = d1 at *
  generalize (d.fdiv 360).fmod 20 = d2 at *
  generalize (d.fdiv 20).fmod 18 = d3 at *
  generalize d.fmod 20 = d4 at *
  generalize p0 n = n0 at *
  generalize p1 n = n1 at *
  generalize p2 n = n2 at *
  generalize p3 n = n3 at *
  generalize p4 n = n4 at *
  omega
def s4 (n d : Int) : Int := 0 + (p4 n + d.fmod 20)
def s3 (n d : Int) : Int := (s4 n d).fdiv 20 + (p3 n + (d.fdiv 20).fmod 18)
def s2 (n d : Int) : Int := (s3 n d).fdiv 18 + (p2 n + (d.fdiv 360).fmod 20)
def s1 (n d : Int) : Int := (s2 n d).fdiv 20 + (p1 n + (d.fdiv 7200).fmod 20)
def s0 (n d : Int) : Int := (s1 n d).fdiv 20 + p0 n + d.fdiv 144000
theorem q (x : Int) : (x / 20) / 18 = x / 360 := by omega
theorem q2 (x : Int) : (x / 360) / 20 = x / 7200 := by omega
theorem q3 (x : Int) : (x / 7200) / 20 = x / 144000 := by omega
theorem lin3 (a b c : Int) : a + b + c = c + a + b := by omega
theorem carries (n d : Int) : p4 (n + d) = (s4 n d).fmod 20 ∧ p3 (n + d) = (s3 n d).fmod 18 ∧ p2 (n + d) = (s2 n d).fmod 20 ∧ p1 (n + d) = (s1 n d).fmod 20 ∧ p0 (n + d) = s0 n d := by
  have e : n + d - 584283 = (n - 584283) + d + 0 := by omega
  obtain ⟨a4, b4⟩ := carry20 (n - 584283) d 0
  rw [← e] at a4 b4
  have h4 : s4 n d = 0 + ((n - 584283) % 20 + d % 20) := by unfold s4; rw [p4_e, fm _ (by decide)]
  rw [← h4] at a4 b4
  obtain ⟨a3, b3⟩ := carry18 ((n - 584283) / 20) (d / 20) (s4 n d / 20)
  rw [← b4, q, q, q] at b3
  rw [← b4] at a3
  have h3 : s3 n d = s4 n d / 20 + ((n - 584283) / 20 % 18 + d / 20 % 18) := by unfold s3; rw [p3_e, fd _ (by decide), fd _ (by decide), fm _ (by decide)]
  rw [← h3] at a3 b3
  obtain ⟨a2, b2⟩ := carry20 ((n - 584283) / 360) (d / 360) (s3 n d / 18)
  rw [← b3, q2, q2, q2] at b2
  rw [← b3] at a2
  have h2 : s2 n d = s3 n d / 18 + ((n - 584283) / 360 % 20 + d / 360 % 20) := by unfold s2; rw [p2_e, fd _ (by decide), fd _ (by decide), fm _ (by decide)]
  rw [← h2] at a2 b2
  obtain ⟨a1, b1⟩ := carry20 ((n - 584283) / 7200) (d / 7200) (s2 n d / 20)
  rw [← b2, q3, q3, q3] at b1
  rw [← b2] at a1
  have h1 : s1 n d = s2 n d / 20 + ((n - 584283) / 7200 % 20 + d / 7200 % 20) := by unfold s1; rw [p1_e, fd _ (by decide), fd _ (by decide), fm _ (by decide)]
  rw [← h1] at a1 b1
  refine ⟨by rw [p4_e, fm _ (by decide), a4], by rw [p3_e, fm _ (by decide), a3], by rw [p2_e, fm _ (by decide), a2], by rw [p1_e, fm _ (by decide), a1], ?_⟩
  rw [p0_e, b1]
  unfold s0
  rw [p0_e, fd _ (by decide), fd _ (by decide)]
  exact lin3 _ _ _
-- the contracts as the law asks them
/-- the call gives an int of which P is known -/
def SpecE (n : Nat) (f : Addr) (vs : List Value) (P : Int → Prop) : Prop :=
  ∀ (w : World) (mean : ExcName → Option Value) (mg mb : Str → Option Value) (dp un : Nat) (gd : Option (List Code)) (cn : Str) (cs : Scope) (a : Addr) (ccd : Value) (cl : List (Str × Addr)) (outer : List Env) (A₀ : Around) (base h₀ : Heap) (L : Addr) (m : Str → Option Value) (s : Shared) (news : List (Addr × Obj)) (Q E : Value → Shared → Prop),
    At n w mean mg mb dp un cs outer A₀ base h₀ L m s news →
    (∀ x t h' tk', P x → Fr h₀ L h' m → News h₀ L h' news → Q (.int x t) { s with heap := h', toks := tk' }) →
    wpAny (model PySem.Challenge.rw_bh0011_01.row.prog w) (ktrTop dp un gd cn cs L a ccd cl outer) (call (.ref f) vs) Q E s
section
variable {P : Int → Prop} {n : Nat} {f : Addr} {vs : List Value} {w : World} {mean : ExcName → Option Value} {mg mb : Str → Option Value} {dp un : Nat} {gd : Option (List Code)} {cn : Str} {cs : Scope} {a : Addr} {ccd : Value} {cl : List (Str × Addr)} {outer : List Env} {A₀ : Around} {base h₀ : Heap} {L : Addr} {m : Str → Option Value} {s : Shared} {news : List (Addr × Obj)} {Q E : Value → Shared → Prop}
theorem specE_use (C : SpecE n f vs P) (B : Below A₀ base outer h₀) (F : Fr h₀ L s.heap m) (X : (hd.heap_39 w.params).In h₀) (N : News h₀ L s.heap news)
    (T : Top hd.view_39 (looseW hd.view_39 [Str.ofString "to_jd_gregorian", Str.ofString "from_jd_gregorian", Str.ofString "HAAB", Str.ofString "TZOLKIN", Str.ofString "to_jd_mayan", Str.ofString "from_jd_mayan"]) mean mg mb h₀)
    (k : cs.kind = .function) (d : dp + n < recursionLimit) (u : un + 16 * n < cLine)
    (h : ∀ x t h' tk', P x → Fr h₀ L h' m → News h₀ L h' news → Q (.int x t) { s with heap := h', toks := tk' }) :
    wpAny (model PySem.Challenge.rw_bh0011_01.row.prog w) (ktrTop dp un gd cn cs L a ccd cl outer) (call (.ref f) vs) Q E s :=
  C w mean mg mb dp un gd cn cs a ccd cl outer A₀ base h₀ L m s news Q E ⟨B, F, X, N, T, k, d, u⟩ h
end
theorem newE (v : Int) (t1 t2 : Tok) (h0 : 584283 ≤ v) (h1 : 20 ≤ hDay v) : SpecE 4 115 [.str (Str.ofString "Pop") t1, .int v t2] (fun x => v < x ∧ x < v + 365 ∧ hDay x = 1) := by
  intro w mean mg mb dp un gd cn cs a ccd cl outer A₀ base h₀ L m s news Q E at' h
  refine nextHaabS (Str.ofString "Pop") v t1 t2 h0 pop_mem w mean mg mb dp un gd cn cs a ccd cl outer A₀ base h₀ L m s news Q E at' fun t h' tk' _ F N => h _ t h' tk' ?_ F N
  have d := hDay_lo v
  have e := nextH_out h1
  refine ⟨by omega, by omega, ?_⟩
  rw [e]
  exact hDay_next
theorem laterS (d r : Int) (t1 t2 : Tok) (h0 : 584283 ≤ d) (h1 : hDay d = 1) (h2 : 0 ≤ r) (h3 : r < 345) : SpecV 4 115 [.str (Str.ofString "Pop") t1, .int (d + 19 + r) t2] (hDay (d + 365) = 1) (fun t => .int (d + 365) t) := by
  intro w mean mg mb dp un gd cn cs a ccd cl outer A₀ base h₀ L m s news Q E at' h
  refine nextHaabS (Str.ofString "Pop") (d + 19 + r) t1 t2 (by omega) pop_mem w mean mg mb dp un gd cn cs a ccd cl outer A₀ base h₀ L m s news Q E at' fun t h' tk' _ F N => ?_
  have z := h t h' tk' (hDay_365 h1) F N
  rw [← later_e h1 h2 h3] at z
  exact z
theorem haabPopS (jd : Int) (t : Tok) (h0 : 584283 ≤ jd) (h1 : hDay jd = 1) : SpecT 2 87 [.int jd t] True (fun t1 t2 => #[.int 1 t1, .str (Str.ofString "Pop") t2]) := by
  intro w mean mg mb dp un gd cn cs a ccd cl outer A₀ base h₀ L m s news Q E at' h
  refine toHaabS jd t h0 w mean mg mb dp un gd cn cs a ccd cl outer A₀ base h₀ L m s news Q E at' fun D t1 t2 h' tk' _ F N l => ?_
  have z := h D t1 t2 h' tk' True.intro F
  rw [← (first_pop h1).1, ← (first_pop h1).2] at z
  exact z N l
theorem monS (i : Nat) (n : Int) (x : Str) (k : Int) (t1 t2 : Tok) (h0 : 584283 ≤ n) (h1 : hDay n = 1) (hi : 1 ≤ i) (hi' : i < 19) (hx : haabL.getD i Str.empty = x) (hk : (i : Int) = k) : SpecV 4 115 [.str x t1, .int n t2] True (fun t => .int (n + 20 * k) t) := by
  subst hx; subst hk
  have g := nextHaabS (haabL.getD i Str.empty) n t1 t2 h0 (getD_mem (by exact hi'))
  rw [month_e h1 hi hi'] at g
  exact g
theorem haabMonS (i : Nat) (n : Int) (x : Str) (k : Int) (t : Tok) (h0 : 584283 ≤ n) (h1 : hDay n = 1) (hi : 1 ≤ i) (hi' : i < 19) (hx : haabL.getD i Str.empty = x) (hk : (i : Int) = k) : SpecT 2 87 [.int (n + 20 * k) t] True (fun t1 t2 => #[.int 1 t1, .str x t2]) := by
  subst hx; subst hk
  intro w mean mg mb dp un gd cn cs a ccd cl outer A₀ base h₀ L m s news Q E at' h
  refine toHaabS _ t (by omega) w mean mg mb dp un gd cn cs a ccd cl outer A₀ base h₀ L m s news Q E at' fun D t1 t2 h' tk' _ F N l => ?_
  have z := h D t1 t2 h' tk' True.intro F
  rw [← (month_day h1 hi hi').1, ← (month_day h1 hi hi').2] at z
  exact z N l
theorem toString_one : Str.ofString (toString (1 : Int)) = Str.ofString "1" := by decide +kernel
theorem pop_tail : Str.ofString " " ++ Str.ofString "1" ++ Str.ofString " " ++ Str.ofString "Pop" = Str.ofString " 1 Pop" := by decide +kernel
theorem lcText_pop {n : Int} (h : hDay n = 1) : lcText n = Str.ofString (toString (tNum n)) ++ Str.ofString " " ++ tName n ++ Str.ofString " 1 Pop" := by
  unfold lcText
  rw [(first_pop h).1, (first_pop h).2, toString_one, ← pop_tail]
  simp only [Str.append_assoc]
theorem lcNewS (n : Int) (t1 t2 t3 t4 t5 : Tok) (h0 : 584283 ≤ n) (h1 : hDay n = 1) : SpecV 3 101 [.int (p0 n) t1, .int (p1 n) t2, .int (p2 n) t3, .int (p3 n) t4, .int (p4 n) t5] True
    (fun x => .str (Str.ofString (toString (tNum n)) ++ Str.ofString " " ++ tName n ++ Str.ofString " 1 Pop") x) := by
  have g := lcS (p0 n) (p1 n) (p2 n) (p3 n) (p4 n) t1 t2 t3 t4 t5 (by rw [toJ_p]; exact h0)
  rw [toJ_p, lcText_pop h1] at g
  exact g
theorem toJdSumS (n d : Int) (t1 t2 t3 t4 t5 : Tok) : SpecV 1 66 [.int (p0 n + d.fdiv 144000) t1, .int (p1 n + (d.fdiv 7200).fmod 20) t2, .int (p2 n + (d.fdiv 360).fmod 20) t3, .int (p3 n + (d.fdiv 20).fmod 18) t4, .int (p4 n + d.fmod 20) t5] True (fun x => .int (n + d) x) := by
  have g := toJdS (p0 n + d.fdiv 144000) (p1 n + (d.fdiv 7200).fmod 20) (p2 n + (d.fdiv 360).fmod 20) (p3 n + (d.fdiv 20).fmod 18) (p4 n + d.fmod 20) t1 t2 t3 t4 t5
  rw [toJ_sum] at g
  exact g
theorem fromJdSumS (n d : Int) (t1 : Tok) (h0 : 584283 ≤ n) (h1 : 0 ≤ d) : SpecQ 1 73 [.int (n + d) t1] True (s0 n d) ((s1 n d).fmod 20) ((s2 n d).fmod 20) ((s3 n d).fmod 18) ((s4 n d).fmod 20) := by
  have g := fromJdS (n + d) t1 (by omega)
  obtain ⟨e4, e3, e2, e1, e0⟩ := carries n d
  rw [e4, e3, e2, e1, e0] at g
  exact g
theorem join_true {S : Int} (h : (hName S == Str.ofString "Pop") = true) : 20 ≤ hDay (S + 20) := by
  rw [hName_pop] at h
  exact hDay_20 (of_decide_eq_true h)
theorem join_false {S : Int} (h : (hName S == Str.ofString "Pop") = false) : 20 ≤ hDay S := by
  rw [hName_pop] at h
  have := of_decide_eq_false h
  omega
end PartS1
section PartS2
open PySem PySem.W PyProof.Rows PySem.SeqAt PySem.Calls
section
variable {prog : Program} {w : World} {A : Around} {E : Value → Shared → Prop} {s : Shared} {h₀ : Heap} {L : Addr} {m : Str → Option Value} {news : List (Addr × Obj)}
theorem notIn_strs {l : Addr} {vs : List Value} {ns : List Str} {k : Str} {t : Tok} {Q : Value → Shared → Prop} (hl : s.heap.IsList l vs.toArray) (hi : StrsAre vs ns) (hk : k ∈ ns) (h : Q (.bool false) s) :
    wpAny (model prog w) A (compareOp .NotIn (.str k t) (.ref l)) Q E s := by
  refine notIn_listAt (isStrOf k) hl (fun y hy => (eq_isStrOf k t hi y (by simpa using hy)).at _ _) ?_
  have e : vs.toArray.any (isStrOf k) = true := by
    obtain ⟨j, hj, e⟩ := List.getElem_of_mem hk
    have hlen := hi.length
    rw [List.any_toArray, List.any_eq_true]
    refine ⟨vs[j]'(by omega), List.getElem_mem _, ?_⟩
    rw [isStr_at k hi j (by omega) hj, e]
    exact beq_self_eq_true k
  rw [e]
  exact h
def tup2 (a : Int) (t1 : Tok) (x : Str) (t2 : Tok) : Obj := { cls := .type "tuple", data := .seq #[.int a t1, .str x t2] 0 }
theorem reads2 {D : Addr} {a : Int} {t1 t2 : Tok} {x : Str} {c : Nat} {h : Heap} (N : News h₀ L h news) (hm : (D, ({ cls := .type "tuple", data := .seq #[.int a t1, .str x t2] c } : Obj)) ∈ news) : ∃ as, Reads h (.ref D) (.tuple [.int a, .str x]) as :=
  ⟨_, reads_tuple_at (News.get N hm) rfl rfl (ReadsAll.cons (Reads.int _ _) (ReadsAll.cons (Reads.str _ _) ReadsAll.nil))⟩
theorem ne_tup2 {D D' : Addr} {a b : Int} {t1 t2 t3 t4 : Tok} {x y : Str} {c c' : Nat} {Q : Value → Shared → Prop} (N : News h₀ L s.heap news) (m1 : (D, ({ cls := .type "tuple", data := .seq #[.int a t1, .str x t2] c } : Obj)) ∈ news) (m2 : (D', ({ cls := .type "tuple", data := .seq #[.int b t3, .str y t4] c' } : Obj)) ∈ news)
    (e1 : a = b) (e2 : x = y) (ok : PyData.strOk x = true) (hu : A.units + 64 < cLine) (h : Q (.bool false) s) : wpAny (model prog w) A (compareOp .NotEq (.ref D) (.ref D')) Q E s := by
  subst e1
  subst e2
  obtain ⟨_, r1⟩ := reads2 N m1
  obtain ⟨_, r2⟩ := reads2 N m2
  have sh : shaped (PyData.tuple [PyData.int a, PyData.str x]) = true := by simp [shaped, PyData.canLay0, PyData.canLayAll0, PyData.depth, PyData.depthAll, ok]
  refine ne_dataH r1 r2 sh sh hu ?_
  have e : PyData.eqv (.tuple [.int a, .str x]) (.tuple [.int a, .str x]) = true := by simp [PyData.eqv, PyData.eqvAll]
  rw [e]
  exact h
end
theorem tzN {n k y : Int} (h : k = n + 365 * y) : tNum k = (tNum n + y - 1).fmod 13 + 1 := by rw [h]; exact tNum_later n y
theorem tzNm {n k y : Int} (hd : hDay n = 1) (h : k = n + 365 * y) : tName k = bearL.getD ((((bearL.idxOf (tName n) : Nat) : Int) + y).fmod 4).toNat Str.empty := by rw [h]; exact tName_later hd y
theorem tName_ok (n : Int) : PyData.strOk (tName n) = true := (by decide +kernel : ∀ x ∈ tzolL, PyData.strOk x = true) _ (tName_mem n)
-- the start: one way behind the test
def JoinS (h₀ : Heap) (L : Addr) (m : Str → Option Value) (news : List (Addr × Obj)) (s : Shared) (fl : Flow) (s' : Shared) : Prop :=
  fl = .next ∧ ∃ v t h' tk', s' = { s with heap := h', toks := tk' } ∧ 584283 ≤ v ∧ 20 ≤ hDay v ∧ Fr h₀ L h' (fun y => if y = Str.ofString "start" then some (.int v t) else m y) ∧ News h₀ L h' news
theorem join_start {M : Model} {A : Around} {E : Value → Shared → Prop} {s : Shared} {h₀ : Heap} {L : Addr} {m : Str → Option Value} {news : List (Addr × Obj)} {stmt : Stmt} {env : Env} {Q : Flow → Shared → Prop} (_F : Fr h₀ L s.heap m) (_N : News h₀ L s.heap news)
    (hsub : wpAny M A (exec stmt env) (fun fl s' => JoinS h₀ L m news s fl s') E s)
    (hcont : ∀ v t h' tk', 584283 ≤ v → 20 ≤ hDay v → Fr h₀ L h' (fun y => if y = Str.ofString "start" then some (.int v t) else m y) → News h₀ L h' news → Q .next { s with heap := h', toks := tk' }) :
    wpAny M A (exec stmt env) Q E s := by
  refine wpAny_mono hsub (fun fl s' j => ?_) fun _ _ e => e
  obtain ⟨rfl, v, t, h', tk', rfl, h0, h1, F, N⟩ := j
  exact hcont v t h' tk' h0 h1 F N
theorem joinS_of {h₀ : Heap} {L : Addr} {m m' : Str → Option Value} {news news' : List (Addr × Obj)} {s : Shared} {v : Int} {t : Tok} {h' : Heap} {tk' : Nat} (F : Fr h₀ L h' m') (N : News h₀ L h' news') (em : ∀ y, m' y = if y = Str.ofString "start" then some (.int v t) else m y) (hs : ∀ p ∈ news, p ∈ news') (h0 : 584283 ≤ v) (h1 : 20 ≤ hDay v) :
    JoinS h₀ L m news s .next { s with heap := h', toks := tk' } := by
  have e : m' = fun y => if y = Str.ofString "start" then some (.int v t) else m y := funext em
  subst e
  exact ⟨rfl, v, t, h', tk', rfl, h0, h1, F, fun p hp => N p (hs p hp)⟩
theorem S_lo (x : Int) : 584283 ≤ 584283 + if x < 0 then -x else x := by split <;> omega
theorem S_lo20 (x : Int) : 584283 ≤ (584283 + if x < 0 then -x else x) + 20 := by split <;> omega
end PartS2
section PartS3
open PySem PySem.W PyProof.Rows PySem.SeqAt PySem.Calls
theorem news_last3 {h₀ h : Heap} {L : Addr} {l : List (Addr × Obj)} (N : News h₀ L h l) : News h₀ L h (l.drop (l.length - 3)) := fun p hp => N p (List.mem_of_mem_drop hp)
theorem news_keep {h₀ h : Heap} {L : Addr} {x : Addr × Obj} {l : List (Addr × Obj)} (N : News h₀ L h (x :: l)) : News h₀ L h (x :: l.drop (l.length - 3)) := fun p hp => N p ((List.mem_cons.mp hp).elim (fun e => e ▸ List.Mem.head _) fun h => List.Mem.tail _ (List.mem_of_mem_drop h))
/-- the call gives a new list of the four bearers -/
def SpecB (n : Nat) (f : Addr) (vs : List Value) : Prop :=
  ∀ (w : World) (mean : ExcName → Option Value) (mg mb : Str → Option Value) (dp un : Nat) (gd : Option (List Code)) (cn : Str) (cs : Scope) (a : Addr) (ccd : Value) (cl : List (Str × Addr)) (outer : List Env) (A₀ : Around) (base h₀ : Heap) (L : Addr) (m : Str → Option Value) (s : Shared) (news : List (Addr × Obj)) (Q E : Value → Shared → Prop),
    At n w mean mg mb dp un cs outer A₀ base h₀ L m s news →
    (∀ D t1 t2 t3 t4 h' tk', Fr h₀ L h' m → News h₀ L h' ((D, W.listOf #[.str (Str.ofString "Ak'b'al") t1, .str (Str.ofString "Lamat") t2, .str (Str.ofString "B'en") t3, .str (Str.ofString "Etz'nab'") t4] 0) :: news) → Q (.ref D) { s with heap := h', toks := tk' }) →
    wpAny (model PySem.Challenge.rw_bh0011_01.row.prog w) (ktrTop dp un gd cn cs L a ccd cl outer) (call (.ref f) vs) Q E s
section
variable {n : Nat} {f : Addr} {vs : List Value} {w : World} {mean : ExcName → Option Value} {mg mb : Str → Option Value} {dp un : Nat} {gd : Option (List Code)} {cn : Str} {cs : Scope} {a : Addr} {ccd : Value} {cl : List (Str × Addr)} {outer : List Env} {A₀ : Around} {base h₀ : Heap} {L : Addr} {m : Str → Option Value} {s : Shared} {news : List (Addr × Obj)} {Q E : Value → Shared → Prop}
theorem specB_use (C : SpecB n f vs) (B : Below A₀ base outer h₀) (F : Fr h₀ L s.heap m) (X : (hd.heap_39 w.params).In h₀) (N : News h₀ L s.heap news)
    (T : Top hd.view_39 (looseW hd.view_39 [Str.ofString "to_jd_gregorian", Str.ofString "from_jd_gregorian", Str.ofString "HAAB", Str.ofString "TZOLKIN", Str.ofString "to_jd_mayan", Str.ofString "from_jd_mayan"]) mean mg mb h₀)
    (k : cs.kind = .function) (d : dp + n < recursionLimit) (u : un + 16 * n < cLine)
    (h : ∀ D t1 t2 t3 t4 h' tk', Fr h₀ L h' m → News h₀ L h' ((D, W.listOf #[.str (Str.ofString "Ak'b'al") t1, .str (Str.ofString "Lamat") t2, .str (Str.ofString "B'en") t3, .str (Str.ofString "Etz'nab'") t4] 0) :: news) → Q (.ref D) { s with heap := h', toks := tk' }) :
    wpAny (model PySem.Challenge.rw_bh0011_01.row.prog w) (ktrTop dp un gd cn cs L a ccd cl outer) (call (.ref f) vs) Q E s :=
  C w mean mg mb dp un gd cn cs a ccd cl outer A₀ base h₀ L m s news Q E ⟨B, F, X, N, T, k, d, u⟩ h
end
theorem bearersS : SpecB 1 122 [] := by
  unfold SpecB
  intro w mean mg mb dp un gd cn cs a ccd cl outer A₀ base h₀ L m s news Q E ⟨B, F, X, N, T, hk, hd, hu⟩ hret
  revert X; k_fill; intro X; w_top off
  refine wpAny_call ?_
  k_dflt cell_enter
  k_steps
  all_goals exact hret _ _ _ _ _ _ _ (by k_asm) (by k_asm)
theorem callWith_KF {M : Model} {A : Around} {E : Value → Shared → Prop} {s : Shared} {K : Frag} {env : Env} {pos : Pos} {f : Value} {first : List Value} {Q : Value → Shared → Prop} {h₀ : Heap} {L : Addr} {m : Str → Option Value} (F : Fr h₀ L s.heap m) (X₀ : K.In h₀) (hk : keepIn K f = true) (h : wpAny M A (call f (first ++ [])) Q E s) : wpAny M A (callWith pos f first (backTo pos (starEach [] env)) []) Q E s :=
  callWith_K0 (X₀.keeps F.keep) hk h
theorem monSym (k n : Int) (t1 t2 : Tok) (h0 : 584283 ≤ n) (h1 : hDay n = 1) (h2 : 1 ≤ k) (h3 : k < 19) : SpecV 4 115 [.str (haabL.getD k.toNat Str.empty) t1, .int n t2] True (fun t => .int (n + 20 * k) t) :=
  monS k.toNat n _ k t1 t2 h0 h1 (by omega) (by omega) rfl (by omega)
theorem haabMonSym (k n : Int) (t : Tok) (h0 : 584283 ≤ n) (h1 : hDay n = 1) (h2 : 1 ≤ k) (h3 : k < 19) : SpecT 2 87 [.int (n + 20 * k) t] True (fun t1 t2 => #[.int 1 t1, .str (haabL.getD k.toNat Str.empty) t2]) :=
  haabMonS k.toNat n _ k t h0 h1 (by omega) (by omega) rfl (by omega)
theorem haab_ok {k : Int} (h : k < 19) : PyData.strOk (haabL.getD k.toNat Str.empty) = true := (by decide +kernel : ∀ i : Nat, i < 19 → PyData.strOk (haabL.getD i Str.empty) = true) _ (by omega)
theorem tNum_len (n : Int) : (Str.ofString (toString (tNum n))).length ≤ 10 := by
  have h := tNum_lo n
  exact toString_length_le (by omega) (by decide) (by omega)
theorem szA (n : Int) : (Str.ofString (toString (tNum n))).length + (Str.ofString " ").length ≤ sizeLine := by
  have h := tNum_len n
  have e : (Str.ofString " ").length = 1 := by decide +kernel
  rw [sizeLine_eq]
  omega
theorem szB (n : Int) : (Str.ofString (toString (tNum n)) ++ Str.ofString " ").length + (tName n).length ≤ sizeLine := by
  have h := tNum_len n
  have h2 := tName_len n
  have e : (Str.ofString " ").length = 1 := by decide +kernel
  rw [sizeLine_eq, Str.length_append]
  omega
theorem szC (n : Int) : (Str.ofString (toString (tNum n)) ++ Str.ofString " " ++ tName n).length + (Str.ofString " 1 Pop").length ≤ sizeLine := by
  have h := tNum_len n
  have h2 := tName_len n
  have e : (Str.ofString " ").length = 1 := by decide +kernel
  have e2 : (Str.ofString " 1 Pop").length = 6 := by decide +kernel
  rw [sizeLine_eq, Str.length_append, Str.length_append]
  omega
theorem ne_same {prog : Program} {w : World} {A : Around} {E : Value → Shared → Prop} {s : Shared} {a b : Int} {t u : Tok} {Q : Value → Shared → Prop} (e : a = b) (h : Q (.bool false) s) : wpAny (model prog w) A (compareOp .NotEq (.int a t) (.int b u)) Q E s := by
  subst e
  refine PyProof.Rows.ne_int ?_
  rw [show (a != a) = false by simp]
  exact h
theorem ne_same_str {prog : Program} {w : World} {A : Around} {E : Value → Shared → Prop} {s : Shared} {a b : Str} {t u : Tok} {Q : Value → Shared → Prop} (e : a = b) (h : Q (.bool false) s) : wpAny (model prog w) A (compareOp .NotEq (.str a t) (.str b u)) Q E s := by
  subst e
  refine PyProof.Rows.ne_str ?_
  rw [show (a != a) = false by simp]
  exact h
section
variable {prog : Program} {w : World} {A : Around} {E : Value → Shared → Prop} {s : Shared} {h₀ : Heap} {L : Addr} {news : List (Addr × Obj)}
theorem reads5 {D : Addr} {a0 a1 a2 a3 a4 : Int} {t0 t1 t2 t3 t4 : Tok} {c : Nat} {h : Heap} (N : News h₀ L h news) (hm : (D, ({ cls := .type "tuple", data := .seq #[.int a0 t0, .int a1 t1, .int a2 t2, .int a3 t3, .int a4 t4] c } : Obj)) ∈ news) : ∃ as, Reads h (.ref D) (.tuple [.int a0, .int a1, .int a2, .int a3, .int a4]) as :=
  ⟨_, reads_tuple_at (News.get N hm) rfl rfl (ReadsAll.cons (Reads.int _ _) (ReadsAll.cons (Reads.int _ _) (ReadsAll.cons (Reads.int _ _) (ReadsAll.cons (Reads.int _ _) (ReadsAll.cons (Reads.int _ _) ReadsAll.nil)))))⟩
theorem eq_tup5 {D D' : Addr} {a0 a1 a2 a3 a4 b0 b1 b2 b3 b4 : Int} {t0 t1 t2 t3 t4 u0 u1 u2 u3 u4 : Tok} {c c' : Nat} {Q : Value → Shared → Prop} (N : News h₀ L s.heap news) (m1 : (D, ({ cls := .type "tuple", data := .seq #[.int a0 t0, .int a1 t1, .int a2 t2, .int a3 t3, .int a4 t4] c } : Obj)) ∈ news)
    (m2 : (D', ({ cls := .type "tuple", data := .seq #[.int b0 u0, .int b1 u1, .int b2 u2, .int b3 u3, .int b4 u4] c' } : Obj)) ∈ news) (e0 : a0 = b0) (e1 : a1 = b1) (e2 : a2 = b2) (e3 : a3 = b3) (e4 : a4 = b4) (hu : A.units + 64 < cLine) (h : Q (.bool true) s) :
    wpAny (model prog w) A (compareOp .Eq (.ref D) (.ref D')) Q E s := by
  subst e0; subst e1; subst e2; subst e3; subst e4
  obtain ⟨_, r1⟩ := reads5 N m1
  obtain ⟨_, r2⟩ := reads5 N m2
  have sh : shaped (PyData.tuple [PyData.int a0, PyData.int a1, PyData.int a2, PyData.int a3, PyData.int a4]) = true := by simp [shaped, PyData.canLay0, PyData.canLayAll0, PyData.depth, PyData.depthAll]
  refine eq_dataH r1 r2 sh sh hu ?_
  have e : PyData.eqv (.tuple [.int a0, .int a1, .int a2, .int a3, .int a4]) (.tuple [.int a0, .int a1, .int a2, .int a3, .int a4]) = true := by simp [PyData.eqv, PyData.eqvAll]
  rw [e]
  exact h
end
end PartS3
section PartZ1
open PySem PySem.W PyProof.Rows PySem.Calls
open Builtin.SmallTypes in
section
variable {prog : Program} {w : World} {A : Around} {E : Value → Shared → Prop} {s : Shared}
theorem tupIter_at {h h' : Heap} {i t : Addr} {k : Nat} (x : h.IsTupleIter i t k) (e : ∀ o, h.get? i = some o → h'.get? i = some o) : h'.IsTupleIter i t k :=
  let ⟨o, ho, r⟩ := x; ⟨o, e o ho, r⟩
theorem tup_at {h h' : Heap} {t : Addr} {xs : Array Value} (x : h.IsTuple t xs) (e : ∀ o, h.get? t = some o → h'.get? t = some o) : h'.IsTuple t xs :=
  let ⟨o, ho, r⟩ := x; ⟨o, e o ho, r⟩
/-- a tuple's iterator gives its next item -/
theorem nextOf_tup {it t : Addr} {i : Nat} {xs : Array Value} {x : Value} {Q : Value → Shared → Prop} (hit : s.heap.IsTupleIter it t i) (ht : s.heap.IsTuple t xs) (hx : xs[i]? = some x)
    (hQ : ∀ h', h'.IsTupleIter it t (i + 1) → Heap.SameBut it s.heap h' → Q x { s with heap := h' }) : wpAny (model prog w) A (Builtin.SmallTypes.nextOf (.ref it)) Q E s := by
  obtain ⟨o, ho, hc, hd⟩ := id hit
  obtain ⟨ot, hot, _, nt, hdt⟩ := ht
  unfold Builtin.SmallTypes.nextOf
  refine wpAny_bind (wpAny_callSpecial?_slot (name := Str.ofString "__next__") hit.typeIs F.slot_tuple_iterator_next (wpAny_call_entry F.slot_tuple_iterator_next hit.typeIs F.entry_tuple_iterator_next ?_ (F.args_tuple_iterator_next_1 _)))
  show wpAny _ _ (field (.ref it) 0 >>= _) _ _ s
  refine wpAny_bind (wpAny_field ho hd (x := .ref t) rfl ?_)
  show wpAny _ _ (if (Value.ref t == Value.none) = true then _ else _) _ _ s
  rw [if_neg (show ¬ ((Value.ref t == Value.none) = true) from Bool.false_ne_true)]
  show wpAny _ _ (field (.ref it) 1 >>= _) _ _ s
  refine wpAny_bind (wpAny_field ho hd (x := .int i 0) rfl ?_)
  show wpAny _ _ (seqItems? (.ref t) >>= _) _ _ s
  refine wpAny_bind (wpAny_seqItems hot hdt ?_)
  simp only [Int.toNat_natCast, hx]
  refine wpAny_bind (wpAny_setField ho hd (by simp) (wpAny_pure ⟨x, rfl, wpAny_pure (hQ _ ?_ (Heap.SameBut.update ..))⟩))
  exact ⟨_, Heap.get?_update_self _ ho (Obj.isFreed_of_fields (Obj.data_mapFields hd _)), (Obj.cls_mapFields ..).trans hc, by rw [Obj.data_mapFields hd]; simp [rawInt]⟩
/-- .. and none at its end -/
theorem nextOf_tup_end {it t : Addr} {i : Nat} {xs : Array Value} {Q : Value → Shared → Prop} (hh : A.handled = none) (hit : s.heap.IsTupleIter it t i) (ht : s.heap.IsTuple t xs) (hx : xs[i]? = none)
    (hE : ∀ h' e, Heap.ExtBut it s.heap h' → (∃ o, h'.get? e = some o ∧ o.cls = .type "StopIteration") → E (.ref e) { s with heap := h' }) : wpAny (model prog w) A (Builtin.SmallTypes.nextOf (.ref it)) Q E s := by
  obtain ⟨o, ho, hc, hd⟩ := id hit
  obtain ⟨ot, hot, _, nt, hdt⟩ := ht
  unfold Builtin.SmallTypes.nextOf
  refine wpAny_bind (wpAny_callSpecial?_slot (name := Str.ofString "__next__") hit.typeIs F.slot_tuple_iterator_next (wpAny_call_entry F.slot_tuple_iterator_next hit.typeIs F.entry_tuple_iterator_next ?_ (F.args_tuple_iterator_next_1 _)))
  show wpAny _ _ (field (.ref it) 0 >>= _) _ _ s
  refine wpAny_bind (wpAny_field ho hd (x := .ref t) rfl ?_)
  show wpAny _ _ (if (Value.ref t == Value.none) = true then _ else _) _ _ s
  rw [if_neg (show ¬ ((Value.ref t == Value.none) = true) from Bool.false_ne_true)]
  show wpAny _ _ (field (.ref it) 1 >>= _) _ _ s
  refine wpAny_bind (wpAny_field ho hd (x := .int i 0) rfl ?_)
  show wpAny _ _ (seqItems? (.ref t) >>= _) _ _ s
  refine wpAny_bind (wpAny_seqItems hot hdt ?_)
  simp only [Int.toNat_natCast, hx]
  refine wpAny_bind (wpAny_rule (wpAny_bind (wpAny_setField ho hd (by simp) ?_)))
  show wpAny _ _ (newExc (.type "StopIteration") [] >>= _) _ _ _
  refine wpAny_bind ?_
  simp only [newExc, newTuple]
  refine wpAny_bind (wpAny_newObj_type ?_ (by size_fits))
  refine wpAny_bind (m := firstArgMember _ _) (wpAny_of_eq (a := Value.none) (by first | rfl | (simp only [firstArgMember]; rfl)) ?_)
  refine wpAny_newObj_type ?_ (by size_fits)
  simp only [raiseNew]
  refine wpAny_bind (wpAny_handled ?_)
  first | rw [show A.in1.handled = none from hh] | rw [hh]
  refine wpAny_bind (wpAny_pure (wpAny_throw ?_))
  exact hE _ _ (((Heap.SameBut.update ..).extBut.push _).push _) ⟨_, Heap.get?_push_size _ rfl, rfl⟩
/-- a zip over two tuples at place i -/
def ZSt (z TI TO i1 i2 a1 a2 : Addr) (xs ys : Array Value) (f0 : Value) (k1 k2 : Nat) (h : Heap) : Prop :=
  IsZip h z TI TO f0 ∧ IsPair h TI (.ref i1) (.ref i2) ∧ (∃ a b, IsPair h TO a b) ∧ h.IsTupleIter i1 a1 k1 ∧ h.IsTupleIter i2 a2 k2 ∧ h.IsTuple a1 xs ∧ h.IsTuple a2 ys
theorem ZSt.at {z TI TO i1 i2 a1 a2 : Addr} {xs ys : Array Value} {f0 : Value} {k1 k2 : Nat} {h h' : Heap} (x : ZSt z TI TO i1 i2 a1 a2 xs ys f0 k1 k2 h) (e : ∀ c o, (c = z ∨ c = TI ∨ c = TO ∨ c = i1 ∨ c = i2 ∨ c = a1 ∨ c = a2) → h.get? c = some o → h'.get? c = some o) : ZSt z TI TO i1 i2 a1 a2 xs ys f0 k1 k2 h' := by
  obtain ⟨hz, hTI, ⟨a, b, hTO⟩, h1, h2, t1, t2⟩ := x
  exact ⟨e _ _ (by simp) hz, e _ _ (by simp) hTI, ⟨a, b, e _ _ (by simp) hTO⟩, tupIter_at h1 fun o => e _ o (by simp), tupIter_at h2 fun o => e _ o (by simp), tup_at t1 fun o => e _ o (by simp), tup_at t2 fun o => e _ o (by simp)⟩
theorem zip_item {z TI TO i1 i2 a1 a2 : Addr} {k : Nat} {xs ys : Array Value} {x y : Value} {Q : Value → Shared → Prop} (D : ZipApart z TI TO i1 i2 a1 a2) (st : ZSt z TI TO i1 i2 a1 a2 xs ys .none k k s.heap) (hx : xs[k]? = some x) (hy : ys[k]? = some y)
    (hQ : ∀ (T : Addr) h', ZSt z TI TO i1 i2 a1 a2 xs ys (rawInt T) (k + 1) (k + 1) h' → IsPair h' T x y → s.heap.objs.size ≤ T → (∀ c o, c ≠ z → c ≠ TO → c ≠ i1 → c ≠ i2 → s.heap.get? c = some o → h'.get? c = some o) → Q (.ref T) { s with heap := h' }) :
    wpAny (model prog w) A (Builtin.«zip.__next__» ⟨[.ref z], []⟩) (fun fin s' => ∃ v, fin = .done (.ret v) ∧ Q v s') E s := by
  obtain ⟨hz, hTI, ⟨a, b, hTO⟩, h1, h2, t1, t2⟩ := st
  show wpAny _ _ (field (.ref z) 2 >>= _) _ _ _
  refine wpAny_bind (wpAny_field hz rfl (x := .bool false) rfl ?_)
  show wpAny _ _ (field (.ref z) 3 >>= _) _ _ _
  refine wpAny_bind (wpAny_field hz rfl (x := .ref TI) rfl ?_)
  refine wpAny_bind (wpAny_seqItems hTI rfl ?_)
  show wpAny _ _ (Builtin.SmallTypes.ownedTupleIsFree (.ref z) >>= _) _ _ _
  refine wpAny_bind ?_
  unfold Builtin.SmallTypes.ownedTupleIsFree
  refine wpAny_bind (wpAny_field hz rfl (x := .none) rfl (wpAny_pure ?_))
  simp only [if_true]
  refine wpAny_bind (wpAny_rule ?_)
  refine wpAny_bind (wpAny_field hz rfl (x := .ref TO) rfl ?_)
  refine wpAny_bind (wpAny_setField_rec hz (by simp) fun g1 hz1 e1 => ?_)
  replace hz1 : IsZip g1 z TI TO .ellipsis := hz1
  refine wpAny_bind ?_
  simp only [List.zipIdx_cons, List.zipIdx_nil, List.forIn_cons, List.forIn_nil]
  -- the first draw
  have E1 : ∀ c o, c ≠ z → s.heap.get? c = some o → g1.get? c = some o := fun c o hc e => e1.extBut c o hc e
  refine wpAny_bind (wpAny_bind (wpAny_onRaise ?_))
  show wpAny _ _ (Builtin.SmallTypes.nextOf (.ref i1) >>= _) _ _ _
  refine wpAny_bind (nextOf_tup (tupIter_at h1 fun o => E1 _ o D.i1z) (tup_at t1 fun o => E1 _ o D.l1z) hx fun g2 j1 e2 => wpAny_pure ?_)
  have E2 : ∀ c o, c ≠ z → c ≠ i1 → s.heap.get? c = some o → g2.get? c = some o := fun c o hc hc' e => e2.extBut c o hc' (E1 c o hc e)
  have p2 : IsPair g2 TO a b := E2 _ _ D.TOz D.TOi1 hTO
  refine wpAny_bind (wpAny_seqItems p2 rfl ?_)
  refine wpAny_bind (wpAny_updateSeq_pair p2 fun g3 p3 e3 => ?_)
  replace p3 : IsPair g3 TO x b := p3
  refine wpAny_bind (wpAny_letGo (wpAny_pure ?_))
  -- the second
  have E3 : ∀ c o, c ≠ z → c ≠ i1 → c ≠ TO → s.heap.get? c = some o → g3.get? c = some o := fun c o hc hc' hc2 e => e3.extBut c o hc2 (E2 c o hc hc' e)
  refine wpAny_bind (wpAny_bind (wpAny_onRaise ?_))
  show wpAny _ _ (Builtin.SmallTypes.nextOf (.ref i2) >>= _) _ _ _
  refine wpAny_bind (nextOf_tup (tupIter_at h2 fun o => E3 _ o D.i2z D.i12.symm D.TOi2.symm) (tup_at t2 fun o => E3 _ o D.l2z D.l2i1 D.l2TO) hy fun g4 j2 e4 => wpAny_pure ?_)
  have p4 : IsPair g4 TO x b := e4.extBut _ _ D.TOi2 p3
  refine wpAny_bind (wpAny_seqItems p4 rfl ?_)
  refine wpAny_bind (wpAny_updateSeq_pair p4 fun g5 p5 e5 => ?_)
  replace p5 : IsPair g5 TO x y := p5
  refine wpAny_bind (wpAny_letGo (wpAny_pure (wpAny_pure ?_)))
  have E5 : ∀ c o, c ≠ z → c ≠ i1 → c ≠ TO → c ≠ i2 → s.heap.get? c = some o → g5.get? c = some o := fun c o hc hc' hc2 hc3 e => e5.extBut c o hc2 (e4.extBut c o hc3 (E3 c o hc hc' hc2 e))
  have hz5 : IsZip g5 z TI TO .ellipsis := e5.extBut _ _ D.TOz.symm (e4.extBut _ _ D.i2z.symm (e3.extBut _ _ D.TOz.symm (e2.extBut _ _ D.i1z.symm hz1)))
  have j15 : g5.IsTupleIter i1 a1 (k + 1) := tupIter_at j1 fun o e => e5.extBut _ o D.TOi1.symm (e4.extBut _ o D.i12 (e3.extBut _ o D.TOi1.symm e))
  have j25 : g5.IsTupleIter i2 a2 (k + 1) := tupIter_at j2 fun o e => e5.extBut _ o D.TOi2.symm e
  -- the new pair
  refine wpAny_bind (wpAny_seqItems p5 rfl ?_)
  refine wpAny_bind (wpAny_newTuple ?_)
  show wpAny _ _ (Builtin.SmallTypes.ownedTupleHandOut (.ref z) (.ref g5.objs.size) >>= _) _ _ _
  refine wpAny_bind ?_
  unfold Builtin.SmallTypes.ownedTupleHandOut
  have hz6 : IsZip (g5.push { cls := .type "tuple", data := .seq #[x, y] }) z TI TO .ellipsis := Heap.get?_push_of_some _ hz5
  refine wpAny_bind (wpAny_setField_rec hz6 (by simp) fun g7 hz7 e7 => ?_)
  replace hz7 : IsZip g7 z TI TO (rawInt g5.objs.size) := hz7
  refine wpAny_setField_rec hz7 (by simp) fun g8 hz8 e8 => ?_
  replace hz8 : IsZip g8 z TI TO (rawInt g5.objs.size) := hz8
  have E8 : ∀ c o, c ≠ z → g5.get? c = some o → g8.get? c = some o := fun c o hc e => e8.extBut c o hc (e7.extBut c o hc (Heap.get?_push_of_some _ e))
  have hsz : g5.objs.size = s.heap.objs.size := by rw [e5.1, e4.1, e3.1, e2.1, e1.1]
  have zlt : z < g5.objs.size := Heap.lt_size hz5
  refine wpAny_pure ⟨_, rfl, hQ g5.objs.size g8 ⟨hz8, E8 _ _ D.TIz (E5 _ _ D.TIz D.TIi1 D.TITO D.TIi2 hTI), ⟨_, _, E8 _ _ D.TOz p5⟩, tupIter_at j15 fun o => E8 _ o D.i1z, tupIter_at j25 fun o => E8 _ o D.i2z,
    tup_at t1 fun o e => E8 _ o D.l1z (E5 _ o D.l1z D.l1i1 D.l1TO D.l1i2 e), tup_at t2 fun o e => E8 _ o D.l2z (E5 _ o D.l2z D.l2i1 D.l2TO D.l2i2 e)⟩
    (e8.extBut _ _ (Nat.ne_of_gt zlt) (e7.extBut _ _ (Nat.ne_of_gt zlt) (Heap.get?_push_size _ rfl))) (Nat.le_of_eq hsz.symm) fun c o c1 c2 c3 c4 e => E8 c o c1 (E5 c o c1 c3 c2 c4 e)⟩
theorem zip_end {z TI TO i1 i2 a1 a2 : Addr} {k : Nat} {xs ys : Array Value} {Q : Fin → Shared → Prop} (hh : A.handled = none) (D : ZipApart z TI TO i1 i2 a1 a2) (st : ZSt z TI TO i1 i2 a1 a2 xs ys .none k k s.heap) (hx : xs[k]? = none)
    (hE : ∀ h' e, (∀ c o, c ≠ z → c ≠ TO → c ≠ i1 → c ≠ i2 → s.heap.get? c = some o → h'.get? c = some o) → (∃ o, h'.get? e = some o ∧ o.cls = .type "StopIteration") → E (.ref e) { s with heap := h' }) :
    wpAny (model prog w) A (Builtin.«zip.__next__» ⟨[.ref z], []⟩) Q E s := by
  obtain ⟨hz, hTI, ⟨a, b, hTO⟩, h1, h2, t1, t2⟩ := st
  show wpAny _ _ (field (.ref z) 2 >>= _) _ _ _
  refine wpAny_bind (wpAny_field hz rfl (x := .bool false) rfl ?_)
  show wpAny _ _ (field (.ref z) 3 >>= _) _ _ _
  refine wpAny_bind (wpAny_field hz rfl (x := .ref TI) rfl ?_)
  refine wpAny_bind (wpAny_seqItems hTI rfl ?_)
  show wpAny _ _ (Builtin.SmallTypes.ownedTupleIsFree (.ref z) >>= _) _ _ _
  refine wpAny_bind ?_
  unfold Builtin.SmallTypes.ownedTupleIsFree
  refine wpAny_bind (wpAny_field hz rfl (x := .none) rfl (wpAny_pure ?_))
  simp only [if_true]
  refine wpAny_bind (wpAny_rule ?_)
  refine wpAny_bind (wpAny_field hz rfl (x := .ref TO) rfl ?_)
  refine wpAny_bind (wpAny_setField_rec hz (by simp) fun g1 hz1 e1 => ?_)
  replace hz1 : IsZip g1 z TI TO .ellipsis := hz1
  refine wpAny_bind ?_
  simp only [List.zipIdx_cons, List.zipIdx_nil, List.forIn_cons, List.forIn_nil]
  have E1 : ∀ c o, c ≠ z → s.heap.get? c = some o → g1.get? c = some o := fun c o hc e => e1.extBut c o hc e
  refine wpAny_bind (wpAny_bind (wpAny_onRaise ?_))
  show wpAny _ _ (Builtin.SmallTypes.nextOf (.ref i1) >>= _) _ _ _
  refine wpAny_bind (nextOf_tup_end hh (tupIter_at h1 fun o => E1 _ o D.i1z) (tup_at t1 fun o => E1 _ o D.l1z) hx fun g2 e e2 he => ?_)
  obtain ⟨oe, hoe, hce⟩ := he
  have hz2 : IsZip g2 z TI TO .ellipsis := e2 _ _ D.i1z.symm hz1
  have hez : e ≠ z := fun q => by subst q; rw [hz2] at hoe; cases hoe; simp at hce
  refine wpAny_setField_rec hz2 (by simp) fun g3 _ e3 => hE g3 e (fun c o c1 _ c3 _ q => e3.extBut _ _ c1 (e2 _ _ c3 (E1 c o c1 q))) ⟨oe, e3.extBut _ _ hez hoe, hce⟩
theorem zip_next {z TI TO i1 i2 a1 a2 : Addr} {k : Nat} {xs ys : Array Value} {x y : Value} {Q : Option Value → Shared → Prop} (D : ZipApart z TI TO i1 i2 a1 a2) (st : ZSt z TI TO i1 i2 a1 a2 xs ys .none k k s.heap) (hx : xs[k]? = some x) (hy : ys[k]? = some y)
    (hQ : ∀ (T : Addr) h', ZSt z TI TO i1 i2 a1 a2 xs ys (rawInt T) (k + 1) (k + 1) h' → IsPair h' T x y → s.heap.objs.size ≤ T → (∀ c o, c ≠ z → c ≠ TO → c ≠ i1 → c ≠ i2 → s.heap.get? c = some o → h'.get? c = some o) → Q (some (.ref T)) { s with heap := h' }) :
    wpAny (model prog w) A (pyNext (.ref z)) Q E s := by
  have hT : s.TypeIs (.ref z) "zip" := ⟨_, st.1, rfl⟩
  unfold pyNext
  exact wpAny_bind (wpAny_attempt (wpAny_callSpecial?_slot (name := Str.ofString "__next__") hT F.slot_zip_next (wpAny_call_entry F.slot_zip_next hT F.entry_zip_next
    (zip_item D st hx hy fun T h' q1 q2 q3 q4 => wpAny_pure (hQ T h' q1 q2 q3 q4)) (F.args_zip_next_1 _))))
theorem zip_stop {z TI TO i1 i2 a1 a2 : Addr} {k : Nat} {xs ys : Array Value} {Q : Option Value → Shared → Prop} (hh : A.handled = none) (D : ZipApart z TI TO i1 i2 a1 a2) (st : ZSt z TI TO i1 i2 a1 a2 xs ys .none k k s.heap) (hx : xs[k]? = none)
    (hQ : ∀ h', (∀ c o, c ≠ z → c ≠ TO → c ≠ i1 → c ≠ i2 → s.heap.get? c = some o → h'.get? c = some o) → Q none { s with heap := h' }) : wpAny (model prog w) A (pyNext (.ref z)) Q E s := by
  have hT : s.TypeIs (.ref z) "zip" := ⟨_, st.1, rfl⟩
  unfold pyNext
  refine wpAny_bind (wpAny_attempt (wpAny_callSpecial?_slot (name := Str.ofString "__next__") hT F.slot_zip_next (wpAny_call_entry F.slot_zip_next hT F.entry_zip_next (zip_end hh D st hx fun h' e hk he => ?_) (F.args_zip_next_1 _))))
  obtain ⟨o, ho, hc⟩ := he
  exact wpAny_bind (wpAny_isInstance (T := "StopIteration") (b := true) ⟨o, ho, hc⟩ isSubtype_stop (wpAny_pure (hQ _ hk)))
abbrev tzH1 (h : Heap) (l : Addr) : Heap := h.push { cls := .type "tuple_iterator", data := .fields #[.ref l, .int 0 0] }
abbrev tzH3 (h : Heap) (l l' : Addr) : Heap := (tzH1 (tzH1 h l) l').push { cls := .type "tuple", data := .seq #[.ref h.objs.size, .ref (tzH1 h l).objs.size] }
abbrev tzH4 (h : Heap) (l l' : Addr) : Heap := (tzH3 h l l').push { cls := .type "tuple", data := .seq #[.none, .none] }
abbrev tzH5 (h : Heap) (l l' : Addr) : Heap := (tzH4 h l l').push { cls := .type "zip", data := .fields #[.none, .bool false, .bool false, .ref (tzH1 (tzH1 h l) l').objs.size, .ref (tzH3 h l l').objs.size] }
theorem zip_new (l1 l2 : Addr) (xs ys : Array Value) :
    Meets (Builtin.«zip.__new__» ⟨[.type "zip", .ref l1, .ref l2], []⟩) (fun _ R s => s.heap.IsTuple l1 xs ∧ s.heap.IsTuple l2 ys ∧ R (.ok (.ret (.ref (tzH4 s.heap l1 l2).objs.size))) { s with heap := tzH5 s.heap l1 l2 }) :=
  .of_wp fun prog w A R s h => by
    obtain ⟨hp, g, d, tk, os⟩ := s; obtain ⟨hl1, hl2, h⟩ := h
    have hsub := sub_zip
    have hL1 : Heap.IsTuple (Shared.heap ⟨hp, g, d, tk, os⟩) l1 xs := hl1
    have hL2 : Heap.IsTuple (Shared.heap ⟨hp.push { cls := .type "tuple_iterator", data := .fields #[.ref l1, .int 0 0] }, g, d, tk, os⟩) l2 ys := Heap.IsTuple.push hl2 _
    wp_walk using wpAny_pyIter_tuple hL1, wpAny_pyIter_tuple hL2
    exact ⟨_, rfl, h⟩
theorem call_zip {l1 l2 : Addr} {xs ys : Array Value} {Q : Value → Shared → Prop} (hl1 : s.heap.IsTuple l1 xs) (hl2 : s.heap.IsTuple l2 ys)
    (h : ∀ h', ZSt (s.heap.objs.size + 4) (s.heap.objs.size + 2) (s.heap.objs.size + 3) s.heap.objs.size (s.heap.objs.size + 1) l1 l2 xs ys .none 0 0 h' → h'.objs.size = s.heap.objs.size + 5 →
      (∀ c o, s.heap.get? c = some o → h'.get? c = some o) → Q (.ref (s.heap.objs.size + 4)) { s with heap := h' }) :
    wpAny (model prog w) A (call (.type "zip") [.ref l1, .ref l2]) Q E s := by
  refine callType_new F.called_zip (by decide) (F.typeCall_zip_2 _ _) (F.newCall_zip_2 _ _) (fun obj => F.args_object_init_3 obj _ _) F.entry_zip_new (zip_new l1 l2 xs ys) ⟨hl1, hl2, ?_⟩
  have n1 : (tzH1 s.heap l1).objs.size = s.heap.objs.size + 1 := Heap.size_push ..
  have n2 : (tzH1 (tzH1 s.heap l1) l2).objs.size = s.heap.objs.size + 2 := by rw [Heap.size_push, n1]
  have n3 : (tzH3 s.heap l1 l2).objs.size = s.heap.objs.size + 3 := by rw [Heap.size_push, n2]
  have n4 : (tzH4 s.heap l1 l2).objs.size = s.heap.objs.size + 4 := by rw [Heap.size_push, n3]
  have n5 : (tzH5 s.heap l1 l2).objs.size = s.heap.objs.size + 5 := by rw [Heap.size_push, n4]
  have up5 : ∀ c o, (tzH4 s.heap l1 l2).get? c = some o → (tzH5 s.heap l1 l2).get? c = some o := fun c o e => Heap.get?_push_of_some _ e
  have up4 : ∀ c o, (tzH3 s.heap l1 l2).get? c = some o → (tzH5 s.heap l1 l2).get? c = some o := fun c o e => up5 c o (Heap.get?_push_of_some _ e)
  have up3 : ∀ c o, (tzH1 (tzH1 s.heap l1) l2).get? c = some o → (tzH5 s.heap l1 l2).get? c = some o := fun c o e => up4 c o (Heap.get?_push_of_some _ e)
  have up2 : ∀ c o, (tzH1 s.heap l1).get? c = some o → (tzH5 s.heap l1 l2).get? c = some o := fun c o e => up3 c o (Heap.get?_push_of_some _ e)
  have up1 : ∀ c o, s.heap.get? c = some o → (tzH5 s.heap l1 l2).get? c = some o := fun c o e => up2 c o (Heap.get?_push_of_some _ e)
  have g5 : (tzH5 s.heap l1 l2).get? (tzH4 s.heap l1 l2).objs.size = some _ := Heap.get?_push_size _ rfl
  have g4 : (tzH5 s.heap l1 l2).get? (tzH3 s.heap l1 l2).objs.size = some _ := up5 _ _ (Heap.get?_push_size _ rfl)
  have g3 : (tzH5 s.heap l1 l2).get? (tzH1 (tzH1 s.heap l1) l2).objs.size = some _ := up4 _ _ (Heap.get?_push_size _ rfl)
  have g2 : (tzH5 s.heap l1 l2).get? (tzH1 s.heap l1).objs.size = some _ := up3 _ _ (Heap.get?_push_size _ rfl)
  have g1 : (tzH5 s.heap l1 l2).get? s.heap.objs.size = some _ := up2 _ _ (Heap.get?_push_size _ rfl)
  show _ ∧ _
  rw [n2, n3, n4] at g5
  rw [n1, n2] at g3
  rw [n3] at g4
  rw [n1] at g2
  rw [n4]
  exact ⟨⟨_, g5, rfl⟩, h _ ⟨g5, g3, ⟨_, _, g4⟩, ⟨_, g1, rfl, rfl⟩, ⟨_, g2, rfl, rfl⟩, tup_at hl1 fun o => up1 _ o, tup_at hl2 fun o => up1 _ o⟩ n5 up1⟩
end
end PartZ1
section PartZ2
open PySem PySem.W PyProof.Rows PySem.Calls PyProof.Rows.LCg
theorem ints_at : ∀ {vs : List Value} {ns : List Int} {i : Nat}, IntsAre vs ns → i < ns.length → ∃ t, vs[i]? = some (.int (ns.getD i 0) t)
  | _, _, 0, .cons n t _, _ => ⟨t, rfl⟩
  | _, _, i + 1, .cons _ _ r, h => ints_at (i := i) r (Nat.lt_of_succ_lt_succ h)
theorem ints_snoc {vs : List Value} {ns : List Int} {a : Int} {t : Tok} (h : IntsAre vs ns) : IntsAre (vs ++ [.int a t]) (ns ++ [a]) := h.append (.cons a t .nil)
def sums (ns ks : List Int) : List Int := List.zipWith (· + ·) ns ks
theorem sums_take {ns ks : List Int} (hl : ns.length = ks.length) {i : Nat} (h : i < ns.length) : (sums ns ks).take (i + 1) = (sums ns ks).take i ++ [ns.getD i 0 + ks.getD i 0] := by
  have hz : i < (sums ns ks).length := by simp [sums]; omega
  rw [List.take_succ_eq_append_getElem hz]
  congr 2
  simp only [sums, List.getElem_zipWith]
  rw [List.getD_eq_getElem?_getD, List.getD_eq_getElem?_getD, List.getElem?_eq_getElem h, List.getElem?_eq_getElem (by omega)]
  rfl
/-- what a comprehension over a zip of two tuples starts from -/
def ZSrc (h₀ : Heap) (L : Addr) (m : Str → Option Value) (news : List (Addr × Obj)) (xs ys : List Value) (ns ks : List Int) (Q : Value → Shared → Prop) (xv : Value) (s₁ : Shared) : Prop :=
  ∃ z TI TO i1 i2 a1 a2, ∃ K0 : Heap, xv = .ref z ∧ ZipApart z TI TO i1 i2 a1 a2 ∧ ZSt z TI TO i1 i2 a1 a2 xs.toArray ys.toArray .none 0 0 s₁.heap ∧ (∀ c o, K0.get? c = some o → s₁.heap.get? c = some o) ∧
    K0.get? z = none ∧ K0.get? TO = none ∧ K0.get? i1 = none ∧ K0.get? i2 = none ∧ Fr h₀ L K0 m ∧ News h₀ L K0 news ∧
    ∀ D h tk ws, IntsAre ws (sums ns ks) → Fr h₀ L h m → News h₀ L h ((D, lst ws) :: news) → Q (.ref D) { s₁ with heap := h, toks := tk }
def ZSrcE (h₀ : Heap) (L : Addr) (m : Str → Option Value) (news : List (Addr × Obj)) (Q : Value → Shared → Prop) (xv : Value) (s₁ : Shared) : Prop :=
  ∃ xs ys ns ks, IntsAre xs ns ∧ IntsAre ys ks ∧ ns.length = ks.length ∧ ns.length ≤ sizeLine ∧ ZSrc h₀ L m news xs ys ns ks Q xv s₁
section
variable {prog : Program} {w : World} {A : Around} {E : Value → Shared → Prop} {s : Shared} {h₀ : Heap} {L : Addr} {m : Str → Option Value} {env : Env} {news : List (Addr × Obj)}
theorem zip_comp {a b : Str} {pa pb qa qb tp bp : Pos} {kk : Nat} {iter : PySem.Expr} {scope : Scope} {cl : List (Str × Addr)} {pos : Pos} {Q : Value → Shared → Prop} (_F : Fr h₀ L s.heap m) (_N : News h₀ L s.heap news) (hh : A.handled = none)
    (hclos : closureFor scope env = pure cl) (hcell : ∀ y ∈ scope.names, y.2 ≠ .cell) (hkind : scope.kind = .function) (hnames : ∀ y ∈ scope.names, y.2 = .local → scope.names.lookup y.1 = some .local)
    (hxa : scope.names.lookup a = some .local) (hxb : scope.names.lookup b = some .local) (hab : ¬ a = b) (hda : (a == ("__debug__" : Str)) = false) (hdb : (b == ("__debug__" : Str)) = false)
    (h : wpAny (model prog w) A (eval iter env) (ZSrcE h₀ L m news Q) E s) (hs : ∀ x, foldedSetIterable iter env x = pure x := by intro _; rfl) :
    wpAny (model prog w) A (eval (.ListComp (.BinOp (.Name a qa) .Add (.Name b qb) bp) [⟨.Tuple [.Name a pa, .Name b pb] kk tp, iter, [], 0⟩] scope pos) env) Q E s := by
  rw [eval_ListComp]
  refine wpAny_comprehension_free (use := none) rfl hs hclos hkind hnames (wpAny_mono h (fun xv s₁ h₁ => ?_) fun _ _ e => e)
  obtain ⟨xs, ys, ns, ks, hi, hk, hl, hsz, z, TI, TO, i1, i2, a1, a2, K0, rfl, D, st, up0, k1, k2, k3, k4, F, N, fin⟩ := h₁
  refine wpAny_pyIter_zip st.1 ?_
  -- the new list, the block's names
  refine wpAny_newObj_type (wpAny_newFunctionEnv hcell (by intro y hy; simp at hy) (fun g1 hns1 e1 => ?_) hkind)
  dsimp only at hns1 e1 ⊢
  generalize hH2 : s₁.heap.push { cls := .type "list", dict := none, data := .seq ([] : List Value).toArray } = H2 at hns1 e1 ⊢
  have hC : H2.objs.size = s₁.heap.objs.size + 1 := by rw [← hH2, Heap.size_push]
  have old1 : ∀ c o, s₁.heap.get? c = some o → g1.get? c = some o := fun c o e => e1.extBut c o (by have := Heap.lt_size e; rw [hC]; exact Nat.ne_of_lt (Nat.lt_succ_of_lt this)) (Heap.get?_push_of_some _ (hH2 ▸ Heap.get?_push_of_some _ e))
  have hDC : s₁.heap.objs.size ≠ H2.objs.size := by rw [hC]; exact Nat.ne_of_lt (Nat.lt_succ_self _)
  have hacc : g1.get? s₁.heap.objs.size = some (lst []) := e1.extBut _ _ hDC (Heap.get?_push_of_some _ (hH2 ▸ Heap.get?_push_size _ rfl))
  have below : ∀ {c o}, s₁.heap.get? c = some o → c ≠ s₁.heap.objs.size ∧ c ≠ H2.objs.size := fun e => ⟨Nat.ne_of_lt (Heap.lt_size e), by (have := Heap.lt_size e; rw [hC]; exact Nat.ne_of_lt (Nat.lt_succ_of_lt this))⟩
  have hk0 : ∀ {c o}, K0.get? c = some o → c ≠ z ∧ c ≠ TO ∧ c ≠ i1 ∧ c ≠ i2 := fun e => ⟨fun q => by (rw [q, k1] at e; cases e), fun q => by (rw [q, k2] at e; cases e), fun q => by (rw [q, k3] at e; cases e), fun q => by (rw [q, k4] at e; cases e)⟩
  obtain ⟨hz, hTI, ⟨ta, tb, hTO⟩, ⟨oi1, j1, r1⟩, ⟨oi2, j2, r2⟩, ⟨oa1, t1, r3⟩, ⟨oa2, t2, r4⟩⟩ := id st
  have bz := below hz
  have bTI := below hTI
  have bTO := below hTO
  have b1 := below j1
  have b2 := below j2
  have ba1 := below t1
  have ba2 := below t2
  have st1 : ZSt z TI TO i1 i2 a1 a2 xs.toArray ys.toArray .none 0 0 g1 := st.at fun c o _ => old1 c o
  have hlx : xs.length = ns.length := hi.length
  have loop : ∀ s₃ : Shared, s₃ = { s₁ with heap := g1, toks := s₁.toks + ([] : List (Str × Value)).length } →
      codeAny (model prog w) A (.compLoop (.ListComp (.BinOp (.Name a qa) .Add (.Name b qb) bp) [⟨.Tuple [.Name a pa, .Name b pb] kk tp, iter, [], 0⟩] scope pos) 0 (.ref z) (.ref s₁.heap.objs.size) (compEnvC scope cl H2.objs.size env))
        (compPost (model prog w) A E none Q (.ref s₁.heap.objs.size) H2.objs.size) s₃ := by
    rintro s₃ rfl
    refine kcp_loop (fun k s' => ∃ h' tk i ws m', s' = { s₁ with heap := h', toks := tk } ∧ i ≤ ns.length ∧ k = ns.length + 1 - i ∧ ZSt z TI TO i1 i2 a1 a2 xs.toArray ys.toArray .none i i h' ∧ h'.Ns H2.objs.size m' ∧
        h'.get? s₁.heap.objs.size = some (lst ws) ∧ IntsAre ws ((sums ns ks).take i) ∧ (∀ c o, K0.get? c = some o → h'.get? c = some o)) ?_ (ns.length + 1)
      ⟨g1, _, 0, [], _, rfl, Nat.zero_le _, rfl, st1, hns1, hacc, .nil, fun c o e => old1 c o (up0 c o e)⟩
    rintro k s' ⟨h', tk, i, ws, m', rfl, hin, rfl, st', hn', hD', hw, up⟩
    by_cases hlt : i < ns.length
    · obtain ⟨tx, hx⟩ := ints_at hi hlt
      obtain ⟨ty, hy⟩ := ints_at hk (by omega : i < ks.length)
      refine zip_next D st' (by simpa using hx) (by simpa using hy) fun T f1 q1 q2 q3 q4 => ?_
      have hTD : T ≠ s₁.heap.objs.size := Nat.ne_of_gt (Nat.lt_of_lt_of_le (Heap.lt_size hD') q3)
      have hTC : T ≠ H2.objs.size := Nat.ne_of_gt (Nat.lt_of_lt_of_le hn'.lt q3)
      obtain ⟨hz1, r⟩ := q1
      refine wpAny_letOwnedTupleGo_zip hz1 fun f2 hz2 e2 => ?_
      have q2z : T ≠ z := fun q => by
        have := Heap.lt_size st'.1
        exact Nat.lt_irrefl _ (Nat.lt_of_lt_of_le (q ▸ this) q3)
      have q2' : f2.IsTuple T #[.int (ns.getD i 0) tx, .int (ks.getD i 0) ty] := ⟨_, e2.extBut _ _ q2z q2, rfl, _, rfl⟩
      have E2 : ∀ c o, c ≠ z → c ≠ TO → c ≠ i1 → c ≠ i2 → h'.get? c = some o → f2.get? c = some o := fun c o c1 c2 c3 c4 e => e2.extBut c o c1 (q4 c o c1 c2 c3 c4 e)
      have hn2 : f2.Ns H2.objs.size m' := hn'.at' fun o e => E2 _ o bz.2.symm bTO.2.symm b1.2.symm b2.2.symm e
      refine kcp_assign (env := compEnvC scope cl H2.objs.size env) hh q2' (lookup_relabel_local hxa) (lookup_relabel_local hxb) (by simp [compEnvC, relabel, hkind]) hn2 fun f3 tk3 hn3 e3 => ?_
      refine wpAny_BinOp (ldVarK (C := H2.objs.size) hn3 (v := .int (ns.getD i 0) tx) (by simp [hab]) ?_ (by simp [compEnvC, relabel, hkind]) (lookup_relabel_local hxa) hda)
      refine ldVarK (C := H2.objs.size) hn3 (v := .int (ks.getD i 0) ty) (by simp) ?_ (by simp [compEnvC, relabel, hkind]) (lookup_relabel_local hxb) hdb
      refine add_int ?_
      have hD3 : f3.get? s₁.heap.objs.size = some (lst ws) := e3 _ _ hDC (E2 _ _ bz.1.symm bTO.1.symm b1.1.symm b2.1.symm hD')
      have hsz5 : ws.toArray.size ≤ sizeLine := by
        have := hw.length
        rw [List.size_toArray, this, List.length_take]
        exact Nat.le_trans (Nat.min_le_left _ _) (Nat.le_trans hin hsz)
      refine append_at (hsz := hsz5) hD3 fun f4 e4 hD4 => ?_
      · have zst : ZSt z TI TO i1 i2 a1 a2 xs.toArray ys.toArray .none (i + 1) (i + 1) f2 := by
          obtain ⟨r0, ⟨p, p', r1⟩, r2, r3, r4, r5⟩ := r
          exact ⟨hz2, e2.extBut _ _ D.TIz r0, ⟨p, p', e2.extBut _ _ D.TOz r1⟩, tupIter_at r2 fun o => e2.extBut _ o D.i1z, tupIter_at r3 fun o => e2.extBut _ o D.i2z, tup_at r4 fun o => e2.extBut _ o D.l1z, tup_at r5 fun o => e2.extBut _ o D.l2z⟩
        have z4 : ZSt z TI TO i1 i2 a1 a2 xs.toArray ys.toArray .none (i + 1) (i + 1) f4 := zst.at fun c o hc e => by
          have hcb : c ≠ s₁.heap.objs.size ∧ c ≠ H2.objs.size := by rcases hc with rfl | rfl | rfl | rfl | rfl | rfl | rfl <;> assumption
          exact e4.extBut c o hcb.1 (e3 c o hcb.2 e)
        refine ⟨ns.length + 1 - (i + 1), by omega, f4, _, i + 1, ws ++ [.int (ns.getD i 0 + ks.getD i 0) _], _, rfl, hlt, rfl, z4, hn3.sameBut e4 (Ne.symm hDC), hD4.trans (congrArg some (lst_snoc ws _)), ?_, fun c o e => ?_⟩
        · rw [sums_take hl hlt]
          exact ints_snoc hw
        · have c0 := hk0 e
          have cb := below (up0 c o e)
          exact e4.extBut c o cb.1 (e3 c o cb.2 (E2 c o c0.1 c0.2.1 c0.2.2.1 c0.2.2.2 (up c o e)))
    · obtain rfl : i = ns.length := Nat.le_antisymm hin (Nat.not_lt.mp hlt)
      refine zip_stop hh D st' (by simp [hlx]) fun f1 q4 => ?_
      refine ⟨m', hn'.at' fun o e => q4 _ o bz.2.symm bTO.2.symm b1.2.symm b2.2.symm e, fun f2 e2 => ?_⟩
      have hall : (sums ns ks).take ns.length = sums ns ks := List.take_of_length_le (by simp [sums]; omega)
      rw [hall] at hw
      have hD1 : f2.get? s₁.heap.objs.size = some (lst ws) := e2.extBut _ _ hDC (q4 _ _ bz.1.symm bTO.1.symm b1.1.symm b2.1.symm hD')
      have up2 : ∀ c o, K0.get? c = some o → f2.get? c = some o := fun c o e => by
        have c0 := hk0 e
        have cb := below (up0 c o e)
        exact e2.extBut c o cb.2 (q4 c o c0.1 c0.2.1 c0.2.2.1 c0.2.2.2 (up c o e))
      have lt0 : ∀ {c o}, K0.get? c = some o → c < s₁.heap.objs.size := fun e => Heap.lt_size (up0 _ _ e)
      refine fin _ f2 _ ws hw (F.keeps up2) fun p hp => ?_
      rcases List.mem_cons.mp hp with rfl | hp
      · refine ⟨hD1, ?_, ?_⟩
        · exact Nat.ne_of_gt (by obtain ⟨_, _, _, e, _⟩ := F.ns; exact lt0 e)
        · cases q : h₀.get? s₁.heap.objs.size with
          | none => rfl
          | some o => exact absurd (lt0 (F.keep _ o q)) (Nat.lt_irrefl _)
      · exact ⟨up2 _ _ (N p hp).1, (N p hp).2⟩
  exact codeAny_compStart_list (loop _ rfl) (wpAny_pyIter_zip st1.1 (loop _ rfl))
theorem ints5 {ws : List Value} {c0 c1 c2 c3 c4 : Int} (h : IntsAre ws [c0, c1, c2, c3, c4]) : ∃ t0 t1 t2 t3 t4, ws = [.int c0 t0, .int c1 t1, .int c2 t2, .int c3 t3, .int c4 t4] := by
  cases h with
  | cons _ t0 r => cases r with
    | cons _ t1 r => cases r with
      | cons _ t2 r => cases r with
        | cons _ t3 r => cases r with
          | cons _ t4 r => cases r with
            | nil => exact ⟨t0, t1, t2, t3, t4, rfl⟩
theorem tz_apart {n l1 l2 : Addr} (h1 : l1 < n) (h2 : l2 < n) : ZipApart (n + 4) (n + 2) (n + 3) n (n + 1) l1 l2 := zipApart_new h1 h2
theorem zip_src {a1 a2 : Addr} {x0 x1 x2 x3 x4 y0 y1 y2 y3 y4 : Int} {t0 t1 t2 t3 t4 u0 u1 u2 u3 u4 : Tok} {c c' : Nat} {Q : Value → Shared → Prop} (F : Fr h₀ L s.heap m) (N : News h₀ L s.heap news)
    (m1 : (a1, ({ cls := .type "tuple", data := .seq #[.int x0 t0, .int x1 t1, .int x2 t2, .int x3 t3, .int x4 t4] c } : Obj)) ∈ news) (m2 : (a2, ({ cls := .type "tuple", data := .seq #[.int y0 u0, .int y1 u1, .int y2 u2, .int y3 u3, .int y4 u4] c' } : Obj)) ∈ news)
    (fin : ∀ D h tk v0 v1 v2 v3 v4, Fr h₀ L h m → News h₀ L h ((D, lst [.int (x0 + y0) v0, .int (x1 + y1) v1, .int (x2 + y2) v2, .int (x3 + y3) v3, .int (x4 + y4) v4]) :: news) → Q (.ref D) { s with heap := h, toks := tk }) :
    wpAny (model prog w) A (call (.type "zip") [.ref a1, .ref a2]) (ZSrcE h₀ L m news Q) E s := by
  have g1 : s.heap.IsTuple a1 ([.int x0 t0, .int x1 t1, .int x2 t2, .int x3 t3, .int x4 t4] : List Value).toArray := ⟨_, (N _ m1).1, rfl, _, rfl⟩
  have g2 : s.heap.IsTuple a2 ([.int y0 u0, .int y1 u1, .int y2 u2, .int y3 u3, .int y4 u4] : List Value).toArray := ⟨_, (N _ m2).1, rfl, _, rfl⟩
  have l1 : a1 < s.heap.objs.size := Heap.lt_size (N _ m1).1
  have l2 : a2 < s.heap.objs.size := Heap.lt_size (N _ m2).1
  refine call_zip g1 g2 fun h' st _ up => ?_
  have new : ∀ k, s.heap.get? (s.heap.objs.size + k) = none := fun k => by
    cases q : s.heap.get? (s.heap.objs.size + k) with
    | none => rfl
    | some o => exact absurd (Heap.lt_size q) (Nat.not_lt.mpr (Nat.le_add_right _ _))
  refine ⟨_, _, [x0, x1, x2, x3, x4], [y0, y1, y2, y3, y4], .cons _ _ (.cons _ _ (.cons _ _ (.cons _ _ (.cons _ _ .nil)))), .cons _ _ (.cons _ _ (.cons _ _ (.cons _ _ (.cons _ _ .nil)))), rfl, by (rw [sizeLine_eq]; show 5 ≤ 16777216; decide),
    _, _, _, _, _, _, _, s.heap, rfl, tz_apart l1 l2, st, up, new 4, new 3, new 0, new 1, F, N, fun D h tk ws hw F' N' => ?_⟩
  obtain ⟨v0, v1, v2, v3, v4, rfl⟩ := ints5 hw
  exact fin D h tk v0 v1 v2 v3 v4 F' N'
end
end PartZ2
section PartLaw
local macro_rules | `(tactic| walk_at "mine ask") => `(tactic| k_dflt (
  (case k1 => first | k_asm | ktn_no "mine: the frames below"); (case k2 => first | k_asm | ktn_no "mine: the frame"); (case k3 => first | k_asm | ktn_no "mine: the part"); (case k4 => first | k_asm | ktn_no "mine: the ledger"); (case k5 => first | k_asm | ktn_no "mine: the top");
  (case kK => first | exact rfl | assumption | ktn_no "mine: the caller"); (case kd => first | ktr_room | ktn_no "mine: room"); (case ku => first | ktr_units | ktn_no "mine: units")))
local macro_rules | `(tactic| walk_at "call ref") => `(tactic| (k_here; (with_reducible show wpAny _ _ (call (Value.ref 87) [Value.int _ _]) _ _ _);  k_dflt (refine' specT_use (toHaabS _ _ ?h0) ?k1 ?k2 ?k3 ?k4 ?k5 ?kK ?kd ?ku ?_); (case h0 => first | with_reducible omega | fail "mine: the day is not known to lie in the count"); walk_at "mine ask"; intro D9 t9 u9 h9 tk9 P9 F9 N9 l9; (clear P9 l9); (try dsimp only at N9); (try dsimp only); (try k_sweep)))
local macro_rules | `(tactic| walk_at "call ref") => `(tactic| (k_here; (with_reducible show wpAny _ _ (call (Value.ref 94) [Value.int _ _]) _ _ _);  k_dflt (refine' specT_use (toTzolkinS _ _ ?h0) ?k1 ?k2 ?k3 ?k4 ?k5 ?kK ?kd ?ku ?_); (case h0 => first | with_reducible omega | fail "mine: the day is not known to lie in the count"); walk_at "mine ask"; intro D9 t9 u9 h9 tk9 P9 F9 N9 l9; (clear l9); (try dsimp only at N9); (try dsimp only); (try k_sweep)))
local macro_rules | `(tactic| walk_at "call ref") => `(tactic| (k_here; (with_reducible show wpAny _ _ (call (Value.ref 73) [Value.int _ _]) _ _ _);  k_dflt (refine' specQ_use (fromJdS _ _ ?h0) ?k1 ?k2 ?k3 ?k4 ?k5 ?kK ?kd ?ku ?_); (case h0 => first | with_reducible omega | fail "mine: the day is not known to lie in the count"); walk_at "mine ask"; intro D9 t9 u9 v9 w9 x9 h9 tk9 P9 F9 N9 l9; (clear P9 l9); (try dsimp only); (try k_sweep)))
local macro_rules | `(tactic| walk_at "call ref") => `(tactic| (k_here; (with_reducible show wpAny _ _ (call (Value.ref 73) [Value.int (_ + _) _]) _ _ _);  k_dflt (refine' specQ_use (fromJdSumS _ _ _ ?h0 ?h2) ?k1 ?k2 ?k3 ?k4 ?k5 ?kK ?kd ?ku ?_); (case h0 => first | with_reducible omega | fail "mine: the day is not known to lie in the count"); (case h2 => first | with_reducible omega | (split <;> with_reducible omega)); walk_at "mine ask"; intro D9 t9 u9 v9 w9 x9 h9 tk9 P9 F9 N9 l9; (clear P9 l9); (try dsimp only); (try k_sweep)))
local macro_rules | `(tactic| walk_at "call ref") => `(tactic| (k_here; (with_reducible show wpAny _ _ (call (Value.ref 122) []) _ _ _);  k_dflt (refine' specB_use (bearersS) ?k1 ?k2 ?k3 ?k4 ?k5 ?kK ?kd ?ku ?_);  walk_at "mine ask"; intro D9 t9 u9 v9 w9 h9 tk9 F9 N9; (try dsimp only); (try k_sweep)))
local macro_rules | `(tactic| walk_at "call ref") => `(tactic| (k_here; (with_reducible show wpAny _ _ (call (Value.ref 66) [Value.int _ _, Value.int _ _, Value.int _ _, Value.int _ _, Value.int _ _]) _ _ _);  k_dflt (refine' specV_use (toJdSumS _ _ _ _ _ _ _) ?k1 ?k2 ?k3 ?k4 ?k5 ?kK ?kd ?ku ?_);  walk_at "mine ask"; intro t9 h9 tk9 P9 F9 N9; (clear P9); (try dsimp only); (try k_sweep)))
local macro_rules | `(tactic| walk_at "call ref") => `(tactic| (k_here; (with_reducible show wpAny _ _ (call (Value.ref 66) [Value.int 0 _, Value.int 0 _, Value.int 0 _, Value.int 0 _, Value.int 0 _]) _ _ _);  k_dflt (refine' specV_use (toJd0 _ _ _ _ _) ?k1 ?k2 ?k3 ?k4 ?k5 ?kK ?kd ?ku ?_);  walk_at "mine ask"; intro t9 h9 tk9 P9 F9 N9; (clear P9); (try dsimp only); (try k_sweep)))
local macro_rules | `(tactic| walk_at "call ref") => `(tactic| (k_here; (with_reducible show wpAny _ _ (call (Value.ref 101) [Value.int _ _, Value.int _ _, Value.int _ _, Value.int _ _, Value.int _ _]) _ _ _);  k_dflt (refine' specV_use (lcNewS _ _ _ _ _ _ ?h0 ?h1) ?k1 ?k2 ?k3 ?k4 ?k5 ?kK ?kd ?ku ?_); (case h0 => first | with_reducible omega | fail "mine: the day is not known to lie in the count"); (case h1 => assumption); walk_at "mine ask"; intro t9 h9 tk9 P9 F9 N9; (clear P9); (try dsimp only); (try k_sweep)))
local macro_rules | `(tactic| walk_at "call ref") => `(tactic| (k_here; (with_reducible show wpAny _ _ (call (Value.ref 101) [Value.int 0 _, Value.int 0 _, Value.int 0 _, Value.int 0 _, Value.int 0 _]) _ _ _);  k_dflt (refine' specV_use (lc0 _ _ _ _ _) ?k1 ?k2 ?k3 ?k4 ?k5 ?kK ?kd ?ku ?_);  walk_at "mine ask"; intro t9 h9 tk9 P9 F9 N9; (clear P9); (try dsimp only); (try k_sweep)))
local macro_rules | `(tactic| walk_at "call ref") => `(tactic| (k_here; (with_reducible show wpAny _ _ (call (Value.ref 80) [Value.int 13 _, Value.int 0 _, Value.int 0 _, Value.int 0 _, Value.int 0 _]) _ _ _);  k_dflt (refine' specH_use (gregS _ _ _ _ _) ?k1 ?k2 ?k3 ?k4 ?k5 ?kK ?kd ?ku ?_);  walk_at "mine ask"; intro D9 t9 u9 v9 h9 tk9 P9 F9 N9 l9; (clear P9 l9); (try dsimp only); (try k_sweep)))
local macro_rules | `(tactic| walk_at "call ref") => `(tactic| (k_here; (with_reducible show wpAny _ _ (call (Value.ref 115) [Value.str (Str.ofString "Pop") _, Value.int _ _]) _ _ _); (rename News _ _ _ _ => N7); (have N8 : News _ _ _ [_, _, _] := news_last3 N7); (clear N7); k_dflt (refine' specE_use (newE _ _ _ ?h0 ?h1) ?k1 ?k2 ?k3 ?k4 ?k5 ?kK ?kd ?ku ?_); (case h0 => first | with_reducible omega | fail "mine: the day is not known to lie in the count"); (case h1 => assumption); walk_at "mine ask"; intro x9 t9 h9 tk9 P9 F9 N9; (obtain ⟨P8, P7, P6⟩ := P9); (try dsimp only); (try k_sweep)))
local macro_rules | `(tactic| walk_at "call ref") => `(tactic| (k_here; (with_reducible show wpAny _ _ (call (Value.ref 115) [Value.str (Str.ofString "Pop") _, Value.int (_ + 19 + _) _]) _ _ _); (rename News _ _ _ _ => N7); (have N8 : News _ _ _ [_, _, _, _] := news_keep N7); (clear N7); k_dflt (refine' specV_use (laterS _ _ _ _ ?h0 ?h1 ?h2 ?h3) ?k1 ?k2 ?k3 ?k4 ?k5 ?kK ?kd ?ku ?_); (case h0 => first | with_reducible omega | fail "mine: the day is not known to lie in the count"); (case h1 => assumption); (case h2 => exact Int.fmod_nonneg_of_pos _ (by decide)); (case h3 => exact Int.fmod_lt_of_pos _ (by decide)); walk_at "mine ask"; intro t9 h9 tk9 P9 F9 N9; (try dsimp only); (try k_sweep)))
local macro_rules | `(tactic| walk_at "call ref") => `(tactic| (k_here; (with_reducible show wpAny _ _ (call (Value.ref 87) [Value.int _ _]) _ _ _);  k_dflt (refine' specT_use (haabPopS _ _ ?h0 ?h1) ?k1 ?k2 ?k3 ?k4 ?k5 ?kK ?kd ?ku ?_); (case h0 => first | with_reducible omega | fail "mine: the day is not known to lie in the count"); (case h1 => assumption); walk_at "mine ask"; intro D9 t9 u9 h9 tk9 P9 F9 N9 l9; (clear P9 l9); (try dsimp only at N9); (try dsimp only); (try k_sweep)))
local macro_rules | `(tactic| walk_at "call ref") => `(tactic| (k_here; (with_reducible show wpAny _ _ (call (Value.ref 115) [Value.str (List.getD _ _ _) _, Value.int _ _]) _ _ _);  k_dflt (refine' specV_use (monSym _ _ _ _ ?h0 ?h1 ?h2 ?h3) ?k1 ?k2 ?k3 ?k4 ?k5 ?kK ?kd ?ku ?_); (case h0 => first | with_reducible omega | fail "mine: the day is not known to lie in the count"); (case h1 => assumption); (case h2 => with_reducible omega); (case h3 => with_reducible omega); walk_at "mine ask"; intro t9 h9 tk9 P9 F9 N9; (clear P9); (try dsimp only); (try k_sweep)))
local macro_rules | `(tactic| walk_at "call ref") => `(tactic| (k_here; (with_reducible show wpAny _ _ (call (Value.ref 87) [Value.int (_ + 20 * _) _]) _ _ _);  k_dflt (refine' specT_use (haabMonSym _ _ _ ?h0 ?h1 ?h2 ?h3) ?k1 ?k2 ?k3 ?k4 ?k5 ?kK ?kd ?ku ?_); (case h0 => first | with_reducible omega | fail "mine: the day is not known to lie in the count"); (case h1 => assumption); (case h2 => with_reducible omega); (case h3 => with_reducible omega); walk_at "mine ask"; intro D9 t9 u9 h9 tk9 P9 F9 N9 l9; (clear P9 l9); (try dsimp only at N9); (try dsimp only); (try k_sweep)))
local macro_rules | `(tactic| walk_at "eval Call") => `(tactic| (k_here; (with_reducible show wpAny _ _ (eval (Expr.Call (Expr.Name (Str.ofString "next_haab") _) _ _ _) _) _ _ _); k_dflt (refine Call_ ?_)))
local macro_rules | `(tactic| walk_at "eval Call") => `(tactic| (k_here; (with_reducible show wpAny _ _ (eval (Expr.Call (Expr.Name (Str.ofString "to_haab") _) _ _ _) _) _ _ _); k_dflt (refine Call_ ?_)))
local macro_rules | `(tactic| walk_at "eval Call") => `(tactic| (k_here; (with_reducible show wpAny _ _ (eval (Expr.Call (Expr.Name (Str.ofString "to_tzolkin") _) _ _ _) _) _ _ _); k_dflt (refine Call_ ?_)))
local macro_rules | `(tactic| walk_at "eval Call") => `(tactic| (k_here; (with_reducible show wpAny _ _ (eval (Expr.Call (Expr.Name (Str.ofString "to_jd_mayan") _) _ _ _) _) _ _ _); k_dflt (refine Call_ ?_)))
local macro_rules | `(tactic| walk_at "eval Call") => `(tactic| (k_here; (with_reducible show wpAny _ _ (eval (Expr.Call (Expr.Name (Str.ofString "from_jd_mayan") _) _ _ _) _) _ _ _); k_dflt (refine Call_ ?_)))
local macro_rules | `(tactic| walk_at "eval Call") => `(tactic| (k_here; (with_reducible show wpAny _ _ (eval (Expr.Call (Expr.Name (Str.ofString "lc_to_haab_tzolkin") _) _ _ _) _) _ _ _); k_dflt (refine Call_ ?_)))
local macro_rules | `(tactic| walk_at "eval Call") => `(tactic| (k_here; (with_reducible show wpAny _ _ (eval (Expr.Call (Expr.Name (Str.ofString "to_gregorian") _) _ _ _) _) _ _ _); k_dflt (refine Call_ ?_)))
local macro_rules | `(tactic| walk_at "eval Call") => `(tactic| (k_here; (with_reducible show wpAny _ _ (eval (Expr.Call (Expr.Name (Str.ofString "_law_bearers") _) _ _ _) _) _ _ _); k_dflt (refine Call_ ?_)))
local macro_rules | `(tactic| walk_at "exec If") => `(tactic| (k_here; (with_reducible show wpAny _ _ (exec (Stmt.If (Expr.Compare (Expr.Subscript (Expr.Call (Expr.Name (Str.ofString "to_haab") _) _ _ _) _ _) _ _ _) _ _ _) _) _ _ _); (fail_if_success (with_reducible show wpAny _ _ _ (fun fl s' => JoinS _ _ _ _ _ fl s') _ _)); k_dflt (refine' join_start ?k1 ?k2 ?_ ?_; (case k1 => k_asm); (case k2 => k_asm)); rotate_left; (intro v9 t9 h9 tk9 P8 P7 F9 N9; (try dsimp only); (try k_sweep)); rotate_left))
local macro_rules | `(tactic| walk_at "JoinS") => `(tactic| (k_dflt (refine' joinS_of ?k1 ?k2 ?k3 ?k4 ?k5 ?k6; (case k1 => k_asm); (case k2 => k_asm); (case k3 => (intro y; by_cases hy : y = Str.ofString "start"; exact (if_pos hy).trans (if_pos hy).symm; simp only [if_neg hy])); (case k4 => kcj_all); (case k5 => with_reducible first | exact S_lo _ | exact S_lo20 _); (case k6 => with_reducible first | exact join_true (by assumption) | exact join_false (by assumption)))))
local macro_rules | `(tactic| walk_at "compareOp NotIn str ref") => `(tactic| (k_here; k_dflt (refine' notIn_strs (ns := bearL) ?k1 ?k2 ?k3 ?_; (case k1 => exact News.isList (by k_asm) (by k_mem)); (case k2 => (unfold bearL; repeat constructor)); (case k3 => exact tName_mem_bear (by assumption)))))
local macro_rules | `(tactic| walk_at "call builtin:list.index") => `(tactic| (k_here; (with_reducible show wpAny _ _ (call (Value.builtin _) [Value.ref _, Value.str _ _]) _ _ _); k_dflt (refine' index_list_strs (ns := bearL) ?k1 ?k2 ?k3 ?k4 ?_; (case k1 => exact News.isList (by k_asm) (by k_mem)); (case k2 => (unfold bearL; repeat constructor)); (case k3 => decide); (case k4 => exact tName_mem_bear (by assumption)))))
local macro_rules | `(tactic| walk_at "subscriptTail") => `(tactic| (k_here; (with_reducible show wpAny _ _ (subscriptTail _ _ (Value.ref _) (Value.int (Int.fmod _ _) _)) _ _ _); k_dflt (refine' KTb.item_list (ws := bearL) ?k1 ?k2 ?k3 ?k4 ?k5 ?_; (case k1 => exact News.isList (by k_asm) (by k_mem)); (case k2 => (unfold bearL; repeat constructor)); (case k3 => exact Int.fmod_nonneg_of_pos _ (by decide)); (case k4 => exact Int.fmod_lt_of_pos _ (by decide)); (case k5 => exact Int.lt_trans (Int.fmod_lt_of_pos _ (by decide)) (by decide))); intro _ _))
local macro_rules | `(tactic| walk_at "compareOp NotEq ref ref") => `(tactic| (k_here; k_dflt (refine' ne_tup2 ?k1 ?k2 ?k3 ?k4 ?k5 ?k6 ?k7 ?_; (case k1 => k_asm); (case k2 => k_mem); (case k3 => k_mem); (case k4 => first | rfl | exact tzN (by with_reducible omega)); (case k5 => first | rfl | exact tzNm (by assumption) (by with_reducible omega)); (case k6 => first | exact tName_ok _ | exact haab_ok (by with_reducible omega) | decide +kernel); (case k7 => ke_room))))
local macro_rules | `(tactic| walk_at "callWith ref") => `(tactic| (k_here; (with_reducible show wpAny _ _ (callWith _ (Value.ref 122) [] (backTo _ (starEach [] _)) []) _ _ _); k_dflt (refine' callWith_KF ?k1 ?k2 ?k3 ?_; (case k1 => k_asm); (case k2 => k_asm); (case k3 => k_is)); (try dsimp only [List.nil_append])))
local macro_rules | `(tactic| walk_at "binaryOp Add str str") => `(tactic| (k_here; (with_reducible show wpAny _ _ (binaryOp Operator.Add (Value.str _ _) (Value.str _ _)) _ _ _); k_dflt (refine' PyProof.Rows.add_str ?_ ?z; rotate_left; (case z => with_reducible first | exact szA _ | exact szB _ | exact szC _)); intro _ _))
local macro_rules | `(tactic| walk_at "compareOp NotEq int int") => `(tactic| (k_here; k_dflt (refine' ne_same ?k1 ?_; (case k1 => with_reducible omega))))
local macro_rules | `(tactic| walk_at "eval ListComp") => `(tactic| (k_here; k_dflt (refine' zip_comp ?k1 ?k2 ?k3 ?k4 ?k5 ?k6 ?k7 ?k8 ?k9 ?ka ?kb ?kc ?_; (case k1 => k_asm); (case k2 => k_asm); (case k3 => exact rfl); (case k4 => with_unfolding_all rfl); (case k5 => decide); (case k6 => exact rfl); (case k7 => decide); (case k8 => exact rfl); (case k9 => exact rfl); (case ka => decide); (case kb => decide); (case kc => decide))))
local macro_rules | `(tactic| walk_at "call type:zip") => `(tactic| (k_here; k_dflt (refine' zip_src ?k1 ?k2 ?k3 ?k4 ?_; (case k1 => k_asm); (case k2 => k_asm); (case k3 => k_mem); (case k4 => k_mem)); intro D9 h9 tk9 t9 u9 v9 w9 x9 F9 N9; (try dsimp only); (try k_sweep)))
local macro_rules | `(tactic| walk_at "compareOp NotEq str str") => `(tactic| (k_here; k_dflt (refine' ne_same_str ?k1 ?_; (case k1 => with_reducible exact rfl))))
local macro_rules | `(tactic| walk_at "compareOp Eq ref ref") => `(tactic| (k_here; k_dflt (refine' eq_tup5 ?k1 ?k2 ?k3 ?k4 ?k5 ?k6 ?k7 ?k8 ?k9 ?_; (case k1 => k_asm); (case k2 => k_mem); (case k3 => k_mem); (case k4 => exact rfl); (case k5 => exact rfl); (case k6 => exact rfl); (case k7 => exact rfl); (case k8 => exact rfl); (case k9 => ke_room))))
local macro_rules | `(tactic| walk_at "mine steps") => `(tactic| repeat' (first | (k_unfold; (try dsimp only)) | (k_end; kc_close) | walk1 | (dsimp only; walk1) | (leave1; walk_say "STEP leave1"; (try dsimp only)) | (refine id ?_; k_unfold; (try dsimp only)) | fail "no step"))
theorem law_holds : PySem.Challenge.rw_bh0011_01.Holds := hd (by w_strict (k_go0; (all_goals try k_fold); walk_at "mine steps"))
end PartLaw
end Mine
set_option maxRecDepth 100000 in
set_option maxHeartbeats 8000000 in
theorem PySem.Challenge.cw_bh0011_01_holds : PySem.Challenge.rw_bh0011_01.Holds := by
  exact Mine.law_holds
