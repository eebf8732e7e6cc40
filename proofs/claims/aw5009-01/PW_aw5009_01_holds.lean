import PyProof.Rows.All
import Wide.All
import OpenK.AllK
import Wide.FinOn
import PySem.Challenge.RW_aw5009_01
open PySem PySem.W PyProof.Rows PySem.Calls
set_option Elab.async false
namespace Mine
set_option maxRecDepth 100000 in
set_option maxHeartbeats 8000000 in
open_top hd for PySem.Challenge.rw_aw5009_01
section
noncomputable abbrev loose : List Str := looseW hd.view_39
      [Str.ofString "round_fast", Str.ofString "fzero", Str.ofString "fone", Str.ofString "fnan", Str.ofString "finf",
        Str.ofString "fninf", Str.ofString "shifts_down", Str.ofString "from_man_exp", Str.ofString "mpf_neg",
        Str.ofString "mpf_add"]

/-- what a call of f on vs gives back, wherever it is made -/
def Gives (w : World) (mean : ExcName → Option Value) (mg mb : Str → Option Value) (d u : Nat) (f : Addr) (vs : List Value) (news : List (Addr × Obj)) (Out : List (Addr × Obj) → Value → Prop) : Prop :=
  ∀ (dp un : Nat) (gd : Option (List Code)) (cn : Str) (cs : Scope) (a : Addr) (ccd : Value) (cl : List (Str × Addr)) (outer : List Env) (A₀ : Around) (base h₀ : Heap) (L : Addr) (m : Str → Option Value) (s : Shared)
    (Q E : Value → Shared → Prop),
    Below A₀ base outer h₀ → Fr h₀ L s.heap m → (hd.heap_39 w.params).In h₀ → News h₀ L s.heap news → Top hd.view_39 loose mean mg mb h₀ → cs.kind = .function → dp + d < recursionLimit → un + u < cLine →
    (∀ r tl h' tk', Fr h₀ L h' m → News h₀ L h' (tl ++ news) → (∀ q ∈ news, ∀ p ∈ tl, q.1 < p.1) → Out tl r → Q r { s with heap := h', toks := tk' }) →
    wpAny (model PySem.Challenge.rw_aw5009_01.row.prog w) (ktrTop dp un gd cn cs L a ccd cl outer) (call (.ref f) vs) Q E s

theorem gives_use {w : World} {mean : ExcName → Option Value} {mg mb : Str → Option Value} {d u : Nat} {f : Addr} {vs : List Value} {news : List (Addr × Obj)} {Out : List (Addr × Obj) → Value → Prop}
    {dp un : Nat} {gd : Option (List Code)} {cn : Str} {cs : Scope} {a : Addr} {ccd : Value} {cl : List (Str × Addr)} {outer : List Env} {A₀ : Around} {base h₀ : Heap} {L : Addr} {m : Str → Option Value} {s : Shared}
    {Q E : Value → Shared → Prop} (G : Gives w mean mg mb d u f vs news Out)
    (B : Below A₀ base outer h₀) (F : Fr h₀ L s.heap m) (X : (hd.heap_39 w.params).In h₀) (N : News h₀ L s.heap news) (T : Top hd.view_39 loose mean mg mb h₀) (hk : cs.kind = .function) (hd : dp + d < recursionLimit) (hu : un + u < cLine)
    (ret : ∀ r tl h' tk', Fr h₀ L h' m → News h₀ L h' (tl ++ news) → (∀ q ∈ news, ∀ p ∈ tl, q.1 < p.1) → Out tl r → Q r { s with heap := h', toks := tk' }) :
    wpAny (model PySem.Challenge.rw_aw5009_01.row.prog w) (ktrTop dp un gd cn cs L a ccd cl outer) (call (.ref f) vs) Q E s :=
  G _ _ _ _ _ _ _ _ _ _ _ _ _ _ _ _ _ B F X N T hk hd hu ret

theorem gentoks {M : Model} {A : Around} {α : Type} {t : Sem α} {Q : α → Shared → Prop} {E : Value → Shared → Prop} {h : Heap} {g : Array GenState} {dr : Drawn} {k : Nat} {o : OsState}
    (H : ∀ tk : Nat, wpAny M A t Q E ⟨h, g, dr, tk, o⟩) : wpAny M A t Q E ⟨h, g, dr, k + 1, o⟩ := H _

theorem fill_first {P : Prop} (h : (fun (_ : OpenLaw) (_ : Params → Frag) => True) PySem.Challenge.rw_aw5009_01 hd.heap_39 → P) : P := h trivial
end
section
/-- how often 2 divides n, as the text reckons it -/
def trailF (n : Int) : Int := if n = 0 then 0 else (Builtin.Int.intBits (Builtin.bitAnd n (-n)) : Int) - 1
theorem low_pos {m : Nat} (h : 0 < m) : 0 < m - (m &&& (m - 1)) := by
  have := @Nat.and_le_right m (m - 1)
  omega
theorem bitAnd_low (n : Int) : Builtin.bitAnd n (-n) = ((n.natAbs - (n.natAbs &&& (n.natAbs - 1)) : Nat) : Int) := by
  have hle := @Nat.and_le_left n.natAbs (n.natAbs - 1)
  unfold Builtin.bitAnd
  rcases Int.lt_trichotomy n 0 with h | h | h
  · rw [decide_eq_false (by omega), decide_eq_true (by omega)]
    have e1 : (-n).toNat = n.natAbs := by omega
    have e2 : (Builtin.bitNot n).toNat = n.natAbs - 1 := by unfold Builtin.bitNot; omega
    simp only [e1, e2]
    omega
  · subst h; decide
  · rw [decide_eq_true (by omega), decide_eq_false (by omega)]
    have e1 : n.toNat = n.natAbs := by omega
    have e2 : (Builtin.bitNot (-n)).toNat = n.natAbs - 1 := by unfold Builtin.bitNot; omega
    simp only [e1, e2]
    omega
theorem trailF_nonneg (n : Int) : 0 ≤ trailF n := by
  unfold trailF
  by_cases h : n = 0
  · rw [if_pos h]; omega
  · rw [if_neg h, bitAnd_low]
    have hp := low_pos (m := n.natAbs) (by omega)
    unfold Builtin.Int.intBits
    rw [if_neg (by simp only [beq_iff_eq]; omega)]
    omega
set_option maxRecDepth 100000 in
set_option maxHeartbeats 8000000 in
theorem trail {w : World} {mean : ExcName → Option Value} {mg mb : Str → Option Value} {news : List (Addr × Obj)} {n : Int} {t : Tok} :
    Gives w mean mg mb 3 40 21 [.int n t] news (fun tl r => tl = [] ∧ ∃ t', r = .int (trailF n) t') := by
  suffices h : ((fun (_ : OpenLaw) (_ : Params → Frag) => True) PySem.Challenge.rw_aw5009_01 hd.heap_39) → Gives w mean mg mb 3 40 21 [.int n t] news (fun tl r => tl = [] ∧ ∃ t', r = .int (trailF n) t') from h trivial
  k_fill
  intro _
  unfold Gives
  intro dp un gd cn cs a ccd cl outer A₀ base h₀ L m s Q E B F X N T hk hd hu hret
  refine wpAny_call ?_
  k_dflt ktr_enter
  k_steps
  · exact hret _ [] _ _ (by k_asm) (by k_asm) (fun _ _ _ h9 => nomatch h9) ⟨rfl, _, by rw [trailF, if_neg (by assumption)]⟩
  · exact hret _ [] _ _ (by k_asm) (by k_asm) (fun _ _ _ h9 => nomatch h9) ⟨rfl, _, by rw [trailF, if_pos (by assumption)]⟩
end
section
/-- the object of a number: a tuple of four ints -/
abbrev numObj (x1 x2 x3 x4 : Int) (t1 t2 t3 t4 : Tok) (c : Nat) : Obj := { cls := .type "tuple", data := .seq #[.int x1 t1, .int x2 t2, .int x3 t3, .int x4 t4] c }
abbrev Num := Int × Int × Int × Int
/-- v is the number x: a tuple of the top's or of the ledger -/
def IsNum (w : World) (news : List (Addr × Obj)) (v : Value) (x : Num) : Prop :=
  ∃ (a : Addr) (t1 t2 t3 t4 : Tok) (c : Nat), v = .ref a ∧ ((a, numObj x.1 x.2.1 x.2.2.1 x.2.2.2 t1 t2 t3 t4 c) ∈ news ∨ (hd.heap_39 w.params).lookup a = some (numObj x.1 x.2.1 x.2.2.1 x.2.2.2 t1 t2 t3 t4 c))
theorem IsNum.mono {w : World} {news news' : List (Addr × Obj)} {v : Value} {x : Num} (h : IsNum w news v x) (hs : ∀ p ∈ news, p ∈ news') : IsNum w news' v x := by
  obtain ⟨a, t1, t2, t3, t4, c, e, h⟩ := h
  exact ⟨a, t1, t2, t3, t4, c, e, h.imp (hs _) id⟩
theorem IsNum.tup {w : World} {h : Heap} {h₀ : Heap} {L : Addr} {m : Str → Option Value} {news : List (Addr × Obj)} {a : Addr} {x : Num} (R : IsNum w news (.ref a) x) (F : Fr h₀ L h m) (X : (hd.heap_39 w.params).In h₀) (N : News h₀ L h news) :
    ∃ t1 t2 t3 t4, IsTup h a #[.int x.1 t1, .int x.2.1 t2, .int x.2.2.1 t3, .int x.2.2.2 t4] := by
  obtain ⟨a', t1, t2, t3, t4, c, e, h⟩ := R
  cases e
  rcases h with h | h
  · exact ⟨t1, t2, t3, t4, _, N.get h, rfl, c, rfl⟩
  · exact ⟨t1, t2, t3, t4, _, F.keep _ _ (X _ _ h), rfl, c, rfl⟩
theorem IsNum.new {w : World} {news : List (Addr × Obj)} {a : Addr} {x1 x2 x3 x4 : Int} {t1 t2 t3 t4 : Tok} {c : Nat} {x : Num} (h : (a, numObj x1 x2 x3 x4 t1 t2 t3 t4 c) ∈ news) (e : (x1, x2, x3, x4) = x) : IsNum w news (.ref a) x := by
  subst e
  exact ⟨a, t1, t2, t3, t4, c, rfl, .inl h⟩
theorem IsNum.top {w : World} {news : List (Addr × Obj)} {a : Addr} {x1 x2 x3 x4 : Int} {t1 t2 t3 t4 : Tok} {c : Nat} {x : Num} (h : (hd.heap_39 w.params).lookup a = some (numObj x1 x2 x3 x4 t1 t2 t3 t4 c)) (e : (x1, x2, x3, x4) = x) : IsNum w news (.ref a) x := by
  subst e
  exact ⟨a, t1, t2, t3, t4, c, rfl, .inr h⟩

inductive Way where
  | n | f | c
def Way.str : Way → Str
  | .n => Str.ofString "n"
  | .f => Str.ofString "f"
  | .c => Str.ofString "c"

def nearQ (man n : Int) : Int :=
  if Builtin.bitAnd (man.fdiv (2 ^ (n - 1).toNat)) 1 = 0 then (man.fdiv (2 ^ (n - 1).toNat)).fdiv (2 ^ Int.toNat 1)
  else if Builtin.bitAnd (man.fdiv (2 ^ (n - 1).toNat)) 2 = 0 then
    if Builtin.bitAnd man (1 * 2 ^ (n - 1).toNat - 1) = 0 then (man.fdiv (2 ^ (n - 1).toNat)).fdiv (2 ^ Int.toNat 1)
    else (man.fdiv (2 ^ (n - 1).toNat)).fdiv (2 ^ Int.toNat 1) + 1
  else (man.fdiv (2 ^ (n - 1).toNat)).fdiv (2 ^ Int.toNat 1) + 1
def floorQ (man n : Int) : Int := man.fdiv (2 ^ n.toNat)
def ceilQ (man n : Int) : Int := -((-man).fdiv (2 ^ n.toNat))
def quo (w : Way) (sign man n : Int) : Int := match w with
  | .n => nearQ man n
  | .f => if sign = 0 then floorQ man n else ceilQ man n
  | .c => if sign = 0 then ceilQ man n else floorQ man n
def finF (sign man exp bc : Int) : Num := if man = 1 then (sign, man, exp, 1) else (sign, man, exp, bc)
def tailF (sign man exp bc : Int) : Num :=
  if Builtin.bitAnd man 1 = 0 then finF sign (man.fdiv (2 ^ (trailF man).toNat)) (exp + trailF man) (bc - trailF man) else finF sign man exp bc
def normF (q sign man exp bc prec : Int) : Num :=
  if man = 0 then (0, 0, 0, 0) else if 0 < bc - prec then tailF sign q (exp + (bc - prec)) prec else tailF sign man exp bc
theorem end_new {w : World} {h₀ h' : Heap} {L D : Addr} {m : Str → Option Value} {news : List (Addr × Obj)} {s : Shared} {Q : Value → Shared → Prop} {x : Num} {x1 x2 x3 x4 : Int} {t1 t2 t3 t4 : Tok} {c : Nat} {tk' : Nat}
    (hret : ∀ r tl h' tk', Fr h₀ L h' m → News h₀ L h' (tl ++ news) → (∀ q ∈ news, ∀ p ∈ tl, q.1 < p.1) → (fun tl r => IsNum w tl r x) tl r → Q r { s with heap := h', toks := tk' })
    (F : Fr h₀ L h' m) (N : News h₀ L h' ((D, numObj x1 x2 x3 x4 t1 t2 t3 t4 c) :: news)) (l : ∀ p ∈ news, p.1 < D) (e : x = (x1, x2, x3, x4)) : Q (.ref D) { s with heap := h', toks := tk' } :=
  hret _ [(D, numObj x1 x2 x3 x4 t1 t2 t3 t4 c)] _ _ F N (fun q hq p hp => by rw [List.mem_singleton.mp hp]; exact l q hq) (IsNum.new (List.Mem.head _) e.symm)
theorem end_top {w : World} {h₀ h' : Heap} {L D : Addr} {m : Str → Option Value} {news : List (Addr × Obj)} {s : Shared} {Q : Value → Shared → Prop} {x : Num} {x1 x2 x3 x4 : Int} {t1 t2 t3 t4 : Tok} {c : Nat} {tk' : Nat}
    (hret : ∀ r tl h' tk', Fr h₀ L h' m → News h₀ L h' (tl ++ news) → (∀ q ∈ news, ∀ p ∈ tl, q.1 < p.1) → (fun tl r => IsNum w tl r x) tl r → Q r { s with heap := h', toks := tk' })
    (F : Fr h₀ L h' m) (N : News h₀ L h' news) (hK : (hd.heap_39 w.params).lookup D = some (numObj x1 x2 x3 x4 t1 t2 t3 t4 c)) (e : x = (x1, x2, x3, x4)) : Q (.ref D) { s with heap := h', toks := tk' } :=
  hret _ [] _ _ F N (fun _ _ _ h9 => nomatch h9) (IsNum.top hK e.symm)
theorem gives_num {w : World} {mean : ExcName → Option Value} {mg mb : Str → Option Value} {d u : Nat} {f : Addr} {vs : List Value} {news : List (Addr × Obj)} {x : Num}
    {dp un : Nat} {gd : Option (List Code)} {cn : Str} {cs : Scope} {a : Addr} {ccd : Value} {cl : List (Str × Addr)} {outer : List Env} {A₀ : Around} {base h₀ : Heap} {L : Addr} {m : Str → Option Value} {s : Shared}
    {Q E : Value → Shared → Prop} (G : Gives w mean mg mb d u f vs news (fun tl r => IsNum w tl r x))
    (B : Below A₀ base outer h₀) (F : Fr h₀ L s.heap m) (X : (hd.heap_39 w.params).In h₀) (N : News h₀ L s.heap news) (T : Top hd.view_39 loose mean mg mb h₀) (hk : cs.kind = .function) (hd : dp + d < recursionLimit) (hu : un + u < cLine)
    (ret : ∀ (b : Addr) tl h' (tk' : Nat), Fr h₀ L h' m → News h₀ L h' (tl ++ news) → (∀ q ∈ news, ∀ p ∈ tl, q.1 < p.1) → IsNum w tl (.ref b) x → Q (.ref b) { s with heap := h', toks := tk' }) :
    wpAny (model PySem.Challenge.rw_aw5009_01.row.prog w) (ktrTop dp un gd cn cs L a ccd cl outer) (call (.ref f) vs) Q E s :=
  G _ _ _ _ _ _ _ _ _ _ _ _ _ _ _ _ _ B F X N T hk hd hu fun r tl h' tk' F' N' l R => by
    obtain ⟨b, t1, t2, t3, t4, c, e, h⟩ := R
    subst e
    exact ret b tl h' tk' F' N' l ⟨b, t1, t2, t3, t4, c, rfl, h⟩
section
variable {man n sign exp bc prec q : Int} {x : Num}
theorem nq1 (h : Builtin.bitAnd (man.fdiv (2 ^ (n - 1).toNat)) 1 = 0) : nearQ man n = (man.fdiv (2 ^ (n - 1).toNat)).fdiv (2 ^ Int.toNat 1) := if_pos h
theorem nq2 (h : Builtin.bitAnd (man.fdiv (2 ^ (n - 1).toNat)) 1 ≠ 0) (h2 : Builtin.bitAnd (man.fdiv (2 ^ (n - 1).toNat)) 2 = 0) (h3 : Builtin.bitAnd man (1 * 2 ^ (n - 1).toNat - 1) = 0) : nearQ man n = (man.fdiv (2 ^ (n - 1).toNat)).fdiv (2 ^ Int.toNat 1) := by
  rw [nearQ, if_neg h, if_pos h2, if_pos h3]
theorem nq3 (h : Builtin.bitAnd (man.fdiv (2 ^ (n - 1).toNat)) 1 ≠ 0) (h2 : Builtin.bitAnd (man.fdiv (2 ^ (n - 1).toNat)) 2 = 0) (h3 : Builtin.bitAnd man (1 * 2 ^ (n - 1).toNat - 1) ≠ 0) : nearQ man n = (man.fdiv (2 ^ (n - 1).toNat)).fdiv (2 ^ Int.toNat 1) + 1 := by
  rw [nearQ, if_neg h, if_pos h2, if_neg h3]
theorem nq4 (h : Builtin.bitAnd (man.fdiv (2 ^ (n - 1).toNat)) 1 ≠ 0) (h2 : Builtin.bitAnd (man.fdiv (2 ^ (n - 1).toNat)) 2 ≠ 0) : nearQ man n = (man.fdiv (2 ^ (n - 1).toNat)).fdiv (2 ^ Int.toNat 1) + 1 := by
  rw [nearQ, if_neg h, if_neg h2]
theorem fin1 (h : man = 1) : finF sign man exp bc = (sign, man, exp, 1) := if_pos h
theorem fin2 (h : man ≠ 1) : finF sign man exp bc = (sign, man, exp, bc) := if_neg h
theorem tl1 (h : Builtin.bitAnd man 1 = 0) (e : finF sign (man.fdiv (2 ^ (trailF man).toNat)) (exp + trailF man) (bc - trailF man) = x) : tailF sign man exp bc = x := (if_pos h).trans e
theorem tl2 (h : Builtin.bitAnd man 1 ≠ 0) (e : finF sign man exp bc = x) : tailF sign man exp bc = x := (if_neg h).trans e
theorem nf0 (h : man = 0) : normF q sign man exp bc prec = (0, 0, 0, 0) := if_pos h
theorem nf1 (h : man ≠ 0) (h1 : ¬ 0 < bc - prec) (e : tailF sign man exp bc = x) : normF q sign man exp bc prec = x := (if_neg h).trans ((if_neg h1).trans e)
theorem nf2 {q' : Int} (h : man ≠ 0) (h1 : 0 < bc - prec) (hq : q = q') (e : tailF sign q' (exp + (bc - prec)) prec = x) : normF q sign man exp bc prec = x := (if_neg h).trans ((if_pos h1).trans (hq ▸ e))
end
end
section
local macro_rules | `(tactic| walk_at "ite") => `(tactic| first | (k_closed; k_dflt (first | refine ite_pos (by decide) ?_ | refine ite_neg (by decide) ?_)) | with_reducible refine ite_tt ?_ | with_reducible refine ite_ff ?_ | (with_reducible refine split_ine ?_ ?_ <;> intro _) | (with_reducible refine split_ieq ?_ ?_ <;> intro _))
local macro_rules | `(tactic| walk_at "execs cons") => `(tactic| (with_reducible refine gentoks ?_; intro tk))
local macro_rules | `(tactic| walk_at "execs nil") => `(tactic| (with_reducible refine gentoks ?_; intro tk))
local macro_rules | `(tactic| walk_at "inplaceOp RShift int int") => `(tactic| (with_reducible refine irshift_int ?_ ?_; (with_reducible exact trailF_nonneg _)))
local macro_rules | `(tactic| walk_at "call ref") => `(tactic| (k_here; k_dflt (refine' gives_use trail ?Bq1003 ?Fq1003 ?Xq1003 ?Nq1003 ?Tq1003 ?hkq1003 ?hdq1003 ?huq1003 ?_; (case Bq1003 => k_asm); (case Fq1003 => k_asm); (case Xq1003 => k_asm); (case Nq1003 => k_asm); (case Tq1003 => k_asm); (case hkq1003 => first | exact rfl | assumption); (case hdq1003 => ktr_room); (case huq1003 => ktr_units); intro r9 tl9 h9 tk9 F9 N9 hl9 ho9; obtain ⟨e9, t9, e9'⟩ := ho9; subst e9; subst e9'; clear hl9; (try simp only [List.nil_append] at N9); (try dsimp only); (try k_fold))))
set_option maxRecDepth 100000 in
set_option maxHeartbeats 8000000 in
theorem norm_n {w : World} {mean : ExcName → Option Value} {mg mb : Str → Option Value} {news : List (Addr × Obj)} {sign man exp bc prec : Int} {t1 t2 t3 t4 t5 t6 : Tok} (hb : bc ≤ 1000) (hp : 0 < prec) :
    Gives w mean mg mb 6 80 38 [.int sign t1, .int man t2, .int exp t3, .int bc t4, .int prec t5, .str (Str.ofString "n") t6] news (fun tl r => IsNum w tl r (normF (nearQ man (bc - prec)) sign man exp bc prec)) := by
  suffices h : ((fun (_ : OpenLaw) (_ : Params → Frag) => True) PySem.Challenge.rw_aw5009_01 hd.heap_39) → Gives w mean mg mb 6 80 38 [.int sign t1, .int man t2, .int exp t3, .int bc t4, .int prec t5, .str (Str.ofString "n") t6] news (fun tl r => IsNum w tl r (normF (nearQ man (bc - prec)) sign man exp bc prec)) from h trivial
  k_fill
  intro _
  unfold Gives
  intro dp un gd cn cs a ccd cl outer A₀ base h₀ L m s Q E B F X N T hk hd hu hret
  refine wpAny_call ?_
  k_dflt ktr_enter
  k_steps
  all_goals first
    | (refine end_top hret (by k_asm) (by k_asm) (by k_is) ?_; exact nf0 (by assumption))
    | (refine end_new hret (by k_asm) (by k_asm) (by k_asm) ?_; refine nf1 (by assumption) (by assumption) ?_; (first | refine tl1 (by assumption) ?_ | refine tl2 (by assumption) ?_); (first | exact fin1 (by assumption) | exact fin2 (by assumption)))
    | (refine end_new hret (by k_asm) (by k_asm) (by k_asm) ?_; refine nf2 (by assumption) (by assumption) (by first | exact nq1 (by assumption) | exact nq4 (by assumption) (by assumption) | exact nq2 (by assumption) (by assumption) (by assumption) | exact nq3 (by assumption) (by assumption) (by assumption)) ?_; (first | refine tl1 (by assumption) ?_ | refine tl2 (by assumption) ?_); (first | exact fin1 (by assumption) | exact fin2 (by assumption)))
end
section
local macro_rules | `(tactic| walk_at "ite") => `(tactic| first | (k_closed; k_dflt (first | refine ite_pos (by decide) ?_ | refine ite_neg (by decide) ?_)) | with_reducible refine ite_tt ?_ | with_reducible refine ite_ff ?_ | (with_reducible refine split_ine ?_ ?_ <;> intro _) | (with_reducible refine split_ieq ?_ ?_ <;> intro _))
local macro_rules | `(tactic| walk_at "execs cons") => `(tactic| (with_reducible refine gentoks ?_; intro tk))
local macro_rules | `(tactic| walk_at "execs nil") => `(tactic| (with_reducible refine gentoks ?_; intro tk))
local macro_rules | `(tactic| walk_at "inplaceOp RShift int int") => `(tactic| (with_reducible refine irshift_int ?_ ?_; (with_reducible exact trailF_nonneg _)))
local macro_rules | `(tactic| walk_at "call ref") => `(tactic| (k_here; k_dflt (refine' gives_use trail ?Bq1007 ?Fq1007 ?Xq1007 ?Nq1007 ?Tq1007 ?hkq1007 ?hdq1007 ?huq1007 ?_; (case Bq1007 => k_asm); (case Fq1007 => k_asm); (case Xq1007 => k_asm); (case Nq1007 => k_asm); (case Tq1007 => k_asm); (case hkq1007 => first | exact rfl | assumption); (case hdq1007 => ktr_room); (case huq1007 => ktr_units); intro r9 tl9 h9 tk9 F9 N9 hl9 ho9; obtain ⟨e9, t9, e9'⟩ := ho9; subst e9; subst e9'; clear hl9; (try simp only [List.nil_append] at N9); (try dsimp only); (try k_fold))))
set_option maxRecDepth 100000 in
set_option maxHeartbeats 8000000 in
theorem norm_f0 {w : World} {mean : ExcName → Option Value} {mg mb : Str → Option Value} {news : List (Addr × Obj)} {man exp bc prec : Int} {t1 t2 t3 t4 t5 t6 : Tok} (hb : bc ≤ 1000) (hp : 0 < prec) :
    Gives w mean mg mb 6 80 38 [.int 0 t1, .int man t2, .int exp t3, .int bc t4, .int prec t5, .str (Str.ofString "f") t6] news (fun tl r => IsNum w tl r (normF (floorQ man (bc - prec)) 0 man exp bc prec)) := by
  suffices h : ((fun (_ : OpenLaw) (_ : Params → Frag) => True) PySem.Challenge.rw_aw5009_01 hd.heap_39) → Gives w mean mg mb 6 80 38 [.int 0 t1, .int man t2, .int exp t3, .int bc t4, .int prec t5, .str (Str.ofString "f") t6] news (fun tl r => IsNum w tl r (normF (floorQ man (bc - prec)) 0 man exp bc prec)) from h trivial
  k_fill
  intro _
  unfold Gives
  intro dp un gd cn cs a ccd cl outer A₀ base h₀ L m s Q E B F X N T hk hd hu hret
  refine wpAny_call ?_
  k_dflt ktr_enter
  k_steps
  all_goals first
    | (refine end_top hret (by k_asm) (by k_asm) (by k_is) ?_; exact nf0 (by assumption))
    | (refine end_new hret (by k_asm) (by k_asm) (by k_asm) ?_; refine nf1 (by assumption) (by assumption) ?_; (first | refine tl1 (by assumption) ?_ | refine tl2 (by assumption) ?_); (first | exact fin1 (by assumption) | exact fin2 (by assumption)))
    | (refine end_new hret (by k_asm) (by k_asm) (by k_asm) ?_; refine nf2 (by assumption) (by assumption) (by exact rfl) ?_; (first | refine tl1 (by assumption) ?_ | refine tl2 (by assumption) ?_); (first | exact fin1 (by assumption) | exact fin2 (by assumption)))
set_option maxRecDepth 100000 in
set_option maxHeartbeats 8000000 in
theorem norm_f1 {w : World} {mean : ExcName → Option Value} {mg mb : Str → Option Value} {news : List (Addr × Obj)} {man exp bc prec : Int} {t1 t2 t3 t4 t5 t6 : Tok} (hb : bc ≤ 1000) (hp : 0 < prec) :
    Gives w mean mg mb 6 80 38 [.int 1 t1, .int man t2, .int exp t3, .int bc t4, .int prec t5, .str (Str.ofString "f") t6] news (fun tl r => IsNum w tl r (normF (ceilQ man (bc - prec)) 1 man exp bc prec)) := by
  suffices h : ((fun (_ : OpenLaw) (_ : Params → Frag) => True) PySem.Challenge.rw_aw5009_01 hd.heap_39) → Gives w mean mg mb 6 80 38 [.int 1 t1, .int man t2, .int exp t3, .int bc t4, .int prec t5, .str (Str.ofString "f") t6] news (fun tl r => IsNum w tl r (normF (ceilQ man (bc - prec)) 1 man exp bc prec)) from h trivial
  k_fill
  intro _
  unfold Gives
  intro dp un gd cn cs a ccd cl outer A₀ base h₀ L m s Q E B F X N T hk hd hu hret
  refine wpAny_call ?_
  k_dflt ktr_enter
  k_steps
  all_goals first
    | (refine end_top hret (by k_asm) (by k_asm) (by k_is) ?_; exact nf0 (by assumption))
    | (refine end_new hret (by k_asm) (by k_asm) (by k_asm) ?_; refine nf1 (by assumption) (by assumption) ?_; (first | refine tl1 (by assumption) ?_ | refine tl2 (by assumption) ?_); (first | exact fin1 (by assumption) | exact fin2 (by assumption)))
    | (refine end_new hret (by k_asm) (by k_asm) (by k_asm) ?_; refine nf2 (by assumption) (by assumption) (by exact rfl) ?_; (first | refine tl1 (by assumption) ?_ | refine tl2 (by assumption) ?_); (first | exact fin1 (by assumption) | exact fin2 (by assumption)))
set_option maxRecDepth 100000 in
set_option maxHeartbeats 8000000 in
theorem norm_c0 {w : World} {mean : ExcName → Option Value} {mg mb : Str → Option Value} {news : List (Addr × Obj)} {man exp bc prec : Int} {t1 t2 t3 t4 t5 t6 : Tok} (hb : bc ≤ 1000) (hp : 0 < prec) :
    Gives w mean mg mb 6 80 38 [.int 0 t1, .int man t2, .int exp t3, .int bc t4, .int prec t5, .str (Str.ofString "c") t6] news (fun tl r => IsNum w tl r (normF (ceilQ man (bc - prec)) 0 man exp bc prec)) := by
  suffices h : ((fun (_ : OpenLaw) (_ : Params → Frag) => True) PySem.Challenge.rw_aw5009_01 hd.heap_39) → Gives w mean mg mb 6 80 38 [.int 0 t1, .int man t2, .int exp t3, .int bc t4, .int prec t5, .str (Str.ofString "c") t6] news (fun tl r => IsNum w tl r (normF (ceilQ man (bc - prec)) 0 man exp bc prec)) from h trivial
  k_fill
  intro _
  unfold Gives
  intro dp un gd cn cs a ccd cl outer A₀ base h₀ L m s Q E B F X N T hk hd hu hret
  refine wpAny_call ?_
  k_dflt ktr_enter
  k_steps
  all_goals first
    | (refine end_top hret (by k_asm) (by k_asm) (by k_is) ?_; exact nf0 (by assumption))
    | (refine end_new hret (by k_asm) (by k_asm) (by k_asm) ?_; refine nf1 (by assumption) (by assumption) ?_; (first | refine tl1 (by assumption) ?_ | refine tl2 (by assumption) ?_); (first | exact fin1 (by assumption) | exact fin2 (by assumption)))
    | (refine end_new hret (by k_asm) (by k_asm) (by k_asm) ?_; refine nf2 (by assumption) (by assumption) (by exact rfl) ?_; (first | refine tl1 (by assumption) ?_ | refine tl2 (by assumption) ?_); (first | exact fin1 (by assumption) | exact fin2 (by assumption)))
set_option maxRecDepth 100000 in
set_option maxHeartbeats 8000000 in
theorem norm_c1 {w : World} {mean : ExcName → Option Value} {mg mb : Str → Option Value} {news : List (Addr × Obj)} {man exp bc prec : Int} {t1 t2 t3 t4 t5 t6 : Tok} (hb : bc ≤ 1000) (hp : 0 < prec) :
    Gives w mean mg mb 6 80 38 [.int 1 t1, .int man t2, .int exp t3, .int bc t4, .int prec t5, .str (Str.ofString "c") t6] news (fun tl r => IsNum w tl r (normF (floorQ man (bc - prec)) 1 man exp bc prec)) := by
  suffices h : ((fun (_ : OpenLaw) (_ : Params → Frag) => True) PySem.Challenge.rw_aw5009_01 hd.heap_39) → Gives w mean mg mb 6 80 38 [.int 1 t1, .int man t2, .int exp t3, .int bc t4, .int prec t5, .str (Str.ofString "c") t6] news (fun tl r => IsNum w tl r (normF (floorQ man (bc - prec)) 1 man exp bc prec)) from h trivial
  k_fill
  intro _
  unfold Gives
  intro dp un gd cn cs a ccd cl outer A₀ base h₀ L m s Q E B F X N T hk hd hu hret
  refine wpAny_call ?_
  k_dflt ktr_enter
  k_steps
  all_goals first
    | (refine end_top hret (by k_asm) (by k_asm) (by k_is) ?_; exact nf0 (by assumption))
    | (refine end_new hret (by k_asm) (by k_asm) (by k_asm) ?_; refine nf1 (by assumption) (by assumption) ?_; (first | refine tl1 (by assumption) ?_ | refine tl2 (by assumption) ?_); (first | exact fin1 (by assumption) | exact fin2 (by assumption)))
    | (refine end_new hret (by k_asm) (by k_asm) (by k_asm) ?_; refine nf2 (by assumption) (by assumption) (by exact rfl) ?_; (first | refine tl1 (by assumption) ?_ | refine tl2 (by assumption) ?_); (first | exact fin1 (by assumption) | exact fin2 (by assumption)))
end
section
local macro_rules | `(tactic| walk_at "ite") => `(tactic| first | (k_closed; k_dflt (first | refine ite_pos (by decide) ?_ | refine ite_neg (by decide) ?_)) | with_reducible refine ite_tt ?_ | with_reducible refine ite_ff ?_ | (with_reducible refine split_ine ?_ ?_ <;> intro _) | (with_reducible refine split_ieq ?_ ?_ <;> intro _))
local macro_rules | `(tactic| walk_at "execs cons") => `(tactic| (with_reducible refine gentoks ?_; intro tk))
local macro_rules | `(tactic| walk_at "execs nil") => `(tactic| (with_reducible refine gentoks ?_; intro tk))
theorem norm_any {w : World} {mean : ExcName → Option Value} {mg mb : Str → Option Value} {news : List (Addr × Obj)} {way : Way} {sign man exp bc prec : Int} {t1 t2 t3 t4 t5 t6 : Tok} (hs : sign = 0 ∨ sign = 1) (hb : bc ≤ 1000) (hp : 0 < prec) :
    Gives w mean mg mb 6 80 38 [.int sign t1, .int man t2, .int exp t3, .int bc t4, .int prec t5, .str way.str t6] news (fun tl r => IsNum w tl r (normF (quo way sign man (bc - prec)) sign man exp bc prec)) := by
  cases way with
  | n => exact norm_n hb hp
  | f => rcases hs with rfl | rfl
         · exact norm_f0 hb hp
         · exact norm_f1 hb hp
  | c => rcases hs with rfl | rfl
         · exact norm_c0 hb hp
         · exact norm_c1 hb hp
local macro_rules | `(tactic| walk_at "call ref") => `(tactic| (k_here; k_dflt (refine' gives_num (norm_any ?hsq1010 ?hbq1010 ?hpq1010) ?Bq1010 ?Fq1010 ?Xq1010 ?Nq1010 ?Tq1010 ?hkq1010 ?hdq1010 ?huq1010 ?_; (case hsq1010 => assumption); (case hbq1010 => assumption); (case hpq1010 => assumption); (case Bq1010 => k_asm); (case Fq1010 => k_asm); (case Xq1010 => k_asm); (case Nq1010 => k_asm); (case Tq1010 => k_asm); (case hkq1010 => first | exact rfl | assumption); (case hdq1010 => ktr_room); (case huq1010 => ktr_units); intro r9 tl9 h9 tk9 F9 N9 hl9 ho9; (try dsimp only); (try k_fold))))
set_option maxRecDepth 100000 in
set_option maxHeartbeats 8000000 in
theorem normalize {w : World} {mean : ExcName → Option Value} {mg mb : Str → Option Value} {news : List (Addr × Obj)} {way : Way} {sign man exp bc prec : Int} {t1 t2 t3 t4 t5 t6 : Tok} (hs : sign = 0 ∨ sign = 1) (hb : bc ≤ 1000) (hp : 0 < prec) (hm : 0 ≤ man) (hbc : bc = (Builtin.Int.intBits man : Int)) :
    Gives w mean mg mb 9 120 45 [.int sign t1, .int man t2, .int exp t3, .int bc t4, .int prec t5, .str way.str t6] news (fun tl r => IsNum w tl r (normF (quo way sign man (bc - prec)) sign man exp bc prec)) := by
  suffices h : ((fun (_ : OpenLaw) (_ : Params → Frag) => True) PySem.Challenge.rw_aw5009_01 hd.heap_39) → Gives w mean mg mb 9 120 45 [.int sign t1, .int man t2, .int exp t3, .int bc t4, .int prec t5, .str way.str t6] news (fun tl r => IsNum w tl r (normF (quo way sign man (bc - prec)) sign man exp bc prec)) from h trivial
  k_fill
  intro _
  unfold Gives
  intro dp un gd cn cs a ccd cl outer A₀ base h₀ L m s Q E B F X N T hk hd hu hret
  refine wpAny_call ?_
  k_dflt ktr_enter
  k_steps
  all_goals first
    | exact absurd hbc (by assumption)
    | exact absurd hm (by assumption)
    | exact hret _ _ _ _ (by k_asm) (by k_asm) (by assumption) (by assumption)
end
section
local macro_rules | `(tactic| walk_at "ite") => `(tactic| first | (k_closed; k_dflt (first | refine ite_pos (by decide) ?_ | refine ite_neg (by decide) ?_)) | with_reducible refine ite_tt ?_ | with_reducible refine ite_ff ?_ | (with_reducible refine split_ine ?_ ?_ <;> intro _) | (with_reducible refine split_ieq ?_ ?_ <;> intro _))
local macro_rules | `(tactic| walk_at "execs cons") => `(tactic| (with_reducible refine gentoks ?_; intro tk))
local macro_rules | `(tactic| walk_at "execs nil") => `(tactic| (with_reducible refine gentoks ?_; intro tk))
theorem unpack_num {prog : Program} {w : World} {A : Around} {E : Value → Shared → Prop} {s : Shared} {env : Env} {h₀ : Heap} {L : Addr} {m : Str → Option Value} {news : List (Addr × Obj)} {elts : List Expr} {k} {pos : Pos} {a : Addr} {x1 x2 x3 x4 : Int} {Q : Unit → Shared → Prop}
    (R : IsNum w news (.ref a) (x1, x2, x3, x4)) (F : Fr h₀ L s.heap m) (N : News h₀ L s.heap news) (X : (hd.heap_39 w.params).In h₀)
    (hh : A.handled = none) (hn : (assignEach elts env).length = 4) (hstar : (assignEach elts env).findIdx? (·.1) = none)
    (h : ∀ t1 t2 t3 t4 h', Fr h₀ L h' m → News h₀ L h' news → wpAny (model prog w) A (assignInOrder ((assignEach elts env).map (·.2)) [.int x1 t1, .int x2 t2, .int x3 t3, .int x4 t4]) Q E { s with heap := h' }) :
    wpAny (model prog w) A (assign (.Tuple elts k pos) env (.ref a)) Q E s := by
  obtain ⟨t1, t2, t3, t4, ht⟩ := R.tup F X N
  exact unpackN_ F N ht hh hn hstar (fun h' F' N' => h t1 t2 t3 t4 h' F' N')
theorem bits_le {m : Int} (h : -(2 ^ 200) < m) (h' : m < 2 ^ 200) : (Builtin.Int.intBits m : Int) ≤ 1000 := by
  unfold Builtin.Int.intBits
  split
  · omega
  · rename_i h0
    have h0 : m ≠ 0 := by simpa using h0
    have : m.natAbs.log2 < 200 := (Nat.log2_lt (by omega)).mpr (by omega)
    omega
/-- the number z at the exponent e, rounded -/
def roundAt (way : Way) (prec z e : Int) : Num :=
  let sg := if z < 0 then 1 else 0
  let m := (z.natAbs : Int)
  normF (quo way sg m ((Builtin.Int.intBits m : Int) - prec)) sg m e (Builtin.Int.intBits m) prec
def sgnd (s m : Int) : Int := if s = 0 then m else -m
theorem roundAt_of {way : Way} {prec sg m e z : Int} (hm : 0 ≤ m) (h : sg = 0 ∧ z = m ∨ sg = 1 ∧ z = -m) : normF (quo way sg m ((Builtin.Int.intBits m : Int) - prec)) sg m e (Builtin.Int.intBits m) prec = roundAt way prec z e := by
  unfold roundAt
  by_cases h0 : m = 0
  · subst h0
    have hz : z = 0 := by omega
    subst hz
    simp [normF]
  · have e1 : ((z.natAbs : Nat) : Int) = m := by omega
    have e2 : (if z < 0 then (1 : Int) else 0) = sg := by split <;> omega
    simp only [e1, e2]
theorem roundAt_of' {way : Way} {prec sg m e z b : Int} (hb : b = (Builtin.Int.intBits m : Int)) (hm : 0 ≤ m) (h : sg = 0 ∧ z = m ∨ sg = 1 ∧ z = -m) : normF (quo way sg m (b - prec)) sg m e b prec = roundAt way prec z e := by
  subst hb; exact roundAt_of hm h
theorem num_cast {w : World} {news : List (Addr × Obj)} {v : Value} {x y : Num} (R : IsNum w news v x) (e : x = y) : IsNum w news v y := e ▸ R
theorem ixor0 {prog : Program} {w : World} {A : Around} {E : Value → Shared → Prop} {s : Shared} {a : Int} {t u : Tok} {Q : Value → Shared → Prop} (h : Q (.int a s.toks) { s with toks := s.toks + 1 }) : wpAny (model prog w) A (inplaceOp .BitXor (.int a t) (.int 0 u)) Q E s :=
  ixor_int (by rw [bitXor_zero]; exact h)
end
section
local macro_rules | `(tactic| walk_at "ite") => `(tactic| first | (k_closed; k_dflt (first | refine ite_pos (by decide) ?_ | refine ite_neg (by decide) ?_)) | with_reducible refine ite_tt ?_ | with_reducible refine ite_ff ?_ | (with_reducible refine split_ine ?_ ?_ <;> intro _) | (with_reducible refine split_ieq ?_ ?_ <;> intro _))
local macro_rules | `(tactic| walk_at "execs cons") => `(tactic| (with_reducible refine gentoks ?_; intro tk))
local macro_rules | `(tactic| walk_at "execs nil") => `(tactic| (with_reducible refine gentoks ?_; intro tk))
local macro_rules | `(tactic| walk_at "assign Tuple") => `(tactic| (k_here; (with_reducible show wpAny _ _ (assign (Expr.Tuple _ _ _) _ (Value.ref _)) _ _ _); k_dflt (refine' unpack_num ?Rq1015 ?Fq1015 ?Nq1015 ?Xq1015 ?k1q1015 ?k2q1015 ?k3q1015 ?_; (case Rq1015 => assumption); (case Fq1015 => k_asm); (case Nq1015 => k_asm); (case Xq1015 => k_asm); (case k1q1015 => exact rfl); (case k2q1015 => exact rfl); (case k3q1015 => exact rfl)); intro t1' t2' t3' t4' h' F' N'; (try k_sweep)))
def fromT (sign man exp bc : Int) : Num :=
  if man = 0 then (0, 0, 0, 0)
  else if Builtin.bitAnd man 1 = 0 then
    if Builtin.bitAnd man 2 = 0 then (sign, man.fdiv (2 ^ (trailF man).toNat), exp + trailF man, bc - trailF man)
    else (sign, man.fdiv (2 ^ Int.toNat 1), exp + 1, bc - 1)
  else (sign, man, exp, bc)
def fromF (man exp : Int) : Num := if man < 0 then fromT 1 (-man) exp (Builtin.Int.intBits (-man)) else fromT 0 man exp (Builtin.Int.intBits man)
section
variable {sign man exp bc : Int} {x : Num}
theorem ff1 (h : man < 0) (e : fromT 1 (-man) exp (Builtin.Int.intBits (-man)) = x) : fromF man exp = x := (if_pos h).trans e
theorem ff2 (h : ¬ man < 0) (e : fromT 0 man exp (Builtin.Int.intBits man) = x) : fromF man exp = x := (if_neg h).trans e
theorem ft0 (h : man = 0) : fromT sign man exp bc = (0, 0, 0, 0) := if_pos h
theorem ft1 (h : man ≠ 0) (h1 : Builtin.bitAnd man 1 = 0) (h2 : Builtin.bitAnd man 2 = 0) : fromT sign man exp bc = (sign, man.fdiv (2 ^ (trailF man).toNat), exp + trailF man, bc - trailF man) := by
  rw [fromT, if_neg h, if_pos h1, if_pos h2]
theorem ft2 (h : man ≠ 0) (h1 : Builtin.bitAnd man 1 = 0) (h2 : Builtin.bitAnd man 2 ≠ 0) : fromT sign man exp bc = (sign, man.fdiv (2 ^ Int.toNat 1), exp + 1, bc - 1) := by
  rw [fromT, if_neg h, if_pos h1, if_neg h2]
theorem ft3 (h : man ≠ 0) (h1 : Builtin.bitAnd man 1 ≠ 0) : fromT sign man exp bc = (sign, man, exp, bc) := by
  rw [fromT, if_neg h, if_neg h1]
end
local macro_rules | `(tactic| walk_at "call ref") => `(tactic| (k_here; k_dflt (refine' gives_use trail ?Bq1016 ?Fq1016 ?Xq1016 ?Nq1016 ?Tq1016 ?hkq1016 ?hdq1016 ?huq1016 ?_; (case Bq1016 => k_asm); (case Fq1016 => k_asm); (case Xq1016 => k_asm); (case Nq1016 => k_asm); (case Tq1016 => k_asm); (case hkq1016 => first | exact rfl | assumption); (case hdq1016 => ktr_room); (case huq1016 => ktr_units); intro r9 tl9 h9 tk9 F9 N9 hl9 ho9; obtain ⟨e9, t9, e9'⟩ := ho9; subst e9; subst e9'; clear hl9; (try simp only [List.nil_append] at N9); (try dsimp only); (try k_fold))))
local macro_rules | `(tactic| walk_at "inplaceOp RShift int int") => `(tactic| (with_reducible refine irshift_int ?_ ?_; (with_reducible exact trailF_nonneg _)))
set_option maxRecDepth 100000 in
set_option maxHeartbeats 8000000 in
theorem from_me {w : World} {mean : ExcName → Option Value} {mg mb : Str → Option Value} {news : List (Addr × Obj)} {man exp : Int} {t1 t2 : Tok} :
    Gives w mean mg mb 6 80 53 [.int man t1, .int exp t2] news (fun tl r => IsNum w tl r (fromF man exp)) := by
  suffices h : ((fun (_ : OpenLaw) (_ : Params → Frag) => True) PySem.Challenge.rw_aw5009_01 hd.heap_39) → Gives w mean mg mb 6 80 53 [.int man t1, .int exp t2] news (fun tl r => IsNum w tl r (fromF man exp)) from h trivial
  k_fill
  intro _
  unfold Gives
  intro dp un gd cn cs a ccd cl outer A₀ base h₀ L m s Q E B F X N T hk hd hu hret
  refine wpAny_call ?_
  k_dflt (refine' code_def ?k1 ?k2 ?k3 ?k4 ?k5 ?kA ?kF ?kK ?k6 ?k7 ?k8 ?k9 ?kB ?_ ?c2 ?c3 ?c4 ?c5; (case kA => exact rfl); (case kF => exact rfl); (case kK => assumption); (case k1 => k_asm); (case k2 => k_asm); (case k3 => k_asm); (case k4 => k_asm); (case k5 => k_asm); (case k6 => k_is); (case k7 => k_is); (case k8 => ktr_room); (case k9 => first | exact BindsTo.of_eq rfl | exact binds_K (by k_in) rfl (by k_is) rfl rfl rfl); (case c5 => decide); (case kB => exact locs rfl); (case c2 => exact rfl); (case c3 => exact rfl); (case c4 => exact rfl); k_whole; intro g' L' h' FG' F' N' B' X' T'; (try dsimp only); (try k_fold))
  k_steps
  all_goals first
    | (refine end_new hret (by k_asm) (by k_asm) (by k_asm) ?_; (first | refine ff1 (by assumption) ?_ | refine ff2 (by assumption) ?_); (first | exact ft1 (by assumption) (by assumption) (by assumption) | exact ft2 (by assumption) (by assumption) (by assumption) | exact ft3 (by assumption) (by assumption)))
    | (refine end_top hret (by k_asm) (by k_asm) (by k_is) ?_; (first | refine ff1 (by assumption) ?_ | refine ff2 (by assumption) ?_); exact ft0 (by assumption))
end
section
local macro_rules | `(tactic| walk_at "ite") => `(tactic| first | (k_closed; k_dflt (first | refine ite_pos (by decide) ?_ | refine ite_neg (by decide) ?_)) | with_reducible refine ite_tt ?_ | with_reducible refine ite_ff ?_ | (with_reducible refine split_ine ?_ ?_ <;> intro _) | (with_reducible refine split_ieq ?_ ?_ <;> intro _))
local macro_rules | `(tactic| walk_at "execs cons") => `(tactic| (with_reducible refine gentoks ?_; intro tk))
local macro_rules | `(tactic| walk_at "execs nil") => `(tactic| (with_reducible refine gentoks ?_; intro tk))
local macro_rules | `(tactic| walk_at "assign Tuple") => `(tactic| (k_here; (with_reducible show wpAny _ _ (assign (Expr.Tuple _ _ _) _ (Value.ref _)) _ _ _); k_dflt (refine' unpack_num ?Rq1020 ?Fq1020 ?Nq1020 ?Xq1020 ?k1q1020 ?k2q1020 ?k3q1020 ?_; (case Rq1020 => assumption); (case Fq1020 => k_asm); (case Nq1020 => k_asm); (case Xq1020 => k_asm); (case k1q1020 => exact rfl); (case k2q1020 => exact rfl); (case k3q1020 => exact rfl)); intro t1' t2' t3' t4' h' F' N'; (try k_sweep)))
def fixF (sign man off : Int) : Int := if sign = 0 then man * 2 ^ off.toNat else -man * 2 ^ off.toNat
set_option maxRecDepth 100000 in
set_option maxHeartbeats 8000000 in
theorem to_fix {w : World} {mean : ExcName → Option Value} {mg mb : Str → Option Value} {news : List (Addr × Obj)} {ssign sman sexp sbc prec : Int} {a1 : Addr} {t2 : Tok} (R1 : IsNum w news (.ref a1) (ssign, sman, sexp, sbc))
    (h0 : 0 ≤ sexp + prec) (h1 : sexp + prec ≤ 1000) (hm : 0 ≤ sman) (hm' : sman < 2 ^ 60) :
    Gives w mean mg mb 3 40 60 [.ref a1, .int prec t2] news (fun tl r => tl = [] ∧ ∃ t', r = .int (fixF ssign sman (sexp + prec)) t') := by
  suffices h : ((fun (_ : OpenLaw) (_ : Params → Frag) => True) PySem.Challenge.rw_aw5009_01 hd.heap_39) → Gives w mean mg mb 3 40 60 [.ref a1, .int prec t2] news (fun tl r => tl = [] ∧ ∃ t', r = .int (fixF ssign sman (sexp + prec)) t') from h trivial
  k_fill
  intro _
  unfold Gives
  intro dp un gd cn cs a ccd cl outer A₀ base h₀ L m s Q E B F X N T hk hd hu hret
  refine wpAny_call ?_
  k_dflt (refine' code_def ?k1 ?k2 ?k3 ?k4 ?k5 ?kA ?kF ?kK ?k6 ?k7 ?k8 ?k9 ?kB ?_ ?c2 ?c3 ?c4 ?c5; (case kA => exact rfl); (case kF => exact rfl); (case kK => assumption); (case k1 => k_asm); (case k2 => k_asm); (case k3 => k_asm); (case k4 => k_asm); (case k5 => k_asm); (case k6 => k_is); (case k7 => k_is); (case k8 => ktr_room); (case k9 => first | exact BindsTo.of_eq rfl | exact binds_K (by k_in) rfl (by k_is) rfl rfl rfl); (case c5 => decide); (case kB => exact locs rfl); (case c2 => exact rfl); (case c3 => exact rfl); (case c4 => exact rfl); k_whole; intro g' L' h' FG' F' N' B' X' T'; (try dsimp only); (try k_fold))
  k_steps
  all_goals first
    | exact hret _ [] _ _ (by k_asm) (by k_asm) (fun _ _ _ h9 => nomatch h9) ⟨rfl, _, congrArg (fun z => Value.int z _) (if_neg (by assumption)).symm⟩
    | exact hret _ [] _ _ (by k_asm) (by k_asm) (fun _ _ _ h9 => nomatch h9) ⟨rfl, _, congrArg (fun z => Value.int z _) (if_pos (by assumption)).symm⟩
end
section
local macro_rules | `(tactic| walk_at "ite") => `(tactic| first | (k_closed; k_dflt (first | refine ite_pos (by decide) ?_ | refine ite_neg (by decide) ?_)) | with_reducible refine ite_tt ?_ | with_reducible refine ite_ff ?_ | (with_reducible refine split_ine ?_ ?_ <;> intro _) | (with_reducible refine split_ieq ?_ ?_ <;> intro _))
local macro_rules | `(tactic| walk_at "execs cons") => `(tactic| (with_reducible refine gentoks ?_; intro tk))
local macro_rules | `(tactic| walk_at "execs nil") => `(tactic| (with_reducible refine gentoks ?_; intro tk))
local macro_rules | `(tactic| walk_at "inplaceOp BitXor int int") => `(tactic| (with_reducible refine ixor0 ?_))
local macro_rules | `(tactic| walk_at "assign Tuple") => `(tactic| (k_here; (with_reducible show wpAny _ _ (assign (Expr.Tuple _ _ _) _ (Value.ref _)) _ _ _); k_dflt (refine' unpack_num ?Rq1024 ?Fq1024 ?Nq1024 ?Xq1024 ?k1q1024 ?k2q1024 ?k3q1024 ?_; (case Rq1024 => assumption); (case Fq1024 => k_asm); (case Nq1024 => k_asm); (case Xq1024 => k_asm); (case k1q1024 => exact rfl); (case k2q1024 => exact rfl); (case k3q1024 => exact rfl)); intro t1' t2' t3' t4' h' F' N'; (try k_sweep)))
local macro_rules | `(tactic| walk_at "call ref") => `(tactic| (k_here; k_dflt (refine' gives_num (normalize ?hsq1025 ?hbq1025 ?hpq1025 ?hmq1025 ?hbcq1025) ?Bq1025 ?Fq1025 ?Xq1025 ?Nq1025 ?Tq1025 ?hkq1025 ?hdq1025 ?huq1025 ?_; (case hsq1025 => first | assumption | exact Or.inl rfl | exact Or.inr rfl); (case hbq1025 => first | exact bits_le (by omega) (by omega) | assumption); (case hpq1025 => assumption); (case hmq1025 => omega); (case hbcq1025 => first | exact rfl | assumption); (case Bq1025 => k_asm); (case Fq1025 => k_asm); (case Xq1025 => k_asm); (case Nq1025 => k_asm); (case Tq1025 => k_asm); (case hkq1025 => first | exact rfl | assumption); (case hdq1025 => ktr_room); (case huq1025 => ktr_units); intro r9 tl9 h9 tk9 F9 N9 hl9 ho9; (try dsimp only); (try k_fold))))
set_option maxRecDepth 100000 in
set_option maxHeartbeats 8000000 in
theorem add_pos {w : World} {mean : ExcName → Option Value} {mg mb : Str → Option Value} {news : List (Addr × Obj)} {way : Way} {ssign sman sexp sbc tsign tman texp tbc prec z : Int} {a1 a2 : Addr} {u1 u2 : Tok}
    (R1 : IsNum w news (.ref a1) (ssign, sman, sexp, sbc)) (R2 : IsNum w news (.ref a2) (tsign, tman, texp, tbc)) (hp : 0 < prec)
    (hs1 : ssign = 0 ∨ ssign = 1) (hs2 : tsign = 0 ∨ tsign = 1) (hm1 : 0 < sman) (hm2 : 0 < tman) (hM1 : sman < 2 ^ 60) (hM2 : tman < 2 ^ 60)
    (h0 : 0 < sexp - texp) (h1 : sexp - texp ≤ 64) (hV : 0 ≤ sman * 2 ^ (sexp - texp).toNat) (hV' : sman * 2 ^ (sexp - texp).toNat < 2 ^ 130)
    (hz : (ssign = 0 ∧ tsign = 0 ∧ z = sman * 2 ^ (sexp - texp).toNat + tman) ∨ (ssign = 0 ∧ tsign = 1 ∧ z = sman * 2 ^ (sexp - texp).toNat - tman) ∨ (ssign = 1 ∧ tsign = 0 ∧ z = tman - sman * 2 ^ (sexp - texp).toNat) ∨ (ssign = 1 ∧ tsign = 1 ∧ z = -(sman * 2 ^ (sexp - texp).toNat) - tman)) :
    Gives w mean mg mb 14 200 76 [.ref a1, .ref a2, .int prec u1, .str way.str u2] news (fun tl r => IsNum w tl r (roundAt way prec z texp)) := by
  suffices h : ((fun (_ : OpenLaw) (_ : Params → Frag) => True) PySem.Challenge.rw_aw5009_01 hd.heap_39) → Gives w mean mg mb 14 200 76 [.ref a1, .ref a2, .int prec u1, .str way.str u2] news (fun tl r => IsNum w tl r (roundAt way prec z texp)) from h trivial
  k_fill
  intro _
  unfold Gives
  intro dp un gd cn cs a ccd cl outer A₀ base h₀ L m s Q E B F X N T hk hd hu hret
  refine wpAny_call ?_
  k_dflt (refine' code_def ?k1 ?k2 ?k3 ?k4 ?k5 ?kA ?kF ?kK ?k6 ?k7 ?k8 ?k9 ?kB ?_ ?c2 ?c3 ?c4 ?c5; (case kA => exact rfl); (case kF => exact rfl); (case kK => assumption); (case k1 => k_asm); (case k2 => k_asm); (case k3 => k_asm); (case k4 => k_asm); (case k5 => k_asm); (case k6 => k_is); (case k7 => k_is); (case k8 => ktr_room); (case k9 => exact binds_K (by k_in) rfl (by k_is) rfl rfl rfl); (case c5 => decide); (case kB => exact locs rfl); (case c2 => exact rfl); (case c3 => exact rfl); (case c4 => exact rfl); k_whole; intro g' L' h' FG' F' N' B' X' T'; (try dsimp only); (try k_fold))
  k_steps
  all_goals first
    | (exfalso; omega)
    | exact hret _ _ _ _ (by k_asm) (by k_asm) (by assumption) (num_cast (by assumption) (roundAt_of (by omega) (by omega)))
set_option maxRecDepth 100000 in
set_option maxHeartbeats 8000000 in
theorem add_neg {w : World} {mean : ExcName → Option Value} {mg mb : Str → Option Value} {news : List (Addr × Obj)} {way : Way} {ssign sman sexp sbc tsign tman texp tbc prec z : Int} {a1 a2 : Addr} {u1 u2 : Tok}
    (R1 : IsNum w news (.ref a1) (ssign, sman, sexp, sbc)) (R2 : IsNum w news (.ref a2) (tsign, tman, texp, tbc)) (hp : 0 < prec)
    (hs1 : ssign = 0 ∨ ssign = 1) (hs2 : tsign = 0 ∨ tsign = 1) (hm1 : 0 < sman) (hm2 : 0 < tman) (hM1 : sman < 2 ^ 60) (hM2 : tman < 2 ^ 60)
    (h0 : sexp - texp < 0) (h1 : -64 ≤ sexp - texp) (hV : 0 ≤ tman * 2 ^ (-(sexp - texp)).toNat) (hV' : tman * 2 ^ (-(sexp - texp)).toNat < 2 ^ 130)
    (hz : (ssign = 0 ∧ tsign = 0 ∧ z = sman + tman * 2 ^ (-(sexp - texp)).toNat) ∨ (ssign = 0 ∧ tsign = 1 ∧ z = sman - tman * 2 ^ (-(sexp - texp)).toNat) ∨ (ssign = 1 ∧ tsign = 0 ∧ z = tman * 2 ^ (-(sexp - texp)).toNat - sman) ∨ (ssign = 1 ∧ tsign = 1 ∧ z = -sman - tman * 2 ^ (-(sexp - texp)).toNat)) :
    Gives w mean mg mb 14 200 76 [.ref a1, .ref a2, .int prec u1, .str way.str u2] news (fun tl r => IsNum w tl r (roundAt way prec z sexp)) := by
  suffices h : ((fun (_ : OpenLaw) (_ : Params → Frag) => True) PySem.Challenge.rw_aw5009_01 hd.heap_39) → Gives w mean mg mb 14 200 76 [.ref a1, .ref a2, .int prec u1, .str way.str u2] news (fun tl r => IsNum w tl r (roundAt way prec z sexp)) from h trivial
  k_fill
  intro _
  unfold Gives
  intro dp un gd cn cs a ccd cl outer A₀ base h₀ L m s Q E B F X N T hk hd hu hret
  refine wpAny_call ?_
  k_dflt (refine' code_def ?k1 ?k2 ?k3 ?k4 ?k5 ?kA ?kF ?kK ?k6 ?k7 ?k8 ?k9 ?kB ?_ ?c2 ?c3 ?c4 ?c5; (case kA => exact rfl); (case kF => exact rfl); (case kK => assumption); (case k1 => k_asm); (case k2 => k_asm); (case k3 => k_asm); (case k4 => k_asm); (case k5 => k_asm); (case k6 => k_is); (case k7 => k_is); (case k8 => ktr_room); (case k9 => exact binds_K (by k_in) rfl (by k_is) rfl rfl rfl); (case c5 => decide); (case kB => exact locs rfl); (case c2 => exact rfl); (case c3 => exact rfl); (case c4 => exact rfl); k_whole; intro g' L' h' FG' F' N' B' X' T'; (try dsimp only); (try k_fold))
  k_steps
  all_goals first
    | (exfalso; omega)
    | exact hret _ _ _ _ (by k_asm) (by k_asm) (by assumption) (num_cast (by assumption) (roundAt_of (by omega) (by omega)))
end
section
local macro_rules | `(tactic| walk_at "ite") => `(tactic| first | (k_closed; k_dflt (first | refine ite_pos (by decide) ?_ | refine ite_neg (by decide) ?_)) | with_reducible refine ite_tt ?_ | with_reducible refine ite_ff ?_ | (with_reducible refine split_ine ?_ ?_ <;> intro _) | (with_reducible refine split_ieq ?_ ?_ <;> intro _))
local macro_rules | `(tactic| walk_at "execs cons") => `(tactic| (with_reducible refine gentoks ?_; intro tk))
local macro_rules | `(tactic| walk_at "execs nil") => `(tactic| (with_reducible refine gentoks ?_; intro tk))
local macro_rules | `(tactic| walk_at "inplaceOp BitXor int int") => `(tactic| (with_reducible refine ixor0 ?_))
local macro_rules | `(tactic| walk_at "assign Tuple") => `(tactic| (k_here; (with_reducible show wpAny _ _ (assign (Expr.Tuple _ _ _) _ (Value.ref _)) _ _ _); k_dflt (refine' unpack_num ?Rq1029 ?Fq1029 ?Nq1029 ?Xq1029 ?k1q1029 ?k2q1029 ?k3q1029 ?_; (case Rq1029 => assumption); (case Fq1029 => k_asm); (case Nq1029 => k_asm); (case Xq1029 => k_asm); (case k1q1029 => exact rfl); (case k2q1029 => exact rfl); (case k3q1029 => exact rfl)); intro t1' t2' t3' t4' h' F' N'; (try k_sweep)))
local macro_rules | `(tactic| walk_at "call ref") => `(tactic| (k_here; k_dflt (refine' gives_num (normalize ?hsq1030 ?hbq1030 ?hpq1030 ?hmq1030 ?hbcq1030) ?Bq1030 ?Fq1030 ?Xq1030 ?Nq1030 ?Tq1030 ?hkq1030 ?hdq1030 ?huq1030 ?_; (case hsq1030 => first | assumption | exact Or.inl rfl | exact Or.inr rfl); (case hbq1030 => first | exact bits_le (by omega) (by omega) | assumption); (case hpq1030 => assumption); (case hmq1030 => omega); (case hbcq1030 => first | exact rfl | assumption); (case Bq1030 => k_asm); (case Fq1030 => k_asm); (case Xq1030 => k_asm); (case Nq1030 => k_asm); (case Tq1030 => k_asm); (case hkq1030 => first | exact rfl | assumption); (case hdq1030 => ktr_room); (case huq1030 => ktr_units); intro r9 tl9 h9 tk9 F9 N9 hl9 ho9; (try dsimp only); (try k_fold))))
set_option maxRecDepth 100000 in
set_option maxHeartbeats 8000000 in
theorem add_same {w : World} {mean : ExcName → Option Value} {mg mb : Str → Option Value} {news : List (Addr × Obj)} {way : Way} {ssign sman sexp sbc tsign tman texp tbc prec z : Int} {a1 a2 : Addr} {u1 u2 : Tok}
    (R1 : IsNum w news (.ref a1) (ssign, sman, sexp, sbc)) (R2 : IsNum w news (.ref a2) (tsign, tman, texp, tbc)) (hp : 0 < prec)
    (hs1 : ssign = 0 ∨ ssign = 1) (hs2 : tsign = 0 ∨ tsign = 1) (hm1 : 0 < sman) (hm2 : 0 < tman) (hM1 : sman < 2 ^ 60) (hM2 : tman < 2 ^ 60)
    (h0 : sexp - texp = 0)
    (hz : (ssign = 0 ∧ tsign = 0 ∧ z = sman + tman) ∨ (ssign = 0 ∧ tsign = 1 ∧ z = sman - tman) ∨ (ssign = 1 ∧ tsign = 0 ∧ z = tman - sman) ∨ (ssign = 1 ∧ tsign = 1 ∧ z = -sman - tman)) :
    Gives w mean mg mb 14 200 76 [.ref a1, .ref a2, .int prec u1, .str way.str u2] news (fun tl r => IsNum w tl r (roundAt way prec z texp)) := by
  suffices h : ((fun (_ : OpenLaw) (_ : Params → Frag) => True) PySem.Challenge.rw_aw5009_01 hd.heap_39) → Gives w mean mg mb 14 200 76 [.ref a1, .ref a2, .int prec u1, .str way.str u2] news (fun tl r => IsNum w tl r (roundAt way prec z texp)) from h trivial
  k_fill
  intro _
  unfold Gives
  intro dp un gd cn cs a ccd cl outer A₀ base h₀ L m s Q E B F X N T hk hd hu hret
  refine wpAny_call ?_
  k_dflt (refine' code_def ?k1 ?k2 ?k3 ?k4 ?k5 ?kA ?kF ?kK ?k6 ?k7 ?k8 ?k9 ?kB ?_ ?c2 ?c3 ?c4 ?c5; (case kA => exact rfl); (case kF => exact rfl); (case kK => assumption); (case k1 => k_asm); (case k2 => k_asm); (case k3 => k_asm); (case k4 => k_asm); (case k5 => k_asm); (case k6 => k_is); (case k7 => k_is); (case k8 => ktr_room); (case k9 => exact binds_K (by k_in) rfl (by k_is) rfl rfl rfl); (case c5 => decide); (case kB => exact locs rfl); (case c2 => exact rfl); (case c3 => exact rfl); (case c4 => exact rfl); k_whole; intro g' L' h' FG' F' N' B' X' T'; (try dsimp only); (try k_fold))
  k_steps
  all_goals first
    | (exfalso; omega)
    | exact hret _ _ _ _ (by k_asm) (by k_asm) (by assumption) (num_cast (by assumption) (roundAt_of (by omega) (by omega)))
set_option maxRecDepth 100000 in
set_option maxHeartbeats 8000000 in
theorem add_zl {w : World} {mean : ExcName → Option Value} {mg mb : Str → Option Value} {news : List (Addr × Obj)} {way : Way} {ssign sman sexp sbc tsign tman texp tbc prec z : Int} {a1 a2 : Addr} {u1 u2 : Tok}
    (R1 : IsNum w news (.ref a1) (0, 0, 0, 0)) (R2 : IsNum w news (.ref a2) (tsign, tman, texp, tbc)) (hp : 0 < prec)
    (hs2 : tsign = 0 ∨ tsign = 1) (hm2 : 0 < tman) (hM2 : tman < 2 ^ 60) (hbc : tbc = (Builtin.Int.intBits tman : Int)) (hb : tbc ≤ 1000)
    (hz : (tsign = 0 ∧ z = tman) ∨ (tsign = 1 ∧ z = -tman)) :
    Gives w mean mg mb 14 200 76 [.ref a1, .ref a2, .int prec u1, .str way.str u2] news (fun tl r => IsNum w tl r (roundAt way prec z texp)) := by
  suffices h : ((fun (_ : OpenLaw) (_ : Params → Frag) => True) PySem.Challenge.rw_aw5009_01 hd.heap_39) → Gives w mean mg mb 14 200 76 [.ref a1, .ref a2, .int prec u1, .str way.str u2] news (fun tl r => IsNum w tl r (roundAt way prec z texp)) from h trivial
  k_fill
  intro _
  unfold Gives
  intro dp un gd cn cs a ccd cl outer A₀ base h₀ L m s Q E B F X N T hk hd hu hret
  refine wpAny_call ?_
  k_dflt (refine' code_def ?k1 ?k2 ?k3 ?k4 ?k5 ?kA ?kF ?kK ?k6 ?k7 ?k8 ?k9 ?kB ?_ ?c2 ?c3 ?c4 ?c5; (case kA => exact rfl); (case kF => exact rfl); (case kK => assumption); (case k1 => k_asm); (case k2 => k_asm); (case k3 => k_asm); (case k4 => k_asm); (case k5 => k_asm); (case k6 => k_is); (case k7 => k_is); (case k8 => ktr_room); (case k9 => exact binds_K (by k_in) rfl (by k_is) rfl rfl rfl); (case c5 => decide); (case kB => exact locs rfl); (case c2 => exact rfl); (case c3 => exact rfl); (case c4 => exact rfl); k_whole; intro g' L' h' FG' F' N' B' X' T'; (try dsimp only); (try k_fold))
  k_steps
  all_goals first
    | (exfalso; omega)
    | exact hret _ _ _ _ (by k_asm) (by k_asm) (by assumption) (num_cast (by assumption) (roundAt_of (by omega) (by omega)))
    | exact hret _ _ _ _ (by k_asm) (by k_asm) (by assumption) (num_cast (by assumption) (roundAt_of' hbc (by omega) (by omega)))
set_option maxRecDepth 100000 in
set_option maxHeartbeats 8000000 in
theorem add_zr {w : World} {mean : ExcName → Option Value} {mg mb : Str → Option Value} {news : List (Addr × Obj)} {way : Way} {ssign sman sexp sbc tsign tman texp tbc prec z : Int} {a1 a2 : Addr} {u1 u2 : Tok}
    (R1 : IsNum w news (.ref a1) (ssign, sman, sexp, sbc)) (R2 : IsNum w news (.ref a2) (0, 0, 0, 0)) (hp : 0 < prec)
    (hs1 : ssign = 0 ∨ ssign = 1) (hm1 : 0 < sman) (hM1 : sman < 2 ^ 60) (hbc : sbc = (Builtin.Int.intBits sman : Int)) (hb : sbc ≤ 1000)
    (hz : (ssign = 0 ∧ z = sman) ∨ (ssign = 1 ∧ z = -sman)) :
    Gives w mean mg mb 14 200 76 [.ref a1, .ref a2, .int prec u1, .str way.str u2] news (fun tl r => IsNum w tl r (roundAt way prec z sexp)) := by
  suffices h : ((fun (_ : OpenLaw) (_ : Params → Frag) => True) PySem.Challenge.rw_aw5009_01 hd.heap_39) → Gives w mean mg mb 14 200 76 [.ref a1, .ref a2, .int prec u1, .str way.str u2] news (fun tl r => IsNum w tl r (roundAt way prec z sexp)) from h trivial
  k_fill
  intro _
  unfold Gives
  intro dp un gd cn cs a ccd cl outer A₀ base h₀ L m s Q E B F X N T hk hd hu hret
  refine wpAny_call ?_
  k_dflt (refine' code_def ?k1 ?k2 ?k3 ?k4 ?k5 ?kA ?kF ?kK ?k6 ?k7 ?k8 ?k9 ?kB ?_ ?c2 ?c3 ?c4 ?c5; (case kA => exact rfl); (case kF => exact rfl); (case kK => assumption); (case k1 => k_asm); (case k2 => k_asm); (case k3 => k_asm); (case k4 => k_asm); (case k5 => k_asm); (case k6 => k_is); (case k7 => k_is); (case k8 => ktr_room); (case k9 => exact binds_K (by k_in) rfl (by k_is) rfl rfl rfl); (case c5 => decide); (case kB => exact locs rfl); (case c2 => exact rfl); (case c3 => exact rfl); (case c4 => exact rfl); k_whole; intro g' L' h' FG' F' N' B' X' T'; (try dsimp only); (try k_fold))
  k_steps
  all_goals first
    | (exfalso; omega)
    | exact hret _ _ _ _ (by k_asm) (by k_asm) (by assumption) (num_cast (by assumption) (roundAt_of (by omega) (by omega)))
    | exact hret _ _ _ _ (by k_asm) (by k_asm) (by assumption) (num_cast (by assumption) (roundAt_of' hbc (by omega) (by omega)))
set_option maxRecDepth 100000 in
set_option maxHeartbeats 8000000 in
theorem add_zz {w : World} {mean : ExcName → Option Value} {mg mb : Str → Option Value} {news : List (Addr × Obj)} {way : Way} {ssign sman sexp sbc tsign tman texp tbc prec z : Int} {a1 a2 : Addr} {u1 u2 : Tok}
    (R1 : IsNum w news (.ref a1) (0, 0, 0, 0)) (R2 : IsNum w news (.ref a2) (0, 0, 0, 0)) (hp : 0 < prec)
    (hz : z = 0) :
    Gives w mean mg mb 14 200 76 [.ref a1, .ref a2, .int prec u1, .str way.str u2] news (fun tl r => tl = [] ∧ r = .ref a2) := by
  suffices h : ((fun (_ : OpenLaw) (_ : Params → Frag) => True) PySem.Challenge.rw_aw5009_01 hd.heap_39) → Gives w mean mg mb 14 200 76 [.ref a1, .ref a2, .int prec u1, .str way.str u2] news (fun tl r => tl = [] ∧ r = .ref a2) from h trivial
  k_fill
  intro _
  unfold Gives
  intro dp un gd cn cs a ccd cl outer A₀ base h₀ L m s Q E B F X N T hk hd hu hret
  refine wpAny_call ?_
  k_dflt (refine' code_def ?k1 ?k2 ?k3 ?k4 ?k5 ?kA ?kF ?kK ?k6 ?k7 ?k8 ?k9 ?kB ?_ ?c2 ?c3 ?c4 ?c5; (case kA => exact rfl); (case kF => exact rfl); (case kK => assumption); (case k1 => k_asm); (case k2 => k_asm); (case k3 => k_asm); (case k4 => k_asm); (case k5 => k_asm); (case k6 => k_is); (case k7 => k_is); (case k8 => ktr_room); (case k9 => exact binds_K (by k_in) rfl (by k_is) rfl rfl rfl); (case c5 => decide); (case kB => exact locs rfl); (case c2 => exact rfl); (case c3 => exact rfl); (case c4 => exact rfl); k_whole; intro g' L' h' FG' F' N' B' X' T'; (try dsimp only); (try k_fold))
  k_steps
  all_goals first
    | (exfalso; omega)
    | exact hret _ _ _ _ (by k_asm) (by k_asm) (by assumption) (num_cast (by assumption) (roundAt_of (by omega) (by omega)))
    | exact hret _ [] _ _ (by k_asm) (by k_asm) (fun _ _ _ h9 => nomatch h9) ⟨rfl, rfl⟩
end
section
theorem and_even (k : Nat) (h : 0 < k) : (2 * k) &&& (2 * k - 1) = 2 * (k &&& (k - 1)) := by
  have e : 2 * k - 1 = 2 * (k - 1) + 1 := by omega
  rw [e]
  apply Nat.eq_of_testBit_eq
  intro i
  cases i with
  | zero => simp [Nat.testBit_zero]
  | succ i =>
    rw [Nat.testBit_and, Nat.testBit_succ, Nat.testBit_succ, Nat.testBit_succ]
    have e1 : 2 * k / 2 = k := by omega
    have e2 : (2 * (k - 1) + 1) / 2 = k - 1 := by omega
    have e3 : 2 * (k &&& (k - 1)) / 2 = k &&& (k - 1) := by omega
    rw [e1, e2, e3, Nat.testBit_and]
theorem and_odd (k : Nat) : (2 * k + 1) &&& (2 * k + 1 - 1) = 2 * k := by
  have e : 2 * k + 1 - 1 = 2 * k := by omega
  rw [e]
  apply Nat.eq_of_testBit_eq
  intro i
  cases i with
  | zero => simp [Nat.testBit_zero]
  | succ i =>
    rw [Nat.testBit_and, Nat.testBit_succ, Nat.testBit_succ]
    have e1 : (2 * k + 1) / 2 = k := by omega
    have e2 : 2 * k / 2 = k := by omega
    rw [e1, e2, Bool.and_self]
theorem intBits_nat {n : Nat} (h : 0 < n) : Builtin.Int.intBits (n : Int) = n.log2 + 1 := by
  unfold Builtin.Int.intBits
  rw [if_neg (by simp only [beq_iff_eq]; omega)]
  simp
theorem intBits_double {n : Nat} (h : 0 < n) : Builtin.Int.intBits ((2 * n : Nat) : Int) = Builtin.Int.intBits (n : Int) + 1 := by
  rw [intBits_nat h, intBits_nat (by omega), Nat.log2_two_mul (by omega)]
theorem trailF_odd (k : Nat) : trailF ((2 * k + 1 : Nat) : Int) = 0 := by
  unfold trailF
  rw [if_neg (by omega), bitAnd_low]
  have e : (((2 * k + 1 : Nat) : Int)).natAbs = 2 * k + 1 := by omega
  rw [e, and_odd]
  have e2 : 2 * k + 1 - 2 * k = 1 := by omega
  rw [e2]
  decide
theorem trailF_even (k : Nat) (h : 0 < k) : trailF ((2 * k : Nat) : Int) = trailF (k : Int) + 1 := by
  unfold trailF
  rw [if_neg (by omega), if_neg (by omega), bitAnd_low, bitAnd_low]
  have e : (((2 * k : Nat) : Int)).natAbs = 2 * k := by omega
  have e' : ((k : Int)).natAbs = k := by omega
  rw [e, e', and_even k h]
  have hp := low_pos h
  have e2 : 2 * k - 2 * (k &&& (k - 1)) = 2 * (k - (k &&& (k - 1))) := by omega
  rw [e2, intBits_double hp]
  omega
/-- a number above nought is an odd one times a power of two, and trailF is its exponent -/
theorem trailF_spec : ∀ m : Nat, 0 < m → ∃ (t o : Nat), trailF (m : Int) = (t : Int) ∧ m = (2 * o + 1) * 2 ^ t := by
  intro m
  induction m using Nat.strongRecOn with
  | _ m ih =>
    intro h
    rcases Nat.mod_two_eq_zero_or_one m with h2 | h2
    · obtain ⟨k, hk⟩ : ∃ k, m = 2 * k := ⟨m / 2, by omega⟩
      subst hk
      obtain ⟨t, o, e1, e2⟩ := ih k (by omega) (by omega)
      refine ⟨t + 1, o, ?_, ?_⟩
      · rw [trailF_even k (by omega), e1]; omega
      · rw [Nat.pow_succ, ← Nat.mul_assoc, ← e2]; omega
    · obtain ⟨k, hk⟩ : ∃ k, m = 2 * k + 1 := ⟨m / 2, by omega⟩
      subst hk
      exact ⟨0, k, trailF_odd k, by simp⟩
theorem odd_pow_inj {o o' : Nat} : ∀ {t t' : Nat}, (2 * o + 1) * 2 ^ t = (2 * o' + 1) * 2 ^ t' → t = t' ∧ o = o'
  | 0, 0, h => ⟨rfl, by simp at h; omega⟩
  | 0, t' + 1, h => by
    exfalso
    rw [Nat.pow_succ, ← Nat.mul_assoc] at h
    simp at h
    omega
  | t + 1, 0, h => by
    exfalso
    rw [Nat.pow_succ, ← Nat.mul_assoc] at h
    simp at h
    omega
  | t + 1, t' + 1, h => by
    rw [Nat.pow_succ, ← Nat.mul_assoc, Nat.pow_succ, ← Nat.mul_assoc] at h
    have := odd_pow_inj (o := o) (o' := o') (t := t) (t' := t') (by omega)
    omega
theorem trailF_of (o t : Nat) : trailF (((2 * o + 1) * 2 ^ t : Nat) : Int) = (t : Int) := by
  have hp : 0 < (2 * o + 1) * 2 ^ t := Nat.mul_pos (by omega) (Nat.pow_pos (by omega))
  obtain ⟨t', o', e1, e2⟩ := trailF_spec _ hp
  rw [e1, (odd_pow_inj e2).1]
theorem intBits_mul_pow {n : Nat} (h : 0 < n) : ∀ t : Nat, Builtin.Int.intBits ((n * 2 ^ t : Nat) : Int) = Builtin.Int.intBits (n : Int) + t
  | 0 => by simp
  | t + 1 => by
    have hp : 0 < n * 2 ^ t := Nat.mul_pos h (Nat.pow_pos (by omega))
    have e : n * 2 ^ (t + 1) = 2 * (n * 2 ^ t) := by rw [Nat.pow_succ, ← Nat.mul_assoc, Nat.mul_comm]
    rw [e, intBits_double hp, intBits_mul_pow h t]
    omega
theorem intBits_lt {n : Nat} (h : 0 < n) : n < 2 ^ Builtin.Int.intBits (n : Int) ∧ 2 ^ (Builtin.Int.intBits (n : Int) - 1) ≤ n := by
  rw [intBits_nat h]
  exact ⟨Nat.lt_log2_self, by simpa using Nat.log2_self_le (by omega)⟩
theorem intBits_of {n b : Nat} (h1 : 2 ^ b ≤ n) (h2 : n < 2 ^ (b + 1)) : Builtin.Int.intBits (n : Int) = b + 1 := by
  have hp : 0 < n := Nat.lt_of_lt_of_le (Nat.pow_pos (by omega)) h1
  rw [intBits_nat hp]
  have : n.log2 = b := (Nat.log2_eq_iff (by omega)).mpr ⟨h1, h2⟩
  rw [this]
end
section
theorem fdiv_pow (o t : Nat) : (((o * 2 ^ t : Nat) : Int)).fdiv (2 ^ ((t : Int)).toNat) = (o : Int) := by
  have e : ((t : Int)).toNat = t := by omega
  rw [e]
  have hp : (0 : Int) < 2 ^ t := Int.pow_pos (by omega)
  rw [Int.fdiv_eq_ediv_of_nonneg _ (Int.le_of_lt hp)]
  have : ((o * 2 ^ t : Nat) : Int) = (o : Int) * 2 ^ t := by simp
  rw [this, Int.mul_ediv_cancel _ (Int.ne_of_gt hp)]
/-- the number of the sign sg, the mantissa m, the exponent e -/
def canM (sg : Int) (m : Nat) (e : Int) : Num :=
  if m = 0 then (0, 0, 0, 0) else (sg, (m : Int).fdiv (2 ^ (trailF (m : Int)).toNat), e + trailF (m : Int), Builtin.Int.intBits ((m : Int).fdiv (2 ^ (trailF (m : Int)).toNat)))
theorem canM_zero (sg e : Int) : canM sg 0 e = (0, 0, 0, 0) := if_pos rfl
theorem canM_of (sg e : Int) (o t : Nat) : canM sg ((2 * o + 1) * 2 ^ t) e = (sg, ((2 * o + 1 : Nat) : Int), e + t, (Builtin.Int.intBits ((2 * o + 1 : Nat) : Int) : Int)) := by
  have hp : 0 < (2 * o + 1) * 2 ^ t := Nat.mul_pos (by omega) (Nat.pow_pos (by omega))
  unfold canM
  rw [if_neg (by omega), trailF_of, fdiv_pow]
theorem canM_pow (sg e : Int) (m t : Nat) : canM sg (m * 2 ^ t) e = canM sg m (e + t) := by
  by_cases h : m = 0
  · subst h; simp [canM]
  · obtain ⟨t', o, _, e2⟩ := trailF_spec m (by omega)
    rw [e2, canM_of, Nat.mul_assoc, ← Nat.pow_add, canM_of]
    have : e + ((t' + t : Nat) : Int) = e + (t : Int) + (t' : Int) := by omega
    rw [this]
theorem tail_canM {sg e bc : Int} {q : Nat} (hq : 0 < q) (hb : bc = (Builtin.Int.intBits (q : Int) : Int) ∨ ∃ p : Nat, bc = (p : Int) ∧ q = 2 ^ p) : tailF sg (q : Int) e bc = canM sg q e := by
  obtain ⟨t, o, e1, e2⟩ := trailF_spec q hq
  have hbits : Builtin.Int.intBits (q : Int) = Builtin.Int.intBits ((2 * o + 1 : Nat) : Int) + t := by rw [e2, intBits_mul_pow (by omega)]
  have hfd : ((q : Int)).fdiv (2 ^ (trailF (q : Int)).toNat) = ((2 * o + 1 : Nat) : Int) := by rw [e1, show (q : Int) = (((2 * o + 1) * 2 ^ t : Nat) : Int) from by rw [← e2], fdiv_pow]
  have hfin : ∀ x : Int, finF sg ((2 * o + 1 : Nat) : Int) x (bc - t) = (sg, ((2 * o + 1 : Nat) : Int), x, (Builtin.Int.intBits ((2 * o + 1 : Nat) : Int) : Int)) := by
    intro x
    unfold finF
    by_cases h1 : ((2 * o + 1 : Nat) : Int) = 1
    · rw [if_pos h1, h1]; rfl
    · rw [if_neg h1]
      rcases hb with hb | ⟨p, hb, hp⟩
      · have : bc - (t : Int) = (Builtin.Int.intBits ((2 * o + 1 : Nat) : Int) : Int) := by omega
        rw [this]
      · exfalso
        have e3 : (2 * o + 1) * 2 ^ t = (2 * 0 + 1) * 2 ^ p := by rw [← e2, hp]; simp
        have := (odd_pow_inj e3).2
        omega
  have hR : canM sg q e = (sg, ((2 * o + 1 : Nat) : Int), e + t, (Builtin.Int.intBits ((2 * o + 1 : Nat) : Int) : Int)) := by rw [e2, canM_of]
  rw [hR]
  unfold tailF
  rw [PyProof.Rows.bitAnd_m1]
  by_cases h2 : ((q : Int)) % 2 = 0
  · rw [if_pos h2, hfd, e1, hfin]
  · rw [if_neg h2]
    have ht : t = 0 := by
      cases t with
      | zero => rfl
      | succ t => exfalso; rw [Nat.pow_succ, ← Nat.mul_assoc] at e2; omega
    subst ht
    have e3 : (q : Int) = ((2 * o + 1 : Nat) : Int) := by simp at e2; omega
    have e4 : bc = bc - ((0 : Nat) : Int) := by omega
    rw [e3, e4, hfin]
    simp
end
section
theorem mask_mod (m j : Nat) : Builtin.bitAnd (m : Int) (1 * 2 ^ j - 1) = ((m % 2 ^ j : Nat) : Int) := by
  have hp : 0 < 2 ^ j := Nat.pow_pos (by omega)
  have e : (1 * 2 ^ j - 1 : Int) = ((2 ^ j - 1 : Nat) : Int) := by
    have : ((2 ^ j : Nat) : Int) = (2 : Int) ^ j := by simp
    omega
  rw [e, bitAnd_pp (by omega) (by omega)]
  have e1 : ((m : Int)).toNat = m := by omega
  have e2 : (((2 ^ j - 1 : Nat) : Int)).toNat = 2 ^ j - 1 := by omega
  rw [e1, e2, Nat.and_two_pow_sub_one_eq_mod]
theorem fdiv_nat (m j : Nat) : ((m : Int)).fdiv (2 ^ j) = ((m / 2 ^ j : Nat) : Int) := by
  have hp : (0 : Int) < 2 ^ j := Int.pow_pos (by omega)
  rw [Int.fdiv_eq_ediv_of_nonneg _ (Int.le_of_lt hp)]
  simp
theorem ceil_nat (m j : Nat) : ∃ q : Nat, -((-(m : Int)).fdiv (2 ^ j)) = (q : Int) ∧ m ≤ q * 2 ^ j ∧ q * 2 ^ j < m + 2 ^ j := by
  have hp : (0 : Int) < 2 ^ j := Int.pow_pos (by omega)
  have hc : ((2 ^ j : Nat) : Int) = (2 : Int) ^ j := by simp
  rw [Int.fdiv_eq_ediv_of_nonneg _ (Int.le_of_lt hp)]
  have h1 := Int.mul_ediv_add_emod (-(m : Int)) (2 ^ j)
  have h2 := Int.emod_nonneg (-(m : Int)) (Int.ne_of_gt hp)
  have h3 := Int.emod_lt_of_pos (-(m : Int)) hp
  generalize (-(m : Int)) / 2 ^ j = x at *
  have hx : x ≤ 0 := by
    rcases Int.lt_or_le 0 x with hx | hx
    · exfalso
      have : 2 ^ j * 1 ≤ (2 : Int) ^ j * x := Int.mul_le_mul_of_nonneg_left (by omega) (Int.le_of_lt hp)
      omega
    · exact hx
  refine ⟨(-x).toNat, by omega, ?_, ?_⟩
  · have : (((-x).toNat * 2 ^ j : Nat) : Int) = -(2 ^ j * x) := by
      rw [Int.natCast_mul, hc, Int.toNat_of_nonneg (by omega)]
      grind
    omega
  · have : (((-x).toNat * 2 ^ j : Nat) : Int) = -(2 ^ j * x) := by
      rw [Int.natCast_mul, hc, Int.toNat_of_nonneg (by omega)]
      grind
    omega
/-- what the quotient of a rounding down to n places less is -/
theorem near_nat (m j : Nat) : ∃ q : Nat, nearQ (m : Int) ((j + 1 : Nat) : Int) = (q : Int) ∧ 2 * (q * 2 ^ (j + 1)) ≤ 2 * m + 2 ^ (j + 1) ∧ 2 * m ≤ 2 * (q * 2 ^ (j + 1)) + 2 ^ (j + 1) ∧ m / 2 ^ (j + 1) ≤ q ∧ q ≤ m / 2 ^ (j + 1) + 1 := by
  have e1 : (((j + 1 : Nat) : Int) - 1).toNat = j := by omega
  have e2 : (2 : Int) ^ Int.toNat 1 = 2 ^ 1 := rfl
  have hp : 0 < 2 ^ j := Nat.pow_pos (by omega)
  have hps : 2 ^ (j + 1) = 2 * 2 ^ j := by rw [Nat.pow_succ]; omega
  have hdm := Nat.div_add_mod m (2 ^ j)
  have hlt := Nat.mod_lt m hp
  have hd2 : m / 2 ^ (j + 1) = m / 2 ^ j / 2 := by rw [hps, Nat.mul_comm, Nat.div_div_eq_div_mul]
  rw [hd2, hps]
  unfold nearQ
  simp only [e1, e2, fdiv_nat, PyProof.Rows.bitAnd_m1, mask_mod]
  generalize m / 2 ^ j = t at *
  generalize m % 2 ^ j = r at *
  generalize 2 ^ j = P at *
  have hm : m = P * t + r := by omega
  subst hm
  rcases Nat.mod_two_eq_zero_or_one t with h | h
  · obtain ⟨x, rfl⟩ : ∃ x, t = 2 * x := ⟨t / 2, by omega⟩
    refine ⟨x, ?_, ?_, ?_, by omega, by omega⟩
    · rw [if_pos (by omega)]; omega
    · have : P * (2 * x) = 2 * (x * P) := by grind
      have : x * (2 * P) = 2 * (x * P) := by grind
      omega
    · have : P * (2 * x) = 2 * (x * P) := by grind
      have : x * (2 * P) = 2 * (x * P) := by grind
      omega
  · obtain ⟨x, rfl⟩ : ∃ x, t = 2 * x + 1 := ⟨t / 2, by omega⟩
    have hu : ∀ q : Nat, (q = x + 1 ∨ q = x ∧ r = 0) → 2 * (q * (2 * P)) ≤ 2 * (P * (2 * x + 1) + r) + 2 * P ∧ 2 * (P * (2 * x + 1) + r) ≤ 2 * (q * (2 * P)) + 2 * P := by
      intro q hq
      have a1 : P * (2 * x + 1) = 2 * (x * P) + P := by grind
      rcases hq with rfl | ⟨rfl, rfl⟩
      · have a2 : (x + 1) * (2 * P) = 2 * (x * P) + 2 * P := by grind
        omega
      · have a2 : q * (2 * P) = 2 * (q * P) := by grind
        omega
    rw [if_neg (by omega)]
    by_cases hb : Builtin.bitAnd ((2 * x + 1 : Nat) : Int) 2 = 0
    · rw [if_pos hb]
      by_cases hr : ((r : Nat) : Int) = 0
      · rw [if_pos hr]
        obtain ⟨u1, u2⟩ := hu x (.inr ⟨rfl, by omega⟩)
        exact ⟨x, by omega, u1, u2, by omega, by omega⟩
      · rw [if_neg hr]
        obtain ⟨u1, u2⟩ := hu (x + 1) (.inl rfl)
        exact ⟨x + 1, by omega, u1, u2, by omega, by omega⟩
    · rw [if_neg hb]
      obtain ⟨u1, u2⟩ := hu (x + 1) (.inl rfl)
      exact ⟨x + 1, by omega, u1, u2, by omega, by omega⟩
end
section
def canI (e v : Int) : Num := canM (if v < 0 then 1 else 0) v.natAbs e
/-- v is Z rounded to p bits -/
def Rd (way : Way) (p : Nat) (Z v : Int) : Prop :=
  (∃ (m : Int) (j : Nat), v = m * 2 ^ j ∧ m.natAbs ≤ 2 ^ p) ∧ v.natAbs ≤ 2 * Z.natAbs ∧
  match way with
  | .n => ∃ k : Nat, (∃ q : Int, v = q * 2 ^ k) ∧ 2 * (v - Z).natAbs ≤ 2 ^ k ∧ (k = 0 ∨ 2 ^ (p + k) ≤ 2 * Z.natAbs)
  | .f => v ≤ Z
  | .c => Z ≤ v
def QuoOk (way : Way) (sg : Int) (m k q : Nat) : Prop :=
  match way with
  | .n => 2 * (q * 2 ^ k) ≤ 2 * m + 2 ^ k ∧ 2 * m ≤ 2 * (q * 2 ^ k) + 2 ^ k
  | .f => (sg = 0 → q * 2 ^ k ≤ m) ∧ (sg = 1 → m ≤ q * 2 ^ k)
  | .c => (sg = 0 → m ≤ q * 2 ^ k) ∧ (sg = 1 → q * 2 ^ k ≤ m)
theorem floor_le (m k : Nat) : m / 2 ^ k * 2 ^ k ≤ m := Nat.div_mul_le_self m (2 ^ k)
theorem quo_spec (way : Way) {sg : Int} (hs : sg = 0 ∨ sg = 1) (m : Nat) {k : Nat} (hk : 0 < k) : ∃ q : Nat, quo way sg (m : Int) (k : Int) = (q : Int) ∧ m / 2 ^ k ≤ q ∧ q ≤ m / 2 ^ k + 1 ∧ QuoOk way sg m k q := by
  have hp : 0 < 2 ^ k := Nat.pow_pos (by omega)
  have hF : floorQ (m : Int) (k : Int) = ((m / 2 ^ k : Nat) : Int) := by
    unfold floorQ
    have : ((k : Int)).toNat = k := by omega
    rw [this, fdiv_nat]
  obtain ⟨q, hC, c1, c2⟩ := ceil_nat m k
  have hC : ceilQ (m : Int) (k : Int) = (q : Int) := by
    unfold ceilQ
    have : ((k : Int)).toNat = k := by omega
    rw [this, hC]
  have c3 : m / 2 ^ k ≤ q := by
    have := Nat.div_le_div_right (c := 2 ^ k) c1
    rw [Nat.mul_div_cancel _ hp] at this
    exact this
  have c4 : q ≤ m / 2 ^ k + 1 := by
    have hdm := Nat.div_add_mod m (2 ^ k)
    have hlt := Nat.mod_lt m hp
    rcases Nat.lt_or_ge (m / 2 ^ k + 1) q with h | h
    · exfalso
      have := Nat.mul_le_mul_right (2 ^ k) (show m / 2 ^ k + 1 + 1 ≤ q from h)
      have e : (m / 2 ^ k + 1 + 1) * 2 ^ k = 2 ^ k * (m / 2 ^ k) + 2 ^ k + 2 ^ k := by grind
      omega
    · exact h
  cases way with
  | n =>
    obtain ⟨j, rfl⟩ : ∃ j, k = j + 1 := ⟨k - 1, by omega⟩
    obtain ⟨q', e, h1, h2, h3, h4⟩ := near_nat m j
    exact ⟨q', e, h3, h4, h1, h2⟩
  | f =>
    rcases hs with rfl | rfl
    · exact ⟨_, hF, Nat.le_refl _, Nat.le_succ _, fun _ => floor_le m k, fun h => by omega⟩
    · exact ⟨q, hC, c3, c4, fun h => by omega, fun _ => c1⟩
  | c =>
    rcases hs with rfl | rfl
    · exact ⟨q, hC, c3, c4, fun _ => c1, fun h => by omega⟩
    · exact ⟨_, hF, Nat.le_refl _, Nat.le_succ _, fun h => by omega, fun _ => floor_le m k⟩
theorem rd_self {way : Way} {p : Nat} {Z : Int} (h : Z.natAbs ≤ 2 ^ p) : Rd way p Z Z := by
  refine ⟨⟨Z, 0, by simp, h⟩, by omega, ?_⟩
  cases way with
  | n => exact ⟨0, ⟨Z, by simp⟩, by simp, .inl rfl⟩
  | f => exact Int.le_refl Z
  | c => exact Int.le_refl Z
theorem roundAt_rd (way : Way) {p : Nat} (hp : 0 < p) (Z e : Int) : ∃ v, Rd way p Z v ∧ roundAt way (p : Int) Z e = canI e v := by
  by_cases h0 : Z = 0
  · subst h0
    exact ⟨0, rd_self (by simp), by simp [roundAt, normF, canI, canM]⟩
  · have hm : 0 < Z.natAbs := by omega
    obtain ⟨hb2, hb1⟩ := intBits_lt hm
    generalize hmm : Z.natAbs = m at *
    generalize hsg : (if Z < 0 then (1 : Int) else 0) = sg
    have hs : sg = 0 ∨ sg = 1 := by subst hsg; split <;> simp
    have hbp : 0 < Builtin.Int.intBits (m : Int) := by rw [intBits_nat hm]; omega
    generalize hbe : Builtin.Int.intBits (m : Int) = b at *
    have hR : roundAt way (p : Int) Z e = normF (quo way sg (m : Int) ((b : Int) - p)) sg m e b p := by
      unfold roundAt
      simp only [hmm, hsg, hbe]
    rw [hR]
    unfold normF
    rw [if_neg (by omega)]
    by_cases hbk : 0 < (b : Int) - p
    · rw [if_pos hbk]
      obtain ⟨k, rfl⟩ : ∃ k, b = p + k := ⟨b - p, by omega⟩
      have hkpos : 0 < k := by omega
      have ek : ((p + k : Nat) : Int) - p = (k : Int) := by omega
      rw [ek]
      obtain ⟨q, hq, q1, q2, qok⟩ := quo_spec way hs m hkpos
      rw [hq]
      have hP : 0 < 2 ^ k := Nat.pow_pos (by omega)
      have hpp : 0 < 2 ^ (p - 1) := Nat.pow_pos (by omega)
      have e1 : 2 ^ (p + k - 1) = 2 ^ (p - 1) * 2 ^ k := by rw [← Nat.pow_add]; congr 1; omega
      have e2 : 2 ^ (p + k) = 2 ^ p * 2 ^ k := Nat.pow_add ..
      have e3 : 2 ^ p = 2 * 2 ^ (p - 1) := by rw [← Nat.pow_succ']; congr 1; omega
      have d1 : 2 ^ (p - 1) ≤ m / 2 ^ k := (Nat.le_div_iff_mul_le hP).mpr (by omega)
      have d2 : m / 2 ^ k < 2 ^ p := (Nat.div_lt_iff_lt_mul hP).mpr (by omega)
      have hq0 : 0 < q := by omega
      have htail : tailF sg (q : Int) (e + (k : Int)) (p : Int) = canM sg q (e + (k : Int)) := by
        refine tail_canM hq0 ?_
        rcases Nat.lt_or_ge q (2 ^ p) with h | h
        · left
          obtain ⟨p', rfl⟩ : ∃ p', p = p' + 1 := ⟨p - 1, by omega⟩
          rw [intBits_of (by simpa using Nat.le_trans d1 q1) h]
        · right
          exact ⟨p, rfl, by omega⟩
      rw [htail, ← canM_pow]
      have hle : q * 2 ^ k ≤ 2 * m := by
        have := Nat.mul_le_mul_right (2 ^ k) q2
        have e4 : (m / 2 ^ k + 1) * 2 ^ k = m / 2 ^ k * 2 ^ k + 2 ^ k := by grind
        have f1 := floor_le m k
        have f2 : 2 ^ k * 1 ≤ m := Nat.le_trans (Nat.mul_le_mul_left _ (Nat.le_trans (by omega) d1)) (by rw [Nat.mul_comm]; exact f1)
        omega
      have hqk : 0 < q * 2 ^ k := Nat.mul_pos hq0 hP
      have hqc : ((q * 2 ^ k : Nat) : Int) = (q : Int) * 2 ^ k := by simp
      refine ⟨if sg = 0 then ((q * 2 ^ k : Nat) : Int) else -((q * 2 ^ k : Nat) : Int), ⟨?_, ?_, ?_⟩, ?_⟩
      · rcases hs with rfl | rfl
        · exact ⟨q, k, by simp, by omega⟩
        · exact ⟨-(q : Int), k, by simp [Int.neg_mul], by omega⟩
      · split <;> omega
      · have hZ : sg = 0 ∧ Z = m ∨ sg = 1 ∧ Z = -(m : Int) := by subst hsg; split <;> omega
        cases way with
        | n =>
          have e5 : 2 ^ (p + k) = 2 * 2 ^ (p + k - 1) := by rw [← Nat.pow_succ']; congr 1; omega
          refine ⟨k, ?_, ?_, .inr (by omega)⟩
          · rcases hs with rfl | rfl
            · exact ⟨q, by simp⟩
            · exact ⟨-(q : Int), by simp [Int.neg_mul]⟩
          · obtain ⟨a1, a2⟩ := qok
            split <;> omega
        | f =>
          obtain ⟨a1, a2⟩ := qok
          show _ ≤ Z
          split <;> omega
        | c =>
          obtain ⟨a1, a2⟩ := qok
          show Z ≤ _
          split <;> omega
      · unfold canI
        have ev : (if sg = 0 then ((q * 2 ^ k : Nat) : Int) else -((q * 2 ^ k : Nat) : Int)).natAbs = q * 2 ^ k := by split <;> omega
        rw [ev]
        congr 1
        rcases hs with rfl | rfl
        · rw [if_pos rfl, if_neg (show ¬ ((q * 2 ^ k : Nat) : Int) < 0 by omega)]
        · rw [if_neg (show ¬ (1 : Int) = 0 by decide), if_pos (show -((q * 2 ^ k : Nat) : Int) < 0 by omega)]
    · rw [if_neg hbk]
      refine ⟨Z, rd_self ?_, ?_⟩
      · have : 2 ^ b ≤ 2 ^ p := Nat.pow_le_pow_right (by omega) (by omega)
        omega
      · rw [tail_canM hm (.inl (by rw [hbe]))]
        unfold canI
        rw [hmm, hsg]
end
section
theorem rd_scale {way : Way} {p : Nat} {Z v : Int} (t : Nat) (h : Rd way p Z v) : Rd way p (Z * 2 ^ t) (v * 2 ^ t) := by
  have hp : (0 : Int) < 2 ^ t := Int.pow_pos (by omega)
  have hN : ((2 : Int) ^ t).natAbs = 2 ^ t := by simp [Int.natAbs_pow]
  obtain ⟨⟨m, j, rfl, hm⟩, h2, h3⟩ := h
  refine ⟨⟨m, j + t, by rw [Int.pow_add, Int.mul_assoc], hm⟩, ?_, ?_⟩
  · rw [Int.natAbs_mul, Int.natAbs_mul Z, hN, ← Nat.mul_assoc]
    exact Nat.mul_le_mul_right _ h2
  · cases way with
    | n =>
      obtain ⟨k, ⟨q, hq⟩, h4, h5⟩ := h3
      have hs : (m * 2 ^ j * 2 ^ t - Z * 2 ^ t).natAbs = (m * 2 ^ j - Z).natAbs * 2 ^ t := by rw [← Int.sub_mul, Int.natAbs_mul, hN]
      rcases h5 with rfl | h5
      · refine ⟨0, ⟨m * 2 ^ j * 2 ^ t, by simp⟩, ?_, .inl rfl⟩
        have : (m * 2 ^ j - Z).natAbs = 0 := by simp at h4; omega
        rw [hs, this]; simp
      · refine ⟨k + t, ⟨q, by rw [hq, Int.pow_add, Int.mul_assoc]⟩, ?_, .inr ?_⟩
        · rw [hs, ← Nat.mul_assoc, Nat.pow_add]
          exact Nat.mul_le_mul_right _ h4
        · rw [Int.natAbs_mul, hN, ← Nat.mul_assoc, ← Nat.add_assoc, Nat.pow_add 2 (p + k)]
          exact Nat.mul_le_mul_right _ h5
    | f => exact Int.mul_le_mul_of_nonneg_right h3 (Int.le_of_lt hp)
    | c => exact Int.mul_le_mul_of_nonneg_right h3 (Int.le_of_lt hp)
theorem near_err {p : Nat} {Z v : Int} (h : Rd .n p Z v) : (v - Z).natAbs * 2 ^ p ≤ Z.natAbs := by
  obtain ⟨_, _, k, _, h4, h5⟩ := h
  rcases h5 with rfl | h5
  · have : (v - Z).natAbs = 0 := by simp at h4; omega
    rw [this]; omega
  · rw [Nat.pow_add] at h5
    have := Nat.mul_le_mul_left (2 ^ p) h4
    have e : 2 ^ p * (2 * (v - Z).natAbs) = 2 * ((v - Z).natAbs * 2 ^ p) := by grind
    omega
theorem grid {q A Z : Int} {k : Nat} (h : 2 * (q * 2 ^ k - Z).natAbs ≤ 2 ^ k) : (q * 2 ^ k - Z).natAbs ≤ (A * 2 ^ k - Z).natAbs := by
  have hN : ((2 : Int) ^ k).natAbs = 2 ^ k := by simp [Int.natAbs_pow]
  by_cases hq : q = A
  · subst hq; omega
  · have h1 : (q * 2 ^ k - A * 2 ^ k).natAbs = (q - A).natAbs * 2 ^ k := by rw [← Int.sub_mul, Int.natAbs_mul, hN]
    have h2 : 1 * 2 ^ k ≤ (q - A).natAbs * 2 ^ k := Nat.mul_le_mul_right _ (by omega)
    omega
theorem near_rep {p : Nat} (hp : 0 < p) {a b v : Int} (ha : ∃ (m : Int) (j : Nat), a = m * 2 ^ j ∧ m.natAbs ≤ 2 ^ p) (h : Rd .n p (a + b) v) : (v - (a + b)).natAbs ≤ b.natAbs := by
  obtain ⟨_, _, k, ⟨q, rfl⟩, h4, h5⟩ := h
  rcases h5 with rfl | h5
  · have : (q * 2 ^ 0 - (a + b)).natAbs = 0 := by simp at h4 ⊢; omega
    omega
  · obtain ⟨m, j, rfl, hm⟩ := ha
    by_cases hkj : k ≤ j
    · obtain ⟨i, rfl⟩ : ∃ i, j = k + i := ⟨j - k, by omega⟩
      have e : m * 2 ^ (k + i) = m * 2 ^ i * 2 ^ k := by rw [Int.pow_add]; grind
      have := grid (A := m * 2 ^ i) h4
      rw [← e] at this
      omega
    · obtain ⟨i, rfl⟩ : ∃ i, k = j + 1 + i := ⟨k - j - 1, by omega⟩
      have hN : ((2 : Int) ^ j).natAbs = 2 ^ j := by simp [Int.natAbs_pow]
      have a1 : (m * 2 ^ j).natAbs ≤ 2 ^ p * 2 ^ j := by rw [Int.natAbs_mul, hN]; exact Nat.mul_le_mul_right _ hm
      have a2 : 2 ^ p * 2 ^ j ≤ 2 ^ p * 2 ^ (j + i) := Nat.mul_le_mul_left _ (Nat.pow_le_pow_right (by omega) (by omega))
      have a3 : 2 ^ (p + (j + 1 + i)) = 2 * (2 ^ p * 2 ^ (j + i)) := by
        rw [← Nat.pow_add, ← Nat.pow_succ']; congr 1; omega
      have a4 : 2 ^ p * 2 ^ (j + i) = 2 ^ (p - 1) * 2 ^ (j + 1 + i) := by
        rw [← Nat.pow_add, ← Nat.pow_add]; congr 1; omega
      have a5 : ((2 ^ (p - 1) * 2 ^ (j + 1 + i) : Nat) : Int) = (2 : Int) ^ (p - 1) * 2 ^ (j + 1 + i) := by simp
      generalize m * 2 ^ j = a at *
      by_cases hz : 0 ≤ a + b
      · have := grid (A := 2 ^ (p - 1)) h4
        rw [← a5] at this
        omega
      · have := grid (A := -2 ^ (p - 1)) h4
        rw [Int.neg_mul, ← a5] at this
        omega
structure Ghost where
  z : Int
  s : Int
  a : Nat
  k : Nat
def Good (way : Way) (p : Nat) (g : Ghost) : Prop :=
  g.s.natAbs ≤ g.a ∧ (∃ (m : Int) (j : Nat), g.z = m * 2 ^ j ∧ m.natAbs ≤ 2 ^ p) ∧ g.z.natAbs ≤ 2 ^ g.k * g.a ∧
  match way with
  | .n => (g.z - g.s).natAbs * 2 ^ p ≤ g.k * g.a
  | .f => g.z ≤ g.s
  | .c => g.s ≤ g.z
theorem jr_arith {U e1 e2 d z1 z2 k1 k2 a1 a2 : Nat} (hU : 0 < U) (h1 : e1 * U ≤ k1 * a1) (h2 : e2 * U ≤ k2 * a2) (d1 : d ≤ z1) (d2 : d ≤ z2) (d3 : d * U ≤ z1 + z2) (hz1 : z1 ≤ a1 + e1) (hz2 : z2 ≤ a2 + e2) :
    (e1 + e2 + d) * U ≤ (k1 + k2 + 1) * (a1 + a2) := by
  have L : (e1 + e2 + d) * U = e1 * U + e2 * U + d * U := by grind
  have R : (k1 + k2 + 1) * (a1 + a2) = k1 * a1 + k1 * a2 + k2 * a1 + k2 * a2 + a1 + a2 := by grind
  rw [L, R]
  by_cases c1 : a2 * U ≤ a1
  · have f1 := Nat.mul_le_mul_right U (Nat.le_trans d2 hz2)
    have f2 : (a2 + e2) * U = a2 * U + e2 * U := Nat.add_mul ..
    have f3 : k2 * a2 ≤ k2 * a1 := Nat.mul_le_mul_left _ (Nat.le_trans (by have := Nat.mul_le_mul_left a2 hU; omega) c1)
    omega
  · by_cases c2 : a1 * U ≤ a2
    · have f1 := Nat.mul_le_mul_right U (Nat.le_trans d1 hz1)
      have f2 : (a1 + e1) * U = a1 * U + e1 * U := Nat.add_mul ..
      have f3 : k1 * a1 ≤ k1 * a2 := Nat.mul_le_mul_left _ (Nat.le_trans (by have := Nat.mul_le_mul_left a1 hU; omega) c2)
      omega
    · have g1 : e1 ≤ k1 * a2 := by
        have : k1 * a1 ≤ k1 * (a2 * U) := Nat.mul_le_mul_left _ (by omega)
        have e : k1 * (a2 * U) = k1 * a2 * U := (Nat.mul_assoc ..).symm
        exact Nat.le_of_mul_le_mul_right (by omega) hU
      have g2 : e2 ≤ k2 * a1 := by
        have : k2 * a2 ≤ k2 * (a1 * U) := Nat.mul_le_mul_left _ (by omega)
        have e : k2 * (a1 * U) = k2 * a1 * U := (Nat.mul_assoc ..).symm
        exact Nat.le_of_mul_le_mul_right (by omega) hU
      omega
theorem good_merge {way : Way} {p : Nat} (hp : 0 < p) {g h : Ghost} {v : Int} (G : Good way p g) (H : Good way p h) (R : Rd way p (g.z + h.z) v) : Good way p ⟨v, g.s + h.s, g.a + h.a, g.k + h.k + 1⟩ := by
  obtain ⟨g1, g2, g3, g4⟩ := G
  obtain ⟨h1, h2, h3, h4⟩ := H
  refine ⟨by show (g.s + h.s).natAbs ≤ g.a + h.a; omega, R.1, ?_, ?_⟩
  · show v.natAbs ≤ 2 ^ (g.k + h.k + 1) * (g.a + h.a)
    have r := R.2.1
    have e : 2 ^ (g.k + h.k + 1) * (g.a + h.a) = 2 * (2 ^ (g.k + h.k) * g.a) + 2 * (2 ^ (g.k + h.k) * h.a) := by rw [Nat.pow_succ]; grind
    have b1 : 2 ^ g.k * g.a ≤ 2 ^ (g.k + h.k) * g.a := Nat.mul_le_mul_right _ (Nat.pow_le_pow_right (by omega) (by omega))
    have b2 : 2 ^ h.k * h.a ≤ 2 ^ (g.k + h.k) * h.a := Nat.mul_le_mul_right _ (Nat.pow_le_pow_right (by omega) (by omega))
    omega
  · cases way with
    | n =>
      show (v - (g.s + h.s)).natAbs * 2 ^ p ≤ (g.k + h.k + 1) * (g.a + h.a)
      have d2 := near_rep hp g2 R
      have d1 := near_rep (a := h.z) (b := g.z) hp h2 (by rw [Int.add_comm]; exact R)
      rw [Int.add_comm] at d1
      have d3 := near_err R
      have := jr_arith (U := 2 ^ p) (z1 := g.z.natAbs) (z2 := h.z.natAbs) (Nat.pow_pos (by omega)) g4 h4 d1 d2 (by omega) (by omega) (by omega)
      refine Nat.le_trans (Nat.mul_le_mul_right _ ?_) this
      omega
    | f => show v ≤ g.s + h.s; have : v ≤ g.z + h.z := R.2.2; have : g.z ≤ g.s := g4; have : h.z ≤ h.s := h4; omega
    | c => show g.s + h.s ≤ v; have : g.z + h.z ≤ v := R.2.2; have : g.s ≤ g.z := g4; have : h.s ≤ h.z := h4; omega
end
section
theorem gives_mono {w : World} {mean : ExcName → Option Value} {mg mb : Str → Option Value} {d u : Nat} {f : Addr} {vs : List Value} {news : List (Addr × Obj)} {Out Out' : List (Addr × Obj) → Value → Prop}
    (G : Gives w mean mg mb d u f vs news Out) (h : ∀ tl r, Out tl r → Out' tl r) : Gives w mean mg mb d u f vs news Out' := by
  intro dp un gd cn cs a ccd cl outer A₀ base h₀ L m s Q E B F X N T hk hd hu hret
  exact G dp un gd cn cs a ccd cl outer A₀ base h₀ L m s Q E B F X N T hk hd hu fun r tl h' tk' F' N' l o => hret r tl h' tk' F' N' l (h tl r o)
theorem canI_zero (e : Int) : canI e 0 = (0, 0, 0, 0) := canM_zero _ _
theorem canI_pow (e v : Int) (t : Nat) : canI e (v * 2 ^ t) = canI (e + t) v := by
  have hp : (0 : Int) < 2 ^ t := Int.pow_pos (by omega)
  have hN : ((2 : Int) ^ t).natAbs = 2 ^ t := by simp [Int.natAbs_pow]
  unfold canI
  rw [Int.natAbs_mul, hN, canM_pow]
  congr 1
  by_cases h : v < 0
  · rw [if_pos h, if_pos (Int.mul_neg_of_neg_of_pos h hp)]
  · rw [if_neg h, if_neg (by have := Int.mul_nonneg (Int.not_lt.mp h) (Int.le_of_lt hp); omega)]
/-- what a number other than nought looks like -/
theorem canI_open (e : Int) {z : Int} (h : z ≠ 0) : ∃ (sg : Int) (o t : Nat), (sg = 0 ∨ sg = 1) ∧ z = (if sg = 0 then ((2 * o + 1 : Nat) : Int) else -((2 * o + 1 : Nat) : Int)) * 2 ^ t ∧ z.natAbs = (2 * o + 1) * 2 ^ t ∧
    canI e z = (sg, ((2 * o + 1 : Nat) : Int), e + t, (Builtin.Int.intBits ((2 * o + 1 : Nat) : Int) : Int)) := by
  obtain ⟨t, o, _, e2⟩ := trailF_spec z.natAbs (by omega)
  have hc : (((2 * o + 1) * 2 ^ t : Nat) : Int) = ((2 * o + 1 : Nat) : Int) * 2 ^ t := by simp
  refine ⟨if z < 0 then 1 else 0, o, t, by split <;> simp, ?_, e2, ?_⟩
  · by_cases hz : z < 0
    · rw [if_pos hz, if_neg (by decide), Int.neg_mul, ← hc]; omega
    · rw [if_neg hz, if_pos rfl, ← hc]; omega
  · unfold canI
    rw [e2, canM_of]
theorem pow_bound {o t : Nat} (h : (2 * o + 1) * 2 ^ t < 2 ^ 58) : t < 58 ∧ 2 * o + 1 < 2 ^ 58 := by
  constructor
  · rcases Nat.lt_or_ge t 58 with h1 | h1
    · exact h1
    · exfalso
      have a : 2 ^ 58 ≤ 2 ^ t := Nat.pow_le_pow_right (by omega) h1
      have b : 1 * 2 ^ t ≤ (2 * o + 1) * 2 ^ t := Nat.mul_le_mul_right _ (by omega)
      omega
  · have b : (2 * o + 1) * 1 ≤ (2 * o + 1) * 2 ^ t := Nat.mul_le_mul_left _ (Nat.pow_pos (by omega))
    omega
/-- mpf_add on two numbers of one scale: the sum, rounded -/
theorem add_can {w : World} {mean : ExcName → Option Value} {mg mb : Str → Option Value} {news : List (Addr × Obj)} {way : Way} {p : Nat} {e z1 z2 : Int} {a1 a2 : Addr} {u1 u2 : Tok} (hp : 0 < p)
    (R1 : IsNum w news (.ref a1) (canI e z1)) (R2 : IsNum w news (.ref a2) (canI e z2)) (h1 : z1.natAbs < 2 ^ 58) (h2 : z2.natAbs < 2 ^ 58) :
    Gives w mean mg mb 14 200 76 [.ref a1, .ref a2, .int (p : Int) u1, .str way.str u2] news (fun tl r => IsNum w tl r (roundAt way (p : Int) (z1 + z2) e) ∨ (∃ (t : Nat) (z : Int), z1 + z2 = z * 2 ^ t ∧ IsNum w tl r (roundAt way (p : Int) z (e + t))) ∨ (z1 = 0 ∧ z2 = 0 ∧ r = .ref a2)) := by
  have hp' : 0 < (p : Int) := by omega
  by_cases c1 : z1 = 0
  · subst c1
    rw [canI_zero] at R1
    by_cases c2 : z2 = 0
    · subst c2
      rw [canI_zero] at R2
      refine gives_mono (add_zz (z := 0) (sexp := e) (ssign := 0) (sman := 0) (sbc := 0) (tsign := 0) (tman := 0) (texp := 0) (tbc := 0) R1 R2 hp' rfl) fun tl r h => .inr (.inr ⟨rfl, rfl, h.2⟩)
    · obtain ⟨sg, o, t, hs, hz, hn, hc⟩ := canI_open e c2
      rw [hc] at R2
      obtain ⟨b1, b2⟩ := pow_bound (hn ▸ h2)
      refine gives_mono (add_zl (ssign := 0) (sman := 0) (sexp := 0) (sbc := 0) (z := if sg = 0 then ((2 * o + 1 : Nat) : Int) else -((2 * o + 1 : Nat) : Int)) R1 R2 hp' hs (by omega) (by omega) rfl (bits_le (by omega) (by omega)) ?_) fun tl r h => .inr (.inl ⟨t, _, by rw [Int.zero_add]; exact hz, h⟩)
      split <;> omega
  · obtain ⟨sg, o, t, hs, hz, hn, hc⟩ := canI_open e c1
    rw [hc] at R1
    obtain ⟨b1, b2⟩ := pow_bound (hn ▸ h1)
    by_cases c2 : z2 = 0
    · subst c2
      rw [canI_zero] at R2
      refine gives_mono (add_zr (tsign := 0) (tman := 0) (texp := 0) (tbc := 0) (z := if sg = 0 then ((2 * o + 1 : Nat) : Int) else -((2 * o + 1 : Nat) : Int)) R1 R2 hp' hs (by omega) (by omega) rfl (bits_le (by omega) (by omega)) ?_) fun tl r h => .inr (.inl ⟨t, _, by rw [Int.add_zero]; exact hz, h⟩)
      split <;> omega
    · obtain ⟨sg', o', t', hs', hz', hn', hc'⟩ := canI_open e c2
      rw [hc'] at R2
      obtain ⟨b1', b2'⟩ := pow_bound (hn' ▸ h2)
      generalize hX : (if sg = 0 then ((2 * o + 1 : Nat) : Int) else -((2 * o + 1 : Nat) : Int)) = x at hz
      generalize hY : (if sg' = 0 then ((2 * o' + 1 : Nat) : Int) else -((2 * o' + 1 : Nat) : Int)) = y at hz'
      have big : ∀ (q n : Nat), q < 2 ^ 58 → n < 58 → (0 : Int) ≤ (q : Int) * 2 ^ n ∧ (q : Int) * 2 ^ n < 2 ^ 130 := by
        intro q n hq hn
        have e1 : (q : Int) * 2 ^ n = ((q * 2 ^ n : Nat) : Int) := by simp
        have e2 : q * 2 ^ n ≤ 2 ^ 58 * 2 ^ 58 := Nat.mul_le_mul (by omega) (Nat.pow_le_pow_right (by omega) (by omega))
        omega
      rcases Nat.lt_trichotomy t' t with c | c | c
      · have ek : (e + (t : Int) - (e + (t' : Int))).toNat = t - t' := by omega
        obtain ⟨v1, v2⟩ := big (2 * o + 1) (t - t') b2 (by omega)
        refine gives_mono (add_pos (z := x * 2 ^ (t - t') + y) R1 R2 hp' hs hs' (by omega) (by omega) (by omega) (by omega) (by omega) (by omega) (by rw [ek]; exact v1) (by rw [ek]; exact v2) ?_) fun tl r h => .inr (.inl ⟨t', _, ?_, h⟩)
        · rw [ek]
          rcases hs with rfl | rfl
          · rw [if_pos rfl] at hX; subst hX
            rcases hs' with rfl | rfl
            · rw [if_pos rfl] at hY; omega
            · rw [if_neg (by decide)] at hY; omega
          · rw [if_neg (by decide)] at hX; subst hX
            rw [Int.neg_mul]
            rcases hs' with rfl | rfl
            · rw [if_pos rfl] at hY; omega
            · rw [if_neg (by decide)] at hY; omega
        · rw [hz, hz', Int.add_mul, Int.mul_assoc, ← Int.pow_add]
          congr 3
          omega
      · subst c
        refine gives_mono (add_same (z := x + y) R1 R2 hp' hs hs' (by omega) (by omega) (by omega) (by omega) (by omega) ?_) fun tl r h => .inr (.inl ⟨t', _, ?_, h⟩)
        · rcases hs with rfl | rfl
          · rw [if_pos rfl] at hX
            rcases hs' with rfl | rfl
            · rw [if_pos rfl] at hY; omega
            · rw [if_neg (by decide)] at hY; omega
          · rw [if_neg (by decide)] at hX
            rcases hs' with rfl | rfl
            · rw [if_pos rfl] at hY; omega
            · rw [if_neg (by decide)] at hY; omega
        · rw [hz, hz', Int.add_mul]
      · have ek : (-(e + (t : Int) - (e + (t' : Int)))).toNat = t' - t := by omega
        obtain ⟨v1, v2⟩ := big (2 * o' + 1) (t' - t) b2' (by omega)
        refine gives_mono (add_neg (z := x + y * 2 ^ (t' - t)) R1 R2 hp' hs hs' (by omega) (by omega) (by omega) (by omega) (by omega) (by omega) (by rw [ek]; exact v1) (by rw [ek]; exact v2) ?_) fun tl r h => .inr (.inl ⟨t, _, ?_, h⟩)
        · rw [ek]
          rcases hs' with rfl | rfl
          · rw [if_pos rfl] at hY; subst hY
            rcases hs with rfl | rfl
            · rw [if_pos rfl] at hX; omega
            · rw [if_neg (by decide)] at hX; omega
          · rw [if_neg (by decide)] at hY; subst hY
            rw [Int.neg_mul]
            rcases hs with rfl | rfl
            · rw [if_pos rfl] at hX; omega
            · rw [if_neg (by decide)] at hX; omega
        · rw [hz, hz', Int.add_mul, Int.mul_assoc, ← Int.pow_add]
          congr 3
          omega
end
section
theorem IsNum.left {w : World} {nums tl : List (Addr × Obj)} {v : Value} {x : Num} (h : IsNum w tl v x) : IsNum w (tl ++ nums) v x := h.mono fun _ hp => List.mem_append_left _ hp
theorem IsNum.right {w : World} {nums tl : List (Addr × Obj)} {v : Value} {x : Num} (h : IsNum w nums v x) : IsNum w (tl ++ nums) v x := h.mono fun _ hp => List.mem_append_right _ hp
theorem add_rd {w : World} {mean : ExcName → Option Value} {mg mb : Str → Option Value} {news nums : List (Addr × Obj)} {way : Way} {p : Nat} {e z1 z2 : Int} {a1 a2 : Addr} {u1 u2 : Tok} (hp : 0 < p)
    (R1 : IsNum w nums (.ref a1) (canI e z1)) (R2 : IsNum w nums (.ref a2) (canI e z2)) (hs : ∀ q ∈ nums, q ∈ news) (h1 : z1.natAbs < 2 ^ 58) (h2 : z2.natAbs < 2 ^ 58) :
    Gives w mean mg mb 14 200 76 [.ref a1, .ref a2, .int (p : Int) u1, .str way.str u2] news (fun tl r => ∃ v, Rd way p (z1 + z2) v ∧ IsNum w (tl ++ nums) r (canI e v)) := by
  refine gives_mono (add_can hp (R1.mono hs) (R2.mono hs) h1 h2) fun tl r h => ?_
  rcases h with h | ⟨t, z, hz, h⟩ | ⟨rfl, rfl, rfl⟩
  · obtain ⟨v, hv, e1⟩ := roundAt_rd way hp (z1 + z2) e
    exact ⟨v, hv, IsNum.left (e1 ▸ h)⟩
  · obtain ⟨v, hv, e1⟩ := roundAt_rd way hp z (e + t)
    exact ⟨v * 2 ^ t, hz ▸ rd_scale t hv, IsNum.left (by rw [canI_pow]; exact e1 ▸ h)⟩
  · exact ⟨0, rd_self (by simp), R2.right⟩
theorem add_odd {w : World} {mean : ExcName → Option Value} {mg mb : Str → Option Value} {news : List (Addr × Obj)} {way : Way} {p : Nat} {e z1 z2 : Int} {a1 a2 : Addr} {u1 u2 : Tok} (hp : 0 < p)
    (R1 : IsNum w news (.ref a1) (canI e z1)) (R2 : IsNum w news (.ref a2) (canI e z2)) (h1 : z1.natAbs < 2 ^ 58) (h2 : z2.natAbs < 2 ^ 58) (ho : (z1 + z2) % 2 = 1) :
    Gives w mean mg mb 14 200 76 [.ref a1, .ref a2, .int (p : Int) u1, .str way.str u2] news (fun tl r => IsNum w tl r (roundAt way (p : Int) (z1 + z2) e)) := by
  refine gives_mono (add_can hp R1 R2 h1 h2) fun tl r h => ?_
  rcases h with h | ⟨t, z, hz, h⟩ | ⟨rfl, rfl, _⟩
  · exact h
  · cases t with
    | zero =>
      have e1 : z1 + z2 = z := by rw [hz]; simp
      have e2 : e + ((0 : Nat) : Int) = e := by simp
      rw [e2, ← e1] at h
      exact h
    | succ t =>
      exfalso
      rw [Int.pow_succ, ← Int.mul_assoc] at hz
      omega
  · omega
theorem bit_two (m : Nat) : Builtin.bitAnd (m : Int) 2 = ((2 * (m / 2 % 2) : Nat) : Int) := by
  rw [bitAnd_pp (by omega) (by decide)]
  have e1 : ((m : Int)).toNat = m := by omega
  have e2 : ((2 : Int)).toNat = 2 := rfl
  rw [e1, e2]
  congr 1
  apply Nat.eq_of_testBit_eq
  intro i
  rw [Nat.testBit_and]
  rcases i with _ | _ | i
  · simp [Nat.testBit_zero]
  · rw [Nat.testBit_succ, Nat.testBit_succ, Nat.testBit_succ]
    have : 2 * (m / 2 % 2) / 2 = m / 2 % 2 := by omega
    rw [this]
    simp [Nat.testBit_zero]
  · rw [Nat.testBit_succ, Nat.testBit_succ, Nat.testBit_succ, Nat.testBit_succ, Nat.testBit_succ, Nat.testBit_succ]
    have : 2 * (m / 2 % 2) / 2 / 2 = 0 := by omega
    rw [this]
    simp
theorem fromT_can {sg e : Int} {m : Nat} : fromT sg (m : Int) e (Builtin.Int.intBits (m : Int)) = canM sg m e := by
  by_cases h0 : m = 0
  · subst h0; simp [fromT, canM]
  · obtain ⟨t, o, e1, e2⟩ := trailF_spec m (by omega)
    have hR : canM sg m e = (sg, ((2 * o + 1 : Nat) : Int), e + t, (Builtin.Int.intBits ((2 * o + 1 : Nat) : Int) : Int)) := by rw [e2, canM_of]
    have hbits : Builtin.Int.intBits (m : Int) = Builtin.Int.intBits ((2 * o + 1 : Nat) : Int) + t := by rw [e2, intBits_mul_pow (by omega)]
    have hfd : ((m : Int)).fdiv (2 ^ (trailF (m : Int)).toNat) = ((2 * o + 1 : Nat) : Int) := by rw [e1, show (m : Int) = (((2 * o + 1) * 2 ^ t : Nat) : Int) from by rw [← e2], fdiv_pow]
    have hbt : ((Builtin.Int.intBits (m : Int) : Int)) - (t : Int) = (Builtin.Int.intBits ((2 * o + 1 : Nat) : Int) : Int) := by omega
    rw [hR]
    unfold fromT
    rw [if_neg (by omega), PyProof.Rows.bitAnd_m1, bit_two]
    by_cases h2 : (m : Int) % 2 = 0
    · rw [if_pos h2]
      by_cases h4 : ((2 * (m / 2 % 2) : Nat) : Int) = 0
      · rw [if_pos h4, hfd, e1, hbt]
      · rw [if_neg h4]
        have ht : t = 1 := by
          rcases t with _ | _ | t
          · exfalso; simp at e2; omega
          · rfl
          · exfalso; rw [Nat.pow_succ, Nat.pow_succ] at e2; have : m = 4 * ((2 * o + 1) * 2 ^ t) := by grind
            omega
        subst ht
        have e3 : (Int.toNat 1) = (((1 : Nat) : Int)).toNat := rfl
        have e4 : ((m : Int)).fdiv (2 ^ Int.toNat 1) = ((2 * o + 1 : Nat) : Int) := by rw [← hfd, e1, e3]
        rw [e4]
        have e5 : ((Builtin.Int.intBits (m : Int) : Int)) - 1 = (Builtin.Int.intBits ((2 * o + 1 : Nat) : Int) : Int) := by omega
        rw [e5]
        rfl
    · rw [if_neg h2]
      have ht : t = 0 := by
        cases t with
        | zero => rfl
        | succ t => exfalso; rw [Nat.pow_succ, ← Nat.mul_assoc] at e2; omega
      subst ht
      have e3 : m = 2 * o + 1 := by simpa using e2
      rw [e3]
      simp
theorem fromF_can (z e : Int) : fromF z e = canI e z := by
  unfold fromF canI
  by_cases h : z < 0
  · rw [if_pos h, if_pos h]
    have e1 : -z = ((z.natAbs : Nat) : Int) := by omega
    rw [e1, fromT_can]
  · rw [if_neg h, if_neg h]
    have e1 : z = ((z.natAbs : Nat) : Int) := by omega
    conv => lhs; rw [e1]
    rw [fromT_can]
theorem from_can {w : World} {mean : ExcName → Option Value} {mg mb : Str → Option Value} {news : List (Addr × Obj)} {man exp : Int} {t1 t2 : Tok} :
    Gives w mean mg mb 6 80 53 [.int man t1, .int exp t2] news (fun tl r => IsNum w tl r (canI exp man)) := by
  rw [← fromF_can]; exact from_me
theorem fix_can {w : World} {mean : ExcName → Option Value} {mg mb : Str → Option Value} {news : List (Addr × Obj)} {v : Int} {a1 : Addr} {t2 : Tok} (R1 : IsNum w news (.ref a1) (canI (-6) v)) (hv : v.natAbs < 2 ^ 58) :
    Gives w mean mg mb 3 40 60 [.ref a1, .int 6 t2] news (fun tl r => tl = [] ∧ ∃ t', r = .int v t') := by
  by_cases c : v = 0
  · subst c
    rw [canI_zero] at R1
    exact gives_mono (to_fix R1 (by omega) (by omega) (by omega) (by omega)) fun tl r h => by simpa [fixF] using h
  · obtain ⟨sg, o, t, hs, hz, hn, hc⟩ := canI_open (-6) c
    rw [hc] at R1
    obtain ⟨b1, b2⟩ := pow_bound (hn ▸ hv)
    refine gives_mono (to_fix R1 (by omega) (by omega) (by omega) (by omega)) fun tl r h => ?_
    have e1 : (-6 + (t : Int) + 6).toNat = t := by omega
    have e2 : fixF sg ((2 * o + 1 : Nat) : Int) (-6 + (t : Int) + 6) = v := by
      unfold fixF
      rw [e1, hz]
      split <;> rfl
    rw [e2] at h
    exact h
end
section
theorem paired_eq {α : Type} : ∀ {xs ys : List α}, Paired (fun v y => y = v) xs ys → ys = xs
  | _, _, .nil => rfl
  | _, _, .cons h r => by rw [h, paired_eq r]
/-- [x for x in l], where l is a list of the ledger -/
theorem src_copy {prog : Program} {w : World} {A : Around} {E : Value → Shared → Prop} {s₁ : Shared} {h₀ : Heap} {L : Addr} {m : Str → Option Value} {news : List (Addr × Obj)} {name : Str} {fscope : Scope} {a : Addr} {cd : Value} {x z : Str} {px : Pos} {scope : Scope} {Q : Flow → Shared → Prop} {l : Addr} {vs : List Value} {n : Nat}
    (hh : A.handled = none) (hm : (l, listOf vs.toArray n) ∈ news) (F : Fr h₀ L s₁.heap m) (N : News h₀ L s₁.heap news) (hk : scope.kind = .function) (hx : scope.names.lookup x = some .local) (hd : (x == ("__debug__" : Str)) = false) (hsz : vs.length ≤ sizeLine)
    (g3 : ∀ D h' tk n', Fr h₀ L h' (fun q => if q = z then some (.ref D) else m q) → News h₀ L h' ((D, listOf vs.toArray n') :: news) → (∀ p ∈ news, p.1 ≠ D) → Q .next { s₁ with heap := h', toks := tk }) :
    wpAny (model prog w) A (pyIter (.ref l)) (CompPostA prog w A (envOf name fscope L a cd) scope x z [] (.Name x px) Q) E s₁ := by
  have hl : s₁.heap.IsList l vs.toArray := ⟨_, (N _ hm).1, rfl, n, rfl⟩
  have hlt : l < s₁.heap.objs.size := by obtain ⟨_, e, _⟩ := hl; exact Heap.lt_size e
  refine wpAny_pyIter_list hl ?_
  refine ⟨fun _ => true, fun v y => y = v, s₁.heap.objs.size, [s₁.heap.objs.size, l], [s₁.heap.objs.size], vs.toArray.size, _, _, m, rfl, Walks.list hh _ l (Nat.ne_of_lt hlt) vs.toArray, (by rw [List.size_toArray]; exact hsz),
    ⟨⟨_, Heap.get?_push_size _ rfl, rfl, rfl⟩, hl.at fun o e => Heap.get?_push_of_some _ e⟩, ?_, ?_, (F.push _).ns, ⟨?_, ?_⟩, ?_⟩
  · intro b hb
    show b < (s₁.heap.push _).objs.size
    rw [Heap.size_push]
    rcases List.mem_cons.mp hb with rfl | hb
    · exact Nat.lt_succ_self _
    · rw [List.mem_singleton.mp hb]; exact Nat.lt_succ_of_lt hlt
  · intro hm'
    exact absurd F.ns.lt ((List.mem_singleton.mp hm') ▸ Nat.lt_irrefl _)
  · intro C i v s₃ m₃ E' hP hn hmx _ htk
    exact wpAny_pure ⟨rfl, s₃.heap, s₃.toks, rfl, fun _ _ e => e⟩
  · intro C i v s₃ m₃ E' hP hp' hn hmx _ htk
    exact wpAny_Name (wpAny_loadName_local hk hx hn hmx ⟨rfl, s₃.heap, s₃.toks, rfl, fun _ _ e => e⟩) hd
  · intro D h' tk ys vs' hnew hlD hplD hlen hP hF hn' hk'
    have e' : vs' = vs := by simpa using walked_is hlen hP
    subst e'
    have e2 : ys.toList = vs' := (paired_eq hF).trans (List.filter_eq_self.mpr fun _ _ => rfl)
    have e3 : ys = vs'.toArray := by rw [← e2, Array.toArray_toList]
    subst e3
    obtain ⟨n', hD⟩ := hplD
    have hDf : ∀ p ∈ news, p.1 ≠ D := fun p hp e => by rw [← e, Heap.get?_push_of_some _ (N p hp).1] at hnew; cases hnew
    refine g3 D h' tk n' ⟨hn', fun b o' e => hk' b o' (Nat.ne_of_lt (Nat.lt_of_lt_of_le (Heap.lt_size e) F.above)) (not_iter_of_old (F.keep b o' e)) (Heap.get?_push_of_some _ (F.keep b o' e)), F.above⟩ (fun p hp => ?_) hDf
    rcases List.mem_cons.mp hp with rfl | hp
    · refine ⟨hD, ?_, ?_⟩
      · rintro rfl
        obtain ⟨o, _, _, ho, _⟩ := F.ns
        rw [Heap.get?_push_of_some _ ho] at hnew; cases hnew
      · cases e : h₀.get? D with
        | none => rfl
        | some o' => rw [Heap.get?_push_of_some _ (F.keep _ _ e)] at hnew; cases hnew
    · exact ⟨hk' _ _ (N p hp).2.1 (not_iter_of_old (N p hp).1) (Heap.get?_push_of_some _ (N p hp).1), (N p hp).2⟩
end
section
inductive All2 {α β : Type} (R : α → β → Prop) : List α → List β → Prop
  | nil : All2 R [] []
  | cons {a b xs ys} : R a b → All2 R xs ys → All2 R (a :: xs) (b :: ys)
section
variable {α β : Type} {R R' : α → β → Prop}
theorem All2.mono (h : ∀ a b, R a b → R' a b) : ∀ {xs : List α} {ys : List β}, All2 R xs ys → All2 R' xs ys
  | _, _, .nil => .nil
  | _, _, .cons x r => .cons (h _ _ x) (r.mono h)
theorem All2.length : ∀ {xs : List α} {ys : List β}, All2 R xs ys → xs.length = ys.length
  | _, _, .nil => rfl
  | _, _, .cons _ r => by rw [List.length_cons, List.length_cons, r.length]
theorem All2.snoc {a : α} {b : β} : ∀ {xs : List α} {ys : List β}, All2 R xs ys → R a b → All2 R (xs ++ [a]) (ys ++ [b])
  | _, _, .nil, h => .cons h .nil
  | _, _, .cons x r, h => .cons x (r.snoc h)
theorem All2.cut : ∀ {xs : List α} {ys : List β}, All2 R xs ys → ∀ i, i < xs.length → ∃ pre x post pre' y post', xs = pre ++ x :: post ∧ ys = pre' ++ y :: post' ∧ pre.length = i ∧ R x y ∧ All2 R (pre ++ post) (pre' ++ post')
  | _, _, .nil, i, h => by simp at h
  | _, _, .cons (a := a) (b := b) (xs := xs) (ys := ys) x r, 0, _ => ⟨[], a, xs, [], b, ys, rfl, rfl, rfl, x, r⟩
  | _, _, .cons (a := a) (b := b) x r, i + 1, h => by
    obtain ⟨pre, y, post, pre', z, post', e1, e2, e3, h1, h2⟩ := r.cut i (by simpa using h)
    exact ⟨a :: pre, y, post, b :: pre', z, post', by rw [e1]; rfl, by rw [e2]; rfl, by rw [List.length_cons, e3], h1, .cons x h2⟩
end
abbrev NumsAre (w : World) (way : Way) (p : Nat) (nums : List (Addr × Obj)) (hv : List Value) (gs : List Ghost) : Prop := All2 (fun v g => IsNum w nums v (canI (-6) g.z) ∧ Good way p g) hv gs
theorem kl_cut_at : ∀ (p q : List Value) (y : Value), kl_cut (p ++ y :: q) p.length = some (p, y, q)
  | [], _, _ => rfl
  | x :: p, q, y => by
    show (match kl_cut (p ++ y :: q) p.length with | some (p, y, q) => some (x :: p, y, q) | none => none) = _
    rw [kl_cut_at p q y]
theorem fmod_ok (a : Int) {n : Int} (h : 0 < n) : 0 ≤ a.fmod n ∧ a.fmod n < n := ⟨Int.fmod_nonneg_of_pos a h, Int.fmod_lt_of_pos a h⟩
section
variable {prog : Program} {w : World} {A : Around} {E : Value → Shared → Prop} {s : Shared} {h₀ : Heap} {L D : Addr} {m : Str → Option Value} {way : Way} {p : Nat} {nums rest tl : List (Addr × Obj)} {hv : List Value} {gs : List Ghost} {nh : Nat}
theorem pop_num {a : Int} {u : Tok} {Q : Value → Shared → Prop} (F : Fr h₀ L s.heap m) (N : News h₀ L s.heap ((D, listOf hv.toArray nh) :: rest)) (off : ∀ q ∈ rest, q.1 ≠ D) (H : NumsAre w way p nums hv gs) (h0 : 0 < hv.length) (hz : hv.length ≤ 1000)
    (h : ∀ b pre g post hv' h', gs = pre ++ g :: post → IsNum w nums (.ref b) (canI (-6) g.z) → Good way p g → NumsAre w way p nums hv' (pre ++ post) → hv'.length + 1 = hv.length → Fr h₀ L h' m → News h₀ L h' ((D, listOf hv'.toArray (nh + 1)) :: rest) → Q (.ref b) { s with heap := h' }) :
    wpAny (model prog w) A (call (.builtin "list.pop") [.ref D, .int (a.fmod (hv.length : Int)) u]) Q E s := by
  obtain ⟨i0, i1⟩ := fmod_ok a (n := (hv.length : Int)) (by omega)
  generalize a.fmod (hv.length : Int) = i at i0 i1
  obtain ⟨k, rfl⟩ : ∃ k : Nat, i = (k : Int) := ⟨i.toNat, by omega⟩
  obtain ⟨pre, x, post, pre', g, post', e1, e2, e3, ⟨R, G⟩, H'⟩ := H.cut k (by omega)
  subst e1
  obtain ⟨b, t1, t2, t3, t4, c, eb, hb⟩ := R
  subst eb
  subst e3
  refine kl_popAt (p := pre) (q := post) (k := pre.length) F N ?_ ?_ ?_ (Upd.head off) ?_ fun h' F' N' => h b pre' g post' (pre ++ post) h' e2 ⟨b, t1, t2, t3, t4, c, rfl, hb⟩ G H' ?_ F' N'
  · unfold Builtin.List.listFitsIndex
    simp only [Bool.and_eq_true, decide_eq_true_eq]
    omega
  · unfold seqIndex?
    have e : ¬ ((pre.length : Int)) < 0 := by omega
    simp only [List.size_toArray]
    rw [if_neg e, if_pos (by simp only [Bool.and_eq_true, decide_eq_true_eq]; omega)]
    congr 1
  · exact kl_cut_at pre post _
  · show (pre ++ Value.ref b :: post).length ≤ 2 ^ 24
    omega
  · simp only [List.length_append, List.length_cons]; omega
theorem append_num {x : Value} {Q : Value → Shared → Prop} (F : Fr h₀ L s.heap m) (N : News h₀ L s.heap (tl ++ (D, listOf hv.toArray nh) :: rest)) (ord : ∀ q ∈ (D, listOf hv.toArray nh) :: rest, ∀ p ∈ tl, q.1 < p.1) (off : ∀ q ∈ rest, q.1 ≠ D) (hz : hv.length ≤ 1000)
    (h : ∀ h', Fr h₀ L h' m → News h₀ L h' ((D, listOf (hv ++ [x]).toArray (nh + 1)) :: (tl ++ rest)) → Q .none { s with heap := h' }) :
    wpAny (model prog w) A (call (.builtin "list.append") [.ref D, x]) Q E s := by
  have N' : News h₀ L s.heap ((D, listOf hv.toArray nh) :: (tl ++ rest)) := fun q hq => N q (by
    rcases List.mem_cons.mp hq with rfl | hq
    · exact List.mem_append_right _ (.head _)
    · rcases List.mem_append.mp hq with hq | hq
      · exact List.mem_append_left _ hq
      · exact List.mem_append_right _ (.tail _ hq))
  refine append_K F N' (Upd.head fun q hq => ?_) (fun h' F' N'' => h h' F' ?_) ?_
  · rcases List.mem_append.mp hq with hq | hq
    · exact Nat.ne_of_gt (ord _ (.head _) q hq)
    · exact off q hq
  · simpa using N''
  · rw [List.size_toArray]
    exact Nat.le_trans hz (by decide)
theorem item_ints {value slice : Expr} {l : Addr} {us : List Value} {ord : List Int} {c : Nat} {k : Int} {u : Tok} {Q : Value → Shared → Prop} (N : News h₀ L s.heap nums) (hm : (l, listOf us.toArray c) ∈ nums) (hI : IntsAre us ord) (h0 : 0 ≤ k) (h1 : k < ord.length) (hf : ord.length ≤ 1000)
    (h : ∀ t, Q (.int (ord.getD k.toNat 0) t) s)
    (hs : subscripted slice false (.ref l) (.int k u) = operate [.ref l, .int k u] (getItem (.ref l) (.int k u)) := by with_unfolding_all rfl) :
    wpAny (model prog w) A (subscriptTail value slice (.ref l) (.int k u)) Q E s := by
  have hl : s.heap.IsList l us.toArray := ⟨_, (N _ hm).1, rfl, c, rfl⟩
  have hk : k.toNat < ord.length := by omega
  obtain ⟨t, ht⟩ := hI.get k.toNat (ord[k.toNat]'hk) (by simp [hk])
  have e : ord.getD k.toNat 0 = ord[k.toNat]'hk := by rw [List.getD_eq_getElem?_getD]; simp [hk]
  refine tail_any hl.typeIs PySem.F.slot_list_getitem.lookup (wpAny_getItem_list hl h0 (by omega) (by simpa using ht) ?_) hs
  rw [← e]
  exact h t
theorem item_zero {value slice : Expr} {x : Value} {u : Tok} {Q : Value → Shared → Prop} (N : News h₀ L s.heap nums) (hm : (D, listOf [x].toArray nh) ∈ nums) (h : Q x s)
    (hs : subscripted slice false (.ref D) (.int 0 u) = operate [.ref D, .int 0 u] (getItem (.ref D) (.int 0 u)) := by with_unfolding_all rfl) :
    wpAny (model prog w) A (subscriptTail value slice (.ref D) (.int 0 u)) Q E s := by
  have hl : s.heap.IsList D [x].toArray := ⟨_, (N _ hm).1, rfl, nh, rfl⟩
  exact tail_any hl.typeIs PySem.F.slot_list_getitem.lookup (wpAny_getItem_list hl (by omega) (by omega) (by simp) h) hs
end
end
section
/-- between the turns of _law_added's loop -/
def HeldJ (w : World) (way : Way) (p : Nat) (D aO : Addr) (t1 t2 : Tok) (news : List (Addr × Obj)) (N : Nat) (SS : Int) (SA : Nat) (i : Nat) (m : Str → Option Value) (nx : List (Addr × Obj)) : Prop :=
  ∃ tl hv gs nh, nx = (D, listOf hv.toArray nh) :: (tl ++ news) ∧ (∀ q ∈ tl ++ news, q.1 ≠ D) ∧ (∀ q ∈ news, ∀ p' ∈ tl, q.1 < p'.1) ∧ NumsAre w way p (tl ++ news) hv gs ∧ hv.length + i = N ∧
    ((gs.map (·.s)).sum = SS ∧ (gs.map (·.a)).sum = SA ∧ (gs.map (·.k + 1)).sum = N) ∧
    m (Str.ofString "order") = some (.ref aO) ∧ m (Str.ofString "bits") = some (.int (p : Int) t1) ∧ m (Str.ofString "way") = some (.str way.str t2) ∧ m (Str.ofString "held") = some (.ref D)
theorem range_small : ∀ n < 10, 1 ≤ n → Builtin.Range.small 0 ((n : Nat) - 1 : Int) 1 = true ∧ Builtin.Range.rangeSize 0 ((n : Nat) - 1 : Int) 1 = ((n - 1 : Nat) : Int) := by decide +kernel
theorem map_four {m : Str → Option Value} {x1 x2 x3 x4 : Str} {v1 v2 v3 v4 : Value} (h1 : m x1 = some v1) (h2 : m x2 = some v2) (h3 : m x3 = some v3) (h4 : m x4 = some v4) :
    m = fun y => if y = x1 then some v1 else if y = x2 then some v2 else if y = x3 then some v3 else if y = x4 then some v4 else m y := by
  funext y
  by_cases e1 : y = x1
  · rw [if_pos e1, e1, h1]
  · rw [if_neg e1]
    by_cases e2 : y = x2
    · rw [if_pos e2, e2, h2]
    · rw [if_neg e2]
      by_cases e3 : y = x3
      · rw [if_pos e3, e3, h3]
      · rw [if_neg e3]
        by_cases e4 : y = x4
        · rw [if_pos e4, e4, h4]
        · rw [if_neg e4]
theorem map_one {m : Str → Option Value} {x1 : Str} {v1 : Value} (h1 : m x1 = some v1) : m = fun y => if y = x1 then some v1 else m y := by
  funext y
  by_cases e1 : y = x1
  · rw [if_pos e1, e1, h1]
  · rw [if_neg e1]
theorem good_bound {way : Way} {p : Nat} {g : Ghost} {N SA : Nat} (G : Good way p g) (hk : g.k + 1 ≤ N) (ha : g.a ≤ SA) (hN : N ≤ 9) (hA : SA ≤ 2 ^ 44) : g.z.natAbs < 2 ^ 58 := by
  have h := G.2.2.1
  have e1 : 2 ^ g.k ≤ 2 ^ 8 := Nat.pow_le_pow_right (by omega) (by omega)
  have e2 : 2 ^ g.k * g.a ≤ 2 ^ 8 * 2 ^ 44 := Nat.mul_le_mul e1 (by omega)
  omega
theorem sums_cut {pre post : List Ghost} {g : Ghost} : ((pre ++ g :: post).map (·.s)).sum = g.s + ((pre ++ post).map (·.s)).sum ∧ ((pre ++ g :: post).map (·.a)).sum = g.a + ((pre ++ post).map (·.a)).sum ∧ ((pre ++ g :: post).map (·.k + 1)).sum = g.k + 1 + ((pre ++ post).map (·.k + 1)).sum := by
  simp only [List.map_append, List.map_cons, List.sum_append, List.sum_cons]
  omega
section
variable {prog : Program} {w : World} {A : Around} {E : Value → Shared → Prop} {s : Shared} {h₀ : Heap} {way : Way} {p : Nat} {D aO : Addr} {t1 t2 : Tok} {news : List (Addr × Obj)} {N SA : Nat} {SS : Int} {x : Str} {body : List Stmt} {env : Env} {Q : Flow → Shared → Prop}
/-- a turn's end: two numbers out, their rounded sum in -/
theorem turn_end {L b : Addr} {i nh nh' : Nat} {m' : Str → Option Value} {own tl tl9 : List (Addr × Obj)} {hv2 : List Value} {gs pre post pre2 post2 : List Ghost} {g g2 : Ghost} {o : Obj} {v : Int} {s₁ : Shared} {h' : Heap} {tk : Nat}
    (F : Fr h₀ L h' m') (N' : News h₀ L h' ((D, listOf (hv2 ++ [Value.ref b]).toArray nh') :: (tl9 ++ ((tl ++ news) ++ own)))) (ho : TbOff own ((D, o) :: (tl ++ news))) (ord9 : ∀ q ∈ (D, listOf hv2.toArray nh) :: ((tl ++ news) ++ own), ∀ p' ∈ tl9, q.1 < p'.1)
    (off : ∀ q ∈ tl ++ news, q.1 ≠ D) (ord : ∀ q ∈ news, ∀ p' ∈ tl, q.1 < p'.1) (H2 : NumsAre w way p (tl ++ news) hv2 (pre2 ++ post2)) (Rb : IsNum w (tl9 ++ (tl ++ news)) (.ref b) (canI (-6) v)) (Rv : Rd way p (g.z + g2.z) v)
    (hp : 0 < p) (G : Good way p g) (G2 : Good way p g2) (eg : gs = pre ++ g :: post) (eg2 : pre ++ post = pre2 ++ g2 :: post2) (hl : hv2.length + 2 + i = N)
    (hS : (gs.map (·.s)).sum = SS ∧ (gs.map (·.a)).sum = SA ∧ (gs.map (·.k + 1)).sum = N)
    (n2 : m' (Str.ofString "order") = some (.ref aO)) (n3 : m' (Str.ofString "bits") = some (.int (p : Int) t1)) (n4 : m' (Str.ofString "way") = some (.str way.str t2)) (n5 : m' (Str.ofString "held") = some (.ref D)) :
    TbPost h₀ L (HeldJ w way p D aO t1 t2 news N SS SA (i + 1)) own s₁ Q .next { s₁ with heap := h', toks := tk } := by
  refine ⟨h', tk, m', _, (D, listOf (hv2 ++ [Value.ref b]).toArray nh') :: ((tl9 ++ tl) ++ news), rfl, F, N', ?_, ?_, ?_, ?_⟩
  · intro q hq
    simp only [List.mem_cons, List.mem_append] at hq ⊢
    rcases hq with h | (h | h) | h <;> simp [h]
  · intro q hq
    simp only [List.mem_cons, List.mem_append]
    simp [hq]
  · intro q hq r hr
    rcases List.mem_cons.mp hr with rfl | hr
    · exact ho q hq (D, o) (.head _)
    · rw [List.append_assoc] at hr
      rcases List.mem_append.mp hr with hr | hr
      · exact Nat.ne_of_lt (ord9 q (.tail _ (List.mem_append_right _ hq)) r hr)
      · exact ho q hq r (.tail _ hr)
  · refine ⟨tl9 ++ tl, hv2 ++ [Value.ref b], (pre2 ++ post2) ++ [⟨v, g.s + g2.s, g.a + g2.a, g.k + g2.k + 1⟩], nh', rfl, ?_, ?_, ?_, ?_, ?_, n2, n3, n4, n5⟩
    · intro q hq
      rw [List.append_assoc] at hq
      rcases List.mem_append.mp hq with hq | hq
      · exact Nat.ne_of_gt (ord9 _ (.head _) q hq)
      · exact off q hq
    · intro q hq r hr
      rcases List.mem_append.mp hr with hr | hr
      · exact ord9 q (.tail _ (List.mem_append_left _ (List.mem_append_right _ hq))) r hr
      · exact ord q hq r hr
    · rw [List.append_assoc]
      exact All2.snoc (H2.mono fun a b h => ⟨h.1.right, h.2⟩) ⟨Rb, good_merge hp G G2 Rv⟩
    · rw [List.length_append, List.length_singleton]; omega
    · subst eg
      have c1 := sums_cut (pre := pre) (post := post) (g := g)
      rw [eg2] at c1
      have c2 := sums_cut (pre := pre2) (post := post2) (g := g2)
      have c3 := sums_cut (pre := pre2 ++ post2) (post := []) (g := ⟨v, g.s + g2.s, g.a + g2.a, g.k + g2.k + 1⟩)
      simp only [List.append_nil] at c3
      obtain ⟨a1, a2, a3⟩ := c1
      obtain ⟨b1, b2, b3⟩ := c2
      obtain ⟨d1, d2, d3⟩ := c3
      obtain ⟨f1, f2, f3⟩ := hS
      refine ⟨?_, ?_, ?_⟩
      · rw [d1]; omega
      · rw [d2]; omega
      · rw [d3]; omega
theorem turn_end' {L b : Addr} {i nh nh' : Nat} {m' : Str → Option Value} {own tl tl9 : List (Addr × Obj)} {hv2 : List Value} {gs pre post pre2 post2 : List Ghost} {g g2 : Ghost} {o : Obj} {v : Int} {s₁ : Shared} {h' : Heap} {tk : Nat}
    (F : Fr h₀ L h' m') (N' : News h₀ L h' ((D, listOf (hv2 ++ [Value.ref b]).toArray nh') :: (tl9 ++ ((tl ++ news) ++ own)))) (ho : TbOff own ((D, o) :: (tl ++ news))) (ord9 : ∀ q ∈ (D, listOf hv2.toArray nh) :: ((tl ++ news) ++ own), ∀ p' ∈ tl9, q.1 < p'.1)
    (off : ∀ q ∈ tl ++ news, q.1 ≠ D) (ord : ∀ q ∈ news, ∀ p' ∈ tl, q.1 < p'.1) (H2 : NumsAre w way p (tl ++ news) hv2 (pre2 ++ post2)) (Rb : IsNum w (tl9 ++ (tl ++ news)) (.ref b) (canI (-6) v)) (Rv : Rd way p (g.z + g2.z) v)
    (hp : 0 < p) (G : Good way p g) (G2 : Good way p g2) (eg : gs = pre ++ g :: post) (eg2 : pre ++ post = pre2 ++ g2 :: post2) (hl : hv2.length + 2 + i = N)
    (hS : (gs.map (·.s)).sum = SS ∧ (gs.map (·.a)).sum = SA ∧ (gs.map (·.k + 1)).sum = N)
    (n2 : m' (Str.ofString "order") = some (.ref aO)) (n3 : m' (Str.ofString "bits") = some (.int (p : Int) t1)) (n4 : m' (Str.ofString "way") = some (.str way.str t2)) (n5 : m' (Str.ofString "held") = some (.ref D)) :
    TbEnd h₀ L (HeldJ w way p D aO t1 t2 news N SS SA (i + 1)) own s₁ { s₁ with heap := h', toks := tk } :=
  turn_end (Q := fun _ _ => True) F N' ho ord9 off ord H2 Rb Rv hp G G2 eg eg2 hl hS n2 n3 n4 n5
theorem news_tail {h₀ h : Heap} {L : Addr} {q : Addr × Obj} {l : List (Addr × Obj)} (N : News h₀ L h (q :: l)) : News h₀ L h l := fun r hr => N r (.tail _ hr)
/-- the loop of _law_added -/
theorem held_iter {r : Addr} {t₀ u₀ v₀ : Tok} {m₀ : Str → Option Value} {hv : List Value} {gs : List Ghost} {nh : Nat}
    (hh : A.handled = none) (hr : IsRange s.heap r 0 ((hv.length : Int) - 1) 1 t₀ u₀ v₀) (F : Fr h₀ env.locals s.heap m₀) (N' : News h₀ env.locals s.heap ((D, listOf hv.toArray nh) :: news)) (off : ∀ q ∈ news, q.1 ≠ D) (H : NumsAre w way p news hv gs)
    (hN1 : 1 ≤ hv.length) (hN : hv.length ≤ 9) (hA : (gs.map (·.a)).sum ≤ 2 ^ 44) (hS : (gs.map (·.k + 1)).sum = hv.length)
    (n2 : m₀ (Str.ofString "order") = some (.ref aO)) (n3 : m₀ (Str.ofString "bits") = some (.int (p : Int) t1)) (n4 : m₀ (Str.ofString "way") = some (.str way.str t2)) (n5 : m₀ (Str.ofString "held") = some (.ref D))
    (turn : ∀ (i : Nat) (t : Tok) (u : Str → Option Value) (h : Heap) (tk : Nat) (own tl : List (Addr × Obj)) (hv1 : List Value) (gs1 : List Ghost) (nh1 : Nat), i + 1 < hv.length → TbOff own ((D, listOf hv1.toArray nh1) :: (tl ++ news)) → (∀ q ∈ tl ++ news, q.1 ≠ D) → (∀ q ∈ (tl ++ news) ++ own, q.1 ≠ D) → (∀ q ∈ news, ∀ p' ∈ tl, q.1 < p'.1) →
      NumsAre w way p (tl ++ news) hv1 gs1 → hv1.length + i = hv.length → ((gs1.map (·.s)).sum = (gs.map (·.s)).sum ∧ (gs1.map (·.a)).sum = (gs.map (·.a)).sum ∧ (gs1.map (·.k + 1)).sum = hv.length) →
      Fr h₀ env.locals h (fun y => if y = x then some (.int (i : Int) t) else if y = Str.ofString "order" then some (.ref aO) else if y = Str.ofString "bits" then some (.int (p : Int) t1) else if y = Str.ofString "way" then some (.str way.str t2) else if y = Str.ofString "held" then some (.ref D) else u y) →
      News h₀ env.locals h ((D, listOf hv1.toArray nh1) :: ((tl ++ news) ++ own)) →
      wpAny (model prog w) A (execs body env) (TbPost h₀ env.locals (HeldJ w way p D aO t1 t2 news hv.length (gs.map (·.s)).sum (gs.map (·.a)).sum (i + 1)) own { s with heap := h, toks := tk } Q) E { s with heap := h, toks := tk })
    (done : ∀ (u : Str → Option Value) (h : Heap) (tk : Nat) (tl : List (Addr × Obj)) (b : Addr) (g : Ghost) (nh1 : Nat), (∀ q ∈ news, ∀ p' ∈ tl, q.1 < p'.1) → IsNum w (tl ++ news) (.ref b) (canI (-6) g.z) → Good way p g → g.s = (gs.map (·.s)).sum → g.a = (gs.map (·.a)).sum → g.k + 1 = hv.length →
      Fr h₀ env.locals h (fun y => if y = Str.ofString "held" then some (.ref D) else u y) → News h₀ env.locals h ((D, listOf [Value.ref b].toArray nh1) :: (tl ++ news)) → Q .next { s with heap := h, toks := tk }) :
    wpAny (model prog w) A (pyIter (.ref r)) (fun it s₂ => LoopAtV prog w A h₀ env x body Q E it s₂) E s := by
  refine tbr_invG (n := hv.length - 1) (HeldJ w way p D aO t1 t2 news hv.length (gs.map (·.s)).sum (gs.map (·.a)).sum) hh hr ?_ ?_ F N' ⟨[], hv, gs, nh, rfl, off, fun _ _ _ h => (nomatch h), H, by omega, ⟨rfl, rfl, hS⟩, n2, n3, n4, n5⟩ ?_ ?_
  · exact (range_small hv.length (by omega) hN1).1
  · exact (range_small hv.length (by omega) hN1).2
  · rintro i k t m₁ nx h tk own hk hoff ⟨tl, hv1, gs1, nh1, rfl, o1, o2, H1, l1, S1, k2, k3, k4, k5⟩ F₁ N₁
    have hi : i < hv.length - 1 := by
      rcases Nat.lt_or_ge i (hv.length - 1) with h | h
      · exact h
      · rw [List.getElem?_eq_none (by rw [rangeKs_length]; exact h)] at hk; cases hk
    have ek : k = (i : Int) := by simpa [rangeKs, hi] using hk.symm
    subst ek
    rw [map_four k2 k3 k4 k5] at F₁
    refine turn i t m₁ h tk own tl hv1 gs1 nh1 (by omega) hoff o1 ?_ o2 H1 l1 S1 F₁ (by simpa using N₁)
    intro q hq
    rcases List.mem_append.mp hq with hq | hq
    · exact o1 q hq
    · exact hoff q hq _ (.head _)
  · rintro m₁ nx h tk ⟨tl, hv1, gs1, nh1, rfl, o1, o2, H1, l1, ⟨S1, S2, S3⟩, k2, k3, k4, k5⟩ F₁ N₁
    have hl : hv1.length = 1 := by omega
    rw [map_one k5] at F₁
    cases H1 with
    | nil => simp at hl
    | cons hx hr' =>
      cases hr' with
      | cons _ _ => simp at hl
      | nil =>
        rename_i a g
        obtain ⟨⟨b, q1, q2, q3, q4, c, rfl, hb⟩, G⟩ := hx
        simp at S1 S2 S3
        exact done m₁ h tk tl b g nh1 o2 ⟨b, q1, q2, q3, q4, c, rfl, hb⟩ G (by simpa using S1) (by simpa using S2) (by simpa using S3) F₁ N₁
end
end
section
/-- at most nine, out of omega's sight: the walk is not to split by it -/
structure Nine (n : Nat) : Prop where
  out : n ≤ 9
theorem use_add {w : World} {mean : ExcName → Option Value} {mg mb : Str → Option Value} {news nums : List (Addr × Obj)} {way : Way} {p : Nat} {z1 z2 : Int} {a1 a2 : Addr} {u1 u2 : Tok}
    {dp un : Nat} {gd : Option (List Code)} {cn : Str} {cs : Scope} {a : Addr} {ccd : Value} {cl : List (Str × Addr)} {outer : List Env} {A₀ : Around} {base h₀ : Heap} {L : Addr} {m : Str → Option Value} {s : Shared}
    {Q E : Value → Shared → Prop} (hp : 0 < p) (R1 : IsNum w nums (.ref a1) (canI (-6) z1)) (R2 : IsNum w nums (.ref a2) (canI (-6) z2)) (hs : ∀ q ∈ nums, q ∈ news) (h1 : z1.natAbs < 2 ^ 58) (h2 : z2.natAbs < 2 ^ 58)
    (B : Below A₀ base outer h₀) (F : Fr h₀ L s.heap m) (X : (hd.heap_39 w.params).In h₀) (N : News h₀ L s.heap news) (T : Top hd.view_39 loose mean mg mb h₀) (hk : cs.kind = .function) (hd : dp + 14 < recursionLimit) (hu : un + 200 < cLine)
    (ret : ∀ (b : Addr) tl h' (tk' : Nat) v, Rd way p (z1 + z2) v → IsNum w (tl ++ nums) (.ref b) (canI (-6) v) → Fr h₀ L h' m → News h₀ L h' (tl ++ news) → (∀ q ∈ news, ∀ p ∈ tl, q.1 < p.1) → Q (.ref b) { s with heap := h', toks := tk' }) :
    wpAny (model PySem.Challenge.rw_aw5009_01.row.prog w) (ktrTop dp un gd cn cs L a ccd cl outer) (call (.ref 76) [.ref a1, .ref a2, .int (p : Int) u1, .str way.str u2]) Q E s :=
  add_rd hp R1 R2 hs h1 h2 _ _ _ _ _ _ _ _ _ _ _ _ _ _ _ _ _ B F X N T hk hd hu fun r tl h' tk' F' N' l R => by
    obtain ⟨v, V, b, t1, t2, t3, t4, c, e, h⟩ := R
    subst e
    exact ret b tl h' tk' v V ⟨b, t1, t2, t3, t4, c, rfl, h⟩ F' N' l
theorem len_pos {gs : List Ghost} {pre post : List Ghost} {g : Ghost} (e : gs = pre ++ g :: post) : g.k + 1 ≤ (gs.map (·.k + 1)).sum ∧ g.a ≤ (gs.map (·.a)).sum := by
  subst e
  obtain ⟨_, h2, h3⟩ := sums_cut (pre := pre) (post := post) (g := g)
  omega
theorem bound_one {way : Way} {p : Nat} {gs pre post : List Ghost} {g : Ghost} {N SA : Nat} {SS : Int} (G : Good way p g) (e : gs = pre ++ g :: post) (hS : (gs.map (·.s)).sum = SS ∧ (gs.map (·.a)).sum = SA ∧ (gs.map (·.k + 1)).sum = N) (hN : N ≤ 9) (hA : SA ≤ 2 ^ 44) : g.z.natAbs < 2 ^ 58 := by
  obtain ⟨h1, h2⟩ := len_pos e
  obtain ⟨_, b, c⟩ := hS
  exact good_bound G (by omega) (by omega) hN hA
theorem bound_two {way : Way} {p : Nat} {gs pre post pre2 post2 : List Ghost} {g g2 : Ghost} {N SA : Nat} {SS : Int} (G : Good way p g2) (e2 : pre ++ post = pre2 ++ g2 :: post2) (e : gs = pre ++ g :: post) (hS : (gs.map (·.s)).sum = SS ∧ (gs.map (·.a)).sum = SA ∧ (gs.map (·.k + 1)).sum = N) (hN : N ≤ 9) (hA : SA ≤ 2 ^ 44) : g2.z.natAbs < 2 ^ 58 := by
  subst e
  obtain ⟨_, b, c⟩ := hS
  obtain ⟨_, h2, h3⟩ := sums_cut (pre := pre) (post := post) (g := g)
  rw [e2] at h2 h3
  obtain ⟨_, h5, h6⟩ := sums_cut (pre := pre2) (post := post2) (g := g2)
  exact good_bound G (by omega) (by omega) hN hA
local macro_rules | `(tactic| walk_at "ite") => `(tactic| first | (k_closed; k_dflt (first | refine ite_pos (by decide) ?_ | refine ite_neg (by decide) ?_)) | with_reducible refine ite_tt ?_ | with_reducible refine ite_ff ?_ | (with_reducible refine split_ine ?_ ?_ <;> intro _) | (with_reducible refine split_ieq ?_ ?_ <;> intro _))
local macro_rules | `(tactic| walk_at "execs cons") => `(tactic| (with_reducible refine gentoks ?_; intro tk))
local macro_rules | `(tactic| walk_at "execs nil") => `(tactic| (with_reducible refine gentoks ?_; intro tk))
local macro_rules | `(tactic| walk_at "pyIter ref") => `(tactic| (k_here; (with_reducible show wpAny _ _ (pyIter (Value.ref _)) (CompPostA _ _ _ _ _ _ _ _ _ _) _ _); k_dflt (refine' src_copy ?hhq1033 ?hmq1033 ?Fq1033 ?Nq1033 ?hkq1033 ?hxq1033 ?hdq1033 ?hzq1033 ?_; (case hhq1033 => exact rfl); (case hmq1033 => assumption); (case Fq1033 => k_asm); (case Nq1033 => k_asm); (case hkq1033 => exact rfl); (case hxq1033 => exact rfl); (case hdq1033 => decide); (case hzq1033 => exact Nat.le_trans (by assumption) (show 100 ≤ sizeLine by decide))); intro D9 h9 tk9 n9 F9 N9 f9))
local macro_rules | `(tactic| walk_at "pyIter ref") => `(tactic| (k_here; (with_reducible show wpAny _ _ (pyIter (Value.ref _)) (fun it s₂ => LoopAtV _ _ _ _ _ _ _ _ _ it s₂) _ _); k_dflt (refine' held_iter ?hhq1034 ?hrq1034 ?Fq1034 ?Nq1034 ?offq1034 ?Hq1034 ?h1q1034 ?h9q1034 ?hAq1034 ?hSq1034 ?n2q1034 ?n3q1034 ?n4q1034 ?n5q1034 ?turnq1034 ?doneq1034; (case hhq1034 => exact rfl); (case hrq1034 => assumption); (case Fq1034 => k_asm); (case Nq1034 => k_asm); (case offq1034 => assumption); (case Hq1034 => assumption); (case h1q1034 => assumption); (case h9q1034 => exact Nine.out (by assumption)); (case hAq1034 => assumption); (case hSq1034 => assumption); (case n2q1034 => exact rfl); (case n3q1034 => exact rfl); (case n4q1034 => exact rfl); (case n5q1034 => exact rfl); (all_goals first | (intro i9 t9 u9 h9 tk9 own9 tl9 hv9 gs9 nh9 hi9 ho9 o1 o2 o3 H9 l9 S9 F9 N9; (try k_sweep); (try k_fold)) | (intro u9 h9 tk9 tl9 b9 g9 nh9 o1 R9 G9 s9 a9 c9 F9 N9; (try k_sweep); (try dsimp only); (try k_fold))))))
local macro_rules | `(tactic| walk_at "call builtin:len") => `(tactic| (k_here; (with_reducible show wpAny _ _ (call (Value.builtin "len") [Value.ref _]) _ _ _); k_dflt (refine' kst_len ?k1q1035 ?k2q1035 rfl ?k4q1035 ?_; (case k1q1035 => k_asm); (case k2q1035 => first | assumption | exact List.Mem.head _ | exact List.mem_cons_of_mem _ (by assumption)); (case k4q1035 => omega))))
local macro_rules | `(tactic| walk_at "subscriptTail Name Name ref int") => `(tactic| (k_here; (with_reducible show wpAny _ _ (subscriptTail _ _ (Value.ref _) (Value.int _ _)) _ _ _); k_dflt (refine' item_ints ?Nq1036 ?hmq1036 ?hIq1036 ?h0q1036 ?h1q1036 ?hfq1036 ?_ ?hsq1036; (case Nq1036 => k_asm); (case hmq1036 => exact List.mem_cons_of_mem _ (List.mem_append_left _ (List.mem_append_right _ (by assumption)))); (case hIq1036 => assumption); (case h0q1036 => omega); (case h1q1036 => omega); (case hfq1036 => omega); (case hsq1036 => with_unfolding_all rfl)); intro t9))
local macro_rules | `(tactic| walk_at "subscriptTail Name Constant ref int") => `(tactic| (k_here; (with_reducible show wpAny _ _ (subscriptTail _ _ (Value.ref _) (Value.int _ _)) _ _ _); k_dflt (refine' item_zero ?Nq1037 ?hmq1037 ?_ ?hsq1037; (case Nq1037 => k_asm); (case hmq1037 => exact List.Mem.head _); (case hsq1037 => with_unfolding_all rfl))))
local macro_rules | `(tactic| walk_at "call builtin:list.pop") => `(tactic| (k_here; k_dflt (refine' pop_num ?Fq1038 ?Nq1038 ?offq1038 ?Hq1038 ?h0q1038 ?hzq1038 ?_; (case Fq1038 => k_asm); (case Nq1038 => k_asm); (case offq1038 => assumption); (case Hq1038 => assumption); (case h0q1038 => omega); (case hzq1038 => omega)); intro b9 pre9 g9 post9 hv9 h9 e9 R9 G9 H9 l9 F9 N9; (try k_sweep)))
local macro_rules | `(tactic| walk_at "call builtin:list.append") => `(tactic| (k_here; k_dflt (refine' append_num ?Fq1039 ?Nq1039 ?ordq1039 ?offq1039 ?hzq1039 ?_; (case Fq1039 => k_asm); (case Nq1039 => k_asm); (case ordq1039 => assumption); (case offq1039 => assumption); (case hzq1039 => omega)); intro h9 F9 N9; (try k_sweep)))
local macro_rules | `(tactic| walk_at "call ref") => `(tactic| (k_here; k_dflt (refine' use_add ?hpq1040 ?R1q1040 ?R2q1040 ?hsq1040 ?h1q1040 ?h2q1040 ?Bq1040 ?Fq1040 ?Xq1040 ?Nq1040 ?Tq1040 ?hkq1040 ?hdq1040 ?huq1040 ?_; (case Fq1040 => k_asm); (case Nq1040 => k_asm); (case R1q1040 => assumption); (case R2q1040 => assumption); (case hpq1040 => assumption); (case hsq1040 => exact fun q hq => List.mem_cons_of_mem _ (List.mem_append_left _ hq)); (case Bq1040 => k_asm); (case Xq1040 => k_asm); (case Tq1040 => k_asm); (case hkq1040 => first | exact rfl | assumption); (case hdq1040 => ktr_room); (case huq1040 => ktr_units); (case h1q1040 => first | exact bound_one (by assumption) (by assumption) (by assumption) (Nine.out (by assumption)) (by assumption) | exact bound_two (by assumption) (by assumption) (by assumption) (by assumption) (Nine.out (by assumption)) (by assumption)); (case h2q1040 => first | exact bound_one (by assumption) (by assumption) (by assumption) (Nine.out (by assumption)) (by assumption) | exact bound_two (by assumption) (by assumption) (by assumption) (by assumption) (Nine.out (by assumption)) (by assumption))); intro b9 tl9 h9 tk9 v9 V9 R9 F9 N9 l9; (try dsimp only); (try k_fold)))
set_option maxRecDepth 100000 in
set_option maxHeartbeats 8000000 in
theorem added {w : World} {mean : ExcName → Option Value} {mg mb : Str → Option Value} {news : List (Addr × Obj)} {way : Way} {p : Nat} {aN aO : Addr} {vs us : List Value} {ord : List Int} {gs : List Ghost} {n1 n2 : Nat} {t1 t2 : Tok}
    (hN : (aN, listOf vs.toArray n1) ∈ news) (hO : (aO, listOf us.toArray n2) ∈ news) (hI : IntsAre us ord) (hlen : ord.length = vs.length) (hG : NumsAre w way p news vs gs) (hp : 0 < p) (hv1 : 1 ≤ vs.length) (hv9 : Nine vs.length) (hv100 : vs.length ≤ 100) (hA : (gs.map (·.a)).sum ≤ 2 ^ 44) (hS : (gs.map (·.k + 1)).sum = vs.length) :
    Gives w mean mg mb 30 600 82 [.ref aN, .ref aO, .int (p : Int) t1, .str way.str t2] news (fun tl r => ∃ b g, r = .ref b ∧ IsNum w (tl ++ news) (.ref b) (canI (-6) g.z) ∧ Good way p g ∧ g.s = (gs.map (·.s)).sum ∧ g.a = (gs.map (·.a)).sum ∧ g.k + 1 = vs.length) := by
  suffices h : ((fun (_ : OpenLaw) (_ : Params → Frag) => True) PySem.Challenge.rw_aw5009_01 hd.heap_39) → Gives w mean mg mb 30 600 82 [.ref aN, .ref aO, .int (p : Int) t1, .str way.str t2] news (fun tl r => ∃ b g, r = .ref b ∧ IsNum w (tl ++ news) (.ref b) (canI (-6) g.z) ∧ Good way p g ∧ g.s = (gs.map (·.s)).sum ∧ g.a = (gs.map (·.a)).sum ∧ g.k + 1 = vs.length) from h trivial
  k_fill
  intro _
  unfold Gives
  intro dp un gd cn cs a ccd cl outer A₀ base h₀ L m s Q E B F X N T hk hd hu hret
  refine wpAny_call ?_
  k_dflt (refine' code_def ?k1 ?k2 ?k3 ?k4 ?k5 ?kA ?kF ?kK ?k6 ?k7 ?k8 ?k9 ?kB ?_ ?c2 ?c3 ?c4 ?c5; (case kA => exact rfl); (case kF => exact rfl); (case kK => assumption); (case k1 => k_asm); (case k2 => k_asm); (case k3 => k_asm); (case k4 => k_asm); (case k5 => k_asm); (case k6 => k_is); (case k7 => k_is); (case k8 => ktr_room); (case k9 => first | exact BindsTo.of_eq rfl | exact binds_K (by k_in) rfl (by k_is) rfl rfl rfl); (case c5 => decide); (case kB => exact locs rfl); (case c2 => exact rfl); (case c3 => exact rfl); (case c4 => exact rfl); k_whole; intro g' L' h' FG' F' N' B' X' T'; (try dsimp only); (try k_fold))
  k_steps
  all_goals first
    | exact turn_end' (by k_asm) (by k_asm) (by assumption) (by assumption) (by assumption) (by assumption) (by assumption) (by assumption) (by assumption) hp (by assumption) (by assumption) (by assumption) (by assumption) (by omega) (by assumption) rfl rfl rfl rfl
    | exact hret _ _ _ _ (by k_asm) (news_tail (by k_asm)) (by assumption) ⟨_, _, rfl, by assumption, by assumption, by assumption, by assumption, by assumption⟩
end
section
/-- the bits, as far as omega is to see them -/
structure Bits (b : Nat) : Prop where
  lo : 4 ≤ b
  hi : b ≤ 27
structure Many (n : Nat) : Prop where
  lo : 2 ≤ n
  hi : n ≤ 9
section
variable {prog : Program} {w : World} {A : Around} {E : Value → Shared → Prop} {s : Shared}
theorem add_bits {x : Int} {t u : Tok} {Q : Value → Shared → Prop} (h : ∀ b : Nat, Bits b → b ≤ 100 → Q (.int (b : Int) s.toks) { s with toks := s.toks + 1 }) : wpAny (model prog w) A (binaryOp .Add (.int 4 t) (.int (x.fmod 24) u)) Q E s := by
  obtain ⟨h0, h1⟩ := fmod_ok x (n := 24) (by omega)
  refine add_int ?_
  have e : 4 + x.fmod 24 = (((4 + x.fmod 24).toNat : Nat) : Int) := by omega
  rw [e]
  exact h _ ⟨by omega, by omega⟩ (by omega)
theorem add_many {x : Int} {t u : Tok} {Q : Value → Shared → Prop} (h : ∀ b : Nat, Many b → b ≤ 10 → 2 ≤ b → Q (.int (b : Int) s.toks) { s with toks := s.toks + 1 }) : wpAny (model prog w) A (binaryOp .Add (.int 2 t) (.int (x.fmod 8) u)) Q E s := by
  obtain ⟨h0, h1⟩ := fmod_ok x (n := 8) (by omega)
  refine add_int ?_
  have e : 2 + x.fmod 8 = (((2 + x.fmod 8).toNat : Nat) : Int) := by omega
  rw [e]
  exact h _ ⟨by omega, by omega⟩ (by omega) (by omega)
end
end
section
/-- one of the law's sizes: a number of b bits on a scale -/
def SizeOk (b : Nat) (z : Int) : Prop := (∃ (m : Int) (j : Nat), z = m * 2 ^ j ∧ m.natAbs ≤ 2 ^ b) ∧ z.natAbs ≤ 2 ^ 39
structure Sz (b n : Nat) : Prop where
  hi : n + 1 ≤ 2 ^ b
structure Scale (e : Nat) : Prop where
  hi : e ≤ 12
theorem pow27 {b : Nat} (B : Bits b) : 2 ^ b ≤ 2 ^ 27 ∧ 16 ≤ 2 ^ b := ⟨Nat.pow_le_pow_right (by omega) B.hi, Nat.le_trans (by decide) (Nat.pow_le_pow_right (n := 2) (i := 4) (by omega) B.lo)⟩
theorem size_pos {b n e : Nat} (B : Bits b) (S : Sz b n) (E : Scale e) : SizeOk b ((n : Int) * 2 ^ e) := by
  have hN : ((2 : Int) ^ e).natAbs = 2 ^ e := by simp [Int.natAbs_pow]
  have h1 := (pow27 B).1
  have h2 := S.hi
  have h3 : 2 ^ e ≤ 2 ^ 12 := Nat.pow_le_pow_right (by omega) E.hi
  refine ⟨⟨n, e, rfl, by omega⟩, ?_⟩
  rw [Int.natAbs_mul, hN]
  exact Nat.le_trans (Nat.mul_le_mul (show (n : Int).natAbs ≤ 2 ^ 27 by omega) h3) (by decide)
theorem size_neg {b n e : Nat} (B : Bits b) (S : Sz b n) (E : Scale e) : SizeOk b (-(n : Int) * 2 ^ e) := by
  have hN : ((2 : Int) ^ e).natAbs = 2 ^ e := by simp [Int.natAbs_pow]
  have h1 := (pow27 B).1
  have h2 := S.hi
  have h3 : 2 ^ e ≤ 2 ^ 12 := Nat.pow_le_pow_right (by omega) E.hi
  refine ⟨⟨-n, e, rfl, by omega⟩, ?_⟩
  rw [Int.natAbs_mul, hN]
  exact Nat.le_trans (Nat.mul_le_mul (show (-(n : Int)).natAbs ≤ 2 ^ 27 by omega) h3) (by decide)
theorem pow_nat (b : Nat) : (2 : Int) ^ b = ((2 ^ b : Nat) : Int) := by simp
section
variable {prog : Program} {w : World} {A : Around} {E : Value → Shared → Prop} {s : Shared} {h₀ : Heap}
theorem pow_b {b : Nat} {t u : Tok} {Q : Value → Shared → Prop} (hb : b ≤ 100) (h : Q (.int (2 ^ b) s.toks) { s with toks := s.toks + 1 }) : wpAny (model prog w) A (binaryOp .Pow (.int 2 t) (.int (b : Int) u)) Q E s :=
  pow_int_small (by omega) (by omega) (by decide) (by rw [show ((b : Int)).toNat = b by omega]; exact h)
theorem pow_e {x : Int} {t u : Tok} {Q : Value → Shared → Prop} (h : ∀ e : Nat, Scale e → Q (.int (2 ^ e) s.toks) { s with toks := s.toks + 1 }) : wpAny (model prog w) A (binaryOp .Pow (.int 2 t) (.int (x.fmod 13) u)) Q E s := by
  obtain ⟨h0, h1⟩ := fmod_ok x (n := 13) (by omega)
  exact pow_int_small h0 (by omega) (by decide) (h _ ⟨by omega⟩)
theorem mod_pred {b : Nat} {x : Int} {t u : Tok} {Q : Value → Shared → Prop} (B : Bits b) (h : Q (.int (x.fmod (2 ^ b - 1)) s.toks) { s with toks := s.toks + 1 }) : wpAny (model prog w) A (binaryOp .Mod (.int x t) (.int (2 ^ b - 1) u)) Q E s :=
  mod_int' (by have := (pow27 B).2; rw [pow_nat]; omega) h
theorem add_size {b : Nat} {x : Int} {t u : Tok} {Q : Value → Shared → Prop} (B : Bits b) (h : ∀ n : Nat, Sz b n → Q (.int (n : Int) s.toks) { s with toks := s.toks + 1 }) : wpAny (model prog w) A (binaryOp .Add (.int 1 t) (.int (x.fmod (2 ^ b - 1)) u)) Q E s := by
  have hp := (pow27 B).2
  obtain ⟨h0, h1⟩ := fmod_ok x (n := 2 ^ b - 1) (by rw [pow_nat]; omega)
  refine add_int ?_
  generalize x.fmod (2 ^ b - 1) = y at *
  have e : 1 + y = (((1 + y).toNat : Nat) : Int) := by omega
  rw [pow_nat] at h1
  rw [e]
  exact h _ ⟨by omega⟩
theorem mul_small {x y : Int} {t u : Tok} {Q : Value → Shared → Prop} (hx : x.natAbs < 2 ^ 64) (h : Q (.int (x * y) s.toks) { s with toks := s.toks + 1 }) : wpAny (model prog w) A (binaryOp .Mult (.int x t) (.int y u)) Q E s := by
  refine mul_int h (IntMulOk.of_left ?_)
  unfold Builtin.Int.intBits
  split
  · omega
  · rename_i h0
    have h0 : x ≠ 0 := by simpa using h0
    have : x.natAbs.log2 < 64 := (Nat.log2_lt (by omega)).mpr hx
    omega
theorem mul_sz {b n e : Nat} {t u : Tok} {Q : Value → Shared → Prop} (B : Bits b) (S : Sz b n) (h : Q (.int ((n : Int) * 2 ^ e) s.toks) { s with toks := s.toks + 1 }) : wpAny (model prog w) A (binaryOp .Mult (.int (n : Int) t) (.int (2 ^ e) u)) Q E s :=
  mul_small (by have := (pow27 B).1; have := S.hi; omega) h
theorem mul_szn {b n e : Nat} {t u : Tok} {Q : Value → Shared → Prop} (B : Bits b) (S : Sz b n) (h : Q (.int (-(n : Int) * 2 ^ e) s.toks) { s with toks := s.toks + 1 }) : wpAny (model prog w) A (binaryOp .Mult (.int (-(n : Int)) t) (.int (2 ^ e) u)) Q E s :=
  mul_small (by have := (pow27 B).1; have := S.hi; omega) h
theorem append_first {L D : Addr} {m : Str → Option Value} {hv : List Value} {nh : Nat} {rest : List (Addr × Obj)} {x : Value} {Q : Value → Shared → Prop} (F : Fr h₀ L s.heap m) (N : News h₀ L s.heap ((D, listOf hv.toArray nh) :: rest)) (off : ∀ q ∈ rest, q.1 ≠ D) (hz : hv.length ≤ 1000)
    (h : ∀ h', Fr h₀ L h' m → News h₀ L h' ((D, listOf (hv ++ [x]).toArray (nh + 1)) :: rest) → Q .none { s with heap := h' }) :
    wpAny (model prog w) A (call (.builtin "list.append") [.ref D, x]) Q E s := by
  refine append_K F N (Upd.head off) (fun h' F' N'' => h h' F' ?_) ?_
  · simpa using N''
  · rw [List.size_toArray]
    exact Nat.le_trans hz (by decide)
def SizesJ (lS : Addr) (rest : List (Addr × Obj)) (b n : Nat) (tM : Tok) (i : Nat) (m : Str → Option Value) (nx : List (Addr × Obj)) : Prop :=
  ∃ zvs zs nz, nx = (lS, listOf zvs.toArray nz) :: rest ∧ IntsAre zvs zs ∧ zs.length = i ∧ (∀ z ∈ zs, SizeOk b z) ∧ m (Str.ofString "sizes") = some (.ref lS) ∧ m (Str.ofString "many") = some (.int (n : Int) tM)
theorem map_two {m : Str → Option Value} {x1 x2 : Str} {v1 v2 : Value} (h1 : m x1 = some v1) (h2 : m x2 = some v2) : m = fun y => if y = x1 then some v1 else if y = x2 then some v2 else m y := by
  funext y
  by_cases e1 : y = x1
  · rw [if_pos e1, e1, h1]
  · rw [if_neg e1]
    by_cases e2 : y = x2
    · rw [if_pos e2, e2, h2]
    · rw [if_neg e2]
variable {env : Env} {x : Str} {body : List Stmt} {Q : Flow → Shared → Prop} {lS : Addr} {rest : List (Addr × Obj)} {b n : Nat} {tM : Tok}
theorem sizes_iter {l : Addr} {vs : List Value} {ds : List Int} {nn : Nat} {m₀ : Str → Option Value} {all : List (Addr × Obj)} (_B : Bits b) (hh : A.handled = none) (hi : IntsAre vs ds) (hds : ds.length = n) (hn : n ≤ 100) (F : Fr h₀ env.locals s.heap m₀)
    (N₀ : News h₀ env.locals s.heap all) (hN : all = (l, listOf vs.toArray nn) :: (lS, listOf #[] 0) :: rest) (off : ∀ q ∈ (l, listOf vs.toArray nn) :: rest, q.1 ≠ lS)
    (n1 : m₀ (Str.ofString "sizes") = some (.ref lS)) (n2 : m₀ (Str.ofString "many") = some (.int (n : Int) tM))
    (turn : ∀ (i : Nat) (k : Int) t (u : Str → Option Value) h tk own zvs zs nz, i < n → OwnOff own (((lS, listOf zvs.toArray nz) :: (l, listOf vs.toArray nn) :: rest).map (·.1)) → (∀ q ∈ (l, listOf vs.toArray nn) :: (rest ++ own), q.1 ≠ lS) → IntsAre zvs zs → zs.length = i → zvs.length ≤ 1000 → (∀ z ∈ zs, SizeOk b z) →
      Fr h₀ env.locals h (fun y => if y = x then some (.int k t) else if y = Str.ofString "sizes" then some (.ref lS) else if y = Str.ofString "many" then some (.int (n : Int) tM) else u y) →
      News h₀ env.locals h ((lS, listOf zvs.toArray nz) :: (l, listOf vs.toArray nn) :: (rest ++ own)) →
      wpAny (model prog w) A (execs body env) (InvPostG h₀ env.locals (fun m' nx => (l, listOf vs.toArray nn) ∈ nx ∧ SizesJ lS ((l, listOf vs.toArray nn) :: rest) b n tM (i + 1) m' nx) own { s with heap := h, toks := tk } Q) E { s with heap := h, toks := tk })
    (done : ∀ (u : Str → Option Value) h tk zvs zs nz, IntsAre zvs zs → zs.length = n → (∀ z ∈ zs, SizeOk b z) → Fr h₀ env.locals h (fun y => if y = Str.ofString "sizes" then some (.ref lS) else if y = Str.ofString "many" then some (.int (n : Int) tM) else u y) →
      News h₀ env.locals h ((lS, listOf zvs.toArray nz) :: rest) → Q .next { s with heap := h, toks := tk }) :
    wpAny (model prog w) A (pyIter (.ref l)) (fun it s₂ => LoopAtV prog w A h₀ env x body Q E it s₂) E s := by
  subst hN
  have N : News h₀ env.locals s.heap ((lS, listOf ([] : List Value).toArray 0) :: (l, listOf vs.toArray nn) :: rest) := fun q hq => N₀ q (by
    simp only [List.mem_cons] at hq ⊢
    rcases hq with h | h | h
    · exact .inr (.inl h)
    · exact .inl h
    · exact .inr (.inr h))
  refine kdl_iter (nn := nn) (SizesJ lS ((l, listOf vs.toArray nn) :: rest) b n tM) hh (.tail _ (.head _)) F N ⟨[], [], 0, rfl, .nil, rfl, fun _ h => (nomatch h), n1, n2⟩ ?_ ?_
  · rintro i v m₁ nx h tk own hv ho hm ⟨zvs, zs, nz, rfl, hz, hl, hS, k1, k2⟩ F₁ N₁
    obtain ⟨k, t, hv', hk⟩ := IntsAre.at hi i v hv
    have hin : i < n := by
      rcases Nat.lt_or_ge i n with h' | h'
      · exact h'
      · rw [List.getElem?_eq_none (by omega)] at hk; cases hk
    subst hv'
    rw [map_two k1 k2] at F₁
    refine turn i k t m₁ h tk own zvs zs nz hin ho ?_ hz hl (by rw [hz.length]; omega) hS F₁ (by simpa using N₁)
    intro q hq
    rcases List.mem_cons.mp hq with rfl | hq
    · exact off _ (.head _)
    · rcases List.mem_append.mp hq with hq | hq
      · exact off q (.tail _ hq)
      · exact ho q hq lS (.head _)
  · rintro m₁ nx h tk ⟨zvs, zs, nz, rfl, hz, hl, hS, k1, k2⟩ F₁ N₁
    rw [map_two k1 k2] at F₁
    exact done m₁ h tk zvs zs nz hz (by rw [hl, hi.length, hds]) hS F₁ (fun q hq => N₁ q (by
      rcases List.mem_cons.mp hq with rfl | hq
      · exact .head _
      · exact .tail _ (.tail _ hq)))
theorem sizes_end {L l : Addr} {i nz nz' : Nat} {z : Int} {tz : Tok} {zvs : List Value} {zs : List Int} {nn : Nat} {vs : List Value} {own : List (Addr × Obj)} {m' : Str → Option Value} {s₁ : Shared} {h' : Heap} {tk : Nat}
    (F : Fr h₀ L h' m') (N : News h₀ L h' ((lS, listOf (zvs ++ [Value.int z tz]).toArray nz') :: (l, listOf vs.toArray nn) :: (rest ++ own))) (ho : OwnOff own (((lS, listOf zvs.toArray nz) :: (l, listOf vs.toArray nn) :: rest).map (·.1))) (hz : IntsAre zvs zs) (hl : zs.length = i) (hS : ∀ z ∈ zs, SizeOk b z) (hzz : SizeOk b z)
    (k1 : m' (Str.ofString "sizes") = some (.ref lS)) (k2 : m' (Str.ofString "many") = some (.int (n : Int) tM)) :
    InvEndG h₀ L (fun m' nx => (l, listOf vs.toArray nn) ∈ nx ∧ SizesJ lS ((l, listOf vs.toArray nn) :: rest) b n tM (i + 1) m' nx) own s₁ { s₁ with heap := h', toks := tk } := by
  refine InvEndG.intro (nx := (lS, listOf (zvs ++ [Value.int z tz]).toArray nz') :: (l, listOf vs.toArray nn) :: rest) F N ⟨.tail _ (.head _), zvs ++ [Value.int z tz], zs ++ [z], nz', rfl, IntsAre.append hz (.cons z tz .nil), by rw [List.length_append, hl]; rfl, ?_, k1, k2⟩ ho ?_ ?_
  · intro y hy
    rcases List.mem_append.mp hy with hy | hy
    · exact hS y hy
    · rw [List.mem_singleton.mp hy]; exact hzz
  · intro q hq
    simp only [List.mem_cons, List.mem_append] at hq ⊢
    rcases hq with h | h | h
    · exact .inl h
    · exact .inr (.inl h)
    · exact .inr (.inr (.inl h))
  · intro q hq
    simp only [List.mem_cons, List.mem_append]
    exact .inr (.inr (.inr hq))
end
theorem gen_done {l : List Int} {n : Nat} {P : List Value → Prop} (h : ∀ ds : List Int, ds.length = n → ∀ ys, IntsAre ys ds → ys.length = n → P ys) (e : l.length = n) : KPfDone (∀ ys, IntsAre ys l → P ys) := fun ys hy => h l e ys hy (hy.length.trans e)
end
section
/-- an element of the numbers' comprehension is there -/
def NumEnd (w : World) (h₀ : Heap) (L : Addr) (m : Str → Option Value) (s₁ : Shared) (led : List (Addr × Obj)) (z : Int) (y : Value) (s₂ : Shared) : Prop :=
  ∃ h' tk' tl9, s₂ = { s₁ with heap := h', toks := tk' } ∧ Fr h₀ L h' m ∧ News h₀ L h' (tl9 ++ led) ∧ (∀ q ∈ led, ∀ p ∈ tl9, q.1 < p.1) ∧ IsNum w tl9 y (canI (-6) z)
abbrev NumL (w : World) (tl : List (Addr × Obj)) (ys : List Value) (zs : List Int) : Prop := All2 (fun v z => IsNum w tl v (canI (-6) z)) ys zs
theorem off1_mem {D : Addr} {l : List (Addr × Obj)} (h : LCg.Off1 D l) : ∀ q ∈ l, q.1 ≠ D := by
  induction l with
  | nil => exact fun _ hq => nomatch hq
  | cons p r ih =>
    intro q hq
    rcases List.mem_cons.mp hq with e | hq
    · rw [e]; exact h.1
    · exact ih h.2 q hq
theorem off1_of {D : Addr} {l : List (Addr × Obj)} (h : ∀ q ∈ l, q.1 ≠ D) : LCg.Off1 D l := by
  induction l with
  | nil => exact trivial
  | cons p r ih => exact ⟨h p (.head _), ih fun q hq => h q (.tail _ hq)⟩
section
variable {prog : Program} {w : World} {A : Around} {h₀ : Heap} {L : Addr} {m : Str → Option Value} {env : Env} {elt : Expr} {x : Str} {scope : Scope} {cl : List (Str × Addr)} {s : Shared} {Fin : List Value → List (Addr × Obj) → Prop} {news : List (Addr × Obj)}
theorem nums_rest {ax : Addr} {zvs : List Value} {zs : List Int} {nz : Nat} (hm : (ax, listOf zvs.toArray nz) ∈ news) (hi : IntsAre zvs zs)
    (turn : ∀ z t I oI C oC D m₂ ys tl h tk (E' : Value → Shared → Prop), LCg.NsObj oC m₂ → m₂ x = some (.int z t) → Fr h₀ L h m → News h₀ L h ((I, oI) :: (C, oC) :: (D, LCg.lst ys) :: (tl ++ news)) →
      wpAny (model prog w) A (eval elt (compEnvC scope cl C env)) (NumEnd w h₀ L m { s with heap := h, toks := tk } ((I, oI) :: (C, oC) :: (D, LCg.lst ys) :: (tl ++ news)) z) E' { s with heap := h, toks := tk })
    (fin : ∀ ys tl, (∀ q ∈ news, ∀ p ∈ tl, q.1 < p.1) → NumL w tl ys zs → Fin ys (tl ++ news)) :
    LCg.CompRest prog w A h₀ L m env elt x scope cl s (LCg.SrcAt h₀ ax zvs.toArray) (fun i v => zvs.toArray[i]? = some v) Fin zvs.toArray.size 0 [] news := by
  have key : ∀ (j i : Nat) (ys : List Value) (tl : List (Addr × Obj)), i + j = zvs.length → (∀ q ∈ news, ∀ p ∈ tl, q.1 < p.1) → NumL w tl ys (zs.take i) →
      LCg.CompRest prog w A h₀ L m env elt x scope cl s (LCg.SrcAt h₀ ax zvs.toArray) (fun i v => zvs.toArray[i]? = some v) Fin j i ys (tl ++ news) := by
    intro j
    induction j with
    | zero =>
      intro i ys tl hij ho hy
      have e : zs.take i = zs := List.take_of_length_le (by have := hi.length; omega)
      rw [e] at hy
      exact LCg.CompRest.zero (fin ys tl ho hy)
    | succ j ih =>
      intro i ys tl hij ho hy
      refine LCg.CompRest.succ ?_
      intro v I oI C oC D m₂ h tk E' hv hC hx F N off ne
      obtain ⟨z, t, e, hz⟩ := IntsAre.at hi i v (by simpa using hv)
      subst e
      refine wpAny_mono (turn z t I oI C oC D m₂ ys tl h tk E' hC hx F N) (fun y s₂ hq => ?_) fun _ _ e => e
      obtain ⟨h', tk', tl9, e, F', N', o9, R⟩ := hq
      have hoff : LCg.Off3 I C D ((tl9 ++ tl) ++ news) := LCg.Off3.of fun p hp => by
        rw [List.append_assoc] at hp
        rcases List.mem_append.mp hp with hp | hp
        · exact ⟨Nat.ne_of_gt (o9 _ (.head _) p hp), Nat.ne_of_gt (o9 _ (.tail _ (.head _)) p hp), Nat.ne_of_gt (o9 _ (.tail _ (.tail _ (.head _))) p hp)⟩
        · exact off.mem p hp
      refine ⟨h', tk', (tl9 ++ tl) ++ news, e, F', fun p hp => N' p ?_, hoff, .inr ⟨_, List.mem_append_right _ hm, rfl, nz, rfl⟩, ?_⟩
      · simp only [List.mem_cons, List.mem_append] at hp ⊢
        rcases hp with h1 | h1 | h1 | (h1 | h1) | h1 <;> simp [h1]
      · refine ih (i + 1) _ (tl9 ++ tl) (by omega) (fun q hq p hp => ?_) ?_
        · rcases List.mem_append.mp hp with hp | hp
          · exact o9 q (.tail _ (.tail _ (.tail _ (List.mem_append_right _ hq)))) p hp
          · exact ho q hq p hp
        · rw [List.take_add_one, hz]
          exact All2.snoc (hy.mono fun a b h1 => h1.right) R.left
  have := key zvs.length 0 [] [] (by omega) (fun _ _ _ h => nomatch h) (by simpa using All2.nil)
  simpa using this
theorem finE_perm {Q : Value → Shared → Prop} {ys : List Value} {l l' : List (Addr × Obj)} (h : LCg.FinE h₀ L m s Q ys l') (e : ∀ q, q ∈ l ↔ q ∈ l') : LCg.FinE h₀ L m s Q ys l := by
  intro D h1 tk F N off
  refine h D h1 tk F (fun q hq => N q ?_) ?_
  · rcases List.mem_cons.mp hq with rfl | hq
    · exact .head _
    · exact .tail _ ((e q).mpr hq)
  · have hoff := (off1_mem off)
    exact off1_of fun q hq => hoff q ((e q).mpr hq)
theorem nums_src {Q : Value → Shared → Prop} {ax : Addr} {zvs : List Value} {zs : List Int} {nz : Nat} (hh : A.handled = none) (F : Fr h₀ L s.heap m) (N : News h₀ L s.heap news) (hm : (ax, listOf zvs.toArray nz) ∈ news) (hi : IntsAre zvs zs) (hz : zs.length ≤ 100)
    (turn : ∀ z t I oI C oC D m₂ ys tl h tk (E' : Value → Shared → Prop), LCg.NsObj oC m₂ → m₂ x = some (.int z t) → Fr h₀ L h m → News h₀ L h ((I, oI) :: (C, oC) :: (D, LCg.lst ys) :: (tl ++ news)) →
      wpAny (model prog w) A (eval elt (compEnvC scope cl C env)) (NumEnd w h₀ L m { s with heap := h, toks := tk } ((I, oI) :: (C, oC) :: (D, LCg.lst ys) :: (tl ++ news)) z) E' { s with heap := h, toks := tk })
    (fin : ∀ g ys tl, (∀ q ∈ news, ∀ p ∈ tl, q.1 < p.1) → NumL w tl ys zs → LCg.FinE h₀ L m { s with heap := g } Q ys (news ++ tl)) : LCg.CompSrc prog w A h₀ L m env elt x scope cl (fun s₂ => LCg.FinE h₀ L m s₂ Q) (.ref ax) s :=
  LCg.CompSrc.ledger hh F N hm (by rw [List.size_toArray, hi.length]; exact Nat.le_trans hz (by decide)) fun g => nums_rest hm hi turn fun ys tl ho hR => finE_perm (fin g ys tl ho hR) fun q => by simp only [List.mem_append]; exact Or.comm
def IntEnd (h₀ : Heap) (L : Addr) (m : Str → Option Value) (s₁ : Shared) (led : List (Addr × Obj)) (y : Value) (s₂ : Shared) : Prop :=
  ∃ h' tk' z t, s₂ = { s₁ with heap := h', toks := tk' } ∧ y = .int z t ∧ Fr h₀ L h' m ∧ News h₀ L h' led
theorem order_src {Q : Value → Shared → Prop} {r : Addr} {n : Nat} {t₀ u₀ v₀ : Tok} (hh : A.handled = none) (F : Fr h₀ L s.heap m) (N : News h₀ L s.heap news) (hr : IsRange s.heap r 0 (n : Int) 1 t₀ u₀ v₀) (hn : n ≤ 10) (hn2 : 2 ≤ n)
    (turn : ∀ k t I oI C oC D m₂ ys h tk (E' : Value → Shared → Prop), LCg.NsObj oC m₂ → m₂ x = some (.int k t) → Fr h₀ L h m → News h₀ L h ((I, oI) :: (C, oC) :: (D, LCg.lst ys) :: news) →
      wpAny (model prog w) A (eval elt (compEnvC scope cl C env)) (IntEnd h₀ L m { s with heap := h, toks := tk } ((I, oI) :: (C, oC) :: (D, LCg.lst ys) :: news)) E' { s with heap := h, toks := tk })
    (fin : ∀ g ys os, IntsAre ys os → os.length = n → LCg.FinE h₀ L m { s with heap := g } Q ys news) : LCg.CompSrc prog w A h₀ L m env elt x scope cl (fun s₂ => LCg.FinE h₀ L m s₂ Q) (.ref r) s := by
  have rs : ∀ n < 11, 1 ≤ n → Builtin.Range.small 0 ((n : Nat) : Int) 1 = true ∧ Builtin.Range.rangeSize 0 ((n : Nat) : Int) 1 = ((n : Nat) : Int) := by decide +kernel
  refine LCg.CompSrc.range (n := n) hh F N hr (rs n (by omega) (by omega)).1 (rs n (by omega) (by omega)).2 (Nat.le_trans hn (by decide)) fun g => ?_
  have key : ∀ (j i : Nat) (ys : List Value), i + j = n → (∃ os, IntsAre ys os ∧ os.length = i) →
      LCg.CompRest prog w A h₀ L m env elt x scope cl { s with heap := g } (fun _ => True) (fun i v => ∃ t, v = .int (0 + (i : Int)) t) (LCg.FinE h₀ L m { s with heap := g } Q) j i ys news := by
    intro j
    induction j with
    | zero =>
      rintro i ys hij ⟨os, h1, h2⟩
      exact LCg.CompRest.zero (fin g ys os h1 (by omega))
    | succ j ih =>
      rintro i ys hij ⟨os, h1, h2⟩
      refine LCg.CompRest.succ ?_
      intro v I oI C oC D m₂ h tk E' hv hC hx F N off ne
      obtain ⟨t, e⟩ := hv
      subst e
      refine wpAny_mono (turn _ t I oI C oC D m₂ ys h tk E' hC hx F N) (fun y s₂ hq => ?_) fun _ _ e => e
      obtain ⟨h', tk', z, t', e, ey, F', N'⟩ := hq
      subst ey
      exact ⟨h', tk', news, e, F', N', off, trivial, ih (i + 1) _ (by omega) ⟨os ++ [z], IntsAre.append h1 (.cons z t' .nil), by rw [List.length_append, h2]; rfl⟩⟩
  exact key n 0 [] (by omega) ⟨[], .nil, rfl⟩
/-- an item of a list of ints at a remainder -/
theorem item_mod {E : Value → Shared → Prop} {value slice : Expr} {l : Addr} {us : List Value} {ds : List Int} {a : Int} {u : Tok} {Q : Value → Shared → Prop} (N : News h₀ L s.heap news) (hm : (l, LCg.lst us) ∈ news) (hI : IntsAre us ds) (hl : ds.length = 15)
    (h : ∀ t z, Q (.int z t) s)
    (hs : subscripted slice false (.ref l) (.int (a.fmod 15) u) = operate [.ref l, .int (a.fmod 15) u] (getItem (.ref l) (.int (a.fmod 15) u)) := by with_unfolding_all rfl) :
    wpAny (model prog w) A (subscriptTail value slice (.ref l) (.int (a.fmod 15) u)) Q E s := by
  have hL : s.heap.IsList l us.toArray := ⟨_, (N _ hm).1, rfl, us.length, rfl⟩
  obtain ⟨h0, h1⟩ := fmod_ok a (n := 15) (by omega)
  have hk : (a.fmod 15).toNat < ds.length := by omega
  obtain ⟨t, ht⟩ := hI.get (a.fmod 15).toNat (ds[(a.fmod 15).toNat]'hk) (by simp [hk])
  exact tail_any hL.typeIs PySem.F.slot_list_getitem.lookup (wpAny_getItem_list hL h0 (by omega) (by simpa using ht) (h t _)) hs
end
theorem tl_off {l tl : List (Addr × Obj)} {c : Addr} {o : Obj} (ho : ∀ q ∈ l, ∀ p ∈ tl, q.1 < p.1) (hc : (c, o) ∈ l) : ∀ p ∈ tl, p.1 ≠ c := fun p hp => Nat.ne_of_gt (ho _ hc p hp)
end
section
section
variable {prog : Program} {w : World} {A : Around} {E : Value → Shared → Prop} {s : Shared} {h₀ : Heap} {L : Addr} {m : Str → Option Value} {env : Env}
def TextSrc (prog : Program) (w : World) (A : Around) (h₀ : Heap) (L : Addr) (m : Str → Option Value) (env : Env) (elt : Expr) (x : Str) (scope : Scope) (cl : List (Str × Addr)) (Q : Value → Shared → Prop) (xv : Value) (s₁ : Shared) : Prop :=
  ∃ y t news, xv = .str y t ∧ A.handled = none ∧ Fr h₀ L s₁.heap m ∧ News h₀ L s₁.heap news ∧ y.cps.all (· < 128) = true ∧ y.cps.size ≤ sizeLine ∧
      ∀ g, LCg.CompRest prog w A h₀ L m env elt x scope cl { s₁ with heap := g } (fun _ => True) (SignAt y) (LCg.FinE h₀ L m { s₁ with heap := g } Q) y.cps.size 0 [] news
/-- a list comprehension over a text -/
theorem listComp_text {elt iter : Expr} {x : Str} {px : Pos} {scope : Scope} {cl : List (Str × Addr)} {pos : Pos} {Q : Value → Shared → Prop} (_F₀ : Fr h₀ L s.heap m)
    (hclos : closureFor scope env = pure cl) (hcell : ∀ y ∈ scope.names, y.2 ≠ .cell) (hkind : scope.kind = .function)
    (hnames : ∀ y ∈ scope.names, y.2 = .local → scope.names.lookup y.1 = some .local) (hx : scope.names.lookup x = some .local)
    (h : wpAny (model prog w) A (eval iter env) (TextSrc prog w A h₀ L m env elt x scope cl Q) E s)
    (hs : ∀ x, foldedSetIterable iter env x = pure x := by intro _; rfl) :
    wpAny (model prog w) A (eval (.ListComp elt [⟨.Name x px, iter, [], 0⟩] scope pos) env) Q E s := by
  rw [eval_ListComp]
  refine wpAny_comprehension_free (use := none) rfl hs hclos hkind hnames (wpAny_mono h (fun xv s₁ h₁ => ?_) fun _ _ e => e)
  obtain ⟨y, t, news, rfl, hh, F, N, ha, hsz, R⟩ := h₁
  refine wpAny_pyIter_ascii ha ?_
  refine LCg.block_U (St := fun i h => h.IsStrIter s₁.heap.objs.size "str_ascii_iterator" y t i) (Walks.strAscii hh s₁.heap.objs.size y t) hsz (fun i h st => by obtain ⟨o, e, _⟩ := st; exact ⟨o, e⟩) (fun i h h' o nw st e e' _ _ _ => by obtain ⟨o', q, r⟩ := st; rw [e] at q; cases q; exact ⟨o, e', r⟩) hcell hkind hx ⟨_, Heap.get?_push_size _ rfl, rfl, rfl⟩ (fun b hb => ?_)
    (F.keeps fun _ _ e => Heap.get?_push_of_some _ e) (N.grown fun _ _ e => Heap.get?_push_of_some _ e) (Nat.ne_of_lt F.ns.lt) (next_is_new F) (fun p hp => Nat.ne_of_lt (Heap.lt_size (N p hp).1)) trivial (R _) ?_
  · rw [List.mem_singleton.mp hb]
    show s₁.heap.objs.size < (s₁.heap.push _).objs.size
    rw [Heap.size_push]; exact Nat.lt_succ_self _
  · intro D C h tk m' ys news' F' N' o1 hn hC₀ hD₀ hCL hDL hCD offC fin
    refine ⟨m', hn, fun h'' hs'' => fin D h'' tk (F'.change hs'' hCL hC₀) (fun p hp => ?_) o1⟩
    refine ⟨hs''.extBut _ _ ?_ (N' p hp).1, (N' p hp).2⟩
    rcases List.mem_cons.mp hp with rfl | hp
    · exact Ne.symm hCD
    · exact offC p hp
def WayEnd (h₀ : Heap) (L : Addr) (m : Str → Option Value) (s₁ : Shared) (led : List (Addr × Obj)) (P : Int → Prop) (y : Value) (s₂ : Shared) : Prop :=
  ∃ h' tk' z t tl, s₂ = { s₁ with heap := h', toks := tk' } ∧ y = .int z t ∧ Fr h₀ L h' m ∧ News h₀ L h' (tl ++ led) ∧ P z
theorem ways_rest {elt : Expr} {x : Str} {scope : Scope} {cl : List (Str × Addr)} {Q : Value → Shared → Prop} {news : List (Addr × Obj)} {P : Way → Int → Prop}
    (turn : ∀ way u I oI C oC D m₂ ys h tk (E' : Value → Shared → Prop), LCg.NsObj oC m₂ → m₂ x = some (.str (Way.str way) u) → Fr h₀ L h m → News h₀ L h ((I, oI) :: (C, oC) :: (D, LCg.lst ys) :: news) →
      wpAny (model prog w) A (eval elt (compEnvC scope cl C env)) (WayEnd h₀ L m { s with heap := h, toks := tk } ((I, oI) :: (C, oC) :: (D, LCg.lst ys) :: news) (P way)) E' { s with heap := h, toks := tk })
    (fin : ∀ z1 t1 z2 t2 z3 t3, P .n z1 → P .f z2 → P .c z3 → LCg.FinE h₀ L m s Q [.int z1 t1, .int z2 t2, .int z3 t3] news) :
    LCg.CompRest prog w A h₀ L m env elt x scope cl s (fun _ => True) (SignAt (Str.ofString "nfc")) (LCg.FinE h₀ L m s Q) (Str.ofString "nfc").cps.size 0 [] news := by
  have step : ∀ (way : Way) (j i : Nat) (ys : List Value), (∀ v, SignAt (Str.ofString "nfc") i v → ∃ u, v = .str way.str u) →
      (∀ z t, P way z → LCg.CompRest prog w A h₀ L m env elt x scope cl s (fun _ => True) (SignAt (Str.ofString "nfc")) (LCg.FinE h₀ L m s Q) j (i + 1) (ys ++ [.int z t]) news) →
      LCg.CompRest prog w A h₀ L m env elt x scope cl s (fun _ => True) (SignAt (Str.ofString "nfc")) (LCg.FinE h₀ L m s Q) (j + 1) i ys news := by
    intro way j i ys hw next
    refine LCg.CompRest.succ ?_
    intro v I oI C oC D m₂ h tk E' hv hC hx F N off ne
    obtain ⟨u, e⟩ := hw v hv
    subst e
    refine wpAny_mono (turn way u I oI C oC D m₂ ys h tk E' hC hx F N) (fun y s₂ hq => ?_) fun _ _ e => e
    obtain ⟨h', tk', z, t, tl, e, ey, F', N', hz⟩ := hq
    subst ey
    exact ⟨h', tk', news, e, F', fun p hp => N' p (List.mem_append_right _ hp), off, trivial, next z t hz⟩
  have sz : (Str.ofString "nfc").cps.size = 3 := by decide +kernel
  have c0 : (Str.ofString "nfc").cps[0]? = some 110 := by decide +kernel
  have c1 : (Str.ofString "nfc").cps[1]? = some 102 := by decide +kernel
  have c2 : (Str.ofString "nfc").cps[2]? = some 99 := by decide +kernel
  have w0 : (⟨#[110]⟩ : Str) = Way.str .n := by decide +kernel
  have w1 : (⟨#[102]⟩ : Str) = Way.str .f := by decide +kernel
  have w2 : (⟨#[99]⟩ : Str) = Way.str .c := by decide +kernel
  rw [sz]
  refine step .n 2 0 [] (fun v hv => ?_) fun z1 t1 p1 => step .f 1 1 _ (fun v hv => ?_) fun z2 t2 p2 => step .c 0 2 _ (fun v hv => ?_) fun z3 t3 p3 => LCg.CompRest.zero (fin z1 t1 z2 t2 z3 t3 p1 p2 p3)
  · obtain ⟨c, u, e, rfl⟩ := hv
    rw [c0] at e; cases e
    exact ⟨u, by rw [w0]⟩
  · obtain ⟨c, u, e, rfl⟩ := hv
    rw [c1] at e; cases e
    exact ⟨u, by rw [w1]⟩
  · obtain ⟨c, u, e, rfl⟩ := hv
    rw [c2] at e; cases e
    exact ⟨u, by rw [w2]⟩
theorem text_src {elt : Expr} {x : Str} {scope : Scope} {cl : List (Str × Addr)} {Q : Value → Shared → Prop} {news : List (Addr × Obj)} {P : Way → Int → Prop} {t : Tok} (hh : A.handled = none) (F : Fr h₀ L s.heap m) (N : News h₀ L s.heap news)
    (turn : ∀ way u I oI C oC D m₂ ys h tk (E' : Value → Shared → Prop), LCg.NsObj oC m₂ → m₂ x = some (.str (Way.str way) u) → Fr h₀ L h m → News h₀ L h ((I, oI) :: (C, oC) :: (D, LCg.lst ys) :: news) →
      wpAny (model prog w) A (eval elt (compEnvC scope cl C env)) (WayEnd h₀ L m { s with heap := h, toks := tk } ((I, oI) :: (C, oC) :: (D, LCg.lst ys) :: news) (P way)) E' { s with heap := h, toks := tk })
    (fin : ∀ g z1 t1 z2 t2 z3 t3, P .n z1 → P .f z2 → P .c z3 → LCg.FinE h₀ L m { s with heap := g } Q [.int z1 t1, .int z2 t2, .int z3 t3] news) :
    TextSrc prog w A h₀ L m env elt x scope cl Q (.str (Str.ofString "nfc") t) s :=
  ⟨_, _, news, rfl, hh, F, N, by decide +kernel, by decide +kernel, fun g => ways_rest turn (fin g)⟩
end
def gh (z : Int) : Ghost := ⟨z, z, z.natAbs, 0⟩
theorem good_gh {way : Way} {b : Nat} {z : Int} (h : SizeOk b z) : Good way b (gh z) := by
  refine ⟨Nat.le_refl _, h.1, by show z.natAbs ≤ 2 ^ 0 * z.natAbs; simp, ?_⟩
  cases way with
  | n => show (z - z).natAbs * 2 ^ b ≤ 0 * z.natAbs; simp
  | f => exact Int.le_refl z
  | c => exact Int.le_refl z
/-- what the law asks of a sum -/
def Final (way : Way) (b : Nat) (zs : List Int) (z : Int) : Prop := z.natAbs < 2 ^ 58 ∧
  match way with
  | .n => (z - zs.sum).natAbs * 2 ^ b ≤ (zs.length - 1) * (zs.map Int.natAbs).sum
  | .f => z ≤ zs.sum
  | .c => zs.sum ≤ z
theorem gh_sums : ∀ zs : List Int, ((zs.map gh).map (·.s)).sum = zs.sum ∧ ((zs.map gh).map (·.a)).sum = (zs.map Int.natAbs).sum ∧ ((zs.map gh).map (·.k + 1)).sum = zs.length
  | [] => ⟨rfl, rfl, rfl⟩
  | z :: zs => by
    obtain ⟨h1, h2, h3⟩ := gh_sums zs
    refine ⟨?_, ?_, ?_⟩
    · rw [List.map_cons, List.map_cons, List.sum_cons, List.sum_cons, h1]; rfl
    · rw [List.map_cons, List.map_cons, List.map_cons, List.sum_cons, List.sum_cons, h2]; rfl
    · rw [List.map_cons, List.map_cons, List.sum_cons, h3, List.length_cons]
      show 0 + 1 + zs.length = zs.length + 1
      omega
theorem abs_sum_le {b : Nat} : ∀ {zs : List Int}, (∀ z ∈ zs, SizeOk b z) → (zs.map Int.natAbs).sum ≤ zs.length * 2 ^ 39
  | [], _ => by simp
  | z :: zs, h => by
    have h1 : z.natAbs ≤ 549755813888 := (h z (.head _)).2
    have h2 : (zs.map Int.natAbs).sum ≤ zs.length * 549755813888 := abs_sum_le (b := b) fun y hy => h y (.tail _ hy)
    simp only [List.map_cons, List.sum_cons, List.length_cons]
    show z.natAbs + (zs.map Int.natAbs).sum ≤ (zs.length + 1) * 549755813888
    omega
theorem nums_are {w : World} {way : Way} {b : Nat} {tl led : List (Addr × Obj)} (hs : ∀ q ∈ tl, q ∈ led) : ∀ {ys : List Value} {zs : List Int}, NumL w tl ys zs → (∀ z ∈ zs, SizeOk b z) → NumsAre w way b led ys (zs.map gh)
  | _, _, .nil, _ => .nil
  | _, _, .cons h r, hz => .cons ⟨h.mono hs, good_gh (hz _ (.head _))⟩ (nums_are hs r fun y hy => hz y (.tail _ hy))
theorem final_of {way : Way} {b n : Nat} {zs : List Int} {g : Ghost} (M : Many n) (hz : zs.length = n) (hS : ∀ z ∈ zs, SizeOk b z) (G : Good way b g) (h1 : g.s = zs.sum) (h2 : g.a = (zs.map Int.natAbs).sum) (h3 : g.k + 1 = zs.length) : Final way b zs g.z := by
  have hA : (zs.map Int.natAbs).sum ≤ 9 * 2 ^ 39 := Nat.le_trans (abs_sum_le hS) (Nat.mul_le_mul_right _ (by have := M.hi; omega))
  refine ⟨good_bound G (N := 9) (SA := 2 ^ 44) (by have := M.hi; omega) (by omega) (by omega) (by omega), ?_⟩
  have h4 := G.2.2.2
  cases way with
  | n =>
    show (g.z - zs.sum).natAbs * 2 ^ b ≤ (zs.length - 1) * (zs.map Int.natAbs).sum
    have e : zs.length - 1 = g.k := by omega
    rw [e, ← h1, ← h2]
    exact h4
  | f => show g.z ≤ zs.sum; rw [← h1]; exact h4
  | c => show zs.sum ≤ g.z; rw [← h1]; exact h4
/-- _law_added, as the law calls it -/
theorem added_law {w : World} {mean : ExcName → Option Value} {mg mb : Str → Option Value} {news tl : List (Addr × Obj)} {way : Way} {b n : Nat} {aN aO : Addr} {ys us : List Value} {zs os : List Int} {t1 t2 : Tok} (B : Bits b) (M : Many n)
    (hN : (aN, LCg.lst ys) ∈ news) (hO : (aO, LCg.lst us) ∈ news) (hI : IntsAre us os) (ho : os.length = n) (hR : NumL w tl ys zs) (hs : ∀ q ∈ tl, q ∈ news) (hz : zs.length = n) (hS : ∀ z ∈ zs, SizeOk b z) :
    Gives w mean mg mb 30 600 82 [.ref aN, .ref aO, .int (b : Int) t1, .str way.str t2] news (fun tl r => ∃ z, Final way b zs z ∧ IsNum w (tl ++ news) r (canI (-6) z)) := by
  obtain ⟨s1, s2, s3⟩ := gh_sums zs
  have hl : ys.length = zs.length := hR.length
  have hm := M.lo
  have hm' := M.hi
  refine gives_mono (added (n1 := ys.length) (n2 := us.length) hN hO hI (by omega) (nums_are hs hR hS) (by have := B.lo; omega) (by omega) ⟨by omega⟩ (by omega) ?_ (by omega)) fun tl r h => ?_
  · rw [s2]
    exact Nat.le_trans (abs_sum_le hS) (Nat.le_trans (Nat.mul_le_mul_right _ (show zs.length ≤ 9 by omega)) (by decide))
  · obtain ⟨a, g, rfl, R, G, h1, h2, h3⟩ := h
    exact ⟨g.z, final_of M hz hS G (h1.trans s1) (h2.trans s2) (by omega), R⟩
theorem text_law {prog : Program} {w : World} {A : Around} {s : Shared} {h₀ : Heap} {L : Addr} {m : Str → Option Value} {env : Env} {elt : Expr} {x : Str} {scope : Scope} {cl : List (Str × Addr)} {Q : Value → Shared → Prop} {news : List (Addr × Obj)} {b : Nat} {zs : List Int} {t : Tok} (_B : Bits b) (_hS : ∀ z ∈ zs, SizeOk b z) (hh : A.handled = none) (F : Fr h₀ L s.heap m) (N : News h₀ L s.heap news)
    (turn : ∀ way u I oI C oC D m₂ ys h tk (E' : Value → Shared → Prop), LCg.NsObj oC m₂ → m₂ x = some (.str (Way.str way) u) → Fr h₀ L h m → News h₀ L h ((I, oI) :: (C, oC) :: (D, LCg.lst ys) :: news) →
      wpAny (model prog w) A (eval elt (compEnvC scope cl C env)) (WayEnd h₀ L m { s with heap := h, toks := tk } ((I, oI) :: (C, oC) :: (D, LCg.lst ys) :: news) (Final way b zs)) E' { s with heap := h, toks := tk })
    (fin : ∀ g z1 t1 z2 t2 z3 t3, Final .n b zs z1 → Final .f b zs z2 → Final .c b zs z3 → LCg.FinE h₀ L m { s with heap := g } Q [.int z1 t1, .int z2 t2, .int z3 t3] news) :
    TextSrc prog w A h₀ L m env elt x scope cl Q (.str (Str.ofString "nfc") t) s := text_src (P := fun way => Final way b zs) hh F N turn fin
theorem use_added {w : World} {mean : ExcName → Option Value} {mg mb : Str → Option Value} {news tl : List (Addr × Obj)} {way : Way} {b n : Nat} {aN aO : Addr} {ys us : List Value} {zs os : List Int} {t1 t2 : Tok}
    {dp un : Nat} {gd : Option (List Code)} {cn : Str} {cs : Scope} {a : Addr} {ccd : Value} {cl : List (Str × Addr)} {outer : List Env} {A₀ : Around} {base h₀ : Heap} {L : Addr} {m : Str → Option Value} {s : Shared}
    {Q E : Value → Shared → Prop} (B : Bits b) (M : Many n) (hN : (aN, LCg.lst ys) ∈ news) (hO : (aO, LCg.lst us) ∈ news) (hI : IntsAre us os) (ho : os.length = n) (hR : NumL w tl ys zs) (hs : ∀ q ∈ tl, q ∈ news) (hz : zs.length = n) (hS : ∀ z ∈ zs, SizeOk b z)
    (B' : Below A₀ base outer h₀) (F : Fr h₀ L s.heap m) (X : (hd.heap_39 w.params).In h₀) (N : News h₀ L s.heap news) (T : Top hd.view_39 loose mean mg mb h₀) (hk : cs.kind = .function) (hd : dp + 30 < recursionLimit) (hu : un + 600 < cLine)
    (ret : ∀ (c : Addr) tl' h' (tk' : Nat) z, Final way b zs z → IsNum w (tl' ++ news) (.ref c) (canI (-6) z) → Fr h₀ L h' m → News h₀ L h' (tl' ++ news) → Q (.ref c) { s with heap := h', toks := tk' }) :
    wpAny (model PySem.Challenge.rw_aw5009_01.row.prog w) (ktrTop dp un gd cn cs L a ccd cl outer) (call (.ref 82) [.ref aN, .ref aO, .int (b : Int) t1, .str way.str t2]) Q E s :=
  added_law B M hN hO hI ho hR hs hz hS _ _ _ _ _ _ _ _ _ _ _ _ _ _ _ _ _ B' F X N T hk hd hu fun r tl h' tk' F' N' l R => by
    obtain ⟨z, hz, c, t1, t2, t3, t4, k, e, h⟩ := R
    subst e
    exact ret c tl h' tk' z hz ⟨c, t1, t2, t3, t4, k, rfl, h⟩ F' N'
theorem use_fix {w : World} {mean : ExcName → Option Value} {mg mb : Str → Option Value} {news : List (Addr × Obj)} {a1 : Addr} {v : Int} {t2 : Tok} {way : Way} {b : Nat} {zs : List Int}
    {dp un : Nat} {gd : Option (List Code)} {cn : Str} {cs : Scope} {a : Addr} {ccd : Value} {cl : List (Str × Addr)} {outer : List Env} {A₀ : Around} {base h₀ : Heap} {L : Addr} {m : Str → Option Value} {s : Shared}
    {Q E : Value → Shared → Prop} (R1 : IsNum w news (.ref a1) (canI (-6) v)) (hv : Final way b zs v)
    (B' : Below A₀ base outer h₀) (F : Fr h₀ L s.heap m) (X : (hd.heap_39 w.params).In h₀) (N : News h₀ L s.heap news) (T : Top hd.view_39 loose mean mg mb h₀) (hk : cs.kind = .function) (hd : dp + 3 < recursionLimit) (hu : un + 40 < cLine)
    (ret : ∀ t h' (tk' : Nat), Fr h₀ L h' m → News h₀ L h' news → Q (.int v t) { s with heap := h', toks := tk' }) :
    wpAny (model PySem.Challenge.rw_aw5009_01.row.prog w) (ktrTop dp un gd cn cs L a ccd cl outer) (call (.ref 60) [.ref a1, .int 6 t2]) Q E s :=
  fix_can R1 hv.1 _ _ _ _ _ _ _ _ _ _ _ _ _ _ _ _ _ B' F X N T hk hd hu fun r tl h' tk' F' N' l R => by
    obtain ⟨rfl, t, rfl⟩ := R
    exact ret t h' tk' F' N'
theorem mul_pow {prog : Program} {w : World} {A : Around} {E : Value → Shared → Prop} {s : Shared} {b : Nat} {x : Int} {t u : Tok} {Q : Value → Shared → Prop} (B : Bits b) (h : Q (.int (x * 2 ^ b) s.toks) { s with toks := s.toks + 1 }) : wpAny (model prog w) A (binaryOp .Mult (.int x t) (.int (2 ^ b) u)) Q E s := by
  refine mul_int h ?_
  have h1 : Builtin.Int.intBits ((2 : Int) ^ b) ≤ 64 := by
    have := (pow27 B).1
    have hp : 0 < 2 ^ b := Nat.pow_pos (by omega)
    rw [pow_nat, intBits_nat hp]
    have : (2 ^ b).log2 < 28 := (Nat.log2_lt (by omega)).mpr (by omega)
    omega
  unfold IntMulOk
  rw [decide_eq_false (p := Builtin.Int.intBits ((2 : Int) ^ b) > shortFactorBits) (Nat.not_lt.mpr h1)]
  simp
def absI (z : Int) : Int := if z < 0 then -z else z
def AbsEnd (h₀ : Heap) (L : Addr) (m : Str → Option Value) (s₁ : Shared) (led : List (Addr × Obj)) (z : Int) (y : Value) (s₂ : Shared) : Prop :=
  ∃ h' tk' t, s₂ = { s₁ with heap := h', toks := tk' } ∧ y = .int (if z < 0 then -z else z) t ∧ Fr h₀ L h' m ∧ News h₀ L h' led
theorem abs_src {prog : Program} {w : World} {A : Around} {h₀ : Heap} {L : Addr} {m : Str → Option Value} {env : Env} {elt : Expr} {x : Str} {scope : Scope} {cl : List (Str × Addr)} {s : Shared} {news : List (Addr × Obj)} {Q : Value → Shared → Prop} {ax : Addr} {zvs : List Value} {zs : List Int} {nz : Nat} (hh : A.handled = none) (F : Fr h₀ L s.heap m) (N : News h₀ L s.heap news) (hm : (ax, listOf zvs.toArray nz) ∈ news) (hi : IntsAre zvs zs) (hz : zs.length ≤ 100)
    (turn : ∀ z t I oI C oC D m₂ ys h tk (E' : Value → Shared → Prop), LCg.NsObj oC m₂ → m₂ x = some (.int z t) → Fr h₀ L h m → News h₀ L h ((I, oI) :: (C, oC) :: (D, LCg.lst ys) :: news) →
      wpAny (model prog w) A (eval elt (compEnvC scope cl C env)) (AbsEnd h₀ L m { s with heap := h, toks := tk } ((I, oI) :: (C, oC) :: (D, LCg.lst ys) :: news) z) E' { s with heap := h, toks := tk })
    (fin : ∀ g ys, IntsAre ys (zs.map absI) → LCg.FinE h₀ L m { s with heap := g } Q ys news) : LCg.CompSrc prog w A h₀ L m env elt x scope cl (fun s₂ => LCg.FinE h₀ L m s₂ Q) (.ref ax) s := by
  refine LCg.CompSrc.ledger hh F N hm (by rw [List.size_toArray, hi.length]; exact Nat.le_trans hz (by decide)) fun g => ?_
  have key : ∀ (j i : Nat) (ys : List Value), i + j = zvs.length → IntsAre ys ((zs.take i).map absI) →
      LCg.CompRest prog w A h₀ L m env elt x scope cl { s with heap := g } (LCg.SrcAt h₀ ax zvs.toArray) (fun i v => zvs.toArray[i]? = some v) (LCg.FinE h₀ L m { s with heap := g } Q) j i ys news := by
    intro j
    induction j with
    | zero =>
      intro i ys hij hy
      have e : zs.take i = zs := List.take_of_length_le (by have := hi.length; omega)
      rw [e] at hy
      exact LCg.CompRest.zero (fin g ys hy)
    | succ j ih =>
      intro i ys hij hy
      refine LCg.CompRest.succ ?_
      intro v I oI C oC D m₂ h tk E' hv hC hx F N off ne
      obtain ⟨z, t, e, hz⟩ := IntsAre.at hi i v (by simpa using hv)
      subst e
      refine wpAny_mono (turn z t I oI C oC D m₂ ys h tk E' hC hx F N) (fun y s₂ hq => ?_) fun _ _ e => e
      obtain ⟨h', tk', t', e, ey, F', N'⟩ := hq
      subst ey
      refine ⟨h', tk', news, e, F', N', off, .inr ⟨_, hm, rfl, nz, rfl⟩, ih (i + 1) _ (by omega) ?_⟩
      rw [List.take_add_one, hz]
      simpa [absI] using IntsAre.append hy (.cons (if z < 0 then -z else z) t' .nil)
  have := key zvs.length 0 [] (by omega) (by simpa using IntsAre.nil)
  simpa using this
end
section
theorem absI_sum (zs : List Int) : (zs.map absI).sum = ((zs.map Int.natAbs).sum : Nat) := by
  induction zs with
  | nil => rfl
  | cons z zs ih =>
    simp only [List.map_cons, List.sum_cons, ih, Int.natCast_add]
    have : absI z = (z.natAbs : Int) := by unfold absI; split <;> omega
    rw [this]
theorem no_near {b m : Nat} {zs : List Int} {z : Int} (f : Final .n b zs z) (l : zs.length = m) (hm : Many m)
    (h : ((m : Int) - 1) * (zs.map absI).sum < (if z - zs.sum < 0 then -(z - zs.sum) else z - zs.sum) * 2 ^ b) : False := by
  obtain ⟨_, f⟩ := f
  simp only at f
  rw [l] at f
  have e : (if z - zs.sum < 0 then -(z - zs.sum) else z - zs.sum) = ((z - zs.sum).natAbs : Int) := by split <;> omega
  rw [e, absI_sum] at h
  have e2 : ((m : Int) - 1) = ((m - 1 : Nat) : Int) := by have := hm.lo; omega
  rw [e2] at h
  have h2 : (((m - 1) * (zs.map Int.natAbs).sum : Nat) : Int) < (((z - zs.sum).natAbs * 2 ^ b : Nat) : Int) := by
    rw [Int.natCast_mul, Int.natCast_mul, Int.natCast_pow]
    exact h
  omega
theorem no_down {b : Nat} {zs : List Int} {z : Int} (f : Final .f b zs z) (h : ¬ z ≤ zs.sum) : False := h f.2
theorem no_up {b : Nat} {zs : List Int} {z : Int} (f : Final .c b zs z) (h : ¬ zs.sum ≤ z) : False := h f.2
end
section
def place (j : Nat) : Nat := j / 2 + if j % 4 = 3 then 1 else 0
theorem tie_q (m : Nat) (h : m % 2 = 1) : nearQ (m : Int) 1 = ((place m : Nat) : Int) := by
  have e0 : (1 - 1 : Int).toNat = 0 := rfl
  have e1 : (m : Int).fdiv (2 ^ (1 - 1 : Int).toNat) = (m : Int) := by rw [e0, fdiv_nat]; simp
  have e2 : (m : Int).fdiv (2 ^ Int.toNat 1) = ((m / 2 : Nat) : Int) := by
    have : Int.toNat 1 = 1 := rfl
    rw [this, fdiv_nat]
  have e3 : Builtin.bitAnd (m : Int) 1 = ((m % 2 : Nat) : Int) := by
    have := mask_mod m 1
    simpa using this
  have e4 : Builtin.bitAnd (m : Int) (1 * 2 ^ (1 - 1 : Int).toNat - 1) = 0 := by
    rw [e0, mask_mod m 0]; simp
  unfold nearQ place
  simp only [e1, e2, e3, e4, bit_two]
  rw [if_neg (by omega)]
  by_cases h4 : m % 4 = 3
  · rw [if_pos h4, if_neg (by omega)]; omega
  · rw [if_neg h4, if_pos (by omega), if_pos trivial]; omega
theorem place_add {b j : Nat} (hb : 2 ≤ b) : place (2 ^ b + j) = 2 ^ (b - 1) + place j := by
  obtain ⟨c, rfl⟩ : ∃ c, b = c + 2 := ⟨b - 2, by omega⟩
  have e : 2 ^ (c + 2) = 4 * 2 ^ c := by rw [Nat.pow_add]; omega
  have e' : 2 ^ (c + 2 - 1) = 2 * 2 ^ c := by rw [show c + 2 - 1 = c + 1 from rfl, Nat.pow_succ]; omega
  unfold place
  rw [e, e']
  have h4 : (4 * 2 ^ c + j) % 4 = j % 4 := by omega
  rw [h4]
  omega
/-- one and an odd number of halves: the tie, and where it goes -/
theorem round_tie {b j : Nat} (hb : 2 ≤ b) (ho : j % 2 = 1) (hj : j < 2 ^ b) (e : Int) : roundAt .n (b : Int) (((2 ^ b + j : Nat)) : Int) e = canI (e + 1) ((2 ^ (b - 1) + place j : Nat) : Int) := by
  have hp : 0 < 2 ^ b := Nat.pow_pos (by omega)
  have hZ : ((2 ^ b + j : Nat) : Int).natAbs = 2 ^ b + j := rfl
  have hb1 : Builtin.Int.intBits ((2 ^ b + j : Nat) : Int) = b + 1 := intBits_of (by omega) (by rw [Nat.pow_succ]; omega)
  have hodd : (2 ^ b + j) % 2 = 1 := by
    obtain ⟨c, rfl⟩ : ∃ c, b = c + 1 := ⟨b - 1, by omega⟩
    rw [Nat.pow_succ]; omega
  have hng : ¬ ((2 ^ b + j : Nat) : Int) < 0 := by omega
  unfold roundAt
  simp only [hZ, hb1, if_neg hng]
  unfold normF
  have e1 : ((b + 1 : Nat) : Int) - (b : Int) = 1 := by omega
  rw [if_neg (by omega), e1, if_pos (by omega)]
  have eq : quo .n 0 ((2 ^ b + j : Nat) : Int) 1 = nearQ ((2 ^ b + j : Nat) : Int) 1 := rfl
  rw [eq, tie_q _ hodd, place_add hb]
  have hpl : place j ≤ j / 2 + 1 := by unfold place; split <;> omega
  have hpl2 : j % 4 = 1 → place j = j / 2 := by intro h; unfold place; rw [if_neg (by omega)]; rfl
  have hb2 : 2 ^ b = 2 * 2 ^ (b - 1) := by rw [← Nat.pow_succ']; congr 1; omega
  have hle : 2 ^ (b - 1) + place j ≤ 2 ^ b := by omega
  have hq : 0 < 2 ^ (b - 1) + place j := by have : 0 < 2 ^ (b - 1) := Nat.pow_pos (by omega)
                                            omega
  have hc : canI (e + 1) ((2 ^ (b - 1) + place j : Nat) : Int) = canM 0 (2 ^ (b - 1) + place j) (e + 1) := by
    unfold canI
    rw [if_neg (by omega)]
    rfl
  rw [hc]
  refine tail_canM hq ?_
  rcases Nat.lt_or_ge (2 ^ (b - 1) + place j) (2 ^ b) with h | h
  · left
    rw [intBits_of (b := b - 1) (by omega) (by rw [show b - 1 + 1 = b from by omega]; exact h)]
    omega
  · right
    exact ⟨b, rfl, by omega⟩
theorem rd_small {b Z : Nat} {v : Int} (h : Rd .n b (Z : Int) v) (hZ : Z < 2 ^ b) : v = (Z : Int) := by
  obtain ⟨_, _, k, ⟨q, hq⟩, h2, h3⟩ := h
  rcases h3 with rfl | h3
  · simp at h2; omega
  · cases k with
    | zero => simp at h2; omega
    | succ k =>
      have : 2 ^ (b + (k + 1)) = 2 * 2 ^ b * 2 ^ k := by rw [Nat.pow_add, Nat.pow_succ]; ac_rfl
      have hk : 0 < 2 ^ k := Nat.pow_pos (by omega)
      have : 2 * 2 ^ b * 1 ≤ 2 * 2 ^ b * 2 ^ k := Nat.mul_le_mul_left _ hk
      simp at h3
      omega
theorem rd_even {b Z : Nat} {v : Int} (h : Rd .n b (Z : Int) v) (hZ : Z < 2 * 2 ^ b) (he : Z % 2 = 0) : v = (Z : Int) := by
  obtain ⟨_, _, k, ⟨q, hq⟩, h2, h3⟩ := h
  rcases h3 with rfl | h3
  · simp at h2; omega
  · rcases k with _ | _ | k
    · simp at h2; omega
    · simp at h2 hq; omega
    · have : 2 ^ (b + (k + 1 + 1)) = 2 * (2 * 2 ^ b) * 2 ^ k := by rw [show k + 1 + 1 = k + 2 from rfl, Nat.pow_add, Nat.pow_add]; simp only [show 2 ^ 2 = 2 * 2 from rfl]; ac_rfl
      have hk : 0 < 2 ^ k := Nat.pow_pos (by omega)
      have : 2 * (2 * 2 ^ b) * 1 ≤ 2 * (2 * 2 ^ b) * 2 ^ k := Nat.mul_le_mul_left _ hk
      simp at h3
      omega
theorem one_can (b : Nat) : canI (-(b : Int)) (((2 ^ b : Nat)) : Int) = (0, 1, 0, 1) := by
  have := canI_pow (-(b : Int)) 1 b
  rw [Int.one_mul] at this
  rw [Int.natCast_pow]
  refine this.trans ?_
  rw [show -(b : Int) + b = 0 from by omega]
  have h : canM 0 ((2 * 0 + 1) * 2 ^ 0) 0 = _ := canM_of 0 0 0 0
  have : canI 0 1 = canM 0 ((2 * 0 + 1) * 2 ^ 0) 0 := rfl
  rw [this, h]
  decide
end
section
/-- the row of halves: from one on, or from nothing on -/
def HalfN (b : Nat) (one : Bool) (i : Nat) : Nat := if one then 2 ^ b else i
theorem canI_two (e : Int) (v : Nat) : canI (e + 1) (v : Int) = canI e ((2 * v : Nat) : Int) := by
  have := canI_pow e v 1
  have h : ((2 * v : Nat) : Int) = (v : Int) * 2 ^ 1 := by omega
  rw [h, this]
  rfl
theorem pow_small {b : Nat} (B : Bits b) : 16 ≤ 2 ^ b ∧ 2 ^ b ≤ 2 ^ 27 :=
  ⟨Nat.pow_le_pow_right (n := 2) (by omega) B.lo, Nat.pow_le_pow_right (n := 2) (by omega) B.hi⟩
section
variable {w : World} {mean : ExcName → Option Value} {mg mb : Str → Option Value} {news nums : List (Addr × Obj)} {b : Nat} {a1 a2 : Addr} {u1 u2 : Tok}
theorem add_half {i : Nat} {one : Bool} (B : Bits b) (hi : i < 9) (R1 : IsNum w nums (.ref a1) (canI (-(b : Int)) (HalfN b one i : Nat))) (R2 : IsNum w nums (.ref a2) (canI (-(b : Int)) 1)) (hs : ∀ q ∈ nums, q ∈ news) :
    Gives w mean mg mb 14 200 76 [.ref a1, .ref a2, .int (b : Int) u1, .str Way.n.str u2] news (fun tl r => IsNum w (tl ++ nums) r (canI (-(b : Int)) (HalfN b one (i + 1) : Nat))) := by
  obtain ⟨p1, p2⟩ := pow_small B
  have hb := B.lo
  cases one with
  | true =>
    have e : ∀ j, HalfN b true j = 2 ^ b := fun _ => rfl
    rw [e] at R1
    refine gives_mono (add_odd (way := .n) (p := b) (by omega) (R1.mono hs) (R2.mono hs) (by omega) (by omega) ?_) fun tl r h => ?_
    · have h2 : 2 ^ b = 2 * 2 ^ (b - 1) := by rw [← Nat.pow_succ']; congr 1; omega
      omega
    · rw [show ((2 ^ b : Nat) : Int) + 1 = ((2 ^ b + 1 : Nat) : Int) from rfl, round_tie (by omega) rfl (by omega), canI_two] at h
      have h2 : 2 * (2 ^ (b - 1) + place 1) = 2 ^ b := by
        have : place 1 = 0 := rfl
        rw [this, Nat.add_zero, ← Nat.pow_succ']
        congr 1; omega
      rw [h2] at h
      rw [e]
      exact h.left
  | false =>
    have e : ∀ j, HalfN b false j = j := fun _ => rfl
    rw [e] at R1
    refine gives_mono (add_rd (way := .n) (p := b) (by omega) R1 R2 hs (by omega) (by omega)) fun tl r h => ?_
    obtain ⟨v, V, h⟩ := h
    rw [show (i : Int) + 1 = ((i + 1 : Nat) : Int) from rfl] at V
    rw [rd_small V (by omega)] at h
    exact h
/-- the halves first and one last -/
theorem add_last {mM : Nat} (B : Bits b) (M : Many mM) (R1 : IsNum w news (.ref a1) (canI (-(b : Int)) (HalfN b false mM : Nat))) (R2 : IsNum w news (.ref a2) (0, 1, 0, 1)) :
    Gives w mean mg mb 14 200 76 [.ref a1, .ref a2, .int (b : Int) u1, .str Way.n.str u2] news (fun tl r => IsNum w (tl ++ news) r (canI (1 - (b : Int)) ((2 ^ (b - 1) + place mM : Nat) : Int))) := by
  obtain ⟨p1, p2⟩ := pow_small B
  have hb := B.lo
  have h9 := M.hi
  have h2 : 2 ^ b = 2 * 2 ^ (b - 1) := by rw [← Nat.pow_succ']; congr 1; omega
  have e : HalfN b false mM = mM := rfl
  rw [e] at R1
  rw [← one_can b] at R2
  have es : (mM : Int) + ((2 ^ b : Nat) : Int) = ((2 ^ b + mM : Nat) : Int) := by omega
  rcases Nat.mod_two_eq_zero_or_one mM with hm | hm
  · refine gives_mono (add_rd (way := .n) (p := b) (by omega) R1 R2 (fun _ h => h) (by omega) (by omega)) fun tl r h => ?_
    obtain ⟨v, V, h⟩ := h
    rw [es] at V
    rw [rd_even V (by omega) (by omega)] at h
    have ep : place mM = mM / 2 := by unfold place; rw [if_neg (by omega)]; rfl
    rw [show 1 - (b : Int) = -(b : Int) + 1 from by omega, canI_two, ep, show 2 * (2 ^ (b - 1) + mM / 2) = 2 ^ b + mM from by omega]
    exact h
  · refine gives_mono (add_odd (way := .n) (p := b) (by omega) R1 R2 (by omega) (by omega) (by omega)) fun tl r h => ?_
    rw [es, round_tie (by omega) hm (by omega)] at h
    rw [show 1 - (b : Int) = -(b : Int) + 1 from by omega]
    exact h.left
variable {dp un : Nat} {gd : Option (List Code)} {cn : Str} {cs : Scope} {a : Addr} {ccd : Value} {cl : List (Str × Addr)} {outer : List Env} {A₀ : Around} {base h₀ : Heap} {L : Addr} {m : Str → Option Value} {s : Shared}
    {Q E : Value → Shared → Prop}
theorem use_half {i : Nat} {one : Bool} (B : Bits b) (hi : i < 9) (R1 : IsNum w nums (.ref a1) (canI (-(b : Int)) (HalfN b one i : Nat))) (R2 : IsNum w nums (.ref a2) (canI (-(b : Int)) 1)) (hs : ∀ q ∈ nums, q ∈ news)
    (Bl : Below A₀ base outer h₀) (F : Fr h₀ L s.heap m) (X : (hd.heap_39 w.params).In h₀) (N : News h₀ L s.heap news) (T : Top hd.view_39 loose mean mg mb h₀) (hk : cs.kind = .function) (hd : dp + 14 < recursionLimit) (hu : un + 200 < cLine)
    (ret : ∀ (b' : Addr) tl h' (tk' : Nat), IsNum w (tl ++ nums) (.ref b') (canI (-(b : Int)) (HalfN b one (i + 1) : Nat)) → Fr h₀ L h' m → News h₀ L h' (tl ++ news) → (∀ q ∈ news, ∀ p ∈ tl, q.1 < p.1) → Q (.ref b') { s with heap := h', toks := tk' }) :
    wpAny (model PySem.Challenge.rw_aw5009_01.row.prog w) (ktrTop dp un gd cn cs L a ccd cl outer) (call (.ref 76) [.ref a1, .ref a2, .int (b : Int) u1, .str (Str.ofString "n") u2]) Q E s :=
  add_half B hi R1 R2 hs _ _ _ _ _ _ _ _ _ _ _ _ _ _ _ _ _ Bl F X N T hk hd hu fun r tl h' tk' F' N' l R => by
    obtain ⟨b', t1, t2, t3, t4, c, e, h⟩ := R
    subst e
    exact ret b' tl h' tk' ⟨b', t1, t2, t3, t4, c, rfl, h⟩ F' N' l
theorem use_last {mM : Nat} (B : Bits b) (M : Many mM) (R1 : IsNum w news (.ref a1) (canI (-(b : Int)) (HalfN b false mM : Nat))) (R2 : IsNum w news (.ref a2) (0, 1, 0, 1))
    (Bl : Below A₀ base outer h₀) (F : Fr h₀ L s.heap m) (X : (hd.heap_39 w.params).In h₀) (N : News h₀ L s.heap news) (T : Top hd.view_39 loose mean mg mb h₀) (hk : cs.kind = .function) (hd : dp + 14 < recursionLimit) (hu : un + 200 < cLine)
    (ret : ∀ (b' : Addr) tl h' (tk' : Nat), IsNum w (tl ++ news) (.ref b') (canI (1 - (b : Int)) ((2 ^ (b - 1) + place mM : Nat) : Int)) → Fr h₀ L h' m → News h₀ L h' (tl ++ news) → (∀ q ∈ news, ∀ p ∈ tl, q.1 < p.1) → Q (.ref b') { s with heap := h', toks := tk' }) :
    wpAny (model PySem.Challenge.rw_aw5009_01.row.prog w) (ktrTop dp un gd cn cs L a ccd cl outer) (call (.ref 76) [.ref a1, .ref a2, .int (b : Int) u1, .str (Str.ofString "n") u2]) Q E s :=
  add_last B M R1 R2 _ _ _ _ _ _ _ _ _ _ _ _ _ _ _ _ _ Bl F X N T hk hd hu fun r tl h' tk' F' N' l R => by
    obtain ⟨b', t1, t2, t3, t4, c, e, h⟩ := R
    subst e
    exact ret b' tl h' tk' ⟨b', t1, t2, t3, t4, c, rfl, h⟩ F' N' l
end
theorem fone_num {w : World} {news : List (Addr × Obj)} : IsNum w news (.ref 23) (0, 1, 0, 1) := IsNum.top (by with_unfolding_all rfl) rfl
theorem half_one {w : World} {news : List (Addr × Obj)} (b : Nat) : IsNum w news (.ref 23) (canI (-(b : Int)) (HalfN b true 0 : Nat)) := by
  have h : HalfN b true 0 = 2 ^ b := rfl
  rw [h, one_can]
  exact fone_num
theorem half_zero {w : World} {tl news : List (Addr × Obj)} {a : Addr} (b : Nat) (R : IsNum w tl (.ref a) (canI 0 0)) : IsNum w (tl ++ news) (.ref a) (canI (-(b : Int)) (HalfN b false 0 : Nat)) := by
  have h : HalfN b false 0 = 0 := rfl
  rw [h, show ((0 : Nat) : Int) = 0 from rfl, canI_zero]
  rw [canI_zero] at R
  exact R.left
end
section
theorem map_three {m : Str → Option Value} {x1 x2 x3 : Str} {v1 v2 v3 : Value} (h1 : m x1 = some v1) (h2 : m x2 = some v2) (h3 : m x3 = some v3) :
    m = fun y => if y = x1 then some v1 else if y = x2 then some v2 else if y = x3 then some v3 else m y := by
  funext y
  by_cases e1 : y = x1
  · rw [if_pos e1, e1, h1]
  · rw [if_neg e1]
    by_cases e2 : y = x2
    · rw [if_pos e2, e2, h2]
    · rw [if_neg e2]
      by_cases e3 : y = x3
      · rw [if_pos e3, e3, h3]
      · rw [if_neg e3]
def HalfJ (w : World) (b mM : Nat) (aH : Addr) (tM : Tok) (one : Bool) (news : List (Addr × Obj)) (i : Nat) (m : Str → Option Value) (nx : List (Addr × Obj)) : Prop :=
  ∃ tl b', nx = tl ++ news ∧ (∀ q ∈ news, ∀ p' ∈ tl, q.1 < p'.1) ∧ IsNum w (tl ++ news) (.ref b') (canI (-(b : Int)) (HalfN b one i : Nat)) ∧
    m (Str.ofString "last") = some (.ref b') ∧ m (Str.ofString "half") = some (.ref aH) ∧ m (Str.ofString "many") = some (.int (mM : Int) tM)
theorem range_row : ∀ n : Nat, n < 10 → Builtin.Range.small 0 (n : Int) 1 = true ∧ Builtin.Range.rangeSize 0 (n : Int) 1 = (n : Int) := by decide +kernel
section
variable {prog : Program} {w : World} {A : Around} {E : Value → Shared → Prop} {s : Shared} {h₀ : Heap} {env : Env} {x : Str} {body : List Stmt} {Q : Flow → Shared → Prop}
variable {b mM : Nat} {aH : Addr} {tM : Tok} {one : Bool} {news : List (Addr × Obj)}
theorem half_iter {r a0 : Addr} {t₀ u₀ v₀ : Tok} {m₀ : Str → Option Value} (M : Many mM)
    (hh : A.handled = none) (hr : IsRange s.heap r 0 (mM : Int) 1 t₀ u₀ v₀) (F : Fr h₀ env.locals s.heap m₀) (N' : News h₀ env.locals s.heap news) (RH : IsNum w news (.ref aH) (canI (-(b : Int)) 1))
    (R0 : IsNum w news (.ref a0) (canI (-(b : Int)) (HalfN b one 0 : Nat)))
    (n1 : m₀ (Str.ofString "last") = some (.ref a0)) (n2 : m₀ (Str.ofString "half") = some (.ref aH)) (n3 : m₀ (Str.ofString "many") = some (.int (mM : Int) tM))
    (turn : ∀ (i : Nat) (t : Tok) (u : Str → Option Value) (h : Heap) (tk : Nat) (own tl : List (Addr × Obj)) (b' : Addr), i < 9 → TbOff own (tl ++ news) → (∀ q ∈ news, ∀ p' ∈ tl, q.1 < p'.1) →
      IsNum w (tl ++ news) (.ref b') (canI (-(b : Int)) (HalfN b one i : Nat)) → IsNum w (tl ++ news) (.ref aH) (canI (-(b : Int)) 1) →
      Fr h₀ env.locals h (fun y => if y = x then some (.int (i : Int) t) else if y = Str.ofString "last" then some (.ref b') else if y = Str.ofString "half" then some (.ref aH) else if y = Str.ofString "many" then some (.int (mM : Int) tM) else u y) →
      News h₀ env.locals h ((tl ++ news) ++ own) →
      wpAny (model prog w) A (execs body env) (TbPost h₀ env.locals (HalfJ w b mM aH tM one news (i + 1)) own { s with heap := h, toks := tk } Q) E { s with heap := h, toks := tk })
    (done : ∀ (u : Str → Option Value) (h : Heap) (tk : Nat) (tl : List (Addr × Obj)) (b' : Addr), (∀ q ∈ news, ∀ p' ∈ tl, q.1 < p'.1) → IsNum w (tl ++ news) (.ref b') (canI (-(b : Int)) (HalfN b one mM : Nat)) → IsNum w (tl ++ news) (.ref aH) (canI (-(b : Int)) 1) →
      Fr h₀ env.locals h (fun y => if y = Str.ofString "last" then some (.ref b') else if y = Str.ofString "half" then some (.ref aH) else if y = Str.ofString "many" then some (.int (mM : Int) tM) else u y) →
      News h₀ env.locals h (tl ++ news) → Q .next { s with heap := h, toks := tk }) :
    wpAny (model prog w) A (pyIter (.ref r)) (fun it s₂ => LoopAtV prog w A h₀ env x body Q E it s₂) E s := by
  have h9 := M.hi
  refine tbr_invG (n := mM) (HalfJ w b mM aH tM one news) hh hr ?_ ?_ F N' ⟨[], a0, rfl, fun _ _ _ h => (nomatch h), R0, n1, n2, n3⟩ ?_ ?_
  · exact (range_row mM (by omega)).1
  · exact (range_row mM (by omega)).2
  · rintro i k t m₁ nx h tk own hk hoff ⟨tl, b', rfl, o1, R1, k1, k2, k3⟩ F₁ N₁
    have hi : i < mM := by
      rcases Nat.lt_or_ge i mM with h | h
      · exact h
      · rw [List.getElem?_eq_none (by rw [rangeKs_length]; exact h)] at hk; cases hk
    have ek : k = (i : Int) := by simpa [rangeKs, hi] using hk.symm
    subst ek
    rw [map_three k1 k2 k3] at F₁
    exact turn i t m₁ h tk own tl b' (by omega) hoff o1 R1 RH.right F₁ N₁
  · rintro m₁ nx h tk ⟨tl, b', rfl, o1, R1, k1, k2, k3⟩ F₁ N₁
    rw [map_three k1 k2 k3] at F₁
    exact done m₁ h tk tl b' o1 R1 RH.right F₁ N₁
theorem half_end {L b' : Addr} {i : Nat} {m' : Str → Option Value} {own tl tl9 : List (Addr × Obj)} {s₁ : Shared} {h' : Heap} {tk : Nat}
    (F : Fr h₀ L h' m') (N' : News h₀ L h' (tl9 ++ ((tl ++ news) ++ own))) (ho : TbOff own (tl ++ news)) (ord9 : ∀ q ∈ (tl ++ news) ++ own, ∀ p' ∈ tl9, q.1 < p'.1)
    (ord : ∀ q ∈ news, ∀ p' ∈ tl, q.1 < p'.1) (R : IsNum w (tl9 ++ (tl ++ news)) (.ref b') (canI (-(b : Int)) (HalfN b one (i + 1) : Nat)))
    (n1 : m' (Str.ofString "last") = some (.ref b')) (n2 : m' (Str.ofString "half") = some (.ref aH)) (n3 : m' (Str.ofString "many") = some (.int (mM : Int) tM)) :
    TbEnd h₀ L (HalfJ w b mM aH tM one news (i + 1)) own s₁ { s₁ with heap := h', toks := tk } := by
  refine ⟨h', tk, m', _, (tl9 ++ tl) ++ news, rfl, F, N', ?_, ?_, ?_, tl9 ++ tl, b', rfl, ?_, by rw [List.append_assoc]; exact R, n1, n2, n3⟩
  · intro p hp
    rw [List.append_assoc] at hp
    rcases List.mem_append.mp hp with hp | hp
    · exact List.mem_append_left _ hp
    · exact List.mem_append_right _ (List.mem_append_left _ hp)
  · exact fun p hp => List.mem_append_right _ (List.mem_append_right _ hp)
  · intro p hp q hq
    rw [List.append_assoc] at hq
    rcases List.mem_append.mp hq with hq | hq
    · exact Nat.ne_of_lt (ord9 p (List.mem_append_right _ hp) q hq)
    · exact ho p hp q hq
  · intro q hq p' hp'
    rcases List.mem_append.mp hp' with hp' | hp'
    · exact ord9 q (List.mem_append_left _ (List.mem_append_right _ hq)) p' hp'
    · exact ord q hq p' hp'
end
theorem tup_reads {h : Heap} {a : Addr} {x1 x2 x3 x4 : Int} {t1 t2 t3 t4 : Tok} (T : IsTup h a #[.int x1 t1, .int x2 t2, .int x3 t3, .int x4 t4]) : Reads h (.ref a) (.tuple [.int x1, .int x2, .int x3, .int x4]) [] := by
  obtain ⟨o, ho, hc, n, hs⟩ := T
  exact .tuple (as := []) ho hc hs (.cons (as := []) (bs := []) (.int _ _) (.cons (as := []) (bs := []) (.int _ _) (.cons (as := []) (bs := []) (.int _ _) (.cons (as := []) (bs := []) (.int _ _) .nil))))
theorem mem_r {a : Addr × Obj} {x y : List (Addr × Obj)} (h : List.Mem a y) : List.Mem a (x ++ y) := List.mem_append_right (as := x) (bs := y) h
theorem mem_l {a : Addr × Obj} {x y : List (Addr × Obj)} (h : List.Mem a x) : List.Mem a (x ++ y) := List.mem_append_left (as := x) y h
theorem num_shaped (x1 x2 x3 x4 : Int) : SeqAt.shaped (.tuple [.int x1, .int x2, .int x3, .int x4]) = true := rfl
theorem num_eqv (x1 x2 x3 x4 : Int) : PyData.eqv (.tuple [.int x1, .int x2, .int x3, .int x4]) (.tuple [.int x1, .int x2, .int x3, .int x4]) = true := by
  simp [PyData.eqv, PyData.eqvAll]
section
variable {prog : Program} {w w' : World} {A : Around} {E Q : Value → Shared → Prop} {s : Shared} {h₀ : Heap} {L a1 a2 : Addr} {m : Str → Option Value} {x : Num} {news : List (Addr × Obj)}
theorem num_ne (R1 : IsNum w news (.ref a1) x) (R2 : IsNum w news (.ref a2) x) (F : Fr h₀ L s.heap m) (X : (hd.heap_39 w.params).In h₀) (N : News h₀ L s.heap news) (hu : A.units + 64 < cLine) (h : Q (.bool false) s) :
    wpAny (model prog w') A (compareOp .NotEq (.ref a1) (.ref a2)) Q E s := by
  obtain ⟨_, _, _, _, T1⟩ := R1.tup F X N
  obtain ⟨_, _, _, _, T2⟩ := R2.tup F X N
  exact ne_dataH (tup_reads T1) (tup_reads T2) (num_shaped _ _ _ _) (num_shaped _ _ _ _) hu (by rw [num_eqv]; exact h)
theorem num_eq (R1 : IsNum w news (.ref a1) x) (R2 : IsNum w news (.ref a2) x) (F : Fr h₀ L s.heap m) (X : (hd.heap_39 w.params).In h₀) (N : News h₀ L s.heap news) (hu : A.units + 64 < cLine) (h : Q (.bool true) s) :
    wpAny (model prog w') A (compareOp .Eq (.ref a1) (.ref a2)) Q E s := by
  obtain ⟨_, _, _, _, T1⟩ := R1.tup F X N
  obtain ⟨_, _, _, _, T2⟩ := R2.tup F X N
  exact eq_dataH (tup_reads T1) (tup_reads T2) (num_shaped _ _ _ _) (num_shaped _ _ _ _) hu (by rw [num_eqv]; exact h)
theorem num_ne_one {b i : Nat} (R1 : IsNum w news (.ref a1) (canI (-(b : Int)) (HalfN b true i : Nat))) (F : Fr h₀ L s.heap m) (X : (hd.heap_39 w.params).In h₀) (N : News h₀ L s.heap news) (hu : A.units + 64 < cLine) (h : Q (.bool false) s) :
    wpAny (model prog w') A (compareOp .NotEq (.ref a1) (.ref 23)) Q E s := by
  have e : HalfN b true i = 2 ^ b := rfl
  rw [e, one_can] at R1
  exact num_ne R1 fone_num F X N hu h
theorem many_half (m : Nat) : (m : Int).fdiv 2 = ((m / 2 : Nat) : Int) := by
  rw [Int.fdiv_eq_ediv_of_nonneg _ (by decide)]
  omega
theorem many_mod (m : Nat) : (m : Int).fmod 4 = ((m % 4 : Nat) : Int) := by
  rw [Int.fmod_eq_emod_of_nonneg _ (by decide)]
  omega
/-- what the last add gives against what is asked for -/
theorem last_eq {b mM : Nat} {z : Int} {tl tl2 : List (Addr × Obj)} (R1 : IsNum w news (.ref a1) (canI (1 - (b : Int)) ((2 ^ (b - 1) + place mM : Nat) : Int))) (R2 : IsNum w tl (.ref a2) (canI (1 - (b : Int)) z)) (hz : z = ((2 ^ (b - 1) + place mM : Nat) : Int))
    (F : Fr h₀ L s.heap m) (X : (hd.heap_39 w.params).In h₀) (N : News h₀ L s.heap tl2) (h1 : ∀ q ∈ news, q ∈ tl2) (h2 : ∀ q ∈ tl, q ∈ tl2) (hu : A.units + 64 < cLine) (h : Q (.bool true) s) :
    wpAny (model prog w') A (compareOp .Eq (.ref a1) (.ref a2)) Q E s := by
  subst hz
  exact num_eq (R1.mono h1) (R2.mono h2) F X N hu h
theorem pow_pred {b : Nat} {t u : Tok} (B : Bits b) (h : Q (.int (2 ^ (b - 1)) s.toks) { s with toks := s.toks + 1 }) : wpAny (model prog w) A (binaryOp .Pow (.int 2 t) (.int ((b : Int) - 1) u)) Q E s := by
  have h1 := B.lo
  have h2 := B.hi
  exact pow_int_small (by omega) (by omega) (by decide) (by rw [show ((b : Int) - 1).toNat = b - 1 by omega]; exact h)
theorem place_yes {b m : Nat} (h : (m : Int).fmod 4 = 3) : (2 : Int) ^ (b - 1) + ((m : Int).fdiv 2 + 1) = ((2 ^ (b - 1) + place m : Nat) : Int) := by
  rw [many_mod] at h
  rw [many_half, Int.natCast_add, Int.natCast_pow]
  unfold place
  rw [if_pos (by omega)]
  rfl
theorem place_no {b m : Nat} (h : ¬ (m : Int).fmod 4 = 3) : (2 : Int) ^ (b - 1) + ((m : Int).fdiv 2 + 0) = ((2 ^ (b - 1) + place m : Nat) : Int) := by
  rw [many_mod] at h
  rw [many_half, Int.natCast_add, Int.natCast_pow]
  unfold place
  rw [if_neg (by omega)]
  rfl
end
end
section
local macro_rules | `(tactic| walk_at "ite") => `(tactic| first | (k_closed; k_dflt (first | refine ite_pos (by decide) ?_ | refine ite_neg (by decide) ?_)) | with_reducible refine ite_tt ?_ | with_reducible refine ite_ff ?_ | (with_reducible refine split_ine ?_ ?_ <;> intro _) | (with_reducible refine split_ieq ?_ ?_ <;> intro _))
local macro_rules | `(tactic| walk_at "binaryOp Add int int") => `(tactic| first | (with_reducible refine add_bits ?_; intro bB bBb bBt) | (with_reducible refine add_many ?_; intro mM mMb mMt mMl))
local macro_rules | `(tactic| walk_at "KPfDone") => `(tactic| (refine gen_done (n := 15) ?_ (by simp [rangeKs_length]); intro dD dDl ys9 dDi dDy; (try dsimp only)))
local macro_rules | `(tactic| walk_at "execs cons") => `(tactic| (with_reducible refine gentoks ?_; intro tk))
local macro_rules | `(tactic| walk_at "execs nil") => `(tactic| (with_reducible refine gentoks ?_; intro tk))
local macro_rules | `(tactic| walk_at "pyIter ref") => `(tactic| focus (k_here; (with_reducible show wpAny _ _ (pyIter (Value.ref _)) (fun it s₂ => LoopAtV _ _ _ _ _ _ _ _ _ it s₂) _ _); k_dflt (refine' sizes_iter ?Bq4 ?hhq4 ?hiq4 ?hdsq4 ?hnq4 ?Fq4 ?Nq4 ?hNq4 ?offq4 ?n1q4 ?n2q4 ?turnq4 ?doneq4; (case Bq4 => assumption); (case hhq4 => exact rfl); (case Fq4 => k_asm); (case Nq4 => k_asm); (case hNq4 => exact rfl); (case hiq4 => assumption); (case n1q4 => exact rfl); (case n2q4 => exact rfl); (case hdsq4 => (simp only [List.length_take, List.length_drop]; omega)); (case hnq4 => omega); (case offq4 => k_all); rotate_left; (intro u9 h9 tk9 zv9 zs9 nz9 I9 l9 S9 F9 N9; (try k_sweep); (try dsimp only); (try k_fold)); rotate_right; (intro i9 k9 t9 u9 h9 tk9 own9 zv9 zs9 nz9 hi9 ho9 o9 I9 l9 l9' S9 F9 N9; (try simp only [List.cons_append, List.nil_append] at N9); (try simp only [List.cons_append, List.nil_append] at o9); (try k_sweep); (try k_fold)))))
local macro_rules | `(tactic| walk_at "binaryOp Pow int int") => `(tactic| first | (with_reducible refine pow_b ?_ ?_; (with_reducible assumption)) | (with_reducible refine pow_e ?_; intro eE eEs))
local macro_rules | `(tactic| walk_at "binaryOp Mod int int") => `(tactic| (with_reducible refine mod_pred ?_ ?_; (with_reducible assumption)))
local macro_rules | `(tactic| walk_at "binaryOp Add int int") => `(tactic| (with_reducible refine add_size ?_ ?_; (with_reducible assumption); intro zZ zZs))
local macro_rules | `(tactic| walk_at "binaryOp Mult int int") => `(tactic| first | ((with_reducible refine' mul_sz ?Bq8 ?Sq8 ?_); (case Bq8 => with_reducible assumption); (case Sq8 => with_reducible assumption)) | ((with_reducible refine' mul_szn ?Bq8 ?Sq8 ?_); (case Bq8 => with_reducible assumption); (case Sq8 => with_reducible assumption)))
local macro_rules | `(tactic| walk_at "call builtin:list.append") => `(tactic| (k_here; k_dflt (refine' append_first ?Fq9 ?Nq9 ?offq9 ?hzq9 ?_; (case Fq9 => k_asm); (case Nq9 => k_asm); (case offq9 => assumption); (case hzq9 => assumption)); intro h9 F9 N9; (try k_sweep)))
local macro_rules | `(tactic| walk_at "exec For Name Subscript cons nil") => `(tactic| (k_here; (rename Fr _ _ _ _ => lF'); (with_unfolding_all refine' For_invVF lF' ?k1q10 ?k2q10 ?_; (case k1q10 => exact rfl); (case k2q10 => exact rfl); k_whole)))
local macro_rules | `(tactic| walk_at "CompSrc") => `(tactic| focus (k_here; (with_reducible show LCg.CompSrc _ _ _ _ _ _ _ (Expr.Call (Expr.Name (PySem.Str.ofString "from_man_exp") _) _ _ _) _ _ _ _ _ _); k_dflt (refine' nums_src ?hhq11 ?Fq11 ?Nq11 ?hmq11 ?hiq11 ?hzq11 ?turnq11 ?finq11; (case hhq11 => exact rfl); (case Fq11 => k_asm); (case Nq11 => k_asm); (case hmq11 => exact List.Mem.head _); (case hiq11 => assumption); (case hzq11 => omega); rotate_left; (intro g9 ys9 tl9 o9 R9; (try simp only [List.cons_append, List.nil_append])); rotate_right; (intro z9 t9 I9 oI9 C9 oC9 D9 m9 ys9 tl9 h9 tk9 E9 nC9 mx9 F9 N9; (try k_fold)))))
local macro_rules | `(tactic| walk_at "NumEnd") => `(tactic| exact ⟨_, _, _, rfl, by k_asm, by k_asm, by assumption, by assumption⟩)
local macro_rules | `(tactic| walk_at "call ref") => `(tactic| (k_here; k_dflt (refine' gives_num from_can ?Bq13 ?Fq13 ?Xq13 ?Nq13 ?Tq13 ?hkq13 ?hdq13 ?huq13 ?_; (case Bq13 => k_asm); (case Fq13 => k_asm); (case Xq13 => k_asm); (case Nq13 => k_asm); (case Tq13 => k_asm); (case hkq13 => first | exact rfl | assumption); (case hdq13 => ktr_room); (case huq13 => ktr_units); intro b9 tl9 h9 tk9 F9 N9 l9 R9; (try dsimp only); (try k_fold))))
local macro_rules | `(tactic| walk_at "CompSrc") => `(tactic| focus (k_here; (with_reducible show LCg.CompSrc _ _ _ _ _ _ _ (Expr.Subscript _ _ _) _ _ _ _ _ _); k_dflt (refine' order_src ?hhOq14 ?FOq14 ?NOq14 ?hrOq14 ?hnOq14 ?hmOq14 ?turnOq14 ?finOq14; (case hhOq14 => exact rfl); (case FOq14 => k_asm); (case NOq14 => k_asm); (case hrOq14 => assumption); (case hnOq14 => omega); (case hmOq14 => omega); rotate_left; (intro g9 ys9 os9 oI9 ol9); rotate_right; (intro z9 t9 I9 oI9 C9 oC9 D9 m9 ys9 h9 tk9 E9 nC9 mx9 F9 N9; (try k_fold)))))
local macro_rules | `(tactic| walk_at "IntEnd") => `(tactic| exact ⟨_, _, _, _, rfl, rfl, by k_asm, by k_asm⟩)
local macro_rules | `(tactic| walk_at "subscriptTail Name BinOp ref int") => `(tactic| (k_here; k_dflt (refine' item_mod ?Nq16 ?hmq16 ?hIq16 ?hlq16 ?_ ?hsq16; (case Nq16 => k_asm); (case hmq16 => k_mem); (case hIq16 => assumption); (case hlq16 => assumption); (case hsq16 => with_unfolding_all rfl)); intro t9 z9))
local macro_rules | `(tactic| walk_at "InvEndG") => `(tactic| exact sizes_end (by k_asm) (by k_asm) (by assumption) (by assumption) (by assumption) (by assumption) (by first | exact size_pos (by assumption) (by assumption) (by assumption) | exact size_neg (by assumption) (by assumption) (by assumption)) rfl rfl)
local macro_rules | `(tactic| k_all) => `(tactic| exact tl_off (by assumption) (by k_mem))
local macro_rules | `(tactic| walk_at "eval ListComp") => `(tactic| (k_here; (with_reducible show wpAny _ _ (eval (Expr.ListComp _ [⟨_, Expr.Constant (Const.str _) _ _, _, _⟩] _ _) _) _ _ _); k_dflt (refine listComp_text (by k_asm) (by with_unfolding_all rfl) (by decide) (by rfl) (by decide) (by rfl) ?_)))
local macro_rules | `(tactic| walk_at "TextSrc") => `(tactic| focus (k_dflt (refine' text_law ?Bq20 ?hSq20 ?hhq20 ?Fq20 ?Nq20 ?turnq20 ?finq20; (case Bq20 => assumption); (case hSq20 => assumption); (case hhq20 => exact rfl); (case Fq20 => k_asm); (case Nq20 => k_asm); rotate_left; (intro g9 z1 t1 z2 t2 z3 t3 f1 f2 f3); rotate_right; (intro way9 u9 I9 oI9 C9 oC9 D9 m9 ys9 h9 tk9 E9 nC9 mx9 F9 N9; (try k_fold)))))
local macro_rules | `(tactic| walk_at "WayEnd") => `(tactic| exact ⟨_, _, _, _, _, rfl, rfl, by k_asm, by k_asm, by assumption⟩)
local macro_rules | `(tactic| walk_at "call ref") => `(tactic| (k_here; k_dflt (refine' use_fix ?R1q22 ?hvq22 ?Bq22 ?Fq22 ?Xq22 ?Nq22 ?Tq22 ?hkq22 ?hdq22 ?huq22 ?_; (case Fq22 => k_asm); (case Nq22 => k_asm); (case R1q22 => assumption); (case hvq22 => assumption); (case Bq22 => k_asm); (case Xq22 => k_asm); (case Tq22 => k_asm); (case hkq22 => first | exact rfl | assumption); (case hdq22 => ktr_room); (case huq22 => ktr_units); intro t9 h9 tk9 F9 N9; (try dsimp only); (try k_fold))))
local macro_rules | `(tactic| walk_at "call ref") => `(tactic| (k_here; k_dflt (refine' use_added ?bBq23 ?bMq23 ?hNq23 ?hOq23 ?hIq23 ?hoq23 ?hRq23 ?hsq23 ?hzq23 ?hSq23 ?Bq23 ?Fq23 ?Xq23 ?Nq23 ?Tq23 ?hkq23 ?hdq23 ?huq23 ?_; (case Fq23 => k_asm); (case Nq23 => k_asm); (case bBq23 => assumption); (case bMq23 => assumption); (case hNq23 => k_mem); (case hOq23 => k_mem); (case hoq23 => assumption); (case hIq23 => assumption); (case hRq23 => assumption); (case hzq23 => assumption); (case hSq23 => assumption); (case hsq23 => (intro q9 hq9; (repeat' (first | exact hq9 | refine List.mem_cons_of_mem _ ?_)))); (case Bq23 => k_asm); (case Xq23 => k_asm); (case Tq23 => k_asm); (case hkq23 => first | exact rfl | assumption); (case hdq23 => ktr_room); (case huq23 => ktr_units); intro b9 tl9 h9 tk9 z9 f9 R9 F9 N9; (try dsimp only); (try k_fold))))
local macro_rules | `(tactic| walk_at "binaryOp Mult int int") => `(tactic| ((with_reducible refine mul_small ?_ ?_); (focus omega)))
local macro_rules | `(tactic| walk_at "binaryOp Mult int int") => `(tactic| ((with_reducible refine mul_pow ?_ ?_); (focus (with_reducible assumption))))
local macro_rules | `(tactic| walk_at "eval ListComp") => `(tactic| (k_here; (with_reducible show wpAny _ _ (eval (Expr.ListComp (Expr.Call (Expr.Name (PySem.Str.ofString "abs") _) _ _ _) _ _ _) _) _ _ _); k_dflt (refine LCg.ListComp_U (F₀ := by k_asm) (by with_unfolding_all rfl) (by decide) (by rfl) (by decide) (by rfl) ?_)))
local macro_rules | `(tactic| walk_at "CompSrc") => `(tactic| focus (k_here; (with_reducible show LCg.CompSrc _ _ _ _ _ _ _ (Expr.Call (Expr.Name (PySem.Str.ofString "abs") _) _ _ _) _ _ _ _ _ _); k_dflt (refine' abs_src ?hhAq27 ?FAq27 ?NAq27 ?hmAq27 ?hiAq27 ?hzAq27 ?turnAq27 ?finAq27; (case hhAq27 => exact rfl); (case FAq27 => k_asm); (case NAq27 => k_asm); (case hmAq27 => k_mem); (case hiAq27 => assumption); (case hzAq27 => omega); rotate_left; (intro g9 ys9 R9); rotate_right; (intro z9 t9 I9 oI9 C9 oC9 D9 m9 ys9 h9 tk9 E9 nC9 mx9 F9 N9; (try k_fold)))))
local macro_rules | `(tactic| walk_at "AbsEnd") => `(tactic| exact ⟨_, _, _, rfl, rfl, by k_asm, by k_asm⟩)
local macro_rules | `(tactic| walk_at "pyIter ref") => `(tactic| focus (k_here; (with_reducible show wpAny _ _ (pyIter (Value.ref _)) (fun it s₂ => LoopAtV _ _ _ _ _ _ _ _ _ it s₂) _ _); k_dflt (refine' half_iter ?MHq29 ?hhHq29 ?hrHq29 ?FHq29 ?NHq29 ?RHHq29 ?R0Hq29 ?n1Hq29 ?n2Hq29 ?n3Hq29 ?turnHq29 ?doneHq29; (case MHq29 => assumption); (case hhHq29 => exact rfl); (case hrHq29 => assumption); (case FHq29 => k_asm); (case NHq29 => k_asm); (case n1Hq29 => exact rfl); (case n2Hq29 => exact rfl); (case n3Hq29 => exact rfl); (case RHHq29 => first | exact IsNum.mono (by assumption) (fun q hq => List.mem_cons_of_mem _ (List.mem_append_left _ hq)) | exact IsNum.mono (by assumption) (fun q hq => List.mem_append_right _ hq)); (case R0Hq29 => first | exact half_one _ | exact half_zero _ (by assumption)); rotate_left; (intro u9 h9 tk9 tl9 b9 o9 R9 H9 F9 N9; (try k_sweep); (try dsimp only); (try k_fold)); rotate_right; (intro i9 t9 u9 h9 tk9 own9 tl9 b9 hi9 ho9 o9 R9 H9 F9 N9; (try k_sweep); (try k_fold)))))
local macro_rules | `(tactic| walk_at "pyIter ref") => `(tactic| focus (k_here; (with_reducible show wpAny _ _ (pyIter (Value.ref _)) (fun it s₂ => LoopAtV _ _ _ _ _ _ _ _ _ it s₂) _ _); k_dflt (refine' half_iter ?MJq30 ?hhJq30 ?hrJq30 ?FJq30 ?NJq30 ?RHJq30 ?R0Jq30 ?n1Jq30 ?n2Jq30 ?n3Jq30 ?turnJq30 ?doneJq30; (case MJq30 => assumption); (case hhJq30 => exact rfl); (case hrJq30 => assumption); (case FJq30 => k_asm); (case NJq30 => k_asm); (case n1Jq30 => exact rfl); (case n2Jq30 => exact rfl); (case n3Jq30 => exact rfl); (case RHJq30 => first | exact IsNum.mono (by assumption) (fun q hq => List.mem_cons_of_mem _ (List.mem_append_left _ hq)) | exact IsNum.mono (by assumption) (fun q hq => List.mem_append_right _ hq)); (case R0Jq30 => first | exact half_one _ | exact half_zero _ (by assumption)); rotate_left; (intro u9 h9 tk9 tl9 b9 o9 R9 H9 F9 N9; (try k_sweep); (try dsimp only); (try k_fold)); rotate_right; (intro i9 t9 u9 h9 tk9 own9 tl9 b9 hi9 ho9 o9 R9 H9 F9 N9; (try k_sweep); (try k_fold)))))
local macro_rules | `(tactic| walk_at "call ref") => `(tactic| (k_here; k_dflt (refine' use_half ?BBq31 ?hiq31 ?R1q31 ?R2q31 ?hsq31 ?Bq31 ?Fq31 ?Xq31 ?Nq31 ?Tq31 ?hkq31 ?hdq31 ?huq31 ?_; (case Fq31 => k_asm); (case Nq31 => k_asm); (case BBq31 => assumption); (case R1q31 => assumption); (case R2q31 => assumption); (case hiq31 => assumption); (case hsq31 => exact fun q hq => List.mem_append_left _ hq); (case Bq31 => k_asm); (case Xq31 => k_asm); (case Tq31 => k_asm); (case hkq31 => first | exact rfl | assumption); (case hdq31 => ktr_room); (case huq31 => ktr_units); intro b9 tl9 h9 tk9 R9 F9 N9 l9; (try dsimp only); (try k_fold))))
local macro_rules | `(tactic| k_mem) => `(tactic| first | (with_reducible refine mem_r ?_; k_mem) | (with_reducible refine mem_l ?_; k_mem))
local macro_rules | `(tactic| walk_at "compareOp NotEq ref ref") => `(tactic| (k_here; k_dflt (refine' num_ne_one ?Rq33 ?Fq33 ?Xq33 ?Nq33 ?huq33 ?_; (case Rq33 => assumption); (case Fq33 => k_asm); (case Xq33 => k_asm); (case Nq33 => k_asm); (case huq33 => ktr_units))))
local macro_rules | `(tactic| walk_at "compareOp Eq ref ref") => `(tactic| (k_here; k_dflt (refine' last_eq ?R1q34 ?R2q34 ?hzq34 ?Fq34 ?Xq34 ?Nq34 ?h1q34 ?h2q34 ?huq34 ?_; (case R1q34 => assumption); (case R2q34 => assumption); (case Fq34 => k_asm); (case Xq34 => k_asm); (case Nq34 => k_asm); (case h1q34 => exact fun q hq => List.mem_append_right _ hq); (case h2q34 => exact fun q hq => List.mem_append_left _ hq); (case huq34 => ktr_units); (case hzq34 => first | exact place_yes (by assumption) | exact place_no (by assumption)))))
local macro_rules | `(tactic| walk_at "call ref") => `(tactic| (k_here; k_dflt (refine' use_last ?BBq35 ?Mq35 ?R1q35 ?R2q35 ?Bq35 ?Fq35 ?Xq35 ?Nq35 ?Tq35 ?hkq35 ?hdq35 ?huq35 ?_; (case Fq35 => k_asm); (case Nq35 => k_asm); (case BBq35 => assumption); (case Mq35 => assumption); (case R1q35 => assumption); (case R2q35 => exact fone_num); (case Bq35 => k_asm); (case Xq35 => k_asm); (case Tq35 => k_asm); (case hkq35 => first | exact rfl | assumption); (case hdq35 => ktr_room); (case huq35 => ktr_units); intro b9 tl9 h9 tk9 R9 F9 N9 l9; (try dsimp only); (try k_fold))))
local macro_rules | `(tactic| walk_at "binaryOp Pow int int") => `(tactic| (with_reducible refine pow_pred ?_ ?_; (with_reducible assumption)))
set_option maxRecDepth 100000 in
set_option maxHeartbeats 16000000 in
theorem law_holds : PySem.Challenge.rw_aw5009_01.Holds := hd (by
  k_go0
  (all_goals try k_fold)
  k_steps
  all_goals first
    | exact (no_near (by assumption) (by assumption) (by assumption) (by assumption)).elim
    | exact (no_down (by assumption) (by assumption)).elim
    | exact (no_up (by assumption) (by assumption)).elim
    | exact half_end (by k_asm) (by k_asm) (by assumption) (by assumption) (by assumption) (by assumption) rfl rfl rfl)
end
end Mine
set_option maxRecDepth 100000 in
theorem PySem.Challenge.cw_aw5009_01_holds : PySem.Challenge.rw_aw5009_01.Holds := by
  exact Mine.law_holds
