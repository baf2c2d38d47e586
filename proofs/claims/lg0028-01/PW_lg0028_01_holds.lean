import PyProof.Rows.All
import Wide.All
import OpenK.AllK
import Wide.FinOn
import PySem.Challenge.RW_lg0028_01
open PySem PySem.W PyProof.Rows
set_option Elab.async false
set_option maxRecDepth 100000
set_option maxHeartbeats 8000000
namespace Mine
def leapB (y : Int) : Bool := if (y.fmod 4 == 0) = true then (if (y.fmod 100 != 0) = true then true else (y.fmod 400 == 0)) else false
def leapd (a b : Int) : Int := (b - 1).fdiv 4 - (a - 1).fdiv 4 - ((b - 1).fdiv 100 - (a - 1).fdiv 100) + ((b - 1).fdiv 400 - (a - 1).fdiv 400)
def dby (y : Int) : Int := (y - 1) * 365 + (y - 1).fdiv 4 - (y - 1).fdiv 100 + (y - 1).fdiv 400
def marchOf (y m : Int) : Int := if m < 3 then y - 1 else y
def num (y m d : Int) : Int := 365 * marchOf y m + (marchOf y m).fdiv 4 - (marchOf y m).fdiv 100 + (marchOf y m).fdiv 400 + (153 * ((m + 9).fmod 12) + 2).fdiv 5 + d - 306
def len (y m : Int) : Int := if m = 2 then (if leapB y = true then 29 else 28) else 30 + (m + m.fdiv 8).fmod 2
def cum (y m : Int) : Int := [(-1 : Int), 0, 31, 59, 90, 120, 151, 181, 212, 243, 273, 304, 334].getD m.toNat 0 + (if 2 < m ∧ leapB y = true then 1 else 0)
theorem fd4 (y : Int) : y.fdiv 4 = y / 4 := Int.fdiv_eq_ediv_of_nonneg _ (by decide)
theorem fd100 (y : Int) : y.fdiv 100 = y / 100 := Int.fdiv_eq_ediv_of_nonneg _ (by decide)
theorem fd400 (y : Int) : y.fdiv 400 = y / 400 := Int.fdiv_eq_ediv_of_nonneg _ (by decide)
theorem fd5 (y : Int) : y.fdiv 5 = y / 5 := Int.fdiv_eq_ediv_of_nonneg _ (by decide)
theorem fd8 (y : Int) : y.fdiv 8 = y / 8 := Int.fdiv_eq_ediv_of_nonneg _ (by decide)
theorem fm4 (y : Int) : y.fmod 4 = y % 4 := Int.fmod_eq_emod_of_nonneg _ (by decide)
theorem fm100 (y : Int) : y.fmod 100 = y % 100 := Int.fmod_eq_emod_of_nonneg _ (by decide)
theorem fm400 (y : Int) : y.fmod 400 = y % 400 := Int.fmod_eq_emod_of_nonneg _ (by decide)
theorem fm12 (y : Int) : y.fmod 12 = y % 12 := Int.fmod_eq_emod_of_nonneg _ (by decide)
theorem fm2 (y : Int) : y.fmod 2 = y % 2 := Int.fmod_eq_emod_of_nonneg _ (by decide)
theorem leapB_iff (y : Int) : leapB y = true ↔ (y % 4 = 0 ∧ (y % 100 ≠ 0 ∨ y % 400 = 0)) := by
  unfold leapB
  rw [fm4, fm100, fm400]
  by_cases h4 : y % 4 = 0 <;> by_cases h100 : y % 100 = 0 <;> simp [h4, h100]
theorem leapB_not (y : Int) : leapB y = false ↔ ¬(y % 4 = 0 ∧ (y % 100 ≠ 0 ∨ y % 400 = 0)) := by
  rw [← leapB_iff]; simp
theorem months {m : Int} (h1 : 1 ≤ m) (h2 : m ≤ 12) : m = 1 ∨ m = 2 ∨ m = 3 ∨ m = 4 ∨ m = 5 ∨ m = 6 ∨ m = 7 ∨ m = 8 ∨ m = 9 ∨ m = 10 ∨ m = 11 ∨ m = 12 := by omega

/-- days ahead of the year y -/
theorem dby_eq (y : Int) : dby y = (y - 1) * 365 + (y - 1) / 4 - (y - 1) / 100 + (y - 1) / 400 := by unfold dby; rw [fd4, fd100, fd400]
theorem num_early {y m d : Int} (h : m < 3) : num y m d = 365 * (y - 1) + (y - 1) / 4 - (y - 1) / 100 + (y - 1) / 400 + (153 * ((m + 9) % 12) + 2) / 5 + d - 306 := by
  unfold num marchOf; rw [if_pos h, fd4, fd100, fd400, fd5, fm12]
theorem num_late {y m d : Int} (h : ¬ m < 3) : num y m d = 365 * y + y / 4 - y / 100 + y / 400 + (153 * ((m + 9) % 12) + 2) / 5 + d - 306 := by
  unfold num marchOf; rw [if_neg h, fd4, fd100, fd400, fd5, fm12]
theorem dby_succ (y : Int) : dby (y + 1) = dby y + 365 + (if leapB y = true then 1 else 0) := by
  rw [dby_eq, dby_eq]
  by_cases hl : leapB y = true
  · rw [if_pos hl]; rw [leapB_iff] at hl; omega
  · rw [if_neg hl]; rw [leapB_iff] at hl; omega
theorem num_dby {y m d : Int} (h1 : 1 ≤ m) (h2 : m ≤ 12) : num y m d = dby y + cum y m + d := by
  have hs := dby_succ y
  have e1 := dby_eq y
  have e2 := dby_eq (y + 1)
  have e3 : y + 1 - 1 = y := by omega
  rw [e3] at e2
  have hm := months h1 h2
  by_cases hl : leapB y = true
  · rw [if_pos hl] at hs
    rcases hm with rfl | rfl | rfl | rfl | rfl | rfl | rfl | rfl | rfl | rfl | rfl | rfl
    all_goals first
      | (rw [num_early (by omega)]; simp [cum]; omega)
      | (rw [num_late (by omega)]; simp [cum, hl]; omega)
  · rw [if_neg hl] at hs
    rcases hm with rfl | rfl | rfl | rfl | rfl | rfl | rfl | rfl | rfl | rfl | rfl | rfl
    all_goals first
      | (rw [num_early (by omega)]; simp [cum]; omega)
      | (rw [num_late (by omega)]; simp [cum, hl]; omega)
open_top hd for PySem.Challenge.rw_lg0028_01
abbrev Cl (prog : Program) (w : World) (K : Frag) (p : Program) (loose : List Str) (mean : ExcName → Option Value) (mg mb : Str → Option Value) (f : Addr) (pre : Prop) (sz : Nat) (vs : List Value) (R : Tok → Value) : Prop :=
  ∀ news, CbRec prog w K p loose mean mg mb f news [] pre sz vs R

theorem Cl.use {prog : Program} {w : World} {K : Frag} {p : Program} {loose : List Str} {mean : ExcName → Option Value} {mg mb : Str → Option Value} {f : Addr} {pre : Prop} {sz : Nat} {vs : List Value} {R : Tok → Value} (C : Cl prog w K p loose mean mg mb f pre sz vs R)
    {news : List (Addr × Obj)} {dp un : Nat} {gd : Option (List Code)} {cn : Str} {cs : Scope} {a : Addr} {ccd : Value} {cl : List (Str × Addr)} {outer : List Env} {A₀ : Around} {base h₀ : Heap} {L : Addr} {m : Str → Option Value} {s : Shared} {Q E : Value → Shared → Prop}
    (k1 : Below A₀ base outer h₀) (k2 : Fr h₀ L s.heap m) (k3 : K.In h₀) (k4 : News h₀ L s.heap news) (k5 : Top p loose mean mg mb h₀) (kK : cs.kind = .function) (kp : pre) (kd : dp + sz + 1 < recursionLimit) (ku : un + 8 * (sz + 1) < cLine)
    (kR : ∀ (t : Tok) (h' : Heap) (tk' : Nat), Fr h₀ L h' m → News h₀ L h' news → Q (R t) { s with heap := h', toks := tk' }) :
    wpAny (model prog w) (ktrTop dp un gd cn cs L a ccd cl outer) (call (.ref f) vs) Q E s :=
  C news dp un gd cn cs a ccd cl outer A₀ base h₀ L m s Q E k1 k2 k3 k4 k5 kK kp kd ku kR

noncomputable abbrev prog : Program := PySem.Challenge.rw_lg0028_01.row.prog
noncomputable abbrev loose : List Str := looseW hd.view_39
      [Str.ofString "_DAYS_IN_MONTH", Str.ofString "_DAYS_BEFORE_MONTH", Str.ofString "_DI400Y", Str.ofString "_DI100Y",
        Str.ofString "_DI4Y"]
abbrev Claim (w : World) (mean : ExcName → Option Value) (mg mb : Str → Option Value) (f : Addr) (pre : Prop) (sz : Nat) (vs : List Value) (R : Tok → Value) : Prop :=
  Cl prog w (hd.heap_39 w.params) hd.view_39 loose mean mg mb f pre sz vs R

abbrev Cl2 (prog : Program) (w : World) (K : Frag) (p : Program) (loose : List Str) (mean : ExcName → Option Value) (mg mb : Str → Option Value) (f : Addr) (pre : Prop) (sz : Nat) (vs : List Value) (r1 r2 : Int) : Prop :=
  ∀ (news : List (Addr × Obj)) (dp un : Nat) (gd : Option (List Code)) (cn : Str) (cs : Scope) (a : Addr) (ccd : Value) (cl : List (Str × Addr)) (outer : List Env) (A₀ : Around) (base h₀ : Heap) (L : Addr) (m : Str → Option Value) (s : Shared) (Q E : Value → Shared → Prop),
    Below A₀ base outer h₀ → Fr h₀ L s.heap m → K.In h₀ → News h₀ L s.heap news → Top p loose mean mg mb h₀ → cs.kind = .function →
    pre → dp + sz + 1 < recursionLimit → un + 8 * (sz + 1) < cLine →
    (∀ (D : Addr) (t u : Tok) (c : Nat) (h' : Heap) (tk' : Nat), Fr h₀ L h' m → News h₀ L h' ((D, ({ cls := .type "tuple", data := .seq #[Value.int r1 t, Value.int r2 u] c } : Obj)) :: news) → (∀ p ∈ news, p.1 < D) → Q (.ref D) { s with heap := h', toks := tk' }) →
      wpAny (model prog w) (ktrTop dp un gd cn cs L a ccd cl outer) (call (.ref f) vs) Q E s
theorem Cl2.use {prog : Program} {w : World} {K : Frag} {p : Program} {loose : List Str} {mean : ExcName → Option Value} {mg mb : Str → Option Value} {f : Addr} {pre : Prop} {sz : Nat} {vs : List Value} {r1 r2 : Int} (C : Cl2 prog w K p loose mean mg mb f pre sz vs r1 r2)
    {news : List (Addr × Obj)} {dp un : Nat} {gd : Option (List Code)} {cn : Str} {cs : Scope} {a : Addr} {ccd : Value} {cl : List (Str × Addr)} {outer : List Env} {A₀ : Around} {base h₀ : Heap} {L : Addr} {m : Str → Option Value} {s : Shared} {Q E : Value → Shared → Prop}
    (k1 : Below A₀ base outer h₀) (k2 : Fr h₀ L s.heap m) (k3 : K.In h₀) (k4 : News h₀ L s.heap news) (k5 : Top p loose mean mg mb h₀) (kK : cs.kind = .function) (kp : pre) (kd : dp + sz + 1 < recursionLimit) (ku : un + 8 * (sz + 1) < cLine)
    (kR : ∀ (D : Addr) (t u : Tok) (c : Nat) (h' : Heap) (tk' : Nat), Fr h₀ L h' m → News h₀ L h' ((D, ({ cls := .type "tuple", data := .seq #[Value.int r1 t, Value.int r2 u] c } : Obj)) :: news) → (∀ p ∈ news, p.1 < D) → Q (.ref D) { s with heap := h', toks := tk' }) :
    wpAny (model prog w) (ktrTop dp un gd cn cs L a ccd cl outer) (call (.ref f) vs) Q E s :=
  C news dp un gd cn cs a ccd cl outer A₀ base h₀ L m s Q E k1 k2 k3 k4 k5 kK kp kd ku kR
abbrev Cl3 (prog : Program) (w : World) (K : Frag) (p : Program) (loose : List Str) (mean : ExcName → Option Value) (mg mb : Str → Option Value) (f : Addr) (pre : Prop) (sz : Nat) (vs : List Value) (P : Int → Int → Int → Prop) : Prop :=
  ∀ (news : List (Addr × Obj)) (dp un : Nat) (gd : Option (List Code)) (cn : Str) (cs : Scope) (a : Addr) (ccd : Value) (cl : List (Str × Addr)) (outer : List Env) (A₀ : Around) (base h₀ : Heap) (L : Addr) (m : Str → Option Value) (s : Shared) (Q E : Value → Shared → Prop),
    Below A₀ base outer h₀ → Fr h₀ L s.heap m → K.In h₀ → News h₀ L s.heap news → Top p loose mean mg mb h₀ → cs.kind = .function →
    pre → dp + sz + 1 < recursionLimit → un + 8 * (sz + 1) < cLine →
    (∀ (r1 r2 r3 : Int), P r1 r2 r3 → ∀ (D : Addr) (t u v : Tok) (c : Nat) (h' : Heap) (tk' : Nat), Fr h₀ L h' m → News h₀ L h' ((D, ({ cls := .type "tuple", data := .seq #[Value.int r1 t, Value.int r2 u, Value.int r3 v] c } : Obj)) :: news) → (∀ p ∈ news, p.1 < D) → Q (.ref D) { s with heap := h', toks := tk' }) →
      wpAny (model prog w) (ktrTop dp un gd cn cs L a ccd cl outer) (call (.ref f) vs) Q E s
theorem Cl3.use {prog : Program} {w : World} {K : Frag} {p : Program} {loose : List Str} {mean : ExcName → Option Value} {mg mb : Str → Option Value} {f : Addr} {pre : Prop} {sz : Nat} {vs : List Value} {P : Int → Int → Int → Prop} (C : Cl3 prog w K p loose mean mg mb f pre sz vs P)
    {news : List (Addr × Obj)} {dp un : Nat} {gd : Option (List Code)} {cn : Str} {cs : Scope} {a : Addr} {ccd : Value} {cl : List (Str × Addr)} {outer : List Env} {A₀ : Around} {base h₀ : Heap} {L : Addr} {m : Str → Option Value} {s : Shared} {Q E : Value → Shared → Prop}
    (k1 : Below A₀ base outer h₀) (k2 : Fr h₀ L s.heap m) (k3 : K.In h₀) (k4 : News h₀ L s.heap news) (k5 : Top p loose mean mg mb h₀) (kK : cs.kind = .function) (kp : pre) (kd : dp + sz + 1 < recursionLimit) (ku : un + 8 * (sz + 1) < cLine)
    (kR : ∀ (r1 r2 r3 : Int), P r1 r2 r3 → ∀ (D : Addr) (t u v : Tok) (c : Nat) (h' : Heap) (tk' : Nat), Fr h₀ L h' m → News h₀ L h' ((D, ({ cls := .type "tuple", data := .seq #[Value.int r1 t, Value.int r2 u, Value.int r3 v] c } : Obj)) :: news) → (∀ p ∈ news, p.1 < D) → Q (.ref D) { s with heap := h', toks := tk' }) :
    wpAny (model prog w) (ktrTop dp un gd cn cs L a ccd cl outer) (call (.ref f) vs) Q E s :=
  C news dp un gd cn cs a ccd cl outer A₀ base h₀ L m s Q E k1 k2 k3 k4 k5 kK kp kd ku kR
abbrev Claim2 (w : World) (mean : ExcName → Option Value) (mg mb : Str → Option Value) (f : Addr) (pre : Prop) (sz : Nat) (vs : List Value) (r1 r2 : Int) : Prop :=
  Cl2 prog w (hd.heap_39 w.params) hd.view_39 loose mean mg mb f pre sz vs r1 r2
abbrev Claim3 (w : World) (mean : ExcName → Option Value) (mg mb : Str → Option Value) (f : Addr) (pre : Prop) (sz : Nat) (vs : List Value) (P : Int → Int → Int → Prop) : Prop :=
  Cl3 prog w (hd.heap_39 w.params) hd.view_39 loose mean mg mb f pre sz vs P
theorem end2 {h₀ h : Heap} {L D : Addr} {m : Str → Option Value} {news : List (Addr × Obj)} {s : Shared} {Q : Value → Shared → Prop} {r1 r2 x y : Int} {t u : Tok} {c tk : Nat}
    (hret : ∀ (D : Addr) (t u : Tok) (c : Nat) (h' : Heap) (tk' : Nat), Fr h₀ L h' m → News h₀ L h' ((D, ({ cls := .type "tuple", data := .seq #[Value.int r1 t, Value.int r2 u] c } : Obj)) :: news) → (∀ p ∈ news, p.1 < D) → Q (.ref D) { s with heap := h', toks := tk' })
    (e1 : x = r1) (e2 : y = r2) (F : Fr h₀ L h m) (N : News h₀ L h ((D, ({ cls := .type "tuple", data := .seq #[Value.int x t, Value.int y u] c } : Obj)) :: news)) (l : ∀ p ∈ news, p.1 < D) : Q (.ref D) { s with heap := h, toks := tk } := by
  subst e1; subst e2
  exact hret D t u c h tk F N l
theorem end3 {h₀ h : Heap} {L D : Addr} {m : Str → Option Value} {news : List (Addr × Obj)} {s : Shared} {Q : Value → Shared → Prop} {P : Int → Int → Int → Prop} {x y z : Int} {t u v : Tok} {c tk : Nat}
    (hret : ∀ (r1 r2 r3 : Int), P r1 r2 r3 → ∀ (D : Addr) (t u v : Tok) (c : Nat) (h' : Heap) (tk' : Nat), Fr h₀ L h' m → News h₀ L h' ((D, ({ cls := .type "tuple", data := .seq #[Value.int r1 t, Value.int r2 u, Value.int r3 v] c } : Obj)) :: news) → (∀ p ∈ news, p.1 < D) → Q (.ref D) { s with heap := h', toks := tk' })
    (hP : P x y z) (F : Fr h₀ L h m) (N : News h₀ L h ((D, ({ cls := .type "tuple", data := .seq #[Value.int x t, Value.int y u, Value.int z v] c } : Obj)) :: news)) (l : ∀ p ∈ news, p.1 < D) : Q (.ref D) { s with heap := h, toks := tk } :=
  hret x y z hP D t u v c h tk F N l
def Stop (P : Prop) : Prop := P
theorem Stop.go {P : Prop} (h : Stop P) : P := h
def Mark (_ : List (Addr × Obj)) : Prop := True
theorem all_of {D : Addr} : ∀ {l : List (Addr × Obj)}, AllLt D l → ∀ p ∈ l, p.1 < D
  | [], _ => fun _ h => nomatch h
  | _ :: _, h => fun p hp => by
    rcases List.mem_cons.mp hp with rfl | hp
    · exact h.1
    · exact all_of h.2 p hp
theorem drop_snd {x y : Addr × Obj} {l : List (Addr × Obj)} : ∀ p ∈ x :: l, p ∈ x :: y :: l := fun p hp => by
  rcases List.mem_cons.mp hp with rfl | hp
  · exact .head _
  · exact .tail _ (.tail _ hp)
theorem c_isleap {w mean mg mb} : ∀ (y : Int) (ty : Tok), Claim w mean mg mb 21 (True) 0 [.int y ty] (fun _ => .bool (leapB y)) := by
  dsimp only [Claim, Cl, CbRec, CbLists, CbRet, prog, loose]
  k_fill
  intros
  rename_i hret
  refine wpAny_call ?_
  k_dflt cell_enter
  k_steps
  all_goals (refine' cb_retB hret ?e1 ?e2 ?e3; (case e2 => k_asm); (case e3 => first | k_asm | (refine' cb_drop ?cbN ?cbS; (case cbN => assumption); (case cbS => (intro p9 h9; kst_mem)))); (case e1 => (clear hret; (simp [leapB, *]; done))))
theorem c_is_leap {w mean mg mb} : ∀ (y : Int) (ty : Tok), Claim w mean mg mb 56 (True) 0 [.int y ty] (fun _ => .bool (leapB y)) := by
  dsimp only [Claim, Cl, CbRec, CbLists, CbRet, prog, loose]
  k_fill
  intros
  rename_i hret
  refine wpAny_call ?_
  k_dflt cell_enter
  k_steps
  all_goals (refine' cb_retB hret ?e1 ?e2 ?e3; (case e2 => k_asm); (case e3 => first | k_asm | (refine' cb_drop ?cbN ?cbS; (case cbN => assumption); (case cbS => (intro p9 h9; kst_mem)))); (case e1 => (clear hret; (simp [leapB, *]; done))))
theorem c_leapdays {w mean mg mb} : ∀ (a : Int) (ta : Tok) (b : Int) (tb : Tok), Claim w mean mg mb 28 (True) 0 [.int a ta, .int b tb] (fun t => .int (leapd a b) t) := by
  dsimp only [Claim, Cl, CbRec, CbLists, CbRet, prog, loose]
  k_fill
  intros
  rename_i hret
  refine wpAny_call ?_
  k_dflt cell_enter
  k_steps
  all_goals (refine' cb_retI hret ?e1 ?e2 ?e3; (case e2 => k_asm); (case e3 => first | k_asm | (refine' cb_drop ?cbN ?cbS; (case cbN => assumption); (case cbS => (intro p9 h9; kst_mem)))); (case e1 => (clear hret; exact rfl)))
theorem c_dby {w mean mg mb} : ∀ (y : Int) (ty : Tok), Claim w mean mg mb 63 (True) 0 [.int y ty] (fun t => .int (dby y) t) := by
  dsimp only [Claim, Cl, CbRec, CbLists, CbRet, prog, loose]
  k_fill
  intros
  rename_i hret
  refine wpAny_call ?_
  k_dflt cell_enter
  k_steps
  all_goals (refine' cb_retI hret ?e1 ?e2 ?e3; (case e2 => k_asm); (case e3 => first | k_asm | (refine' cb_drop ?cbN ?cbS; (case cbN => assumption); (case cbS => (intro p9 h9; kst_mem)))); (case e1 => (clear hret; exact rfl)))
theorem c_num {w mean mg mb} : ∀ (y : Int) (ty : Tok) (m : Int) (tm : Tok) (d : Int) (td : Tok), Claim w mean mg mb 101 (True) 0 [.int y ty, .int m tm, .int d td] (fun t => .int (num y m d) t) := by
  dsimp only [Claim, Cl, CbRec, CbLists, CbRet, prog, loose]
  k_fill
  intros
  rename_i hret
  refine wpAny_call ?_
  k_dflt cell_enter
  k_steps
  all_goals (refine' cb_retI hret ?e1 ?e2 ?e3; (case e2 => k_asm); (case e3 => first | k_asm | (refine' cb_drop ?cbN ?cbS; (case cbN => assumption); (case cbS => (intro p9 h9; kst_mem)))); (case e1 => (clear hret; first | rfl | (simp [num, marchOf, *]; done))))
theorem topListAny_K {prog : Program} {w : World} {A : Around} {E : Value → Shared → Prop} {s : Shared} {K : Frag} {h₀ : Heap} {L a : Addr} {m : Str → Option Value} {n : Nat} {value slice : PySem.Expr} {l : List Value} {ns : List Int} {dd : Option Addr} {sl : Array (Option Value)} {k : Int} {u : Tok} {Q : Value → Shared → Prop} (F : Fr h₀ L s.heap m) (X₀ : K.In h₀)
    (hl : K.lookup a = some ⟨.type "list", dd, .seq l.toArray n, sl⟩) (hi : IntsAre l ns) (h0 : 0 ≤ k) (h1 : k < ns.length) (hfit : k < 2 ^ 63) (h : ∀ t, Q (.int (ns.getD k.toNat 0) t) s)
    (hs : subscripted slice false (.ref a) (.int k u) = operate [.ref a, .int k u] (getItem (.ref a) (.int k u)) := by with_unfolding_all rfl) :
    wpAny (model prog w) A (subscriptTail value slice (.ref a) (.int k u)) Q E s := by
  obtain ⟨t, hx⟩ := hi.get k.toNat _ (ints_getD h0 h1)
  exact topList_K F X₀ hl h0 hfit hx (h t) hs
theorem dimL_len {y m : Int} (h1 : 1 ≤ m) (h2 : m ≤ 12) (hn : ¬(m = 2 ∧ leapB y = true)) : [(-1 : Int), 31, 28, 31, 30, 31, 30, 31, 31, 30, 31, 30, 31].getD m.toNat 0 = len y m := by
  rcases months h1 h2 with rfl | rfl | rfl | rfl | rfl | rfl | rfl | rfl | rfl | rfl | rfl | rfl
  all_goals first | rfl | (simp at hn; simp [len, hn])
section
local macro_rules | `(tactic| walk_at "mine pad") => `(tactic| fail)
local macro_rules | `(tactic| walk_at "mine pad") => `(tactic| fail)
local macro_rules | `(tactic| walk_at "mine pad") => `(tactic| fail)
local macro_rules | `(tactic| walk_at "mine pad") => `(tactic| fail)
local macro_rules | `(tactic| walk_at "mine pad") => `(tactic| fail)
local macro_rules | `(tactic| walk_at "mine pad") => `(tactic| fail)
local macro_rules | `(tactic| walk_at "mine pad") => `(tactic| fail)
local macro_rules | `(tactic| walk_at "mine pad") => `(tactic| fail)
local macro_rules | `(tactic| walk_at "mine pad") => `(tactic| fail)
local macro_rules | `(tactic| walk_at "mine pad") => `(tactic| fail)
local macro_rules | `(tactic| walk_at "mine pad") => `(tactic| fail)
local macro_rules | `(tactic| walk_at "mine pad") => `(tactic| fail)
local macro_rules | `(tactic| walk_at "mine pad") => `(tactic| fail)
local macro_rules | `(tactic| walk_at "mine pad") => `(tactic| fail)
local macro_rules | `(tactic| walk_at "mine pad") => `(tactic| fail)
local macro_rules | `(tactic| walk_at "mine pad") => `(tactic| fail)
local macro_rules | `(tactic| walk_at "mine pad") => `(tactic| fail)
local macro_rules | `(tactic| walk_at "mine pad") => `(tactic| fail)
local macro_rules | `(tactic| walk_at "mine pad") => `(tactic| fail)
local macro_rules | `(tactic| walk_at "mine pad") => `(tactic| fail)
local macro_rules | `(tactic| walk_at "mine pad") => `(tactic| fail)
local macro_rules | `(tactic| walk_at "mine pad") => `(tactic| fail)
local macro_rules | `(tactic| walk_at "mine pad") => `(tactic| fail)
local macro_rules | `(tactic| walk_at "mine pad") => `(tactic| fail)
local macro_rules | `(tactic| walk_at "mine pad") => `(tactic| fail)
local macro_rules | `(tactic| walk_at "mine pad") => `(tactic| fail)
local macro_rules | `(tactic| walk_at "mine pad") => `(tactic| fail)
local macro_rules | `(tactic| walk_at "mine pad") => `(tactic| fail)
local macro_rules | `(tactic| walk_at "mine pad") => `(tactic| fail)
local macro_rules | `(tactic| walk_at "mine pad") => `(tactic| fail)
local macro_rules | `(tactic| walk_at "mine pad") => `(tactic| fail)
local macro_rules | `(tactic| walk_at "mine pad") => `(tactic| fail)
local macro_rules | `(tactic| walk_at "mine pad") => `(tactic| fail)
local macro_rules | `(tactic| walk_at "mine pad") => `(tactic| fail)
local macro_rules | `(tactic| walk_at "eval Call") => `(tactic| (k_here; (with_reducible show wpAny _ _ (eval (Expr.Call (Expr.Name _ _) _ [] _) _) _ _ _); refine Call_ ?_))
local macro_rules | `(tactic| walk_at "mine cases") => `(tactic| (
  (case muk1 => k_asm); (case muk2 => k_asm); (case muk3 => k_asm); (case muk4 => k_asm); (case muk5 => k_asm);
  (case mukK => first | exact rfl | assumption);
  (case mukp => first | trivial | assumption | omega | (refine ⟨?_, ?_⟩ <;> first | assumption | omega) | walk_at "mine pre");
  (case mukd => first | omega | ktr_room | cb_room);
  (case muku => first | omega | ktr_units | cb_units)))
local macro_rules | `(tactic| walk_at "mine use") => `(tactic| (
  (walk_at "mine cases");
  intro t9 h9 tk9 F9 N9; (try dsimp only); (try k_fold)))
local macro_rules | `(tactic| walk_at "mine use2") => `(tactic| (
  (walk_at "mine cases");
  intro D9 t9 u9 c9 h9 tk9 F9 N9 l9; (try k_lt l9); (try dsimp only); (try k_fold); (try k_sweep)))
local macro_rules | `(tactic| walk_at "mine use3") => `(tactic| (
  (walk_at "mine cases");
  intro y9 m9 d9 P9 D9 t9 u9 v9 c9 h9 tk9 F9 N9 l9; (try k_lt l9); (try dsimp only); (try k_fold); (try k_sweep)))
local macro_rules | `(tactic| walk_at "call ref") => `(tactic| (
  k_here
  first
   | ((with_reducible show wpAny _ _ (call (Value.ref 21) _) _ _ _); k_dflt (refine' Cl.use (c_isleap _ _) ?muk1 ?muk2 ?muk3 ?muk4 ?muk5 ?mukK ?mukp ?mukd ?muku ?_); walk_at "mine use")
   | ((with_reducible show wpAny _ _ (call (Value.ref 56) _) _ _ _); k_dflt (refine' Cl.use (c_is_leap _ _) ?muk1 ?muk2 ?muk3 ?muk4 ?muk5 ?mukK ?mukp ?mukd ?muku ?_); walk_at "mine use")
   | ((with_reducible show wpAny _ _ (call (Value.ref 28) _) _ _ _); k_dflt (refine' Cl.use (c_leapdays _ _ _ _) ?muk1 ?muk2 ?muk3 ?muk4 ?muk5 ?mukK ?mukp ?mukd ?muku ?_); walk_at "mine use")
   | ((with_reducible show wpAny _ _ (call (Value.ref 63) _) _ _ _); k_dflt (refine' Cl.use (c_dby _ _) ?muk1 ?muk2 ?muk3 ?muk4 ?muk5 ?mukK ?mukp ?mukd ?muku ?_); walk_at "mine use")
   | ((with_reducible show wpAny _ _ (call (Value.ref 101) _) _ _ _); k_dflt (refine' Cl.use (c_num _ _ _ _ _ _) ?muk1 ?muk2 ?muk3 ?muk4 ?muk5 ?mukK ?mukp ?mukd ?muku ?_); walk_at "mine use")))
local macro_rules | `(tactic| walk_at "subscriptTail") => `(tactic| (
  k_here
  (with_reducible show wpAny _ _ (subscriptTail _ _ (Value.ref _) (Value.int _ _)) _ _ _)
  (with_unfolding_all (refine' topListAny_K ?F ?X ?l ?i ?muk3 ?muk4 ?muk5 ?_; (case F => k_asm); (case X => k_asm); (case l => k_is); (case i => l_ints); (case muk3 => l_idx); (case muk4 => l_idx); (case muk5 => l_idx); k_whole))
  intro _))
theorem c_len {w mean mg mb} : ∀ (y : Int) (ty : Tok) (m : Int) (tm : Tok), Claim w mean mg mb 108 (True) 1 [.int y ty, .int m tm] (fun t => .int (len y m) t) := by
  dsimp only [Claim, Cl, CbRec, CbLists, CbRet, prog, loose]
  k_fill
  intros
  rename_i hret
  refine wpAny_call ?_
  k_dflt cell_enter
  k_steps
  all_goals (refine' cb_retI hret ?e1 ?e2 ?e3; (case e2 => k_asm); (case e3 => first | k_asm | (refine' cb_drop ?cbN ?cbS; (case cbN => assumption); (case cbS => (intro p9 h9; kst_mem)))); (case e1 => (clear hret; (simp [len, *]; done))))
theorem c_dim {w mean mg mb} : ∀ (y : Int) (ty : Tok) (m : Int) (tm : Tok), Claim w mean mg mb 70 (1 ≤ m ∧ m ≤ 12) 1 [.int y ty, .int m tm] (fun t => .int (len y m) t) := by
  dsimp only [Claim, Cl, CbRec, CbLists, CbRet, prog, loose]
  k_fill
  intros
  rename_i hpre _ _ hret
  obtain ⟨p1, p2⟩ := hpre
  refine wpAny_call ?_
  k_dflt cell_enter
  k_steps
  all_goals (refine' cb_retI hret ?e1 ?e2 ?e3; (case e2 => k_asm); (case e3 => first | k_asm | (refine' cb_drop ?cbN ?cbS; (case cbN => assumption); (case cbS => (intro p9 h9; kst_mem)))); (case e1 => (clear hret; first | (simp [len, *]; done) | exact dimL_len (by omega) (by omega) (by simp [*]))))
theorem c_cum {w mean mg mb} : ∀ (y : Int) (ty : Tok) (m : Int) (tm : Tok), Claim w mean mg mb 77 (1 ≤ m ∧ m ≤ 12) 1 [.int y ty, .int m tm] (fun t => .int (cum y m) t) := by
  dsimp only [Claim, Cl, CbRec, CbLists, CbRet, prog, loose]
  k_fill
  intros
  rename_i hpre _ _ hret
  obtain ⟨p1, p2⟩ := hpre
  refine wpAny_call ?_
  k_dflt cell_enter
  k_steps
  all_goals (refine' cb_retI hret ?e1 ?e2 ?e3; (case e2 => k_asm); (case e3 => first | k_asm | (refine' cb_drop ?cbN ?cbS; (case cbN => assumption); (case cbS => (intro p9 h9; kst_mem)))); (case e1 => (clear hret; (simp [cum, *]; done))))
end
theorem years_eq {y : Int} : (if y < 1 then 365 * (y - 1) - leapd y 1 else 365 * (y - 1) + leapd 1 y) = dby y := by
  unfold leapd
  rw [dby_eq]
  simp only [fd4, fd100, fd400]
  split <;> omega
theorem years_lo {y : Int} (h : y < 1) : 365 * (y - 1) - leapd y 1 = dby y := by rw [← years_eq, if_pos h]
theorem years_hi {y : Int} (h : ¬ y < 1) : 365 * (y - 1) + leapd 1 y = dby y := by rw [← years_eq, if_neg h]
section
local macro_rules | `(tactic| walk_at "mine pad") => `(tactic| fail)
local macro_rules | `(tactic| walk_at "mine pad") => `(tactic| fail)
local macro_rules | `(tactic| walk_at "mine pad") => `(tactic| fail)
local macro_rules | `(tactic| walk_at "mine pad") => `(tactic| fail)
local macro_rules | `(tactic| walk_at "mine pad") => `(tactic| fail)
local macro_rules | `(tactic| walk_at "mine pad") => `(tactic| fail)
local macro_rules | `(tactic| walk_at "mine pad") => `(tactic| fail)
local macro_rules | `(tactic| walk_at "mine pad") => `(tactic| fail)
local macro_rules | `(tactic| walk_at "mine pad") => `(tactic| fail)
local macro_rules | `(tactic| walk_at "mine pad") => `(tactic| fail)
local macro_rules | `(tactic| walk_at "mine pad") => `(tactic| fail)
local macro_rules | `(tactic| walk_at "mine pad") => `(tactic| fail)
local macro_rules | `(tactic| walk_at "mine pad") => `(tactic| fail)
local macro_rules | `(tactic| walk_at "mine pad") => `(tactic| fail)
local macro_rules | `(tactic| walk_at "mine pad") => `(tactic| fail)
local macro_rules | `(tactic| walk_at "mine pad") => `(tactic| fail)
local macro_rules | `(tactic| walk_at "mine pad") => `(tactic| fail)
local macro_rules | `(tactic| walk_at "mine pad") => `(tactic| fail)
local macro_rules | `(tactic| walk_at "mine pad") => `(tactic| fail)
local macro_rules | `(tactic| walk_at "mine pad") => `(tactic| fail)
local macro_rules | `(tactic| walk_at "mine pad") => `(tactic| fail)
local macro_rules | `(tactic| walk_at "mine pad") => `(tactic| fail)
local macro_rules | `(tactic| walk_at "mine pad") => `(tactic| fail)
local macro_rules | `(tactic| walk_at "mine pad") => `(tactic| fail)
local macro_rules | `(tactic| walk_at "mine pad") => `(tactic| fail)
local macro_rules | `(tactic| walk_at "mine pad") => `(tactic| fail)
local macro_rules | `(tactic| walk_at "mine pad") => `(tactic| fail)
local macro_rules | `(tactic| walk_at "mine pad") => `(tactic| fail)
local macro_rules | `(tactic| walk_at "mine pad") => `(tactic| fail)
local macro_rules | `(tactic| walk_at "mine pad") => `(tactic| fail)
local macro_rules | `(tactic| walk_at "mine pad") => `(tactic| fail)
local macro_rules | `(tactic| walk_at "mine pad") => `(tactic| fail)
local macro_rules | `(tactic| walk_at "mine pad") => `(tactic| fail)
local macro_rules | `(tactic| walk_at "mine pad") => `(tactic| fail)
local macro_rules | `(tactic| walk_at "mine pad") => `(tactic| fail)
local macro_rules | `(tactic| walk_at "eval Call") => `(tactic| (k_here; (with_reducible show wpAny _ _ (eval (Expr.Call (Expr.Name _ _) _ [] _) _) _ _ _); refine Call_ ?_))
local macro_rules | `(tactic| walk_at "mine cases") => `(tactic| (
  (case muk1 => k_asm); (case muk2 => k_asm); (case muk3 => k_asm); (case muk4 => k_asm); (case muk5 => k_asm);
  (case mukK => first | exact rfl | assumption);
  (case mukp => first | trivial | assumption | omega | (refine ⟨?_, ?_⟩ <;> first | assumption | omega) | walk_at "mine pre");
  (case mukd => first | omega | ktr_room | cb_room);
  (case muku => first | omega | ktr_units | cb_units)))
local macro_rules | `(tactic| walk_at "mine use") => `(tactic| (
  (walk_at "mine cases");
  intro t9 h9 tk9 F9 N9; (try dsimp only); (try k_fold)))
local macro_rules | `(tactic| walk_at "mine use2") => `(tactic| (
  (walk_at "mine cases");
  intro D9 t9 u9 c9 h9 tk9 F9 N9 l9; (try k_lt l9); (try dsimp only); (try k_fold); (try k_sweep)))
local macro_rules | `(tactic| walk_at "mine use3") => `(tactic| (
  (walk_at "mine cases");
  intro y9 m9 d9 P9 D9 t9 u9 v9 c9 h9 tk9 F9 N9 l9; (try k_lt l9); (try dsimp only); (try k_fold); (try k_sweep)))
local macro_rules | `(tactic| walk_at "call ref") => `(tactic| (
  k_here
  first
   | ((with_reducible show wpAny _ _ (call (Value.ref 21) _) _ _ _); k_dflt (refine' Cl.use (c_isleap _ _) ?muk1 ?muk2 ?muk3 ?muk4 ?muk5 ?mukK ?mukp ?mukd ?muku ?_); walk_at "mine use")
   | ((with_reducible show wpAny _ _ (call (Value.ref 56) _) _ _ _); k_dflt (refine' Cl.use (c_is_leap _ _) ?muk1 ?muk2 ?muk3 ?muk4 ?muk5 ?mukK ?mukp ?mukd ?muku ?_); walk_at "mine use")
   | ((with_reducible show wpAny _ _ (call (Value.ref 28) _) _ _ _); k_dflt (refine' Cl.use (c_leapdays _ _ _ _) ?muk1 ?muk2 ?muk3 ?muk4 ?muk5 ?mukK ?mukp ?mukd ?muku ?_); walk_at "mine use")
   | ((with_reducible show wpAny _ _ (call (Value.ref 63) _) _ _ _); k_dflt (refine' Cl.use (c_dby _ _) ?muk1 ?muk2 ?muk3 ?muk4 ?muk5 ?mukK ?mukp ?mukd ?muku ?_); walk_at "mine use")
   | ((with_reducible show wpAny _ _ (call (Value.ref 101) _) _ _ _); k_dflt (refine' Cl.use (c_num _ _ _ _ _ _) ?muk1 ?muk2 ?muk3 ?muk4 ?muk5 ?mukK ?mukp ?mukd ?muku ?_); walk_at "mine use")
   | ((with_reducible show wpAny _ _ (call (Value.ref 70) _) _ _ _); k_dflt (refine' Cl.use (c_dim _ _ _ _) ?muk1 ?muk2 ?muk3 ?muk4 ?muk5 ?mukK ?mukp ?mukd ?muku ?_); walk_at "mine use")
   | ((with_reducible show wpAny _ _ (call (Value.ref 77) _) _ _ _); k_dflt (refine' Cl.use (c_cum _ _ _ _) ?muk1 ?muk2 ?muk3 ?muk4 ?muk5 ?mukK ?mukp ?mukd ?muku ?_); walk_at "mine use")))
local macro_rules | `(tactic| walk_at "subscriptTail") => `(tactic| (
  k_here
  (with_reducible show wpAny _ _ (subscriptTail _ _ (Value.ref _) (Value.int _ _)) _ _ _)
  (with_unfolding_all (refine' topListAny_K ?F ?X ?l ?i ?muk3 ?muk4 ?muk5 ?_; (case F => k_asm); (case X => k_asm); (case l => k_is); (case i => l_ints); (case muk3 => l_idx); (case muk4 => l_idx); (case muk5 => l_idx); k_whole))
  intro _))
theorem c_ymd {w mean mg mb} : ∀ (y : Int) (ty : Tok) (m : Int) (tm : Tok) (d : Int) (td : Tok), Claim w mean mg mb 84 ((1 ≤ m ∧ m ≤ 12) ∧ 1 ≤ d ∧ d ≤ len y m) 2 [.int y ty, .int m tm, .int d td] (fun t => .int (num y m d) t) := by
  dsimp only [Claim, Cl, CbRec, CbLists, CbRet, prog, loose]
  k_fill
  intros
  rename_i hpre _ _ hret
  obtain ⟨⟨p1, p2⟩, p3, p4⟩ := hpre
  refine wpAny_call ?_
  k_dflt cell_enter
  k_steps
  all_goals (refine' cb_retI hret ?e1 ?e2 ?e3; (case e2 => k_asm); (case e3 => first | k_asm | (refine' cb_drop ?cbN ?cbS; (case cbN => assumption); (case cbS => (intro p9 h9; kst_mem)))); (case e1 => (clear hret; exact (num_dby (by omega) (by omega)).symm)))
theorem c_years {w mean mg mb} : ∀ (y : Int) (ty : Tok), Claim w mean mg mb 115 (True) 1 [.int y ty] (fun t => .int (dby y) t) := by
  dsimp only [Claim, Cl, CbRec, CbLists, CbRet, prog, loose]
  k_fill
  intros
  rename_i hret
  refine wpAny_call ?_
  k_dflt cell_enter
  k_steps
  all_goals (refine' cb_retI hret ?e1 ?e2 ?e3; (case e2 => k_asm); (case e3 => first | k_asm | (refine' cb_drop ?cbN ?cbS; (case cbN => assumption); (case cbS => (intro p9 h9; kst_mem)))); (case e1 => (clear hret; first | exact years_lo (by omega) | exact years_hi (by omega))))
end
theorem c_next {w mean mg mb} : ∀ (y : Int) (ty : Tok) (m : Int) (tm : Tok), Claim2 w mean mg mb 42 (True) 0 [.int y ty, .int m tm] (if m = 12 then y + 1 else y) (if m = 12 then 1 else m + 1) := by
  dsimp only [Claim2, Cl2, prog, loose]
  k_fill
  intros
  rename_i hret
  refine wpAny_call ?_
  k_dflt cell_enter
  k_steps
  all_goals (refine' end2 hret ?e1 ?e2 ?e3 ?e4 ?e5; (case e3 => k_asm); (case e4 => first | k_asm | (refine' cb_drop ?cbN ?cbS; (case cbN => assumption); (case cbS => (intro p9 h9; kst_mem)))); (case e5 => first | assumption | (intro p9 h9; refine ‹∀ p ∈ _, p.1 < _› p9 ?_; kst_mem)); (case e1 => (clear hret; (simp [*]; done))); (case e2 => (clear hret; (simp [*]; done))))
theorem c_prev {w mean mg mb} : ∀ (y : Int) (ty : Tok) (m : Int) (tm : Tok), Claim2 w mean mg mb 35 (True) 0 [.int y ty, .int m tm] (if m = 1 then y - 1 else y) (if m = 1 then 12 else m - 1) := by
  dsimp only [Claim2, Cl2, prog, loose]
  k_fill
  intros
  rename_i hret
  refine wpAny_call ?_
  k_dflt cell_enter
  k_steps
  all_goals (refine' end2 hret ?e1 ?e2 ?e3 ?e4 ?e5; (case e3 => k_asm); (case e4 => first | k_asm | (refine' cb_drop ?cbN ?cbS; (case cbN => assumption); (case cbS => (intro p9 h9; kst_mem)))); (case e5 => first | assumption | (intro p9 h9; refine ‹∀ p ∈ _, p.1 < _› p9 ?_; kst_mem)); (case e1 => (clear hret; (simp [*]; done))); (case e2 => (clear hret; (simp [*]; done))))
def Valid (y m d : Int) : Prop := (1 ≤ m ∧ m ≤ 12) ∧ 1 ≤ d ∧ d ≤ len y m
theorem len_vals (y : Int) {m : Int} (h1 : 1 ≤ m) (h2 : m ≤ 12) : (m = 2 ∧ leapB y = true ∧ len y m = 29) ∨ (m = 2 ∧ leapB y = false ∧ len y m = 28) ∨ ((m = 4 ∨ m = 6 ∨ m = 9 ∨ m = 11) ∧ len y m = 30) ∨ ((m = 1 ∨ m = 3 ∨ m = 5 ∨ m = 7 ∨ m = 8 ∨ m = 10 ∨ m = 12) ∧ len y m = 31) := by
  rcases months h1 h2 with rfl | rfl | rfl | rfl | rfl | rfl | rfl | rfl | rfl | rfl | rfl | rfl
  all_goals first | (cases hl : leapB y <;> simp [len, hl]; done) | (simp [len]; done) | (simp [len]; decide)
theorem cum_succ (y : Int) {m : Int} (h1 : 1 ≤ m) (h2 : m ≤ 11) : cum y (m + 1) = cum y m + len y m := by
  rcases months h1 (by omega) with rfl | rfl | rfl | rfl | rfl | rfl | rfl | rfl | rfl | rfl | rfl | rfl
  all_goals first | omega | (cases hl : leapB y <;> simp [cum, len, hl]; done) | (cases hl : leapB y <;> simp [cum, len, hl] <;> decide)
theorem cum_one (y : Int) : cum y 1 = 0 := by simp [cum]
theorem cum_pred (y : Int) {m : Int} (h1 : 2 ≤ m) (h2 : m ≤ 12) : cum y m - len y (m - 1) = cum y (m - 1) := by
  have h := cum_succ y (m := m - 1) (by omega) (by omega)
  have e : m - 1 + 1 = m := by omega
  rw [e] at h
  omega
section
variable {n a r1 b r2 c r3 d r4 : Int}
theorem ord_dby (e1 : n - 1 = 146097 * a + r1) (e2 : r1 = 36524 * b + r2) (e3 : r2 = 1461 * c + r3) (e4 : r3 = 365 * d + r4)
    (l1 : 0 ≤ r1) (h1 : r1 < 146097) (l2 : 0 ≤ r2) (h2 : r2 < 36524) (l3 : 0 ≤ r3) (h3 : r3 < 1461) (l4 : 0 ≤ r4) (h4 : r4 < 365) (hd : d ≠ 4) (hb : b ≠ 4) :
    dby (a * 400 + 1 + (b * 100 + c * 4 + d)) = n - 1 - r4 := by
  rw [dby_eq]
  have b0 : 0 ≤ b := by omega
  have b3 : b ≤ 3 := by omega
  have c0 : 0 ≤ c := by omega
  have c24 : c ≤ 24 := by omega
  have d0 : 0 ≤ d := by omega
  have d3 : d ≤ 3 := by omega
  have q4 : (a * 400 + 1 + (b * 100 + c * 4 + d) - 1) / 4 = 100 * a + 25 * b + c := by omega
  have q100 : (a * 400 + 1 + (b * 100 + c * 4 + d) - 1) / 100 = 4 * a + b := by omega
  have q400 : (a * 400 + 1 + (b * 100 + c * 4 + d) - 1) / 400 = a := by omega
  rw [q4, q100, q400]
  omega
theorem ord_leap (e1 : n - 1 = 146097 * a + r1) (e2 : r1 = 36524 * b + r2) (e3 : r2 = 1461 * c + r3) (e4 : r3 = 365 * d + r4)
    (l1 : 0 ≤ r1) (h1 : r1 < 146097) (l2 : 0 ≤ r2) (h2 : r2 < 36524) (l3 : 0 ≤ r3) (h3 : r3 < 1461) (l4 : 0 ≤ r4) (h4 : r4 < 365) (hd : d ≠ 4) (hb : b ≠ 4) :
    leapB (a * 400 + 1 + (b * 100 + c * 4 + d)) = true ↔ (d = 3 ∧ (c ≠ 24 ∨ b = 3)) := by
  rw [leapB_iff]
  have b0 : 0 ≤ b := by omega
  have b3 : b ≤ 3 := by omega
  have c0 : 0 ≤ c := by omega
  have c24 : c ≤ 24 := by omega
  have d0 : 0 ≤ d := by omega
  have d3 : d ≤ 3 := by omega
  omega
theorem ord_last (e1 : n - 1 = 146097 * a + r1) (e2 : r1 = 36524 * b + r2) (e3 : r2 = 1461 * c + r3) (e4 : r3 = 365 * d + r4)
    (l1 : 0 ≤ r1) (h1 : r1 < 146097) (l2 : 0 ≤ r2) (h2 : r2 < 36524) (l3 : 0 ≤ r3) (h3 : r3 < 1461) (l4 : 0 ≤ r4) (h4 : r4 < 365) (hd : d = 4 ∨ b = 4) :
    Valid (a * 400 + 1 + (b * 100 + c * 4 + d) - 1) 12 31 ∧ num (a * 400 + 1 + (b * 100 + c * 4 + d) - 1) 12 31 = n := by
  refine ⟨⟨⟨by decide, by decide⟩, by decide, ?_⟩, ?_⟩
  · have h := len_vals (a * 400 + 1 + (b * 100 + c * 4 + d) - 1) (m := 12) (by decide) (by decide)
    omega
  · rw [num_late (by decide)]
    have c0 : 0 ≤ c := by omega
    have d0 : 0 ≤ d := by omega
    have b0 : 0 ≤ b := by omega
    have e5 : ((12 : Int) + 9) % 12 = 9 := by decide
    rw [e5]
    by_cases hb : b = 4
    · have c1 : c = 0 := by omega
      have d1 : d = 0 := by omega
      subst hb; subst c1; subst d1
      have q4 : (a * 400 + 1 + (4 * 100 + 0 * 4 + 0) - 1) / 4 = 100 * a + 100 := by omega
      have q100 : (a * 400 + 1 + (4 * 100 + 0 * 4 + 0) - 1) / 100 = 4 * a + 4 := by omega
      have q400 : (a * 400 + 1 + (4 * 100 + 0 * 4 + 0) - 1) / 400 = a + 1 := by omega
      rw [q4, q100, q400]
      omega
    · have d1 : d = 4 := by omega
      subst d1
      have b3 : b ≤ 3 := by omega
      have c23 : c ≤ 23 := by omega
      have q4 : (a * 400 + 1 + (b * 100 + c * 4 + 4) - 1) / 4 = 100 * a + 25 * b + c + 1 := by omega
      have q100 : (a * 400 + 1 + (b * 100 + c * 4 + 4) - 1) / 100 = 4 * a + b := by omega
      have q400 : (a * 400 + 1 + (b * 100 + c * 4 + 4) - 1) / 400 = a := by omega
      rw [q4, q100, q400]
      omega
theorem ord_zero (e1 : n - 1 = 146097 * a + r1) (e2 : r1 = 36524 * b + r2) (e3 : r2 = 1461 * c + r3) (e4 : r3 = 365 * d + r4)
    (l1 : 0 ≤ r1) (h1 : r1 < 146097) (l2 : 0 ≤ r2) (h2 : r2 < 36524) (l3 : 0 ≤ r3) (h3 : r3 < 1461) (l4 : 0 ≤ r4) (h4 : r4 < 365) (hd : d = 4 ∨ b = 4) : r4 = 0 := by omega
end
/-- where the month by (n + 50) >> 5 does not overshoot, and where it does -/
theorem ord_fit {y m r : Int} (l : 0 ≤ r) (h : r < 365) (lo : 32 * m ≤ r + 50) (hi : r + 50 < 32 * m + 32) (hp : cum y m ≤ r) : (1 ≤ m ∧ m ≤ 12) ∧ 0 ≤ r - cum y m ∧ r - cum y m < len y m := by
  have h1 : 1 ≤ m := by omega
  have h2 : m ≤ 12 := by omega
  refine ⟨⟨h1, h2⟩, by omega, ?_⟩
  have hv := len_vals y h1 h2
  rcases months h1 h2 with rfl | rfl | rfl | rfl | rfl | rfl | rfl | rfl | rfl | rfl | rfl | rfl
  all_goals first | (cases hl : leapB y <;> simp [cum, hl] at hp hv ⊢ <;> omega) | skip
theorem ord_over {y m r : Int} (l : 0 ≤ r) (h : r < 365) (lo : 32 * m ≤ r + 50) (hi : r + 50 < 32 * m + 32) (hp : r < cum y m) : (2 ≤ m ∧ m ≤ 12) ∧ 0 ≤ r - cum y (m - 1) ∧ r - cum y (m - 1) < len y (m - 1) := by
  have h1 : 1 ≤ m := by omega
  have h2 : m ≤ 12 := by omega
  have h1' : 2 ≤ m := by
    by_cases e : m = 1
    · subst e; rw [cum_one] at hp; omega
    · omega
  have e := cum_pred y h1' h2
  refine ⟨⟨h1', h2⟩, ?_, by omega⟩
  rcases months h1 h2 with rfl | rfl | rfl | rfl | rfl | rfl | rfl | rfl | rfl | rfl | rfl | rfl
  all_goals first | omega | (cases hl : leapB y <;> simp [cum, hl] at hp ⊢ <;> omega) | skip
theorem divmodL {prog : Program} {w : World} {A : Around} {E : Value → Shared → Prop} {s : Shared} {a b : Int} {t u : Tok} {Q : Value → Shared → Prop} {h₀ : Heap} {L : Addr} {m : Str → Option Value} {news : List (Addr × Obj)} (mk : Mark news) (F : Fr h₀ L s.heap m) {news' : List (Addr × Obj)} (N' : News h₀ L s.heap news') (hs : ∀ p ∈ news, p ∈ news') (hb : 0 < b)
    (h : ∀ q r : Int, a = b * q + r → 0 ≤ r → r < b → ∀ h', Fr h₀ L h' m → News h₀ L h' ((s.heap.objs.size, { cls := .type "tuple", data := .seq #[.int q s.toks, .int r (s.toks + 1)] }) :: news) →
      Q (.ref s.heap.objs.size) { s with toks := s.toks + 1 + 1, heap := h' })
    (hp : Builtin.divisionGoesByPylong a b = false) :
    wpAny (model prog w) A (call (.builtin "divmod") [.int a t, .int b u]) Q E s := by
  have _ := mk
  have N := cb_drop N' hs
  have f := fdiv_fmod_facts a b
  exact divmod_N F N (by omega) (fun h' F' N' => h (a.fdiv b) (a.fmod b) f.2.1.symm (f.2.2.1 hb).1 (f.2.2.1 hb).2 h' F' N') (Or.inl hp)
theorem rshift5 {prog : Program} {w : World} {A : Around} {E : Value → Shared → Prop} {s : Shared} {a : Int} {t u : Tok} {Q : Value → Shared → Prop}
    (h : ∀ q : Int, 32 * q ≤ a → a < 32 * q + 32 → Q (.int q s.toks) { s with toks := s.toks + 1 }) : wpAny (model prog w) A (binaryOp .RShift (.int a t) (.int 5 u)) Q E s := by
  have e : ((2 : Int) ^ (5 : Int).toNat) = 32 := by decide
  have f := fdiv_fmod_facts a 32
  have f3 := f.2.2.1 (by decide)
  refine rshift_int (by decide) ?_
  rw [e]
  exact h (a.fdiv 32) (by omega) (by omega)
def JI (x : Int) (s : Shared) (v : Value) (s' : Shared) : Prop := ∃ (t : Tok) (tk : Nat), v = .int x t ∧ s' = { s with toks := tk }
def JB (b : Bool) (s : Shared) (v : Value) (s' : Shared) : Prop := ∃ (tk : Nat), v = .bool b ∧ s' = { s with toks := tk }
theorem JI.intro {x y : Int} {s : Shared} {t : Tok} {tk : Nat} (e : y = x) : JI x s (.int y t) { s with toks := tk } := ⟨t, tk, by rw [e], rfl⟩
theorem JB.intro {b c : Bool} {s : Shared} {tk : Nat} (e : c = b) : JB b s (.bool c) { s with toks := tk } := ⟨tk, by rw [e], rfl⟩
section
variable {M : Model} {A : Around} {E : Value → Shared → Prop} {Q : Value → Shared → Prop} {s : Shared} {cm : Sem Value}
structure Jn : Prop where
  one :: (mark : True)
theorem joinI (x : Int) (h1 : wpAny M A cm (fun v s' => JI x s v s') E s) (h2 : ∀ (t : Tok) (tk : Nat), Q (.int x t) { s with toks := tk }) : wpAny M A cm Q E s :=
  wpAny_mono h1 (fun v s' h => by obtain ⟨t, tk, rfl, rfl⟩ := h; exact h2 t tk) fun _ _ h => h
theorem joinB (b : Bool) (h1 : wpAny M A cm (fun v s' => JB b s v s') E s) (h2 : ∀ (tk : Nat), Q (.bool b) { s with toks := tk }) : wpAny M A cm Q E s :=
  wpAny_mono h1 (fun v s' h => by obtain ⟨tk, rfl, rfl⟩ := h; exact h2 tk) fun _ _ h => h
variable {n a r1 b r2 c r3 d r4 : Int}
theorem join_leap (e1 : n - 1 = 146097 * a + r1) (e2 : r1 = 36524 * b + r2) (e3 : r2 = 1461 * c + r3) (e4 : r3 = 365 * d + r4)
    (l1 : 0 ≤ r1) (h1 : r1 < 146097) (l2 : 0 ≤ r2) (h2 : r2 < 36524) (l3 : 0 ≤ r3) (h3 : r3 < 1461) (l4 : 0 ≤ r4) (h4 : r4 < 365) (hd : d ≠ 4) (hb : b ≠ 4)
    (hc : Jn → (leapB (a * 400 + 1 + (b * 100 + c * 4 + d)) = true ↔ (d = 3 ∧ (c ≠ 24 ∨ b = 3))) → wpAny M A cm (fun v s' => JB (leapB (a * 400 + 1 + (b * 100 + c * 4 + d))) s v s') E s)
    (hk : dby (a * 400 + 1 + (b * 100 + c * 4 + d)) = n - 1 - r4 → ∀ (tk : Nat), Q (.bool (leapB (a * 400 + 1 + (b * 100 + c * 4 + d)))) { s with toks := tk }) : wpAny M A cm Q E s :=
  joinB _ (hc ⟨trivial⟩ (ord_leap e1 e2 e3 e4 l1 h1 l2 h2 l3 h3 l4 h4 hd hb)) (hk (ord_dby e1 e2 e3 e4 l1 h1 l2 h2 l3 h3 l4 h4 hd hb))
theorem join_cum {Y m r D : Int} (hy : dby Y = D) (lo : 32 * m ≤ r + 50) (hi : r + 50 < 32 * m + 32) (l : 0 ≤ r) (h : r < 365)
    (hc : Jn → wpAny M A cm (fun v s' => JI (cum Y m) s v s') E s)
    (hk : 1 ≤ m → m ≤ 12 → (cum Y m ≤ r → 0 ≤ r - cum Y m ∧ r - cum Y m < len Y m) → ∀ (t : Tok) (tk : Nat), Q (.int (cum Y m) t) { s with toks := tk }) : wpAny M A cm Q E s := by
  have _ := hy
  exact joinI _ (hc ⟨trivial⟩) (hk (by omega) (by omega) fun hp => (ord_fit l h lo hi hp).2)
theorem join_len {Y m r D : Int} (hy : dby Y = D) (lo : 32 * m ≤ r + 50) (hi : r + 50 < 32 * m + 32) (l : 0 ≤ r) (h : r < 365) (hp : r < cum Y m)
    (hc : Jn → 2 ≤ m → m ≤ 12 → wpAny M A cm (fun v s' => JI (len Y (m - 1)) s v s') E s)
    (hk : 2 ≤ m → cum Y m - len Y (m - 1) = cum Y (m - 1) → 0 ≤ r - cum Y (m - 1) → r - cum Y (m - 1) < len Y (m - 1) → ∀ (t : Tok) (tk : Nat), Q (.int (len Y (m - 1)) t) { s with toks := tk }) : wpAny M A cm Q E s := by
  have _ := hy
  have f := ord_over l h lo hi hp
  exact joinI _ (hc ⟨trivial⟩ f.1.1 f.1.2) (hk f.1.1 (cum_pred Y f.1.1 f.1.2) f.2.1 f.2.2)
end
theorem cum_hi {Y m : Int} (h : 2 < m) : [(-1 : Int), 0, 31, 59, 90, 120, 151, 181, 212, 243, 273, 304, 334].getD m.toNat 0 + (if leapB Y = true then 1 else 0) = cum Y m := by
  unfold cum; simp only [h, true_and]
theorem cum_lo {Y m : Int} (h : ¬ 2 < m) : [(-1 : Int), 0, 31, 59, 90, 120, 151, 181, 212, 243, 273, 304, 334].getD m.toNat 0 + (if decide (2 < m) = true then 1 else 0) = cum Y m := by
  unfold cum; simp only [h, false_and, decide_false, Bool.false_eq_true]
theorem len_hi {Y m : Int} (h : m = 2) : [(-1 : Int), 31, 28, 31, 30, 31, 30, 31, 31, 30, 31, 30, 31].getD m.toNat 0 + (if leapB Y = true then 1 else 0) = len Y m := by
  subst h
  cases hl : leapB Y <;> simp [len, hl]
theorem len_lo {Y m : Int} (h1 : 1 ≤ m) (h2 : m ≤ 12) (h : m ≠ 2) : [(-1 : Int), 31, 28, 31, 30, 31, 30, 31, 31, 30, 31, 30, 31].getD m.toNat 0 + (if (m == 2) = true then 1 else 0) = len Y m := by
  rw [if_neg (by simp [h]), dimL_len (y := Y) h1 h2 (fun x => h x.1), Int.add_zero]
section
local macro_rules | `(tactic| walk_at "mine pad") => `(tactic| fail)
local macro_rules | `(tactic| walk_at "mine pad") => `(tactic| fail)
local macro_rules | `(tactic| walk_at "mine pad") => `(tactic| fail)
local macro_rules | `(tactic| walk_at "mine pad") => `(tactic| fail)
local macro_rules | `(tactic| walk_at "mine pad") => `(tactic| fail)
local macro_rules | `(tactic| walk_at "mine pad") => `(tactic| fail)
local macro_rules | `(tactic| walk_at "mine pad") => `(tactic| fail)
local macro_rules | `(tactic| walk_at "mine pad") => `(tactic| fail)
local macro_rules | `(tactic| walk_at "mine pad") => `(tactic| fail)
local macro_rules | `(tactic| walk_at "mine pad") => `(tactic| fail)
local macro_rules | `(tactic| walk_at "mine pad") => `(tactic| fail)
local macro_rules | `(tactic| walk_at "mine pad") => `(tactic| fail)
local macro_rules | `(tactic| walk_at "mine pad") => `(tactic| fail)
local macro_rules | `(tactic| walk_at "mine pad") => `(tactic| fail)
local macro_rules | `(tactic| walk_at "mine pad") => `(tactic| fail)
local macro_rules | `(tactic| walk_at "mine pad") => `(tactic| fail)
local macro_rules | `(tactic| walk_at "mine pad") => `(tactic| fail)
local macro_rules | `(tactic| walk_at "mine pad") => `(tactic| fail)
local macro_rules | `(tactic| walk_at "mine pad") => `(tactic| fail)
local macro_rules | `(tactic| walk_at "mine pad") => `(tactic| fail)
local macro_rules | `(tactic| walk_at "mine pad") => `(tactic| fail)
local macro_rules | `(tactic| walk_at "mine pad") => `(tactic| fail)
local macro_rules | `(tactic| walk_at "mine pad") => `(tactic| fail)
local macro_rules | `(tactic| walk_at "mine pad") => `(tactic| fail)
local macro_rules | `(tactic| walk_at "mine pad") => `(tactic| fail)
local macro_rules | `(tactic| walk_at "eval Call") => `(tactic| (k_here; (with_reducible show wpAny _ _ (eval (Expr.Call (Expr.Name _ _) _ [] _) _) _ _ _); refine Call_ ?_))
local macro_rules | `(tactic| walk_at "mine cases") => `(tactic| (
  (case muk1 => k_asm); (case muk2 => k_asm); (case muk3 => k_asm); (case muk4 => k_asm); (case muk5 => k_asm);
  (case mukK => first | exact rfl | assumption);
  (case mukp => first | trivial | assumption | omega | (refine ⟨?_, ?_⟩ <;> first | assumption | omega) | walk_at "mine pre");
  (case mukd => first | omega | ktr_room | cb_room);
  (case muku => first | omega | ktr_units | cb_units)))
local macro_rules | `(tactic| walk_at "mine use") => `(tactic| (
  (walk_at "mine cases");
  intro t9 h9 tk9 F9 N9; (try dsimp only); (try k_fold)))
local macro_rules | `(tactic| walk_at "mine use2") => `(tactic| (
  (walk_at "mine cases");
  intro D9 t9 u9 c9 h9 tk9 F9 N9 l9; (try k_lt l9); (try dsimp only); (try k_fold); (try k_sweep)))
local macro_rules | `(tactic| walk_at "mine use3") => `(tactic| (
  (walk_at "mine cases");
  intro y9 m9 d9 P9 D9 t9 u9 v9 c9 h9 tk9 F9 N9 l9; (try k_lt l9); (try dsimp only); (try k_fold); (try k_sweep)))
local macro_rules | `(tactic| walk_at "call ref") => `(tactic| (
  k_here
  first
   | ((with_reducible show wpAny _ _ (call (Value.ref 56) _) _ _ _); k_dflt (refine' Cl.use (c_is_leap _ _) ?muk1 ?muk2 ?muk3 ?muk4 ?muk5 ?mukK ?mukp ?mukd ?muku ?_); walk_at "mine use")
   | ((with_reducible show wpAny _ _ (call (Value.ref 70) _) _ _ _); k_dflt (refine' Cl.use (c_dim _ _ _ _) ?muk1 ?muk2 ?muk3 ?muk4 ?muk5 ?mukK ?mukp ?mukd ?muku ?_); walk_at "mine use")))
local macro_rules | `(tactic| walk_at "subscriptTail") => `(tactic| (
  k_here
  (with_reducible show wpAny _ _ (subscriptTail _ _ (Value.ref _) (Value.int _ _)) _ _ _)
  (with_unfolding_all (refine' topListAny_K ?F ?X ?l ?i ?muk3 ?muk4 ?muk5 ?_; (case F => k_asm); (case X => k_asm); (case l => k_is); (case i => l_ints); (case muk3 => l_idx); (case muk4 => l_idx); (case muk5 => l_idx); k_whole))
  intro _))
local macro_rules | `(tactic| walk_at "call builtin:divmod") => `(tactic| ((with_reducible show wpAny _ _ (call (Value.builtin _) [Value.int _ _, Value.int _ _]) _ _ _); k_dflt (refine divmodL (by assumption) (by assumption) (by assumption) (by first | exact fun _ h => h | exact fun _ h => List.Mem.tail _ h) (by decide) ?_ (PyProof.noPylong_of_log2 (by decide +kernel))); intro q9 r9 e9 lo9 hi9 h' F' N'))
local macro_rules | `(tactic| walk_at "binaryOp RShift int int") => `(tactic| (k_here; (refine rshift5 ?_); intro q9 lo9 hi9))
local macro_rules | `(tactic| walk_at "JI") => `(tactic| (k_dflt (refine JI.intro ?_); walk_at "mine ji"))
local macro_rules | `(tactic| walk_at "JB") => `(tactic| (k_dflt (refine JB.intro ?_); walk_at "mine jb"))

local macro_rules | `(tactic| walk_at "eval BoolOp") => `(tactic| (
  (fail_if_success (rename Jn => hj9))
  (with_reducible show wpAny _ _ (eval (Expr.BoolOp BoolOp.And [Expr.Compare (Expr.Name (Str.ofString "n1") _) _ _ _, _] _) _) _ _ _)
  k_dflt (refine' join_leap (by assumption) (by assumption) (by assumption) (by assumption) (by assumption) (by assumption) (by assumption) (by assumption) (by assumption) (by assumption) (by assumption) (by assumption) (by assumption) (by assumption) (fun hj9 hl9 => ?_) (fun hy9 tk => ?_))))
local macro_rules | `(tactic| walk_at "eval BinOp") => `(tactic| (
  (fail_if_success (rename Jn => hj9))
  (with_reducible show wpAny _ _ (eval (Expr.BinOp (Expr.Subscript (Expr.Name (Str.ofString "_DAYS_BEFORE_MONTH") _) _ _) Operator.Add (Expr.BoolOp _ _ _) _) _) _ _ _)
  k_dflt (refine' join_cum (by assumption) (by assumption) (by assumption) (by assumption) (by assumption) (fun hj9 => ?_) (fun ha9 hb9 hc9 t tk => ?_))))
local macro_rules | `(tactic| walk_at "eval BinOp") => `(tactic| (
  (fail_if_success (rename Jn => hj9))
  (with_reducible show wpAny _ _ (eval (Expr.BinOp (Expr.Subscript (Expr.Name (Str.ofString "_DAYS_IN_MONTH") _) _ _) Operator.Add (Expr.BoolOp _ _ _) _) _) _ _ _)
  k_dflt (refine' join_len (by assumption) (by assumption) (by assumption) (by assumption) (by assumption) (by assumption) (fun hj9 ha9 hb9 => ?_) (fun hc9 hd9 he9 hf9 t tk => ?_))))
local macro_rules | `(tactic| walk_at "mine jb") => `(tactic| ((rename (_ = true ↔ _) => hl8); rw [Bool.eq_iff_iff, hl8]; simp only [beq_iff_eq, bne_iff_ne]; omega))
local macro_rules | `(tactic| walk_at "mine ji") => `(tactic| first | exact cum_hi (by omega) | exact cum_lo (by omega) | exact len_hi (by omega) | exact len_lo (by omega) (by omega) (by omega))
local macro_rules | `(tactic| walk_at "mine absurd") => `(tactic| first
  | exact absurd (ord_zero (by assumption) (by assumption) (by assumption) (by assumption) (by assumption) (by assumption) (by assumption) (by assumption) (by assumption) (by assumption) (by assumption) (by assumption) (.inl (by assumption))) (by assumption)
  | exact absurd (ord_zero (by assumption) (by assumption) (by assumption) (by assumption) (by assumption) (by assumption) (by assumption) (by assumption) (by assumption) (by assumption) (by assumption) (by assumption) (.inr (by assumption))) (by assumption)
  | exact absurd ‹(_ == _) = false› (by simp)
  | omega)
local macro_rules | `(tactic| walk_at "forall") => `(tactic| (exfalso; walk_at "mine absurd"))
theorem c_ord {w mean mg mb} : ∀ (n : Int) (tn : Tok), Claim3 w mean mg mb 94 True 2 [.int n tn] (fun y m d => Valid y m d ∧ num y m d = n) := by
  dsimp only [Claim3, Cl3, prog, loose]
  k_fill
  intro n tn news
  intros
  rename_i hret
  have mk : Mark news := trivial
  refine wpAny_call ?_
  k_dflt cell_enter
  k_steps
  all_goals (refine' end3 hret ?e1 ?e3 ?e4 ?e5; (case e3 => k_asm); (case e4 => exact cb_drop (by assumption) drop_snd); (case e5 => exact all_of (And.right ‹_ ∧ AllLt _ _›)); (case e1 => (first
    | exact ord_last (by assumption) (by assumption) (by assumption) (by assumption) (by assumption) (by assumption) (by assumption) (by assumption) (by assumption) (by assumption) (by assumption) (by assumption) (.inl (by assumption))
    | exact ord_last (by assumption) (by assumption) (by assumption) (by assumption) (by assumption) (by assumption) (by assumption) (by assumption) (by assumption) (by assumption) (by assumption) (by assumption) (.inr (by assumption))
    | (refine ⟨⟨⟨by omega, by omega⟩, by omega, by omega⟩, ?_⟩; rw [num_dby (by omega) (by omega)]; omega))))
end
theorem eqv2 (x y z w : Int) : PyData.eqv (.tuple [.int x, .int y]) (.tuple [.int z, .int w]) = decide (x = z ∧ y = w) := by
  simp only [PyData.eqv, PyData.eqvAll]
  by_cases h : x = z <;> by_cases h' : y = w <;> simp [h, h']
theorem eq_tup2 {prog : Program} {w : World} {A : Around} {E : Value → Shared → Prop} {s : Shared} {h₀ : Heap} {L a b : Addr} {news : List (Addr × Obj)} {x y z u : Int} {t1 t2 t3 t4 : Tok} {c d : Nat} {Q : Value → Shared → Prop} (N : News h₀ L s.heap news)
    (ha : (a, ({ cls := .type "tuple", data := .seq #[Value.int x t1, Value.int y t2] c } : Obj)) ∈ news) (hb : (b, ({ cls := .type "tuple", data := .seq #[Value.int z t3, Value.int u t4] d } : Obj)) ∈ news) (hu : A.units + 64 < cLine)
    (h : Q (.bool (decide (x = z ∧ y = u))) s) : wpAny (model prog w) A (compareOp .Eq (.ref a) (.ref b)) Q E s := by
  refine eq_dataH (da := .tuple [.int x, .int y]) (db := .tuple [.int z, .int u]) (reads_tuple_at (News.get N ha) rfl rfl (.cons (Reads.int _ _) (.cons (Reads.int _ _) .nil))) (reads_tuple_at (News.get N hb) rfl rfl (.cons (Reads.int _ _) (.cons (Reads.int _ _) .nil))) rfl rfl hu ?_
  rw [eqv2]
  exact h
theorem ne_tup2 {prog : Program} {w : World} {A : Around} {E : Value → Shared → Prop} {s : Shared} {h₀ : Heap} {L a b : Addr} {news : List (Addr × Obj)} {x y z u : Int} {t1 t2 t3 t4 : Tok} {c d : Nat} {Q : Value → Shared → Prop} (N : News h₀ L s.heap news)
    (ha : (a, ({ cls := .type "tuple", data := .seq #[Value.int x t1, Value.int y t2] c } : Obj)) ∈ news) (hb : (b, ({ cls := .type "tuple", data := .seq #[Value.int z t3, Value.int u t4] d } : Obj)) ∈ news) (hu : A.units + 64 < cLine)
    (h : Q (.bool (!decide (x = z ∧ y = u))) s) : wpAny (model prog w) A (compareOp .NotEq (.ref a) (.ref b)) Q E s := by
  refine ne_dataH (da := .tuple [.int x, .int y]) (db := .tuple [.int z, .int u]) (reads_tuple_at (News.get N ha) rfl rfl (.cons (Reads.int _ _) (.cons (Reads.int _ _) .nil))) (reads_tuple_at (News.get N hb) rfl rfl (.cons (Reads.int _ _) (.cons (Reads.int _ _) .nil))) rfl rfl hu ?_
  rw [eqv2]
  exact h
theorem eqv3 (x y r z w q : Int) : PyData.eqv (.tuple [.int x, .int y, .int r]) (.tuple [.int z, .int w, .int q]) = decide (x = z ∧ y = w ∧ r = q) := by
  simp only [PyData.eqv, PyData.eqvAll]
  by_cases h : x = z <;> by_cases h' : y = w <;> by_cases h'' : r = q <;> simp [h, h', h'']
theorem ne_tup3 {prog : Program} {w : World} {A : Around} {E : Value → Shared → Prop} {s : Shared} {h₀ : Heap} {L a b : Addr} {news : List (Addr × Obj)} {x y r z u q : Int} {t1 t2 t3 t4 t5 t6 : Tok} {c d : Nat} {Q : Value → Shared → Prop} (N : News h₀ L s.heap news)
    (ha : (a, ({ cls := .type "tuple", data := .seq #[Value.int x t1, Value.int y t2, Value.int r t5] c } : Obj)) ∈ news) (hb : (b, ({ cls := .type "tuple", data := .seq #[Value.int z t3, Value.int u t4, Value.int q t6] d } : Obj)) ∈ news) (hu : A.units + 64 < cLine)
    (h : Q (.bool (!decide (x = z ∧ y = u ∧ r = q))) s) : wpAny (model prog w) A (compareOp .NotEq (.ref a) (.ref b)) Q E s := by
  refine ne_dataH (da := .tuple [.int x, .int y, .int r]) (db := .tuple [.int z, .int u, .int q]) (reads_tuple_at (News.get N ha) rfl rfl (.cons (Reads.int _ _) (.cons (Reads.int _ _) (.cons (Reads.int _ _) .nil)))) (reads_tuple_at (News.get N hb) rfl rfl (.cons (Reads.int _ _) (.cons (Reads.int _ _) (.cons (Reads.int _ _) .nil)))) rfl rfl hu ?_
  rw [eqv3]
  exact h
theorem on_start {y m : Int} (h : 1 ≤ m) : Dat.tuple [Dat.int y, Dat.int 1] = Dat.tuple [Dat.int y, Dat.int ((([] : List Int).length : Int) + 1)] ∧ dby y = dby y + cum y ((([] : List Int).length : Int) + 1) ∧ (([] : List Int).length : Int) < m := by
  refine ⟨rfl, ?_, ?_⟩
  · show dby y = dby y + cum y 1
    rw [cum_one]; omega
  · show (0 : Int) < m
    omega
theorem on_step {y m t : Int} {pre : List Int} {k : Int} (ht : t = dby y + cum y ((pre.length : Int) + 1)) (hlt : (pre.length : Int) < m) (hm : m ≤ 12) (hne : (pre.length : Int) + 1 ≠ m) :
    Dat.tuple [Dat.int (if (pre.length : Int) + 1 = 12 then y + 1 else y), Dat.int (if (pre.length : Int) + 1 = 12 then 1 else (pre.length : Int) + 1 + 1)] = Dat.tuple [Dat.int y, Dat.int (((pre ++ [k]).length : Int) + 1)] ∧ t + len y ((pre.length : Int) + 1) = dby y + cum y (((pre ++ [k]).length : Int) + 1) ∧ ((pre ++ [k]).length : Int) < m := by
  have e : ((pre ++ [k]).length : Int) = (pre.length : Int) + 1 := by simp
  have h12 : ¬ ((pre.length : Int) + 1 = 12) := by omega
  rw [e, if_neg h12, if_neg h12]
  refine ⟨rfl, ?_, by omega⟩
  rw [cum_succ y (by omega) (by omega), ht]
  omega
theorem on_ret {y m d t k : Int} (p1 : 1 ≤ m) (p2 : m ≤ 12) (e : k = m) (h : t = dby y + cum y k) : t + d = num y m d := by
  subst e
  rw [num_dby p1 p2, h]
theorem on_out {m : Int} (p2 : m ≤ 12) (h : ((rangeKs 0 (11 - 0 : Int).toNat).length : Int) < m) (hne : ((rangeKs 0 (11 - 0 : Int).toNat).length : Int) + 1 ≠ m) : False := by
  rw [rangeKs_length] at h hne
  have e : ((11 - 0 : Int).toNat : Int) = 11 := by decide
  rw [e] at h hne
  omega
section
local macro_rules | `(tactic| walk_at "mine pad") => `(tactic| fail)
local macro_rules | `(tactic| walk_at "mine pad") => `(tactic| fail)
local macro_rules | `(tactic| walk_at "mine pad") => `(tactic| fail)
local macro_rules | `(tactic| walk_at "mine pad") => `(tactic| fail)
local macro_rules | `(tactic| walk_at "mine pad") => `(tactic| fail)
local macro_rules | `(tactic| walk_at "mine pad") => `(tactic| fail)
local macro_rules | `(tactic| walk_at "mine pad") => `(tactic| fail)
local macro_rules | `(tactic| walk_at "mine pad") => `(tactic| fail)
local macro_rules | `(tactic| walk_at "mine pad") => `(tactic| fail)
local macro_rules | `(tactic| walk_at "mine pad") => `(tactic| fail)
local macro_rules | `(tactic| walk_at "mine pad") => `(tactic| fail)
local macro_rules | `(tactic| walk_at "mine pad") => `(tactic| fail)
local macro_rules | `(tactic| walk_at "mine pad") => `(tactic| fail)
local macro_rules | `(tactic| walk_at "mine pad") => `(tactic| fail)
local macro_rules | `(tactic| walk_at "mine pad") => `(tactic| fail)
local macro_rules | `(tactic| walk_at "mine pad") => `(tactic| fail)
local macro_rules | `(tactic| walk_at "mine pad") => `(tactic| fail)
local macro_rules | `(tactic| walk_at "mine pad") => `(tactic| fail)
local macro_rules | `(tactic| walk_at "mine pad") => `(tactic| fail)
local macro_rules | `(tactic| walk_at "mine pad") => `(tactic| fail)
local macro_rules | `(tactic| walk_at "mine pad") => `(tactic| fail)
local macro_rules | `(tactic| walk_at "mine pad") => `(tactic| fail)
local macro_rules | `(tactic| walk_at "mine pad") => `(tactic| fail)
local macro_rules | `(tactic| walk_at "mine pad") => `(tactic| fail)
local macro_rules | `(tactic| walk_at "mine pad") => `(tactic| fail)
local macro_rules | `(tactic| walk_at "mine pad") => `(tactic| fail)
local macro_rules | `(tactic| walk_at "mine pad") => `(tactic| fail)
local macro_rules | `(tactic| walk_at "mine pad") => `(tactic| fail)
local macro_rules | `(tactic| walk_at "mine pad") => `(tactic| fail)
local macro_rules | `(tactic| walk_at "mine pad") => `(tactic| fail)
local macro_rules | `(tactic| walk_at "mine pad") => `(tactic| fail)
local macro_rules | `(tactic| walk_at "mine pad") => `(tactic| fail)
local macro_rules | `(tactic| walk_at "mine pad") => `(tactic| fail)
local macro_rules | `(tactic| walk_at "mine pad") => `(tactic| fail)
local macro_rules | `(tactic| walk_at "mine pad") => `(tactic| fail)
local macro_rules | `(tactic| walk_at "mine pad") => `(tactic| fail)
local macro_rules | `(tactic| walk_at "mine pad") => `(tactic| fail)
local macro_rules | `(tactic| walk_at "mine pad") => `(tactic| fail)
local macro_rules | `(tactic| walk_at "eval Call") => `(tactic| (k_here; (with_reducible show wpAny _ _ (eval (Expr.Call (Expr.Name _ _) _ [] _) _) _ _ _); refine Call_ ?_))
local macro_rules | `(tactic| walk_at "mine cases") => `(tactic| (
  (case muk1 => k_asm); (case muk2 => k_asm); (case muk3 => k_asm); (case muk4 => k_asm); (case muk5 => k_asm);
  (case mukK => first | exact rfl | assumption);
  (case mukp => first | trivial | assumption | omega | (refine ⟨?_, ?_⟩ <;> first | assumption | omega) | walk_at "mine pre");
  (case mukd => first | omega | ktr_room | cb_room);
  (case muku => first | omega | ktr_units | cb_units)))
local macro_rules | `(tactic| walk_at "mine use") => `(tactic| (
  (walk_at "mine cases");
  intro t9 h9 tk9 F9 N9; (try dsimp only); (try k_fold)))
local macro_rules | `(tactic| walk_at "mine use2") => `(tactic| (
  (walk_at "mine cases");
  intro D9 t9 u9 c9 h9 tk9 F9 N9 l9; (try k_lt l9); (try dsimp only); (try k_fold); (try k_sweep)))
local macro_rules | `(tactic| walk_at "mine use3") => `(tactic| (
  (walk_at "mine cases");
  intro y9 m9 d9 P9 D9 t9 u9 v9 c9 h9 tk9 F9 N9 l9; (try k_lt l9); (try dsimp only); (try k_fold); (try k_sweep)))
local macro_rules | `(tactic| walk_at "call ref") => `(tactic| (
  k_here
  first
   | ((with_reducible show wpAny _ _ (call (Value.ref 108) _) _ _ _); k_dflt (refine' Cl.use (c_len _ _ _ _) ?muk1 ?muk2 ?muk3 ?muk4 ?muk5 ?mukK ?mukp ?mukd ?muku ?_); walk_at "mine use")
   | ((with_reducible show wpAny _ _ (call (Value.ref 115) _) _ _ _); k_dflt (refine' Cl.use (c_years _ _) ?muk1 ?muk2 ?muk3 ?muk4 ?muk5 ?mukK ?mukp ?mukd ?muku ?_); walk_at "mine use")
   | ((with_reducible show wpAny _ _ (call (Value.ref 42) _) _ _ _); k_dflt (refine' Cl2.use (c_next _ _ _ _) ?muk1 ?muk2 ?muk3 ?muk4 ?muk5 ?mukK ?mukp ?mukd ?muku ?_); walk_at "mine use2")))

theorem c_on {w mean mg mb} : ∀ (y : Int) (ty : Tok) (m : Int) (tm : Tok) (d : Int) (td : Tok), Claim w mean mg mb 122 (1 ≤ m ∧ m ≤ 12) 12 [.int y ty, .int m tm, .int d td] (fun t => .int (num y m d) t) := by
  dsimp only [Claim, Cl, CbRec, CbLists, CbRet, prog, loose]
  k_fill
  intro y ty m tm d td news
  intros
  rename_i hpre _ _ hret
  obtain ⟨p1, p2⟩ := hpre
  refine wpAny_call ?_
  k_dflt cell_enter
  k_with "state" => first | exact on_start (by assumption) | exact on_step (by assumption) (by assumption) (by assumption) (by assumption)
  k_with "pyIter ref" => k_dat (fun (pre : List Int) (p : Dat) (t : Int) => p = Dat.tuple [Dat.int y, Dat.int ((pre.length : Int) + 1)] ∧ t = dby y + cum y ((pre.length : Int) + 1) ∧ (pre.length : Int) < m) "pair*" "total"
  k_steps
  all_goals first
    | (exfalso; exact on_out (by assumption) (by assumption) (by assumption))
    | (refine' cb_retI hret ?e1 ?e2 ?e3; (case e2 => k_asm); (case e3 => (refine' cb_drop (by assumption) ?cbS; (case cbS => (intro p9 h9; kst_mem)))); (case e1 => exact on_ret (by assumption) (by assumption) (by assumption) (by assumption)))
end
def BackP (y m i a b t : Int) : Prop := (i = 0 ∧ a = y + 1 ∧ b = 1 ∧ t = dby (y + 1)) ∨ (1 ≤ i ∧ a = y ∧ b = 13 - i ∧ t = dby y + cum y (13 - i) ∧ m < 13 - i)
theorem back_start {y m : Int} : ∃ a b, Dat.tuple [Dat.int (y + 1), Dat.int 1] = Dat.tuple [Dat.int a, Dat.int b] ∧ BackP y m (([] : List Int).length : Int) a b (dby (y + 1)) := ⟨_, _, rfl, .inl ⟨rfl, rfl, rfl, rfl⟩⟩
theorem year_end (y : Int) : dby (y + 1) - len y 12 = dby y + cum y 12 := by
  have h := dby_succ y
  have e : len y 12 = 31 := by simp [len]
  rw [e]
  cases hl : leapB y
  · have c : cum y 12 = 334 := by simp [cum, hl]
    rw [c]; simp [hl] at h; omega
  · have c : cum y 12 = 335 := by simp [cum, hl]
    rw [c]; simp [hl] at h; omega
theorem back_step {y m i a b t : Int} (p1 : 1 ≤ m) (p2 : m ≤ 12) (B : BackP y m i a b t) (h : ((if b = 1 then a - 1 else a) == y && (if b = 1 then 12 else b - 1) == m) = false) :
    BackP y m (i + 1) (if b = 1 then a - 1 else a) (if b = 1 then 12 else b - 1) (t - len (if b = 1 then a - 1 else a) (if b = 1 then 12 else b - 1)) := by
  rcases B with ⟨hi, ha, hb, ht⟩ | ⟨hi, ha, hb, ht, hm⟩
  · subst hi ha hb ht
    have ey : y + 1 - 1 = y := by omega
    simp only [if_true, ey] at h ⊢
    have hne : m ≠ 12 := by
      intro e; subst e; simp at h
    refine .inr ⟨by omega, rfl, by omega, ?_, by omega⟩
    show dby (y + 1) - len y 12 = dby y + cum y (13 - (0 + 1))
    rw [year_end]; rfl
  · have hb1 : ¬ b = 1 := by omega
    rw [if_neg hb1, if_neg hb1] at h ⊢
    subst ha hb ht
    have hne : m ≠ 13 - i - 1 := by
      intro e; rw [← e] at h; simp at h
    refine .inr ⟨by omega, rfl, by omega, ?_, by omega⟩
    have hc := cum_pred a (m := 13 - i) (by omega) (by omega)
    have e : 13 - (i + 1) = 13 - i - 1 := by omega
    rw [e]
    omega
theorem back_word {y m a b t : Int} {pre : List Int} {k : Int} (p1 : 1 ≤ m) (p2 : m ≤ 12) (B : BackP y m (pre.length : Int) a b t) (h : ((if b = 1 then a - 1 else a) == y && (if b = 1 then 12 else b - 1) == m) = false) :
    ∃ a' b', Dat.tuple [Dat.int (if b = 1 then a - 1 else a), Dat.int (if b = 1 then 12 else b - 1)] = Dat.tuple [Dat.int a', Dat.int b'] ∧ BackP y m ((pre ++ [k]).length : Int) a' b' (t - len (if b = 1 then a - 1 else a) (if b = 1 then 12 else b - 1)) := by
  have e : ((pre ++ [k]).length : Int) = (pre.length : Int) + 1 := by simp
  rw [e]
  exact ⟨_, _, rfl, back_step p1 p2 B h⟩
theorem back_ret {y m i a b t d : Int} (p1 : 1 ≤ m) (p2 : m ≤ 12) (B : BackP y m i a b t) (h : ((if b = 1 then a - 1 else a) == y && (if b = 1 then 12 else b - 1) == m) = true) :
    t - len (if b = 1 then a - 1 else a) (if b = 1 then 12 else b - 1) + d = num y m d := by
  rw [num_dby p1 p2]
  rcases B with ⟨hi, ha, hb, ht⟩ | ⟨hi, ha, hb, ht, hm⟩
  · subst hi ha hb ht
    have ey : y + 1 - 1 = y := by omega
    simp only [if_true, ey] at h ⊢
    have e : m = 12 := by simp at h; omega
    subst e
    rw [year_end]
  · have hb1 : ¬ b = 1 := by omega
    rw [if_neg hb1, if_neg hb1] at h ⊢
    subst ha hb ht
    have e : m = 13 - i - 1 := by simp at h; omega
    have hc := cum_pred a (m := 13 - i) (by omega) (by omega)
    rw [e]
    omega
theorem back_out {y m a b t : Int} (p1 : 1 ≤ m) (B : BackP y m ((rangeKs 0 (12 - 0 : Int).toNat).length : Int) a b t) : False := by
  rw [rangeKs_length] at B
  have e : ((12 - 0 : Int).toNat : Int) = 12 := by decide
  rw [e] at B
  rcases B with ⟨hi, _⟩ | ⟨_, _, _, _, hm⟩ <;> omega
section
local macro_rules | `(tactic| walk_at "mine pad") => `(tactic| fail)
local macro_rules | `(tactic| walk_at "mine pad") => `(tactic| fail)
local macro_rules | `(tactic| walk_at "mine pad") => `(tactic| fail)
local macro_rules | `(tactic| walk_at "mine pad") => `(tactic| fail)
local macro_rules | `(tactic| walk_at "mine pad") => `(tactic| fail)
local macro_rules | `(tactic| walk_at "mine pad") => `(tactic| fail)
local macro_rules | `(tactic| walk_at "mine pad") => `(tactic| fail)
local macro_rules | `(tactic| walk_at "mine pad") => `(tactic| fail)
local macro_rules | `(tactic| walk_at "mine pad") => `(tactic| fail)
local macro_rules | `(tactic| walk_at "mine pad") => `(tactic| fail)
local macro_rules | `(tactic| walk_at "mine pad") => `(tactic| fail)
local macro_rules | `(tactic| walk_at "mine pad") => `(tactic| fail)
local macro_rules | `(tactic| walk_at "mine pad") => `(tactic| fail)
local macro_rules | `(tactic| walk_at "mine pad") => `(tactic| fail)
local macro_rules | `(tactic| walk_at "mine pad") => `(tactic| fail)
local macro_rules | `(tactic| walk_at "mine pad") => `(tactic| fail)
local macro_rules | `(tactic| walk_at "mine pad") => `(tactic| fail)
local macro_rules | `(tactic| walk_at "mine pad") => `(tactic| fail)
local macro_rules | `(tactic| walk_at "mine pad") => `(tactic| fail)
local macro_rules | `(tactic| walk_at "mine pad") => `(tactic| fail)
local macro_rules | `(tactic| walk_at "mine pad") => `(tactic| fail)
local macro_rules | `(tactic| walk_at "mine pad") => `(tactic| fail)
local macro_rules | `(tactic| walk_at "mine pad") => `(tactic| fail)
local macro_rules | `(tactic| walk_at "mine pad") => `(tactic| fail)
local macro_rules | `(tactic| walk_at "mine pad") => `(tactic| fail)
local macro_rules | `(tactic| walk_at "mine pad") => `(tactic| fail)
local macro_rules | `(tactic| walk_at "mine pad") => `(tactic| fail)
local macro_rules | `(tactic| walk_at "mine pad") => `(tactic| fail)
local macro_rules | `(tactic| walk_at "mine pad") => `(tactic| fail)
local macro_rules | `(tactic| walk_at "mine pad") => `(tactic| fail)
local macro_rules | `(tactic| walk_at "mine pad") => `(tactic| fail)
local macro_rules | `(tactic| walk_at "mine pad") => `(tactic| fail)
local macro_rules | `(tactic| walk_at "mine pad") => `(tactic| fail)
local macro_rules | `(tactic| walk_at "mine pad") => `(tactic| fail)
local macro_rules | `(tactic| walk_at "mine pad") => `(tactic| fail)
local macro_rules | `(tactic| walk_at "mine pad") => `(tactic| fail)
local macro_rules | `(tactic| walk_at "mine pad") => `(tactic| fail)
local macro_rules | `(tactic| walk_at "mine pad") => `(tactic| fail)
local macro_rules | `(tactic| walk_at "mine pad") => `(tactic| fail)
local macro_rules | `(tactic| walk_at "eval Call") => `(tactic| (k_here; (with_reducible show wpAny _ _ (eval (Expr.Call (Expr.Name _ _) _ [] _) _) _ _ _); refine Call_ ?_))
local macro_rules | `(tactic| walk_at "mine cases") => `(tactic| (
  (case muk1 => k_asm); (case muk2 => k_asm); (case muk3 => k_asm); (case muk4 => k_asm); (case muk5 => k_asm);
  (case mukK => first | exact rfl | assumption);
  (case mukp => first | trivial | assumption | omega | (refine ⟨?_, ?_⟩ <;> first | assumption | omega) | walk_at "mine pre");
  (case mukd => first | omega | ktr_room | cb_room);
  (case muku => first | omega | ktr_units | cb_units)))
local macro_rules | `(tactic| walk_at "mine use") => `(tactic| (
  (walk_at "mine cases");
  intro t9 h9 tk9 F9 N9; (try dsimp only); (try k_fold)))
local macro_rules | `(tactic| walk_at "mine use2") => `(tactic| (
  (walk_at "mine cases");
  intro D9 t9 u9 c9 h9 tk9 F9 N9 l9; (try k_lt l9); (try dsimp only); (try k_fold); (try k_sweep)))
local macro_rules | `(tactic| walk_at "mine use3") => `(tactic| (
  (walk_at "mine cases");
  intro y9 m9 d9 P9 D9 t9 u9 v9 c9 h9 tk9 F9 N9 l9; (try k_lt l9); (try dsimp only); (try k_fold); (try k_sweep)))
local macro_rules | `(tactic| walk_at "call ref") => `(tactic| (
  k_here
  first
   | ((with_reducible show wpAny _ _ (call (Value.ref 108) _) _ _ _); k_dflt (refine' Cl.use (c_len _ _ _ _) ?muk1 ?muk2 ?muk3 ?muk4 ?muk5 ?mukK ?mukp ?mukd ?muku ?_); walk_at "mine use")
   | ((with_reducible show wpAny _ _ (call (Value.ref 115) _) _ _ _); k_dflt (refine' Cl.use (c_years _ _) ?muk1 ?muk2 ?muk3 ?muk4 ?muk5 ?mukK ?mukp ?mukd ?muku ?_); walk_at "mine use")
   | ((with_reducible show wpAny _ _ (call (Value.ref 35) _) _ _ _); k_dflt (refine' Cl2.use (c_prev _ _ _ _) ?muk1 ?muk2 ?muk3 ?muk4 ?muk5 ?mukK ?mukp ?mukd ?muku ?_); walk_at "mine use2")))

theorem c_back {w mean mg mb} : ∀ (y : Int) (ty : Tok) (m : Int) (tm : Tok) (d : Int) (td : Tok), Claim w mean mg mb 129 (1 ≤ m ∧ m ≤ 12) 12 [.int y ty, .int m tm, .int d td] (fun t => .int (num y m d) t) := by
  dsimp only [Claim, Cl, CbRec, CbLists, CbRet, prog, loose]
  k_fill
  intro y ty m tm d td news
  intros
  rename_i hpre _ _ hret
  obtain ⟨p1, p2⟩ := hpre
  refine wpAny_call ?_
  k_dflt cell_enter
  k_with "state" => first | exact back_start | exact back_word (by assumption) (by assumption) (by assumption) (by assumption)
  k_with "pyIter ref" => k_dat (fun (pre : List Int) (p : Dat) (t : Int) => ∃ a b, p = Dat.tuple [Dat.int a, Dat.int b] ∧ BackP y m (pre.length : Int) a b t) "pair*" "total"
  k_steps
  all_goals first
    | (exfalso; exact back_out (by assumption) (by assumption))
    | (refine' cb_retI hret ?e1 ?e2 ?e3; (case e2 => k_asm); (case e3 => (refine' cb_drop (by assumption) ?cbS; (case cbS => (intro p9 h9; kst_mem)))); (case e1 => exact back_ret (by assumption) (by assumption) (by assumption) (by assumption)))
end
theorem cum_mono (y : Int) : ∀ (k : Nat) {m : Int}, 1 ≤ m → m + k ≤ 12 → cum y m ≤ cum y (m + k)
  | 0, m, _, _ => by simp
  | k + 1, m, h1, h2 => by
    have ih := cum_mono y k (m := m) h1 (by omega)
    have hs := cum_succ y (m := m + k) (by omega) (by omega)
    have hv := len_vals y (m := m + k) (by omega) (by omega)
    have e : m + ((k + 1 : Nat) : Int) = m + k + 1 := by omega
    rw [e]
    omega
theorem cum_step {y m m' : Int} (h1 : 1 ≤ m) (h : m < m') (h2 : m' ≤ 12) : cum y m + len y m ≤ cum y m' := by
  rw [← cum_succ y h1 (by omega)]
  have hm := cum_mono y (m' - (m + 1)).toNat (m := m + 1) (by omega) (by omega)
  have e : m + 1 + ((m' - (m + 1)).toNat : Int) = m' := by omega
  rw [e] at hm
  exact hm
theorem dby_mono : ∀ (k : Nat) (y : Int), dby y ≤ dby (y + k)
  | 0, y => by simp
  | k + 1, y => by
    have ih := dby_mono k y
    have hs := dby_succ (y + k)
    have e : y + ((k + 1 : Nat) : Int) = y + k + 1 := by omega
    rw [e]
    cases hl : leapB (y + k) <;> simp [hl] at hs <;> omega
theorem doy_bounds {y m d : Int} (v : Valid y m d) : dby y < num y m d ∧ num y m d ≤ dby (y + 1) := by
  obtain ⟨⟨h1, h2⟩, h3, h4⟩ := v
  rw [num_dby h1 h2]
  have hs := year_end y
  have hc : cum y 1 ≤ cum y m := by
    have hm := cum_mono y (m - 1).toNat (m := 1) (by omega) (by omega)
    have e : 1 + ((m - 1).toNat : Int) = m := by omega
    rw [e] at hm
    exact hm
  rw [cum_one] at hc
  refine ⟨by omega, ?_⟩
  by_cases e : m = 12
  · subst e; omega
  · have h5 := cum_step (y := y) h1 (show m < 12 by omega) (by decide)
    have h6 := len_vals y (m := 12) (by decide) (by decide)
    omega
theorem year_lt {y m d y' m' d' : Int} (v : Valid y m d) (v' : Valid y' m' d') (h : y < y') : num y m d < num y' m' d' := by
  have b := doy_bounds v
  have b' := doy_bounds v'
  have hm := dby_mono (y' - (y + 1)).toNat (y + 1)
  have e : y + 1 + ((y' - (y + 1)).toNat : Int) = y' := by omega
  rw [e] at hm
  omega
theorem num_inj {y m d y' m' d' : Int} (v' : Valid y' m' d' ∧ num y' m' d' = num y m d) (v : Valid y m d) : y = y' ∧ m = m' ∧ d = d' := by
  obtain ⟨v', e⟩ := v'
  have hy : y = y' := by
    rcases Int.lt_trichotomy y y' with h | h | h
    · have := year_lt v v' h; omega
    · exact h
    · have := year_lt v' v h; omega
  subst hy
  obtain ⟨⟨h1, h2⟩, h3, h4⟩ := v
  obtain ⟨⟨h1', h2'⟩, h3', h4'⟩ := v'
  rw [num_dby h1 h2, num_dby h1' h2'] at e
  have hm : m = m' := by
    rcases Int.lt_trichotomy m m' with h | h | h
    · have := cum_step (y := y) h1 h h2'; omega
    · exact h
    · have := cum_step (y := y) h1' h h2; omega
  subst hm
  exact ⟨rfl, rfl, by omega⟩
theorem feb_leap (y : Int) : (num y 3 1 - num y 2 1 == 29) = leapB y := by
  rw [num_dby (by decide) (by decide), num_dby (by decide) (by decide)]
  have h := cum_succ y (m := 2) (by decide) (by decide)
  have e : (2 : Int) + 1 = 3 := by decide
  rw [e] at h
  cases hl : leapB y
  · have hn : len y 2 = 28 := by simp [len, hl]
    have e2 : dby y + cum y 3 + 1 - (dby y + cum y 2 + 1) = 28 := by omega
    rw [e2]; decide
  · have hn : len y 2 = 29 := by simp [len, hl]
    have e2 : dby y + cum y 3 + 1 - (dby y + cum y 2 + 1) = 29 := by omega
    rw [e2]; decide
section
local macro_rules | `(tactic| walk_at "mine pad") => `(tactic| fail)
local macro_rules | `(tactic| walk_at "mine pad") => `(tactic| fail)
local macro_rules | `(tactic| walk_at "mine pad") => `(tactic| fail)
local macro_rules | `(tactic| walk_at "mine pad") => `(tactic| fail)
local macro_rules | `(tactic| walk_at "mine pad") => `(tactic| fail)
local macro_rules | `(tactic| walk_at "mine pad") => `(tactic| fail)
local macro_rules | `(tactic| walk_at "mine pad") => `(tactic| fail)
local macro_rules | `(tactic| walk_at "mine pad") => `(tactic| fail)
local macro_rules | `(tactic| walk_at "mine pad") => `(tactic| fail)
local macro_rules | `(tactic| walk_at "mine pad") => `(tactic| fail)
local macro_rules | `(tactic| walk_at "mine pad") => `(tactic| fail)
local macro_rules | `(tactic| walk_at "mine pad") => `(tactic| fail)
local macro_rules | `(tactic| walk_at "mine pad") => `(tactic| fail)
local macro_rules | `(tactic| walk_at "mine pad") => `(tactic| fail)
local macro_rules | `(tactic| walk_at "mine pad") => `(tactic| fail)
local macro_rules | `(tactic| walk_at "mine pad") => `(tactic| fail)
local macro_rules | `(tactic| walk_at "mine pad") => `(tactic| fail)
local macro_rules | `(tactic| walk_at "mine pad") => `(tactic| fail)
local macro_rules | `(tactic| walk_at "mine pad") => `(tactic| fail)
local macro_rules | `(tactic| walk_at "mine pad") => `(tactic| fail)
local macro_rules | `(tactic| walk_at "mine pad") => `(tactic| fail)
local macro_rules | `(tactic| walk_at "mine pad") => `(tactic| fail)
local macro_rules | `(tactic| walk_at "mine pad") => `(tactic| fail)
local macro_rules | `(tactic| walk_at "mine pad") => `(tactic| fail)
local macro_rules | `(tactic| walk_at "mine pad") => `(tactic| fail)
local macro_rules | `(tactic| walk_at "mine pad") => `(tactic| fail)
local macro_rules | `(tactic| walk_at "mine pad") => `(tactic| fail)
local macro_rules | `(tactic| walk_at "mine pad") => `(tactic| fail)
local macro_rules | `(tactic| walk_at "mine pad") => `(tactic| fail)
local macro_rules | `(tactic| walk_at "mine pad") => `(tactic| fail)
local macro_rules | `(tactic| walk_at "mine pad") => `(tactic| fail)
local macro_rules | `(tactic| walk_at "mine pad") => `(tactic| fail)
local macro_rules | `(tactic| walk_at "mine pad") => `(tactic| fail)
local macro_rules | `(tactic| walk_at "mine pad") => `(tactic| fail)
local macro_rules | `(tactic| walk_at "mine pad") => `(tactic| fail)
local macro_rules | `(tactic| walk_at "mine pad") => `(tactic| fail)
local macro_rules | `(tactic| walk_at "mine pad") => `(tactic| fail)
local macro_rules | `(tactic| walk_at "mine pad") => `(tactic| fail)
local macro_rules | `(tactic| walk_at "eval Call") => `(tactic| (k_here; (with_reducible show wpAny _ _ (eval (Expr.Call (Expr.Name _ _) _ [] _) _) _ _ _); refine Call_ ?_))
local macro_rules | `(tactic| walk_at "mine cases") => `(tactic| (
  (case muk1 => k_asm); (case muk2 => k_asm); (case muk3 => k_asm); (case muk4 => k_asm); (case muk5 => k_asm);
  (case mukK => first | exact rfl | assumption);
  (case mukp => first | trivial | assumption | omega | (refine ⟨?_, ?_⟩ <;> first | assumption | omega) | walk_at "mine pre");
  (case mukd => first | omega | ktr_room | cb_room);
  (case muku => first | omega | ktr_units | cb_units)))
local macro_rules | `(tactic| walk_at "mine use") => `(tactic| (
  (walk_at "mine cases");
  intro t9 h9 tk9 F9 N9; (try dsimp only); (try k_fold)))
local macro_rules | `(tactic| walk_at "mine use2") => `(tactic| (
  (walk_at "mine cases");
  intro D9 t9 u9 c9 h9 tk9 F9 N9 l9; (try k_lt l9); (try dsimp only); (try k_fold); (try k_sweep)))
local macro_rules | `(tactic| walk_at "mine use3") => `(tactic| (
  (walk_at "mine cases");
  intro y9 m9 d9 P9 D9 t9 u9 v9 c9 h9 tk9 F9 N9 l9; (try k_lt l9); (try dsimp only); (try k_fold); (try k_sweep)))
local macro_rules | `(tactic| walk_at "call ref") => `(tactic| (
  k_here
  first
   | ((with_reducible show wpAny _ _ (call (Value.ref 101) _) _ _ _); k_dflt (refine' Cl.use (c_num _ _ _ _ _ _) ?muk1 ?muk2 ?muk3 ?muk4 ?muk5 ?mukK ?mukp ?mukd ?muku ?_); walk_at "mine use")
   | ((with_reducible show wpAny _ _ (call (Value.ref 94) _) _ _ _); k_dflt (refine' Cl3.use (c_ord _ _) ?muk1 ?muk2 ?muk3 ?muk4 ?muk5 ?mukK ?mukp ?mukd ?muku ?_); walk_at "mine use3")
   | ((with_reducible show wpAny _ _ (call (Value.ref 84) _) _ _ _); k_dflt (refine' Cl.use (c_ymd _ _ _ _ _ _) ?muk1 ?muk2 ?muk3 ?muk4 ?muk5 ?mukK ?mukp ?mukd ?muku ?_); walk_at "mine use")
   | ((with_reducible show wpAny _ _ (call (Value.ref 122) _) _ _ _); k_dflt (refine' Cl.use (c_on _ _ _ _ _ _) ?muk1 ?muk2 ?muk3 ?muk4 ?muk5 ?mukK ?mukp ?mukd ?muku ?_); walk_at "mine use")
   | ((with_reducible show wpAny _ _ (call (Value.ref 129) _) _ _ _); k_dflt (refine' Cl.use (c_back _ _ _ _ _ _) ?muk1 ?muk2 ?muk3 ?muk4 ?muk5 ?mukK ?mukp ?mukd ?muku ?_); walk_at "mine use")
   | ((with_reducible show wpAny _ _ (call (Value.ref 21) _) _ _ _); k_dflt (refine' Cl.use (c_isleap _ _) ?muk1 ?muk2 ?muk3 ?muk4 ?muk5 ?mukK ?mukp ?mukd ?muku ?_); walk_at "mine use")))
local macro_rules | `(tactic| walk_at "mine use3") => `(tactic| (
  (walk_at "mine cases");
  intro y9 m9 d9 P9; (obtain ⟨e1, e2, e3⟩ := num_inj P9 (by assumption)); subst e1; subst e2; subst e3; clear P9; intro D9 t9 u9 v9 c9 h9 tk9 F9 N9 l9; (try k_lt l9); (try dsimp only); (try k_fold); (try k_sweep)))
local macro_rules | `(tactic| walk_at "CompEnd") => `(tactic| (k_dflt (refine' LCg.CompEnd.intro (by k_asm) (by k_asm) _ (fun _ h => h) ?coff ?csrc ?_; (case coff => ((try simp only [LCg.Off3, and_true]); assumption)); (case csrc => lcg_src))))

theorem c_stop {w mean mg mb} : ∀ (y : Int) (ty : Tok) (m : Int) (tm : Tok) (d : Int) (td : Tok), Claim w mean mg mb 134 (Valid y m d) 14 [.int y ty, .int m tm, .int d td] (fun _ => .bool true) := by
  dsimp only [Claim, Cl, CbRec, CbLists, CbRet, prog, loose]
  k_fill
  intro y ty m tm d td news
  intros
  rename_i hv _ _ hret
  have p0 := hv
  obtain ⟨⟨p1, p2⟩, p3, p4⟩ := p0
  refine wpAny_call ?_
  k_dflt cell_enter
  k_steps
  all_goals (refine' cb_retB hret ?e1 ?e2 ?e3; (case e2 => k_asm); (case e3 => (refine' cb_drop (by assumption) ?cbS; (case cbS => (intro p9 h9; kst_mem)))); (case e1 => (rw [feb_leap]; exact beq_self_eq_true _)))
end
theorem len_pos {y m : Int} (h1 : 1 ≤ m) (h2 : m ≤ 12) : 28 ≤ len y m := by
  have h := len_vals y h1 h2
  omega
theorem valid_min {y m d : Int} (h1 : 1 ≤ m) (h2 : m ≤ 12) (h : 1 ≤ d) : Valid y m (if len y m < d then len y m else d) := by
  have hp := len_pos (y := y) h1 h2
  refine ⟨⟨h1, h2⟩, ?_, ?_⟩ <;> split <;> omega
theorem out_word {y m d : Int} (h1 : 1 ≤ m) (h2 : m ≤ 12) (h : 1 ≤ d) : 1 ≤ m ∧ m ≤ 12 ∧ 1 ≤ (if len y m < d then len y m else d) := by
  have hp := len_pos (y := y) h1 h2
  refine ⟨h1, h2, ?_⟩
  split <;> omega
theorem nx_div {y m c : Int} (hc : c = 12 * y + m - 1) (h1 : 1 ≤ m) (h2 : m ≤ 12) : (if m = 12 then y + 1 else y) = (c + 1).fdiv 12 ∧ (if m = 12 then 1 else m + 1) = (c + 1).fmod 12 + 1 := by
  rw [Int.fdiv_eq_ediv_of_nonneg _ (by decide : (0 : Int) ≤ 12), fm12]
  split <;> omega
theorem pv_div {y m c : Int} (hc : c = 12 * y + m - 1) (h1 : 1 ≤ m) (h2 : m ≤ 12) : (if m = 1 then y - 1 else y) = (c + -1).fdiv 12 ∧ (if m = 1 then 12 else m - 1) = (c + -1).fmod 12 + 1 := by
  rw [Int.fdiv_eq_ediv_of_nonneg _ (by decide : (0 : Int) ≤ 12), fm12]
  split <;> omega
theorem nx_word {y m c : Int} (hc : c = 12 * y + m - 1) (h1 : 1 ≤ m) (h2 : m ≤ 12) : c + 1 = 12 * (if m = 12 then y + 1 else y) + (if m = 12 then 1 else m + 1) - 1 ∧ 1 ≤ (if m = 12 then 1 else m + 1) ∧ (if m = 12 then 1 else m + 1) ≤ 12 := by
  split <;> omega
theorem pv_word {y m c : Int} (hc : c = 12 * y + m - 1) (h1 : 1 ≤ m) (h2 : m ≤ 12) : c + -1 = 12 * (if m = 1 then y - 1 else y) + (if m = 1 then 12 else m - 1) - 1 ∧ 1 ≤ (if m = 1 then 12 else m - 1) ∧ (if m = 1 then 12 else m - 1) ≤ 12 := by
  split <;> omega
theorem leap_between (e l : Int) : leapd e l = num l 1 1 - num e 1 1 - 365 * (l - e) := by
  rw [num_dby (by decide) (by decide), num_dby (by decide) (by decide), cum_one, cum_one, dby_eq, dby_eq]
  unfold leapd
  simp only [fd4, fd100, fd400]
  omega
theorem ne_same2 {prog : Program} {w : World} {A : Around} {E : Value → Shared → Prop} {s : Shared} {h₀ : Heap} {L a b : Addr} {news : List (Addr × Obj)} {x y z u : Int} {t1 t2 t3 t4 : Tok} {c d : Nat} {Q : Value → Shared → Prop} (N : News h₀ L s.heap news)
    (ha : (a, ({ cls := .type "tuple", data := .seq #[Value.int x t1, Value.int y t2] c } : Obj)) ∈ news) (hb : (b, ({ cls := .type "tuple", data := .seq #[Value.int z t3, Value.int u t4] d } : Obj)) ∈ news) (hu : A.units + 64 < cLine) (he : x = z ∧ y = u)
    (h : Q (.bool false) s) : wpAny (model prog w) A (compareOp .NotEq (.ref a) (.ref b)) Q E s := by
  refine ne_tup2 N ha hb hu ?_
  rw [decide_eq_true he]
  exact h
theorem ne_sameI {prog : Program} {w : World} {A : Around} {E : Value → Shared → Prop} {s : Shared} {a b : Int} {t u : Tok} {Q : Value → Shared → Prop} (e : a = b) (h : Q (.bool false) s) : wpAny (model prog w) A (compareOp .NotEq (.int a t) (.int b u)) Q E s := by
  subst e
  refine ne_int ?_
  have e2 : (a != a) = false := by simp
  rw [e2]
  exact h
theorem valid_mk {y m d : Int} (h1 : 1 ≤ m) (h2 : m ≤ 12) (h3 : 1 ≤ d) (h4 : d ≤ len y m) : Valid y m d := ⟨⟨h1, h2⟩, h3, h4⟩
section
local macro_rules | `(tactic| walk_at "mine pad") => `(tactic| fail)
local macro_rules | `(tactic| walk_at "mine pad") => `(tactic| fail)
local macro_rules | `(tactic| walk_at "mine pad") => `(tactic| fail)
local macro_rules | `(tactic| walk_at "mine pad") => `(tactic| fail)
local macro_rules | `(tactic| walk_at "mine pad") => `(tactic| fail)
local macro_rules | `(tactic| walk_at "mine pad") => `(tactic| fail)
local macro_rules | `(tactic| walk_at "mine pad") => `(tactic| fail)
local macro_rules | `(tactic| walk_at "mine pad") => `(tactic| fail)
local macro_rules | `(tactic| walk_at "mine pad") => `(tactic| fail)
local macro_rules | `(tactic| walk_at "mine pad") => `(tactic| fail)
local macro_rules | `(tactic| walk_at "mine pad") => `(tactic| fail)
local macro_rules | `(tactic| walk_at "mine pad") => `(tactic| fail)
local macro_rules | `(tactic| walk_at "mine pad") => `(tactic| fail)
local macro_rules | `(tactic| walk_at "mine pad") => `(tactic| fail)
local macro_rules | `(tactic| walk_at "mine pad") => `(tactic| fail)
local macro_rules | `(tactic| walk_at "mine pad") => `(tactic| fail)
local macro_rules | `(tactic| walk_at "mine pad") => `(tactic| fail)
local macro_rules | `(tactic| walk_at "mine pad") => `(tactic| fail)
local macro_rules | `(tactic| walk_at "mine pad") => `(tactic| fail)
local macro_rules | `(tactic| walk_at "mine pad") => `(tactic| fail)
local macro_rules | `(tactic| walk_at "mine pad") => `(tactic| fail)
local macro_rules | `(tactic| walk_at "mine pad") => `(tactic| fail)
local macro_rules | `(tactic| walk_at "mine pad") => `(tactic| fail)
local macro_rules | `(tactic| walk_at "mine pad") => `(tactic| fail)
local macro_rules | `(tactic| walk_at "mine pad") => `(tactic| fail)
local macro_rules | `(tactic| walk_at "mine pad") => `(tactic| fail)
local macro_rules | `(tactic| walk_at "mine pad") => `(tactic| fail)
local macro_rules | `(tactic| walk_at "mine pad") => `(tactic| fail)
local macro_rules | `(tactic| walk_at "mine pad") => `(tactic| fail)
local macro_rules | `(tactic| walk_at "mine pad") => `(tactic| fail)
local macro_rules | `(tactic| walk_at "mine pad") => `(tactic| fail)
local macro_rules | `(tactic| walk_at "mine pad") => `(tactic| fail)
local macro_rules | `(tactic| walk_at "mine pad") => `(tactic| fail)
local macro_rules | `(tactic| walk_at "eval Call") => `(tactic| (k_here; (with_reducible show wpAny _ _ (eval (Expr.Call (Expr.Name _ _) _ [] _) _) _ _ _); refine Call_ ?_))
local macro_rules | `(tactic| walk_at "mine cases") => `(tactic| (
  (case muk1 => k_asm); (case muk2 => k_asm); (case muk3 => k_asm); (case muk4 => k_asm); (case muk5 => k_asm);
  (case mukK => first | exact rfl | assumption);
  (case mukp => first | trivial | assumption | omega | (refine ⟨?_, ?_⟩ <;> first | assumption | omega) | walk_at "mine pre");
  (case mukd => first | omega | ktr_room | cb_room);
  (case muku => first | omega | ktr_units | cb_units)))
local macro_rules | `(tactic| walk_at "mine use") => `(tactic| (
  (walk_at "mine cases");
  intro t9 h9 tk9 F9 N9; (try dsimp only); (try k_fold)))
local macro_rules | `(tactic| walk_at "mine use2") => `(tactic| (
  (walk_at "mine cases");
  intro D9 t9 u9 c9 h9 tk9 F9 N9 l9; (try k_lt l9); (try dsimp only); (try k_fold); (try k_sweep)))
local macro_rules | `(tactic| walk_at "mine use3") => `(tactic| (
  (walk_at "mine cases");
  intro y9 m9 d9 P9 D9 t9 u9 v9 c9 h9 tk9 F9 N9 l9; (try k_lt l9); (try dsimp only); (try k_fold); (try k_sweep)))
local macro_rules | `(tactic| walk_at "call ref") => `(tactic| (
  k_here
  first
   | ((with_reducible show wpAny _ _ (call (Value.ref 101) _) _ _ _); k_dflt (refine' Cl.use (c_num _ _ _ _ _ _) ?muk1 ?muk2 ?muk3 ?muk4 ?muk5 ?mukK ?mukp ?mukd ?muku ?_); walk_at "mine use")
   | ((with_reducible show wpAny _ _ (call (Value.ref 94) _) _ _ _); k_dflt (refine' Cl3.use (c_ord _ _) ?muk1 ?muk2 ?muk3 ?muk4 ?muk5 ?mukK ?mukp ?mukd ?muku ?_); walk_at "mine use3")
   | ((with_reducible show wpAny _ _ (call (Value.ref 134) _) _ _ _); k_dflt (refine' Cl.use (c_stop _ _ _ _ _ _) ?muk1 ?muk2 ?muk3 ?muk4 ?muk5 ?mukK ?mukp ?mukd ?muku ?_); walk_at "mine use")
   | ((with_reducible show wpAny _ _ (call (Value.ref 42) _) _ _ _); k_dflt (refine' Cl2.use (c_next _ _ _ _) ?muk1 ?muk2 ?muk3 ?muk4 ?muk5 ?mukK ?mukp ?mukd ?muku ?_); walk_at "mine use2")
   | ((with_reducible show wpAny _ _ (call (Value.ref 35) _) _ _ _); k_dflt (refine' Cl2.use (c_prev _ _ _ _) ?muk1 ?muk2 ?muk3 ?muk4 ?muk5 ?mukK ?mukp ?mukd ?muku ?_); walk_at "mine use2")
   | ((with_reducible show wpAny _ _ (call (Value.ref 108) _) _ _ _); k_dflt (refine' Cl.use (c_len _ _ _ _) ?muk1 ?muk2 ?muk3 ?muk4 ?muk5 ?mukK ?mukp ?mukd ?muku ?_); walk_at "mine use")
   | ((with_reducible show wpAny _ _ (call (Value.ref 28) _) _ _ _); k_dflt (refine' Cl.use (c_leapdays _ _ _ _) ?muk1 ?muk2 ?muk3 ?muk4 ?muk5 ?mukK ?mukp ?mukd ?muku ?_); walk_at "mine use")))
local macro_rules | `(tactic| walk_at "eval Call") => `(tactic| (k_here; k_dflt (refine Call_ ?_)))
local macro_rules | `(tactic| walk_at "exec If") => `(tactic| refine wpAny_If ?_)
local macro_rules | `(tactic| walk_at "mine cases") => `(tactic| (
  (case muk1 => k_dflt k_asm); (case muk2 => k_dflt k_asm); (case muk3 => k_dflt k_asm); (case muk4 => k_dflt k_asm); (case muk5 => k_dflt k_asm);
  (case mukK => k_dflt (first | exact rfl | assumption));
  (case mukp => first | trivial | assumption | walk_at "mine pre");
  (case mukd => k_dflt k_room);
  (case muku => k_dflt (exact Nat.le_of_ble_eq_true rfl))))
local macro_rules | `(tactic| walk_at "mine use3") => `(tactic| (
  (walk_at "mine cases");
  intro y9 m9 d9 P9; k_dflt (obtain ⟨⟨⟨e1, e2⟩, e3, e4⟩, e5⟩ := P9); intro D9 t9 u9 v9 c9 h9 tk9 F9 N9 l9; (try k_lt l9); (try dsimp only); (try k_fold); (try k_sweep)))
local macro_rules | `(tactic| walk_at "mine pre") => `(tactic| first | exact valid_mk (by assumption) (by assumption) (by assumption) (by assumption) | exact valid_min (by omega) (by omega) (by omega) | exact valid_mk (by omega) (by omega) (by omega) (by omega))
local macro_rules | `(tactic| walk_at "compareOp NotEq ref ref") => `(tactic| (k_here; (with_reducible show wpAny _ _ (compareOp CmpOp.NotEq (Value.ref _) (Value.ref _)) _ _ _); k_dflt (refine' ne_same2 ?mqN ?mqA ?mqB ?mqU ?mqE ?_; (case mqN => k_asm); (case mqA => first | k_mem | kst_mem); (case mqB => first | k_mem | kst_mem); (case mqU => ke_room); (case mqE => first | exact nx_div (by assumption) (by assumption) (by assumption) | exact pv_div (by assumption) (by assumption) (by assumption)); k_whole)))
local macro_rules | `(tactic| walk_at "compareOp NotEq ref ref") => `(tactic| (exfalso; omega))
local macro_rules | `(tactic| walk_at "compareOp NotEq int int") => `(tactic| (k_dflt (refine ne_sameI (by first | with_reducible assumption | with_reducible exact leap_between _ _) ?_)))

theorem w1 : PySem.Challenge.rw_lg0028_01.Holds := hd (by
  k_with "state" => first | exact nx_word (by assumption) (by assumption) (by assumption) | exact pv_word (by assumption) (by assumption) (by assumption) | exact out_word (by omega) (by omega) (by omega) | kst_p1
  k_with "pyIter ref" => k_of "turn" => k_state (fun (pre : List Int) (year month count : Int) => count = 12 * year + month - 1 ∧ 1 ≤ month ∧ month ≤ 12) "year" "month" "count"
  k_with "pyIter ref" => k_of "item" => k_state (fun (pre : List Int) (year month day : Int) => 1 ≤ month ∧ month ≤ 12 ∧ 1 ≤ day) "year" "month" "day"
  k_go0
  (all_goals try k_fold)
  k_steps)
end
end Mine
theorem PySem.Challenge.cw_lg0028_01_holds : PySem.Challenge.rw_lg0028_01.Holds := by
  exact Mine.w1
