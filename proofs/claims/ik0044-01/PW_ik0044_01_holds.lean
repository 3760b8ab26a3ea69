import PyProof.Rows.All
import Wide.All
import OpenK.AllK
import Wide.FinOn
import KE.KIntText
import KE.KUnpack
import Lean
import PySem.Challenge.RW_ik0044_01
set_option Elab.async false
set_option maxRecDepth 100000
set_option linter.all false
set_option compiler.extract_closed false
namespace Mine
open PySem PySem.W PySem.Calls PyProof.Rows
-- Dev1
section
abbrev pw := PySem.Challenge.pw_ik0044_01
section
local macro_rules | `(tactic| o_head $_) => `(tactic| with_reducible assumption)
/-- says nothing; while it is proved the library's k_head writes the heap behind the top down, as KH.heap_1 -/
theorem KH : PySem.Challenge.rw_ik0044_01.row.Holds → PySem.Challenge.rw_ik0044_01.row.Holds := by
  intro hh
  k_head
end
end
-- Base
section
abbrev PW := PySem.Challenge.rw_ik0044_01.row.prog
abbrev Led := List (Addr × Obj)
def hexSigns : List Str := ["0","1","2","3","4","5","6","7","8","9","a","b","c","d","e","f","A","B","C","D","E","F"]
/-- the set of the figures' signs, whatever its table -/
def HexIn (w : World) (h : Heap) : Prop := FrozAt (strKind PW w) h 15 (fun k => decide (k ∈ hexSigns)) 22
/-- the contract of a def at address f called with vs over the ledger news -/
def CallOK (w : World) (p : Program) (loose : List Str) (mean : ExcName → Option Value) (mg mb : Str → Option Value) (f : Addr) (vs : List Value) (news : Led) (d u : Nat) (Out : Value → Led → Prop) (Err : Value → Led → Prop) : Prop :=
  ∀ (dp un : Nat) (gd : Option (List Code)) (cn : Str) (cs : Scope) (a : Addr) (ccd : Value) (cl : List (Str × Addr)) (outer : List Env) (A₀ : Around) (base h₀ : Heap) (L : Addr) (m : Str → Option Value) (s : Shared) (Q E : Value → Shared → Prop),
    Below A₀ base outer h₀ → Fr h₀ L s.heap m → (KH.heap_1 w.params).In h₀ → News h₀ L s.heap news → Top p loose mean mg mb h₀ → HexIn w base → CodeHd base 44 40 → cs.kind = .function → dp + d < recursionLimit → un + u < cLine →
    (∀ r news' h' tk', Out r news' → Fr h₀ L h' m → News h₀ L h' news' → Q r { s with heap := h', toks := tk' }) →
    (∀ e news' h' tk', Err e news' → Fr h₀ L h' m → News h₀ L h' news' → E e { s with heap := h', toks := tk' }) →
    wpAny (model PySem.Challenge.rw_ik0044_01.row.prog w) (ktrTop dp un gd cn cs L a ccd cl outer) (call (.ref f) vs) Q E s
def Mark (P : Prop) : Prop := P
theorem Mark.mk {P : Prop} (h : Mark P) : P := h
def ov (l : List (Str × Option Value)) (m : Str → Option Value) : Str → Option Value := fun y => match l.lookup y with | some v => v | none => m y
def CmpOK (w : World) (lt : Value → Value → Bool) (dom : Value → Prop) (rest : Led) : Prop :=
  ∀ (A : Around) (s : Shared) (h₀ : Heap) (L : Addr) (x y : Value) (Q E : Value → Shared → Prop), dom x → dom y → News h₀ L s.heap rest → A.units + 8 < cLine → Q (.bool (lt x y)) s → wpAny (model PW w) A (compareOp .Lt x y) Q E s
section
variable {w : World} {A : Around} {E : Value → Shared → Prop} {s : Shared} {h₀ : Heap} {L a : Addr} {m : Str → Option Value} {rest : Led} {vs : List Value} {n : Nat} {k : Int} {u : Tok}
theorem half_lt {i : Nat} (h0 : 0 < i) : (i - 1) / 2 < i := Nat.lt_of_le_of_lt (Nat.div_le_self _ _) (Nat.sub_lt h0 Nat.one_pos)
theorem pos_of {a k : Nat} (h : (a : Int) < k) : 1 ≤ k := Nat.succ_le_of_lt (Nat.lt_of_le_of_lt (Nat.zero_le a) (Int.ofNat_lt.mp h))
theorem ix_lt {a : Int} {M N : Nat} (h : a < (N : Int)) (e : M = N) : a < (M : Int) := e ▸ h
theorem ix_nat {a : Int} {M N : Nat} (h : a < (N : Int)) (e : M = N) (h0 : 0 ≤ a) : a.toNat < M := e ▸ (Int.toNat_lt h0).mpr h
theorem News.tl {h : Heap} {p : Addr × Obj} (N : News h₀ L h (p :: rest)) : News h₀ L h rest := fun q hq => N q (.tail _ hq)
theorem gi_step {value slice : PySem.Expr} {Q : Value → Shared → Prop} (N : News h₀ L s.heap ((a, listOf vs.toArray n) :: rest)) (h0 : 0 ≤ k) (hk : k < vs.length) (hb : vs.length < 2 ^ 62) (h : Q (vs.getD k.toNat .none) s)
    (hs : subscripted slice false (.ref a) (.int k u) = operate [.ref a, .int k u] (getItem (.ref a) (.int k u)) := by with_unfolding_all rfl) :
    wpAny (model PW w) A (subscriptTail value slice (.ref a) (.int k u)) Q E s := by
  have hl : s.heap.IsList a vs.toArray := PySem.IsL.isList (n := n) (N _ (.head _)).1
  refine tail_any hl.typeIs slot_list_getitem.lookup (wpAny_getItem_list hl h0 (by omega) ?_ h) hs
  have : k.toNat < vs.length := by omega
  simp [List.getD_eq_getElem?_getD, this]
theorem si_step {v : Value} {Q : Unit → Shared → Prop} (F : Fr h₀ L s.heap m) (N : News h₀ L s.heap ((a, listOf vs.toArray n) :: rest)) (hne : ∀ p ∈ rest, p.1 ≠ a)
    (h : ∀ h', Fr h₀ L h' m → News h₀ L h' ((a, listOf (vs.set k.toNat v).toArray n) :: rest) → Q () { s with heap := h' })
    (h0 : 0 ≤ k := by first | assumption | exact Int.natCast_nonneg _ | omega) (hk : k < vs.length := by first | assumption | exact ix_lt (by assumption) (by assumption) | omega) (hb : vs.length < 2 ^ 62 := by first | assumption | omega) :
    wpAny (model PW w) A (setItem (.ref a) (.int k u) v) Q E s := by
  have z := N _ (.head _)
  refine ki_setAt z.1 h0 (by omega) (by simpa using hk) (h _ (F.change (Heap.SameBut.update ..) z.2.1 z.2.2) ?_)
  refine ki_turn (pre := []) (fun x => x.setIfInBounds k.toNat v) N (fun _ h => nomatch h) hne ?_ ?_
  · simp
  · simp
theorem cmp_step {lt : Value → Value → Bool} {dom : Value → Prop} {x y : Value} {p : Addr × Obj} {Q : Value → Shared → Prop} (C : CmpOK w lt dom rest) (N : News h₀ L s.heap (p :: rest)) (dx : dom x) (dy : dom y) (hu : A.units + 8 < cLine) (h : Q (.bool (lt x y)) s) :
    wpAny (model PW w) A (compareOp .Lt x y) Q E s := C A s h₀ L x y Q E dx dy (News.tl N) hu h
theorem rs_step {p : Nat} {t u : Tok} {Q : Value → Shared → Prop} (h : Q (.int (((p - 1) / 2 : Nat) : Int) s.toks) { s with toks := s.toks + 1 }) (h1 : 1 ≤ p := by first | exact pos_of (by assumption) | omega) : wpAny (model PW w) A (binaryOp .RShift (.int ((p : Int) - 1) t) (.int 1 u)) Q E s := by
  refine rshift_int (by decide) ?_
  have e : ((p : Int) - 1).fdiv (2 ^ Int.toNat 1) = (((p - 1) / 2 : Nat) : Int) := by
    cases p with
    | zero => cases h1
    | succ q =>
      rw [show ((q + 1 : Nat) : Int) - 1 = q from Int.add_sub_cancel q 1]
      show (q : Int).fdiv 2 = _
      rw [Int.fdiv_eq_ediv_of_nonneg _ (by decide)]
      rfl
  rw [e]; exact h
theorem set_len {vs : List Value} {i N : Nat} {v : Value} (h : vs.length = N) : (vs.set i v).length = N := by simpa using h
theorem dom_getD {dom : Value → Prop} {vs : List Value} {i : Nat} (h : ∀ v ∈ vs, dom v) (hi : i < vs.length) : dom (vs.getD i .none) := by
  have e : vs.getD i .none = vs[i] := by simp [List.getD_eq_getElem?_getD, hi]
  rw [e]; exact h _ (List.getElem_mem hi)
theorem dom_set {dom : Value → Prop} {vs : List Value} {i : Nat} {v : Value} (h : ∀ v ∈ vs, dom v) (hv : dom v) : ∀ x ∈ vs.set i v, dom x := fun x hx => by
  rcases List.mem_or_eq_of_mem_set hx with h1 | rfl
  · exact h x h1
  · exact hv
end
theorem ov_eq {m1 m : Str → Option Value} (l : List (Str × Option Value)) (h1 : ∀ p ∈ l, m1 p.1 = p.2) (h2 : ∀ y, y ∉ l.map (·.1) → m1 y = m y) : m1 = ov l m := by
  funext y
  unfold ov
  cases e : l.lookup y with
  | none =>
    refine h2 y fun hm => ?_
    obtain ⟨p, hp, rfl⟩ := List.mem_map.mp hm
    exact absurd e (by
      intro e
      have := List.lookup_eq_none_iff.mp e p hp
      simp at this)
  | some v =>
    have : (y, v) ∈ l := by
      clear h1 h2
      induction l with
      | nil => cases e
      | cons q r ih =>
        obtain ⟨x, z⟩ := q
        rw [List.lookup_cons] at e
        cases hq : y == x with
        | true => rw [hq] at e; cases e; rw [eq_of_beq hq]; exact .head _
        | false => rw [hq] at e; exact .tail _ (ih e)
    exact h1 _ this
theorem ov_off {m : Str → Option Value} {l : List (Str × Option Value)} {y : Str} (h : y ∉ l.map (·.1)) : ov l m y = m y := by
  unfold ov
  cases e : l.lookup y with
  | none => rfl
  | some v =>
    exfalso
    apply h
    clear h
    induction l with
    | nil => cases e
    | cons q r ih =>
      obtain ⟨x, z⟩ := q
      rw [List.lookup_cons] at e
      cases hq : y == x with
      | true => rw [eq_of_beq hq]; exact .head _
      | false => rw [hq] at e; exact .tail _ (ih e)
theorem up_off {m mB : Str → Option Value} {x : Str} {v : Option Value} {l : List Str} (hx : x ∈ l) (h : ∀ y, y ∉ l → m y = mB y) : ∀ y, y ∉ l → (if y = x then v else m y) = mB y := fun y hy => by
  rw [if_neg (fun e => hy (by rw [e]; exact hx))]; exact h y hy
theorem wstep_cont {h₀ h' : Heap} {L : Addr} {s : Shared} {J : Nat → (Str → Option Value) → Led → Prop} {Q : Flow → Shared → Prop} {n n' tk : Nat} {m₂ : Str → Option Value} {news₂ : Led} (F : Fr h₀ L h' m₂) (N : News h₀ L h' news₂) (hn : n' < n) (hJ : J n' m₂ news₂) :
    WhileStep2 h₀ L s J Q n .cont { s with heap := h', toks := tk } := ⟨h', tk, m₂, news₂, n', rfl, F, N, hn, hJ⟩
theorem ll0 : (Str.ofString "").length = 0 := by decide +kernel
theorem ll1 : (Str.ofString " (at ").length = 5 := by decide +kernel
theorem ll2 : (Str.ofString ")").length = 1 := by decide +kernel
theorem ll3 : (Str.ofString "end of document").length = 15 := by decide +kernel
theorem ll4 : (Str.ofString "line ").length = 5 := by decide +kernel
theorem ll5 : (Str.ofString ", column ").length = 9 := by decide +kernel
theorem ll6 : (Str.ofString "Invalid hex value").length = 17 := by decide +kernel
theorem ll7 : (Str.ofString "Escaped character is not a Unicode scalar value").length = 47 := by decide +kernel
theorem ll8 : (Str.ofString " (at end of document)").length = 21 := by decide +kernel
theorem ll9 : (Str.ofString " (at line ").length = 10 := by decide +kernel
theorem ll10 : (Str.ofString " ").length = 1 := by decide +kernel
theorem ll11 : (Str.ofString "\n").length = 1 := by decide +kernel
theorem ll12 : (Str.ofString "g").length = 1 := by decide +kernel
theorem ll13 : (Str.ofString "0123456789abcdef").length = 16 := by decide +kernel
theorem ll14 : (Str.ofString "0123456789ABCDEF").length = 16 := by decide +kernel
theorem lle : Str.empty.length = 0 := rfl
/-- the goal is put behind a name while hypotheses are taken apart: the proof's motives stay small -/
theorem hide_goal {P : Prop} (h : ∀ G : Prop, (P → G) → G) : P := h P id
end
section
local macro_rules | `(tactic| walk_at "binaryOp RShift int int") => `(tactic| (k_here; k_dflt (refine rs_step ?_)))
local macro_rules | `(tactic| walk_at "exec While") => `(tactic| (refine Mark.mk ?_))
local macro_rules | `(tactic| walk_at "setItem ref int") => `(tactic| (k_here; k_dflt (refine si_step (by k_asm) (by k_asm) (by assumption) ?_); intro h' F' N'; (try k_sweep)))
-- CSd
section
theorem lines_CSd : True := by
  k_with_none
  k_with "subscriptTail Name Name ref int" => (k_here; k_dflt (refine gi_step (by k_asm) (by first | assumption | exact Int.natCast_nonneg _ | omega) (by first | assumption | exact ix_lt (by assumption) (by assumption) | omega) (by first | assumption | omega) ?_))
  k_with "compareOp Lt" => (k_here; k_dflt (refine cmp_step (by assumption) (by k_asm) (by first | assumption | exact dom_getD (by assumption) (by first | assumption | exact ix_nat (by assumption) (by assumption) (by assumption) | omega)) (by first | assumption | exact dom_getD (by assumption) (by first | assumption | exact ix_nat (by assumption) (by assumption) (by assumption) | omega)) (by ktr_units) ?_))
  trivial
def sdGo (lt : Value → Value → Bool) (new : Value) (st : Nat) (p : Nat) (vs : List Value) : List Value :=
  if st < p then
    if lt new (vs.getD ((p - 1) / 2) .none) then sdGo lt new st ((p - 1) / 2) (vs.set p (vs.getD ((p - 1) / 2) .none)) else vs.set p new
  else vs.set p new
termination_by p
decreasing_by exact half_lt (Nat.zero_lt_of_lt (by assumption))
def siftdown (lt : Value → Value → Bool) (vs : List Value) (st p : Nat) : List Value := sdGo lt (vs.getD p .none) st p vs
inductive SJ (mB : Str → Option Value) (a : Addr) (n : Nat) (rest : Led) (R : Nat → List Value → Prop) (M : Nat) (dom : Value → Prop) (k : Nat) (m1 : Str → Option Value) : Led → Prop
  | mk (tp : Tok) (vs1 : List Value) (h1 : m1 "pos" = some (.int k tp)) (h2 : ∀ y, y ∉ (["pos", "parentpos", "parent"] : List Str) → m1 y = mB y) (h4 : R k vs1) (h5 : vs1.length = M) (h6 : k < M) (h7 : ∀ v ∈ vs1, dom v) : SJ mB a n rest R M dom k m1 ((a, listOf vs1.toArray n) :: rest)
set_option maxHeartbeats 4000000 in
theorem c_siftdown (w p loose mean mg mb) (a : Addr) (vs : List Value) (n : Nat) (rest : Led) (lt : Value → Value → Bool) (dom : Value → Prop) (st ps : Nat) (t1 t2 : Tok) (hne : ∀ p ∈ rest, p.1 ≠ a) (hcmp : CmpOK w lt dom rest) (hdom : ∀ v ∈ vs, dom v)
    (h2 : ps < vs.length) (hb : vs.length < 2 ^ 62) :
    CallOK w p loose mean mg mb 94 [.ref a, .int st t1, .int ps t2] ((a, listOf vs.toArray n) :: rest) 1 16 (fun r news' => r = .none ∧ news' = (a, listOf (siftdown lt vs st ps).toArray n) :: rest) (fun _ _ => False) := by
  unfold CallOK
  k_fill
  intro dp un gd cn cs a' ccd cl outer A₀ base h₀ L m s Q E B F X N T hH hC hk hd hu hret herr
  refine wpAny_call ?_
  k_dflt cell_enter
  k_steps
  unfold Mark
  rename Fr _ _ _ _ => F1
  rename News _ _ _ _ => N1
  refine While_inv2 (J := SJ _ a n rest (fun p vs1 => sdGo lt (vs.getD ps .none) st p vs1 = siftdown lt vs st ps) vs.length dom) (n₀ := ps) F1 N1 ⟨t2, vs, by rfl, fun _ _ => rfl, rfl, rfl, h2, hdom⟩ ?turn
  intro k m1 news1 hh tk1 F2 N2 hZ10
  revert F2 N2
  obtain ⟨tp, vs1, hpos, hm, hgo, hlen, hlt, hdm⟩ := hZ10
  intro F2 N2
  have e := ov_eq [("pos", some (.int k tp)), ("parentpos", m1 "parentpos"), ("parent", m1 "parent")] (by simp [hpos]) hm
  clear F1 N1
  generalize m1 "parentpos" = u1 at e
  generalize m1 "parent" = u2 at e
  subst e
  have hk1 : k < vs1.length := hlen.symm ▸ hlt
  have hq := Nat.lt_of_le_of_lt (Nat.le_trans (Nat.div_le_self (k - 1) 2) (Nat.sub_le k 1)) hk1
  have hki := Int.ofNat_lt.mpr hk1
  have hqi := Int.ofNat_lt.mpr hq
  have hb1 : vs1.length < 2 ^ 62 := hlen.symm ▸ hb
  k_steps
  all_goals (try dsimp only)
  · refine wstep_cont (n' := (k - 1) / 2) (by k_asm) (by k_asm) (half_lt (pos_of (by assumption))) ⟨_, _, by rfl, ?_, ?_, ?_, ?_, ?_⟩
    · refine up_off (by k_memK) (up_off (by k_memK) (up_off (by k_memK) fun y hy => ov_off hy))
    · rename lt _ _ = true => hl
      simp only [Int.toNat_natCast] at hl ⊢
      rw [← hgo, sdGo.eq_def lt _ st k, if_pos (Int.ofNat_lt.mp (by assumption)), if_pos hl]
    · exact set_len hlen
    · exact hlen ▸ hq
    · exact dom_set hdm (dom_getD hdm hq)
  · dsimp only [WhileStep2]
    k_steps
    refine hret _ _ _ _ ⟨rfl, ?_⟩ (by k_asm) (by k_asm)
    rename lt _ _ = false => hl
    simp only [Int.toNat_natCast] at hl ⊢
    rw [← hgo, sdGo.eq_def lt _ st k, if_pos (Int.ofNat_lt.mp (by assumption)), if_neg (by rw [hl]; exact Bool.false_ne_true)]
  · refine hret _ _ _ _ ⟨rfl, ?_⟩ (by k_asm) (by k_asm)
    simp only [Int.toNat_natCast]
    rw [← hgo, sdGo.eq_def lt _ st k, if_neg (fun h => by rename ¬ _ => hn; exact hn (Int.ofNat_lt.mpr h))]
end
-- Base2
section
def flipB (lt : Value → Value → Bool) : Value → Value → Bool := fun x y => lt y x
section
variable {w : World} {A : Around} {E : Value → Shared → Prop} {s : Shared} {h₀ : Heap} {L a : Addr} {m : Str → Option Value} {rest : Led} {vs : List Value} {n : Nat} {k : Int} {u : Tok}
theorem len_step {Q : Value → Shared → Prop} (N : News h₀ L s.heap ((a, listOf vs.toArray n) :: rest)) (hb : vs.length < 2 ^ 62)
    (h : Q (.int (vs.length : Int) (s.toks + 1)) { s with toks := s.toks + 1 + 1 }) : wpAny (model PW w) A (call (.builtin "len") [.ref a]) Q E s := by
  have hl : s.heap.IsList a vs.toArray := PySem.IsL.isList (n := n) (N _ (.head _)).1
  refine len_list hl (by simp; omega) ?_
  simpa using h
end
theorem news_isL {h₀ h : Heap} {L a : Addr} {news : Led} {vs : List Value} {n : Nat} (N : News h₀ L h news) (m : (a, PySem.W.listOf vs.toArray n) ∈ news) : h.IsList a vs.toArray := PySem.IsL.isList (n := n) (N _ m).1
theorem wstep_next {h₀ h' : Heap} {L : Addr} {s : Shared} {J : Nat → (Str → Option Value) → Led → Prop} {Q : Flow → Shared → Prop} {n n' tk : Nat} {m₂ : Str → Option Value} {news₂ : Led} (F : Fr h₀ L h' m₂) (N : News h₀ L h' news₂) (hn : n' < n) (hJ : J n' m₂ news₂) :
    WhileStep2 h₀ L s J Q n .next { s with heap := h', toks := tk } := ⟨h', tk, m₂, news₂, n', rfl, F, N, hn, hJ⟩
/-- the contract at a call -/
theorem CallOK.use {w p loose mean mg mb f vs news d u Out Err} (C : CallOK w p loose mean mg mb f vs news d u Out Err)
  {dp un : Nat} {gd : Option (List Code)} {cn : Str} {cs : Scope} {a : Addr} {ccd : Value} {cl : List (Str × Addr)} {outer : List Env} {A₀ : Around} {base h₀ : Heap} {L : Addr} {m : Str → Option Value} {s : Shared} {Q E : Value → Shared → Prop}
  (B : Below A₀ base outer h₀) (F : Fr h₀ L s.heap m) (X : (KH.heap_1 w.params).In h₀) (N : News h₀ L s.heap news) (T : Top p loose mean mg mb h₀) (hH : HexIn w base) (hC : CodeHd base 44 40) (hk : cs.kind = .function) (hd : dp + d < recursionLimit) (hu : un + u < cLine)
  (ret : ∀ r news' h' tk', Out r news' → Fr h₀ L h' m → News h₀ L h' news' → Q r { s with heap := h', toks := tk' })
  (err : ∀ e news' h' tk', Err e news' → Fr h₀ L h' m → News h₀ L h' news' → E e { s with heap := h', toks := tk' }) :
    wpAny (model PW w) (ktrTop dp un gd cn cs L a ccd cl outer) (call (.ref f) vs) Q E s := C dp un gd cn cs a ccd cl outer A₀ base h₀ L m s Q E B F X N T hH hC hk hd hu ret err
end
-- CSu
section
theorem lines_CSu : True := by
  k_with_none
  k_with "subscriptTail Name Name ref int" => (k_here; k_dflt (refine gi_step (by k_asm) (by first | assumption | exact Int.natCast_nonneg _ | omega) (by first | assumption | exact ix_lt (by assumption) (by assumption) | omega) (by first | assumption | omega) ?_))
  k_with "compareOp Lt" => (k_here; k_dflt (refine cmp_step (by assumption) (by k_asm) (by first | assumption | exact dom_getD (by assumption) (by first | assumption | exact ix_nat (by assumption) (by assumption) (by assumption) | omega)) (by first | assumption | exact dom_getD (by assumption) (by first | assumption | exact ix_nat (by assumption) (by assumption) (by assumption) | omega)) (by ktr_units) ?_))
  trivial
local macro_rules | `(tactic| k_all) => `(tactic| assumption)
local macro_rules | `(tactic| walk_at "call builtin:len") => `(tactic| (k_here; k_dflt (refine len_step (by k_asm) (by omega) ?_)))
def suGo (lt : Value → Value → Bool) (N : Nat) (k : Nat) (vs : List Value) : Nat × List Value :=
  if h : 2 * k + 1 < N then
    let c := if 2 * k + 2 < N ∧ lt (vs.getD (2 * k + 1) .none) (vs.getD (2 * k + 2) .none) = false then 2 * k + 2 else 2 * k + 1
    suGo lt N c (vs.set k (vs.getD c .none))
  else (k, vs)
termination_by N - k
decreasing_by
  split
  · exact Nat.sub_lt_sub_left (Nat.lt_of_le_of_lt (by omega) h) (by omega)
  · exact Nat.sub_lt_sub_left (Nat.lt_of_le_of_lt (by omega) h) (by omega)
def siftup (lt : Value → Value → Bool) (vs : List Value) (p : Nat) : List Value :=
  let r := suGo lt vs.length p vs
  siftdown lt (r.2.set r.1 (vs.getD p .none)) p r.1
inductive SUJ (mB : Str → Option Value) (a : Addr) (n : Nat) (rest : Led) (N : Nat) (R : Nat → List Value → Prop) (dom : Value → Prop) : Nat → (Str → Option Value) → Led → Prop
  | mk (k : Nat) (tp tc : Tok) (vs1 : List Value) (m1 : Str → Option Value) (h1 : m1 "pos" = some (.int k tp)) (h2 : m1 "childpos" = some (.int (2 * (k : Int) + 1) tc)) (h3 : ∀ y, y ∉ (["pos", "childpos", "rightpos"] : List Str) → m1 y = mB y) (h4 : R k vs1) (h5 : vs1.length = N) (h6 : k < N) (h7 : ∀ v ∈ vs1, dom v) : SUJ mB a n rest N R dom (N - k) m1 ((a, listOf vs1.toArray n) :: rest)
theorem dbl (k : Nat) : k < 2 * k + 1 := Nat.lt_succ_of_le (Nat.le_mul_of_pos_left k (by decide))
theorem lt1 {k N : Nat} (h : 2 * (k : Int) + 1 < N) : 2 * k + 1 < N := Int.ofNat_lt.mp h
theorem lt2 {k N : Nat} (h : 2 * (k : Int) + 1 + 1 < N) : 2 * k + 2 < N := Int.ofNat_lt.mp h
theorem suGo_len {lt N k vs} : (suGo lt N k vs).2.length = vs.length := by
  fun_induction suGo lt N k vs with
  | case1 k vs h c ih => rw [ih]; simp
  | case2 => rfl
theorem su_right {lt : Value → Value → Bool} {N k : Nat} {vs : List Value} (h1 : 2 * k + 2 < N) (h2 : lt (vs.getD (2 * k + 1) .none) (vs.getD (2 * k + 2) .none) = false) :
    suGo lt N k vs = suGo lt N (2 * k + 2) (vs.set k (vs.getD (2 * k + 2) .none)) := by
  rw [suGo.eq_def lt N k vs, dif_pos (by omega)]
  simp only [if_pos (And.intro h1 h2)]
theorem su_left {lt : Value → Value → Bool} {N k : Nat} {vs : List Value} (h0 : 2 * k + 1 < N) (h : ¬ (2 * k + 2 < N ∧ lt (vs.getD (2 * k + 1) .none) (vs.getD (2 * k + 2) .none) = false)) :
    suGo lt N k vs = suGo lt N (2 * k + 1) (vs.set k (vs.getD (2 * k + 1) .none)) := by
  rw [suGo.eq_def lt N k vs, dif_pos h0]
  simp only [if_neg h]
theorem su_end {lt : Value → Value → Bool} {N k : Nat} {vs : List Value} (h0 : ¬ 2 * k + 1 < N) : suGo lt N k vs = (k, vs) := by
  rw [suGo.eq_def lt N k vs, dif_neg h0]
local macro_rules | `(tactic| walk_at "call ref") => `(tactic| (refine Mark.mk ?_))
/-- a test that comes out false in more than one way: what follows is walked once -/
theorem false_once {w : World} {A : Around} {t : Sem Bool} {Q : Bool → Shared → Prop} {E : Value → Shared → Prop} {s : Shared} {C : Prop}
    (ht : wpAny (model PW w) A t (fun b s' => if b = true then Q true s' else C ∧ ∃ tk, s' = { s with toks := tk }) E s) (hf : C → ∀ tk, Q false { s with toks := tk }) : wpAny (model PW w) A t Q E s :=
  wpAny_mono ht (fun b s' h => by
    cases b with
    | true => exact h
    | false => obtain ⟨c, tk, rfl⟩ := h; exact hf c tk) fun _ _ x => x
local macro_rules | `(tactic| walk_at "isTrue BoolOp") => `(tactic| ((with_reducible show wpAny _ _ (isTrue (PySem.Expr.BoolOp _ [_, _] _) _ _) _ _ _); refine Mark.mk ?_))
set_option maxHeartbeats 4000000 in
theorem c_siftup (w p loose mean mg mb) (a : Addr) (vs : List Value) (n : Nat) (rest : Led) (lt : Value → Value → Bool) (dom : Value → Prop) (ps : Nat) (t2 : Tok) (hne : ∀ p ∈ rest, p.1 ≠ a) (hcmp : CmpOK w lt dom rest) (hdom : ∀ v ∈ vs, dom v)
    (h2 : ps < vs.length) (hb : vs.length < 2 ^ 60) :
    CallOK w p loose mean mg mb 101 [.ref a, .int ps t2] ((a, listOf vs.toArray n) :: rest) 2 32 (fun r news' => r = .none ∧ news' = (a, listOf (siftup lt vs ps).toArray n) :: rest) (fun _ _ => False) := by
  unfold CallOK
  k_fill
  intro dp un gd cn cs a' ccd cl outer A₀ base h₀ L m s Q E B F X N T hH hC hk hd hu hret herr
  refine wpAny_call ?_
  k_dflt cell_enter
  k_steps
  unfold Mark
  rename Fr _ _ _ _ => F1
  rename News _ _ _ _ => N1
  refine While_inv2 (J := SUJ _ a n rest vs.length (fun p vs1 => suGo lt vs.length p vs1 = suGo lt vs.length ps vs) dom) (n₀ := vs.length - ps) F1 N1 ⟨ps, _, _, vs, _, by rfl, by rfl, fun _ _ => rfl, rfl, rfl, h2, hdom⟩ ?turn
  intro j m1 news1 hh tk1 F2 N2 hZ10
  revert F2 N2
  obtain ⟨k, tp, tc, vs1, m1, hpos, hch, hm, hgo, hlen, hlt, hdm⟩ := hZ10
  intro F2 N2
  have e := ov_eq [("pos", some (.int k tp)), ("childpos", some (.int (2 * (k : Int) + 1) tc)), ("rightpos", m1 "rightpos")] (by simp [hpos, hch]) hm
  clear F1 N1
  generalize m1 "rightpos" = u1 at e
  subst e
  have hki : (k : Int) < vs1.length := Int.ofNat_lt.mpr (hlen.symm ▸ hlt)
  have hc0 : (0 : Int) ≤ 2 * k + 1 := Int.natCast_nonneg (2 * k + 1)
  have hc1 : (0 : Int) ≤ 2 * k + 1 + 1 := Int.natCast_nonneg (2 * k + 1 + 1)
  have hb1 : vs1.length < 2 ^ 62 := Nat.lt_trans (hlen.symm ▸ hb) (by decide)
  k_steps
  · unfold Mark
    refine false_once (C := ¬ (2 * k + 2 < vs.length ∧ lt (vs1.getD (2 * k + 1) .none) (vs1.getD (2 * k + 2) .none) = false)) ?_ ?_
    · refine isTrue_and ?_
      k_steps
      all_goals (try dsimp only)
      · rename lt _ _ = true => hl
        have e1 : (2 * (k : Int) + 1).toNat = 2 * k + 1 := rfl
        have e2 : (2 * (k : Int) + 1 + 1).toNat = 2 * k + 2 := rfl
        rw [e1, e2] at hl
        exact fun hh => absurd (hl.symm.trans hh.2) (by decide)
      · rename lt _ _ = false => hl
        have e1 : (2 * (k : Int) + 1).toNat = 2 * k + 1 := rfl
        have e2 : (2 * (k : Int) + 1 + 1).toNat = 2 * k + 2 := rfl
        rw [e1, e2] at hl
        refine wstep_next (n' := vs.length - (2 * k + 2)) (by k_asm) (by k_asm) (Nat.sub_lt_sub_left hlt (Nat.lt_succ_of_lt (dbl k))) ⟨2 * k + 2, _, _, _, _, by rfl, by rfl, up_off (by k_memK) (up_off (by k_memK) (up_off (by k_memK) (up_off (by k_memK) fun y hy => ov_off hy))), ?_, set_len hlen, lt2 (by assumption), dom_set hdm (dom_getD hdm (Nat.lt_of_lt_of_eq (lt2 (k := k) (by assumption)) hlen.symm))⟩
        rw [← hgo, su_right (k := k) (lt2 (by assumption)) hl, Int.toNat_natCast]
      · exact fun hh => (by rename ¬ _ => hn; exact hn (Int.ofNat_lt.mpr hh.1))
    · intro hC9 tk9
      k_steps
      try dsimp only
      refine wstep_next (n' := vs.length - (2 * k + 1)) (by k_asm) (by k_asm) (Nat.sub_lt_sub_left hlt (dbl k)) ⟨2 * k + 1, _, _, _, _, by rfl, by rfl, up_off (by k_memK) (up_off (by k_memK) (up_off (by k_memK) fun y hy => ov_off hy)), ?_, set_len hlen, lt1 (by assumption), dom_set hdm (dom_getD hdm (Nat.lt_of_lt_of_eq (lt1 (k := k) (by assumption)) hlen.symm))⟩
      rw [← hgo, su_left (k := k) (lt1 (by assumption)) hC9, Int.toNat_natCast]
  · unfold Mark
    k_dflt (refine CallOK.use (c_siftdown _ _ _ _ _ _ _ _ _ _ _ _ _ _ _ _ ?hne (by assumption) ?hdom ?h2 ?hb) (by k_asm) (by k_asm) (by k_asm) (by k_asm) (by k_asm) (by assumption) (by assumption) (by first | exact rfl | assumption) (by ktr_room) (by ktr_units) ?ret (fun _ _ _ _ h => h.elim))
    (case' ret => (intro r9 n9 h9 tk9 hO9 F9 N9; refine hide_goal ?_; intro G9 hG9; obtain ⟨e91, e92⟩ := hO9; subst e91; subst e92; refine hG9 ?_; clear hG9 G9; (try dsimp only); (try k_sweep)))
    (all_goals (try (first | assumption | omega | exact dom_set (by assumption) (dom_getD (by assumption) (by omega)) | (simp only [List.length_set]; omega))))
    k_steps
    refine hret _ _ _ _ ⟨rfl, ?_⟩ (by k_asm) (by k_asm)
    rw [siftup, ← hgo, su_end (fun h => by rename ¬ _ => hn; exact hn (Int.ofNat_lt.mpr h))]
    rfl
end
-- CMax
section
theorem lines_CMax : True := by
  k_with_none
  k_with "subscriptTail Name Name ref int" => (k_here; k_dflt (refine gi_step (by k_asm) (by first | assumption | exact Int.natCast_nonneg _ | omega) (by first | assumption | exact ix_lt (by assumption) (by assumption) | omega) (by first | assumption | omega) ?_))
  k_with "compareOp Lt" => (k_here; k_dflt (refine cmp_step (by assumption) (by k_asm) (by first | assumption | exact dom_getD (by assumption) (by first | assumption | exact ix_nat (by assumption) (by assumption) (by assumption) | omega)) (by first | assumption | exact dom_getD (by assumption) (by first | assumption | exact ix_nat (by assumption) (by assumption) (by assumption) | omega)) (by ktr_units) ?_))
  trivial
local macro_rules | `(tactic| k_all) => `(tactic| assumption)
local macro_rules | `(tactic| walk_at "call builtin:len") => `(tactic| (k_here; k_dflt (refine len_step (by k_asm) (by omega) ?_)))
set_option maxHeartbeats 4000000 in
theorem c_siftdown_max (w p loose mean mg mb) (a : Addr) (vs : List Value) (n : Nat) (rest : Led) (lt : Value → Value → Bool) (dom : Value → Prop) (st ps : Nat) (t1 t2 : Tok) (hne : ∀ p ∈ rest, p.1 ≠ a) (hcmp : CmpOK w lt dom rest) (hdom : ∀ v ∈ vs, dom v)
    (h2 : ps < vs.length) (hb : vs.length < 2 ^ 62) :
    CallOK w p loose mean mg mb 108 [.ref a, .int st t1, .int ps t2] ((a, listOf vs.toArray n) :: rest) 1 16 (fun r news' => r = .none ∧ news' = (a, listOf (siftdown (flipB lt) vs st ps).toArray n) :: rest) (fun _ _ => False) := by
  unfold CallOK
  k_fill
  intro dp un gd cn cs a' ccd cl outer A₀ base h₀ L m s Q E B F X N T hH hC hk hd hu hret herr
  refine wpAny_call ?_
  k_dflt cell_enter
  k_steps
  unfold Mark
  rename Fr _ _ _ _ => F1
  rename News _ _ _ _ => N1
  refine While_inv2 (J := SJ _ a n rest (fun p vs1 => sdGo (flipB lt) (vs.getD ps .none) st p vs1 = siftdown (flipB lt) vs st ps) vs.length dom) (n₀ := ps) F1 N1 ⟨t2, vs, by rfl, fun _ _ => rfl, rfl, rfl, h2, hdom⟩ ?turn
  intro k m1 news1 hh tk1 F2 N2 hZ10
  revert F2 N2
  obtain ⟨tp, vs1, hpos, hm, hgo, hlen, hlt, hdm⟩ := hZ10
  intro F2 N2
  have e := ov_eq [("pos", some (.int k tp)), ("parentpos", m1 "parentpos"), ("parent", m1 "parent")] (by simp [hpos]) hm
  clear F1 N1
  generalize m1 "parentpos" = u1 at e
  generalize m1 "parent" = u2 at e
  subst e
  have hk1 : k < vs1.length := hlen.symm ▸ hlt
  have hq := Nat.lt_of_le_of_lt (Nat.le_trans (Nat.div_le_self (k - 1) 2) (Nat.sub_le k 1)) hk1
  have hki := Int.ofNat_lt.mpr hk1
  have hqi := Int.ofNat_lt.mpr hq
  have hb1 : vs1.length < 2 ^ 62 := hlen.symm ▸ hb
  k_steps
  all_goals (try dsimp only)
  · refine wstep_cont (n' := (k - 1) / 2) (by k_asm) (by k_asm) (half_lt (pos_of (by assumption))) ⟨_, _, by rfl, ?_, ?_, ?_, ?_, ?_⟩
    · refine up_off (by k_memK) (up_off (by k_memK) (up_off (by k_memK) fun y hy => ov_off hy))
    · rename lt _ _ = true => hl
      simp only [Int.toNat_natCast] at hl ⊢
      rw [← hgo, sdGo.eq_def (flipB lt) _ st k, if_pos (Int.ofNat_lt.mp (by assumption)), if_pos (show flipB lt _ _ = true from hl)]
    · exact set_len hlen
    · exact hlen ▸ hq
    · exact dom_set hdm (dom_getD hdm hq)
  · dsimp only [WhileStep2]
    k_steps
    refine hret _ _ _ _ ⟨rfl, ?_⟩ (by k_asm) (by k_asm)
    rename lt _ _ = false => hl
    simp only [Int.toNat_natCast] at hl ⊢
    rw [← hgo, sdGo.eq_def (flipB lt) _ st k, if_pos (Int.ofNat_lt.mp (by assumption)), if_neg (by rw [show flipB lt _ _ = false from hl]; exact Bool.false_ne_true)]
  · refine hret _ _ _ _ ⟨rfl, ?_⟩ (by k_asm) (by k_asm)
    simp only [Int.toNat_natCast]
    rw [← hgo, sdGo.eq_def (flipB lt) _ st k, if_neg (fun h => by rename ¬ _ => hn; exact hn (Int.ofNat_lt.mpr h))]
local macro_rules | `(tactic| walk_at "call ref") => `(tactic| (refine Mark.mk ?_))
local macro_rules | `(tactic| walk_at "isTrue BoolOp") => `(tactic| ((with_reducible show wpAny _ _ (isTrue (PySem.Expr.BoolOp _ [_, _] _) _ _) _ _ _); refine Mark.mk ?_))
set_option maxHeartbeats 4000000 in
theorem c_siftup_max (w p loose mean mg mb) (a : Addr) (vs : List Value) (n : Nat) (rest : Led) (lt : Value → Value → Bool) (dom : Value → Prop) (ps : Nat) (t2 : Tok) (hne : ∀ p ∈ rest, p.1 ≠ a) (hcmp : CmpOK w lt dom rest) (hdom : ∀ v ∈ vs, dom v)
    (h2 : ps < vs.length) (hb : vs.length < 2 ^ 60) :
    CallOK w p loose mean mg mb 115 [.ref a, .int ps t2] ((a, listOf vs.toArray n) :: rest) 2 32 (fun r news' => r = .none ∧ news' = (a, listOf (siftup (flipB lt) vs ps).toArray n) :: rest) (fun _ _ => False) := by
  unfold CallOK
  k_fill
  intro dp un gd cn cs a' ccd cl outer A₀ base h₀ L m s Q E B F X N T hH hC hk hd hu hret herr
  refine wpAny_call ?_
  k_dflt cell_enter
  k_steps
  unfold Mark
  rename Fr _ _ _ _ => F1
  rename News _ _ _ _ => N1
  refine While_inv2 (J := SUJ _ a n rest vs.length (fun p vs1 => suGo (flipB lt) vs.length p vs1 = suGo (flipB lt) vs.length ps vs) dom) (n₀ := vs.length - ps) F1 N1 ⟨ps, _, _, vs, _, by rfl, by rfl, fun _ _ => rfl, rfl, rfl, h2, hdom⟩ ?turn
  intro j m1 news1 hh tk1 F2 N2 hZ20
  revert F2 N2
  obtain ⟨k, tp, tc, vs1, m1, hpos, hch, hm, hgo, hlen, hlt, hdm⟩ := hZ20
  intro F2 N2
  have e := ov_eq [("pos", some (.int k tp)), ("childpos", some (.int (2 * (k : Int) + 1) tc)), ("rightpos", m1 "rightpos")] (by simp [hpos, hch]) hm
  clear F1 N1
  generalize m1 "rightpos" = u1 at e
  subst e
  have hki : (k : Int) < vs1.length := Int.ofNat_lt.mpr (hlen.symm ▸ hlt)
  have hc0 : (0 : Int) ≤ 2 * k + 1 := Int.natCast_nonneg (2 * k + 1)
  have hc1 : (0 : Int) ≤ 2 * k + 1 + 1 := Int.natCast_nonneg (2 * k + 1 + 1)
  have hb1 : vs1.length < 2 ^ 62 := Nat.lt_trans (hlen.symm ▸ hb) (by decide)
  k_steps
  · unfold Mark
    refine false_once (C := ¬ (2 * k + 2 < vs.length ∧ lt (vs1.getD (2 * k + 2) .none) (vs1.getD (2 * k + 1) .none) = false)) ?_ ?_
    · refine isTrue_and ?_
      k_steps
      all_goals (try dsimp only)
      · rename lt _ _ = true => hl
        have e1 : (2 * (k : Int) + 1).toNat = 2 * k + 1 := rfl
        have e2 : (2 * (k : Int) + 1 + 1).toNat = 2 * k + 2 := rfl
        rw [e1, e2] at hl
        exact fun hh => absurd (hl.symm.trans hh.2) (by decide)
      · rename lt _ _ = false => hl
        have e1 : (2 * (k : Int) + 1).toNat = 2 * k + 1 := rfl
        have e2 : (2 * (k : Int) + 1 + 1).toNat = 2 * k + 2 := rfl
        rw [e1, e2] at hl
        refine wstep_next (n' := vs.length - (2 * k + 2)) (by k_asm) (by k_asm) (Nat.sub_lt_sub_left hlt (Nat.lt_succ_of_lt (dbl k))) ⟨2 * k + 2, _, _, _, _, by rfl, by rfl, up_off (by k_memK) (up_off (by k_memK) (up_off (by k_memK) (up_off (by k_memK) fun y hy => ov_off hy))), ?_, set_len hlen, lt2 (by assumption), dom_set hdm (dom_getD hdm (Nat.lt_of_lt_of_eq (lt2 (k := k) (by assumption)) hlen.symm))⟩
        rw [← hgo, su_right (k := k) (lt2 (by assumption)) (show flipB lt _ _ = false from hl), Int.toNat_natCast]
      · exact fun hh => (by rename ¬ _ => hn; exact hn (Int.ofNat_lt.mpr hh.1))
    · intro hC9 tk9
      k_steps
      try dsimp only
      refine wstep_next (n' := vs.length - (2 * k + 1)) (by k_asm) (by k_asm) (Nat.sub_lt_sub_left hlt (dbl k)) ⟨2 * k + 1, _, _, _, _, by rfl, by rfl, up_off (by k_memK) (up_off (by k_memK) (up_off (by k_memK) fun y hy => ov_off hy)), ?_, set_len hlen, lt1 (by assumption), dom_set hdm (dom_getD hdm (Nat.lt_of_lt_of_eq (lt1 (k := k) (by assumption)) hlen.symm))⟩
      rw [← hgo, su_left (k := k) (lt1 (by assumption)) hC9, Int.toNat_natCast]
  · unfold Mark
    k_dflt (refine CallOK.use (c_siftdown_max _ _ _ _ _ _ _ _ _ _ _ _ _ _ _ _ ?hne (by assumption) ?hdom ?h2 ?hb) (by k_asm) (by k_asm) (by k_asm) (by k_asm) (by k_asm) (by assumption) (by assumption) (by first | exact rfl | assumption) (by ktr_room) (by ktr_units) ?ret (fun _ _ _ _ h => h.elim))
    (case' ret => (intro r9 n9 h9 tk9 hO9 F9 N9; refine hide_goal ?_; intro G9 hG9; obtain ⟨e91, e92⟩ := hO9; subst e91; subst e92; refine hG9 ?_; clear hG9 G9; (try dsimp only); (try k_sweep)))
    (all_goals (try (first | assumption | omega | exact dom_set (by assumption) (dom_getD (by assumption) (by omega)) | (simp only [List.length_set]; omega))))
    k_steps
    refine hret _ _ _ _ ⟨rfl, ?_⟩ (by k_asm) (by k_asm)
    rw [siftup, ← hgo, su_end (fun h => by rename ¬ _ => hn; exact hn (Int.ofNat_lt.mpr h))]
    rfl
end
-- RevR
section
theorem sub_ri_reversed : isSubtype (.type "range_iterator") (.type "reversed") = pure false := by rw [isSubtype_type]; kernel_rfl
section
variable {prog : Program} {w : World} {A : Around} {E : Value → Shared → Prop} {s : Shared}
def rIt (x left step : Int) : Obj := { cls := .type "range_iterator", dict := none, data := .fields #[rawInt x, rawInt left, rawInt step], slots := #[] }
theorem rangeSize_up (N : Nat) : Builtin.Range.rangeSize 0 (N : Int) 1 = (N : Int) := by
  unfold Builtin.Range.rangeSize
  simp
  first | omega | (split <;> omega)
theorem rangeFields_at {r : Addr} {a b c : Int} {t u v : Tok} {Q : Int × Int × Int → Shared → Prop} (hr : IsRange s.heap r a b c t u v) (h : Q (a, b, c) s) : wpAny (model prog w) A (Builtin.Range.rangeFields (.ref r)) Q E s := by
  unfold Builtin.Range.rangeFields
  refine wpAny_bind (wpAny_field hr rfl (x := Value.int a t) rfl ?_)
  refine wpAny_bind (wpAny_pure ?_)
  refine wpAny_bind (wpAny_field hr rfl (x := Value.int b u) rfl ?_)
  refine wpAny_bind (wpAny_pure ?_)
  refine wpAny_bind (wpAny_field hr rfl (x := Value.int c v) rfl ?_)
  refine wpAny_bind (wpAny_pure ?_)
  exact wpAny_pure h
theorem call_range_reversed {r : Addr} {N : Nat} {t u v : Tok} {Q : Value → Shared → Prop} (hr : IsRange s.heap r 0 N 1 t u v) (hN : N < 2 ^ 62)
    (h : Q (.ref s.heap.objs.size) { s with heap := s.heap.push (rIt ((N : Int) - 1) N (-1)) }) : wpAny (model prog w) A (call (.builtin "range.__reversed__") [.ref r]) Q E s := by
  have hT : s.TypeIs (.ref r) "range" := ⟨_, hr, rfl⟩
  refine wpAny_call_entry F.slot_range_reversed hT F.entry_range_reversed ?_ (F.args_range_reversed_1 _)
  unfold Builtin.«range.__reversed__»
  refine wpAny_bind (wpAny_of_eq (a := Value.ref r) rfl ?_)
  refine wpAny_bind (rangeFields_at hr ?_)
  simp only [rangeSize_up]
  have hs : (Builtin.Range.rangeFitsLong 0 && Builtin.Range.rangeFitsLong (N : Int) && Builtin.Range.rangeFitsLong 1 && Builtin.Range.rangeFitsLong (-1) && Builtin.Range.rangeFitsLong (0 - 1) && Builtin.Range.rangeFitsLong (N : Int)) = true := by
    simp only [Builtin.Range.rangeFitsLong, Bool.and_eq_true, decide_eq_true_eq]; omega
  simp only [hs, Bool.not_true, Bool.false_eq_true, if_false, if_true]
  refine wpAny_bind (wpAny_newObj_type (wpAny_pure ⟨_, rfl, ?_⟩))
  have e : (0 : Int) + ((N : Int) - 1) * 1 = (N : Int) - 1 := by omega
  rw [e]
  exact h
theorem newClass_reversedR (a : Value) : Builtin.SmallTypes.newClass "reversed" ⟨[.type "reversed", a], []⟩ = pure (.type "reversed", [a]) := newClass_reversed a
theorem code_reversed_newR {r : Addr} {N : Nat} {t u v : Tok} {Q₁ : Value → Shared → Prop} (hr : IsRange s.heap r 0 N 1 t u v) (hN : N < 2 ^ 62)
    (h : Q₁ (.ref s.heap.objs.size) { s with heap := s.heap.push (rIt ((N : Int) - 1) N (-1)) }) :
    codeAny (model prog w) A (.call (.builtin "reversed.__new__") ⟨[.type "reversed", .ref r], []⟩) (wants Q₁ E) s := by
  have hT : s.TypeIs (.ref r) "range" := ⟨_, hr, rfl⟩
  refine codeAny_of_tree ?_
  show wpAny _ A.in1 (do checkBuiltinCall "reversed.__new__" ⟨[.type "reversed", .ref r], []⟩; again (.builtin "reversed.__new__" ⟨[.type "reversed", .ref r], []⟩)) _ _ s
  refine wpAny_bind (wpAny_of_eq (F.newCall_reversed_1 _) (wpAny_pure ⟨plainId_quiet F.plain_reversed_new _, codeAny_builtin F.entry_reversed_new ?_⟩))
  rw [Around.under_plainId F.plain_reversed_new _]
  unfold Builtin.«reversed.__new__»
  refine wpAny_bind (wpAny_of_eq (newClass_reversedR _) ?_)
  try dsimp only
  refine wpAny_bind (wpAny_of_eq (a := ()) (by first | rfl | kernel_rfl) ?_)
  refine wpAny_bind (wpAny_of_eq (a := ()) (by first | rfl | kernel_rfl) ?_)
  try dsimp only
  refine wpAny_bind (wpAny_specialOf hT F.slot_range_reversed.lookup ?_)
  try dsimp only
  refine wpAny_bind (wpAny_of_eq (F.slot_range_reversed.bind _) ?_)
  try dsimp only
  first
  | rw [if_neg (show ¬ ((Value.builtin "range.__reversed__" == Value.none) = true) from Bool.false_ne_true)]
  | (show wpAny _ _ (if (Value.builtin "range.__reversed__" == Value.none) = true then _ else _) _ _ _; rw [if_neg (show ¬ ((Value.builtin "range.__reversed__" == Value.none) = true) from Bool.false_ne_true)])
  refine wpAny_bind (wpAny_rule ?_)
  refine wpAny_bind (m := runValue (.call (.builtin "range.__reversed__") ⟨[.ref r], []⟩)) (show wpAny _ _ (call (.builtin "range.__reversed__") [.ref r]) _ _ _ from call_range_reversed hr hN ?_)
  first
  | exact wpAny_pure h
  | exact wpAny_bind (wpAny_pure (wpAny_pure h))
theorem call_reversed_range {r : Addr} {N : Nat} {t u v : Tok} {Q : Value → Shared → Prop} (hr : IsRange s.heap r 0 N 1 t u v) (hN : N < 2 ^ 62)
    (h : Q (.ref s.heap.objs.size) { s with heap := s.heap.push (rIt ((N : Int) - 1) N (-1)) }) : wpAny (model prog w) A (call (.type "reversed") [.ref r]) Q E s := by
  refine callType_other (U := "range_iterator") (Q₁ := fun obj s₁ => obj = .ref s.heap.objs.size ∧ s₁ = { s with heap := s.heap.push (rIt ((N : Int) - 1) N (-1)) }) (by decide +kernel) F.create_reversed ⟨_, _, F.mro_reversed⟩ F.made_reversed sub_ri_reversed (F.typeCall_reversed_1 _) (code_reversed_newR hr hN ⟨rfl, rfl⟩) ?_
  intro obj s₁ hZ10
  refine hide_goal ?_
  intro G₀ hG₀
  obtain ⟨rfl, rfl⟩ := hZ10
  refine hG₀ ?_
  clear hG₀ G₀
  exact ⟨⟨_, Heap.get?_push_size _ rfl, rfl⟩, h⟩
/-- with the ledger -/
theorem rev_step {h₀ : Heap} {L : Addr} {m : Str → Option Value} {news : Led} {r : Addr} {N : Nat} {t u v : Tok} {Q : Value → Shared → Prop} (F : Fr h₀ L s.heap m) (Ne : News h₀ L s.heap news) (hr : IsRange s.heap r 0 N 1 t u v) (hN : N < 2 ^ 62)
    (h : ∀ D h', Fr h₀ L h' m → News h₀ L h' ((D, rIt ((N : Int) - 1) N (-1)) :: news) → (∀ p ∈ news, p.1 < D) → Q (.ref D) { s with heap := h' }) : wpAny (model prog w) A (call (.type "reversed") [.ref r]) Q E s := by
  refine call_reversed_range hr hN ?_
  exact h _ _ (F.push _) (News.push F Ne _) fun p hp => Heap.lt_size (Ne p hp).1
theorem rev_stepD {h₀ : Heap} {L : Addr} {m : Str → Option Value} {news : Led} {r : Addr} {N : Nat} {t u v : Tok} {Q : Value → Shared → Prop} (F : Fr h₀ L s.heap m) (Ne : News h₀ L s.heap news) (hr : IsRange s.heap r 0 ((N : Int).fdiv 2) 1 t u v) (hN : N < 2 ^ 62)
    (h : ∀ D h', Fr h₀ L h' m → News h₀ L h' ((D, rIt (((N / 2 : Nat) : Int) - 1) ((N / 2 : Nat) : Int) (-1)) :: news) → (∀ p ∈ news, p.1 < D) → Q (.ref D) { s with heap := h' }) : wpAny (model prog w) A (call (.type "reversed") [.ref r]) Q E s := by
  have e : ((N : Int).fdiv 2) = ((N / 2 : Nat) : Int) := by rw [Int.fdiv_eq_ediv_of_nonneg _ (by decide)]; omega
  rw [e] at hr
  exact rev_step F Ne hr (by omega) h
/-- a loop over any walk, by an invariant; the iterator stands last in the ledger -/
def WkPost (h₀ : Heap) (L : Addr) (J : (Str → Option Value) → Led → Prop) (I : Addr) (it : Obj) (s₁ : Shared) (Q : Flow → Shared → Prop) (f : Flow) (s₂ : Shared) : Prop :=
  match f with
  | .ret v => Q (.ret v) s₂
  | .brk => Q .next s₂
  | _ => ∃ h' tk m' nx, s₂ = { s₁ with heap := h', toks := tk } ∧ Fr h₀ L h' m' ∧ News h₀ L h' (nx ++ [(I, it)]) ∧ (∀ p ∈ nx, p.1 ≠ I) ∧ J m' nx
theorem iter_walk {env : Env} {h₀ : Heap} {x : Str} {body : List Stmt} {Q : Flow → Shared → Prop} {I : Addr} {fp : List Addr} {n : Nat} {P : Nat → Value → Prop} {St : Nat → Heap → Prop} {m₀ : Str → Option Value} {news : Led} {it : Value} (J : Nat → (Str → Option Value) → Led → Prop)
    (hit : it = .ref I) (W : Walks prog w A I fp [I] n P St) (hob : ∀ i h, St i h → ∃ o, h.get? I = some o) (hI : I ∈ fp) (hI0 : h₀.get? I = none) (hL : env.locals ∉ fp)
    (hfix : ∀ b ∈ fp, b ≠ I → (∃ o, h₀.get? b = some o) ∨ ∃ o, ∀ i m nx, J i m nx → (b, o) ∈ nx)
    (st : St 0 s.heap) (F : Fr h₀ env.locals s.heap m₀) (N : News h₀ env.locals s.heap news) (hn : ∀ p ∈ news, p.1 ≠ I) (hj : J 0 m₀ news)
    (turn : ∀ i v m₁ news₁ h tk io, i < n → P i v → J i m₁ news₁ → (∀ p ∈ news₁, p.1 ≠ I) → Fr h₀ env.locals h (fun y => if y = x then some v else m₁ y) → News h₀ env.locals h (news₁ ++ [(I, io)]) →
      wpAny (model prog w) A (execs body env) (WkPost h₀ env.locals (J (i + 1)) I io { s with heap := h, toks := tk } Q) E { s with heap := h, toks := tk })
    (done : ∀ m₁ news₁ h tk, J n m₁ news₁ → (∀ p ∈ news₁, p.1 ≠ I) → Fr h₀ env.locals h m₁ → News h₀ env.locals h news₁ → Q .next { s with heap := h, toks := tk }) :
    LoopAtV prog w A h₀ env x body Q E it s := by
  subst hit
  refine ⟨I, fp, [I], n, P, St, m₀, news, J, rfl, W, hL, ?_, ?_, st, F, N, hj, ?_, ?_⟩
  · intro b hb
    rw [List.mem_singleton.mp hb]; exact hI0
  · intro p hp hm
    exact hn p hp (List.mem_singleton.mp hm)
  · intro i v m₁ news₁ s₁ own hZ20 hin hP hJ hoff hown hget hall hst F₁ N₁
    refine hide_goal ?_
    intro G₀ hG₀
    obtain ⟨hh', tk', rfl⟩ := hZ20
    obtain ⟨io, hio⟩ := hob _ _ hst
    refine hG₀ ?_
    clear hG₀ G₀
    have hmem := hall I hI hI0 _ hio
    have hoff' : ∀ p ∈ news₁, p.1 ≠ I := fun p hp e => hoff p hp (List.mem_singleton.mpr e)
    have N₂ : News h₀ env.locals hh' (news₁ ++ [(I, io)]) := fun p hp => by
      rcases List.mem_append.mp hp with h | h
      · exact N₁ p (List.mem_append_right _ h)
      · rw [List.mem_singleton.mp h]; exact N₁ _ (List.mem_append_left _ hmem)
    refine wpAny_mono (turn i v m₁ news₁ hh' tk' io hin hP hJ hoff' F₁ N₂) (fun f s₂ p => ?_) fun _ _ e => e
    have fin : (∃ h' tk m' nx, s₂ = { s with heap := h', toks := tk } ∧ Fr h₀ env.locals h' m' ∧ News h₀ env.locals h' (nx ++ [(I, io)]) ∧ (∀ p ∈ nx, p.1 ≠ I) ∧ J (i + 1) m' nx) →
        LoopStepU h₀ env.locals [I] own (J (i + 1)) { s with heap := hh', toks := tk' } .next s₂ := by
      intro hZ30
      refine hide_goal ?_
      intro G₀ hG₀
      obtain ⟨h', tk, m', nx, e, F', N', ho, hJ'⟩ := hZ30
      refine hG₀ ?_
      clear hG₀ G₀
      refine ⟨rfl, h', tk, m', nx, e, F', fun p hp => ?_, fun p hp hm => ho p hp (List.mem_singleton.mp hm), hJ'⟩
      rcases List.mem_append.mp hp with h | h
      · have hg : hh'.get? p.1 = some p.2 := hget p h
        by_cases hpI : p.1 = I
        · rw [hpI, hio] at hg
          have e3 : p = (I, io) := Prod.ext hpI (Option.some.inj hg).symm
          rw [e3]; exact N' _ (List.mem_append_right _ (List.mem_singleton.mpr rfl))
        · rcases hfix p.1 (hown p h) hpI with ⟨o, ho'⟩ | ⟨o, hk⟩
          · exact absurd ((N₁ p (List.mem_append_left _ h)).2.2) (by rw [ho']; exact fun e => nomatch e)
          · have h1 := hk _ _ _ hJ
            have h2 : hh'.get? p.1 = some o := (N₁ _ (List.mem_append_right _ h1)).1
            rw [h2] at hg
            have e3 : p = (p.1, o) := Prod.ext rfl (Option.some.inj hg).symm
            rw [e3]; exact N' _ (List.mem_append_left _ (hk _ _ _ hJ'))
      · exact N' _ (List.mem_append_left _ h)
    cases f with
    | ret v => exact .ret p
    | brk => exact .brk p
    | next => exact .next (fin p)
    | cont => exact .cont (fin p)
  · rintro h' tk m' news' F' N' hoff hJ
    exact done m' news' h' tk hJ (fun p hp e => hoff p hp (List.mem_singleton.mpr e)) F' N'
theorem wk_next {h₀ h' : Heap} {L : Addr} {J : (Str → Option Value) → Led → Prop} {I : Addr} {it : Obj} {s₁ : Shared} {Q : Flow → Shared → Prop} {tk : Nat} {m' : Str → Option Value} {nx : Led} (F : Fr h₀ L h' m') (N : News h₀ L h' (nx ++ [(I, it)])) (ho : ∀ p ∈ nx, p.1 ≠ I) (hJ : J m' nx) :
    WkPost h₀ L J I it s₁ Q .next { s₁ with heap := h', toks := tk } := ⟨h', tk, m', nx, rfl, F, N, ho, hJ⟩
end
section
variable {w : World} {A : Around} {E : Value → Shared → Prop} {s : Shared} {h₀ : Heap} {L a : Addr} {m : Str → Option Value} {rest : Led} {vs : List Value} {n : Nat}
theorem dropLast_last {vs : List Value} (h : 0 < vs.length) : vs.dropLast ++ [vs.getLastD .none] = vs := by
  have hne : vs ≠ [] := by intro e; rw [e] at h; cases h
  have e : vs.getLastD .none = vs.getLast hne := by rw [List.getLastD_eq_getLast?, List.getLast?_eq_some_getLast hne]; rfl
  rw [e]
  exact List.dropLast_concat_getLast hne
theorem pop_step {Q : Value → Shared → Prop} (F : Fr h₀ L s.heap m) (N : News h₀ L s.heap ((a, listOf vs.toArray n) :: rest)) (hne : ∀ p ∈ rest, p.1 ≠ a) (h0 : 0 < vs.length) (hb : vs.length ≤ 1000)
    (h : ∀ h', Fr h₀ L h' m → News h₀ L h' ((a, listOf vs.dropLast.toArray (n + 1)) :: rest) → Q (vs.getLastD .none) { s with heap := h' }) : wpAny (model PW w) A (call (.builtin "list.pop") [.ref a]) Q E s := by
  have e := kpa_last (vs.getLastD .none) vs.dropLast
  rw [dropLast_last h0] at e
  exact kl_pop F N (its := vs.toArray) e (.head hne) (by rw [sizeLine_eq]; show vs.length ≤ _; omega) h
theorem truthy_step {Q : Bool → Shared → Prop} (N : News h₀ L s.heap ((a, listOf vs.toArray n) :: rest)) (hb : vs.length < 2 ^ 62) (h : Q (decide (0 < vs.length)) { s with toks := s.toks + 1 + 1 }) : wpAny (model PW w) A (truthy (.ref a)) Q E s := by
  have hl : s.heap.IsList a vs.toArray := PySem.IsL.isList (n := n) (N _ (.head _)).1
  refine wpAny_truthy_list hl (by simp; omega) ?_
  have e : (!vs.toArray.isEmpty) = decide (0 < vs.length) := by cases vs <;> simp
  rw [e]; exact h
end
theorem CmpOK.app {w lt dom rest} (C : CmpOK w lt dom rest) (r2 : Led) : CmpOK w lt dom (rest ++ r2) := fun A s h₀ L x y Q E dx dy N hu h => C A s h₀ L x y Q E dx dy (fun p hp => N p (List.mem_append_left _ hp)) hu h
end
-- CHp
section
theorem lines_CHp : True := by
  k_with_none
  k_with "subscriptTail Name Name ref int" => (k_here; k_dflt (refine gi_step (by k_asm) (by first | assumption | exact Int.natCast_nonneg _ | omega) (by first | assumption | exact ix_lt (by assumption) (by assumption) | omega) (by first | assumption | omega) ?_))
  k_with "compareOp Lt" => (k_here; k_dflt (refine cmp_step (by assumption) (by k_asm) (by first | assumption | exact dom_getD (by assumption) (by first | assumption | exact ix_nat (by assumption) (by assumption) (by assumption) | omega)) (by first | assumption | exact dom_getD (by assumption) (by first | assumption | exact ix_nat (by assumption) (by assumption) (by assumption) | omega)) (by ktr_units) ?_))
  k_with "subscriptTail Name Constant ref int" => (k_here; k_dflt (refine gi_step (by k_asm) (by omega) (by first | omega | assumption) (by first | omega | (simp only [List.length_dropLast]; omega)) ?_))
  trivial
local macro_rules | `(tactic| walk_at "call type:reversed") => `(tactic| (k_here; k_dflt (refine rev_stepD (by k_asm) (by k_asm) (by assumption) (by omega) ?_); intro D' h' F' N' l1; (try k_sweep)))
local macro_rules | `(tactic| walk_at "call builtin:list.pop") => `(tactic| (k_here; k_dflt (refine pop_step (by k_asm) (by k_asm) (by assumption) (by omega) (by omega) ?_); intro h' F' N'; (try k_sweep)))
local macro_rules | `(tactic| k_all) => `(tactic| assumption)
local macro_rules | `(tactic| walk_at "call builtin:len") => `(tactic| (k_here; k_dflt (refine len_step (by k_asm) (by omega) ?_)))
local macro_rules | `(tactic| walk_at "truthy ref") => `(tactic| (k_here; k_dflt (refine truthy_step (by k_asm) (by first | omega | (simp only [List.length_dropLast]; omega)) ?_)))
local macro_rules | `(tactic| walk_at "setItem ref int") => `(tactic| (k_here; k_dflt (refine si_step (by k_asm) (by k_asm) (by assumption) ?_ (by omega) (by first | omega | assumption) (by first | omega | (simp only [List.length_dropLast]; omega))); intro h' F' N'; (try k_sweep)))
theorem dom_drop {dom : Value → Prop} {vs : List Value} (h : ∀ v ∈ vs, dom v) : ∀ v ∈ vs.dropLast, dom v := fun v hv => h v ((List.dropLast_sublist vs).subset hv)
theorem dom_last {dom : Value → Prop} {vs : List Value} (h : ∀ v ∈ vs, dom v) (h0 : 0 < vs.length) : dom (vs.getLastD .none) := h _ (by
  have e := dropLast_last h0
  have h1 : vs.getLastD .none ∈ vs.dropLast ++ [vs.getLastD .none] := List.mem_append_right _ (.head _)
  rwa [e] at h1)
/-- what heappop tells and leaves -/
def popL (lt : Value → Value → Bool) (vs : List Value) : Value × List Value :=
  let r := vs.dropLast
  if 0 < r.length then (r.getD 0 .none, siftup lt (r.set 0 (vs.getLastD .none)) 0) else (vs.getLastD .none, r)
local macro_rules | `(tactic| walk_at "call ref") => `(tactic| (refine Mark.mk ?_))
set_option maxHeartbeats 4000000 in
theorem c_heappop (w p loose mean mg mb) (a : Addr) (vs : List Value) (n : Nat) (rest : Led) (lt : Value → Value → Bool) (dom : Value → Prop) (hne : ∀ p ∈ rest, p.1 ≠ a) (hcmp : CmpOK w lt dom rest) (hdom : ∀ v ∈ vs, dom v)
    (h2 : 0 < vs.length) (hb : vs.length ≤ 1000) :
    CallOK w p loose mean mg mb 59 [.ref a] ((a, listOf vs.toArray n) :: rest) 3 48 (fun r news' => r = (popL lt vs).1 ∧ news' = (a, listOf (popL lt vs).2.toArray (n + 1)) :: rest) (fun _ _ => False) := by
  unfold CallOK
  k_fill
  intro dp un gd cn cs a' ccd cl outer A₀ base h₀ L m s Q E B F X N T hH hC hk hd hu hret herr
  refine wpAny_call ?_
  k_dflt cell_enter
  k_steps
  · rename 0 < vs.dropLast.length => h3
    unfold Mark
    k_dflt (refine CallOK.use (c_siftup _ _ _ _ _ _ _ _ _ _ _ _ _ _ ?hne (by assumption) ?hdom ?h2 ?hb) (by k_asm) (by k_asm) (by k_asm) (by k_asm) (by k_asm) (by assumption) (by assumption) (by first | exact rfl | assumption) (by ktr_room) (by ktr_units) ?ret (fun _ _ _ _ h => h.elim))
    (case' ret => (intro r9 n9 h9 tk9 hO9 F9 N9; refine hide_goal ?_; intro G9 hG9; obtain ⟨e91, e92⟩ := hO9; subst e91; subst e92; refine hG9 ?_; clear hG9 G9; (try dsimp only); (try k_sweep)))
    (all_goals (try (first | assumption | omega | exact dom_set (by assumption) (dom_getD (by assumption) (by omega)) | exact dom_set (by assumption) (by assumption) | exact dom_set (dom_drop (by assumption)) (dom_last (by assumption) (by assumption)) | (simp only [List.length_set, List.length_dropLast] at *; omega) | (simp only [List.length_set, List.length_dropLast]; omega))))
    k_steps
    refine hret _ _ _ _ ⟨?_, ?_⟩ (by k_asm) (by k_asm)
    · unfold popL; simp only [if_pos h3]; rfl
    · unfold popL; simp only [if_pos h3]; rfl
  · rename ¬ 0 < vs.dropLast.length => h3
    refine hret _ _ _ _ ⟨?_, ?_⟩ (by k_asm) (by k_asm)
    · unfold popL; simp only [if_neg h3]
    · unfold popL; simp only [if_neg h3]
set_option maxHeartbeats 4000000 in
theorem c_heapreplace (w p loose mean mg mb) (a : Addr) (x : Value) (vs : List Value) (n : Nat) (rest : Led) (lt : Value → Value → Bool) (dom : Value → Prop) (hne : ∀ p ∈ rest, p.1 ≠ a) (hcmp : CmpOK w lt dom rest) (hdom : ∀ v ∈ vs, dom v) (hx : dom x)
    (h2 : 0 < vs.length) (hb : vs.length < 2 ^ 60) :
    CallOK w p loose mean mg mb 66 [.ref a, x] ((a, listOf vs.toArray n) :: rest) 3 48 (fun r news' => r = vs.getD 0 .none ∧ news' = (a, listOf (siftup lt (vs.set 0 x) 0).toArray n) :: rest) (fun _ _ => False) := by
  unfold CallOK
  k_fill
  intro dp un gd cn cs a' ccd cl outer A₀ base h₀ L m s Q E B F X N T hH hC hk hd hu hret herr
  refine wpAny_call ?_
  k_dflt cell_enter
  k_steps
  unfold Mark
  k_dflt (refine CallOK.use (c_siftup _ _ _ _ _ _ _ _ _ _ _ _ _ _ ?hne (by assumption) ?hdom ?h2 ?hb) (by k_asm) (by k_asm) (by k_asm) (by k_asm) (by k_asm) (by assumption) (by assumption) (by first | exact rfl | assumption) (by ktr_room) (by ktr_units) ?ret (fun _ _ _ _ h => h.elim))
  (case' ret => (intro r9 n9 h9 tk9 hO9 F9 N9; refine hide_goal ?_; intro G9 hG9; obtain ⟨e91, e92⟩ := hO9; subst e91; subst e92; refine hG9 ?_; clear hG9 G9; (try dsimp only); (try k_sweep)))
  (all_goals (try (first | assumption | omega | exact dom_set (by assumption) (dom_getD (by assumption) (by omega)) | exact dom_set (by assumption) (by assumption) | exact dom_set (dom_drop (by assumption)) (dom_last (by assumption) (by assumption)) | (simp only [List.length_set, List.length_dropLast] at *; omega) | (simp only [List.length_set, List.length_dropLast]; omega))))
  k_steps
  refine hret _ _ _ _ ⟨rfl, rfl⟩ (by k_asm) (by k_asm)
set_option maxHeartbeats 4000000 in
theorem c_heapreplace_max (w p loose mean mg mb) (a : Addr) (x : Value) (vs : List Value) (n : Nat) (rest : Led) (lt : Value → Value → Bool) (dom : Value → Prop) (hne : ∀ p ∈ rest, p.1 ≠ a) (hcmp : CmpOK w lt dom rest) (hdom : ∀ v ∈ vs, dom v) (hx : dom x)
    (h2 : 0 < vs.length) (hb : vs.length < 2 ^ 60) :
    CallOK w p loose mean mg mb 80 [.ref a, x] ((a, listOf vs.toArray n) :: rest) 3 48 (fun r news' => r = vs.getD 0 .none ∧ news' = (a, listOf (siftup (flipB lt) (vs.set 0 x) 0).toArray n) :: rest) (fun _ _ => False) := by
  unfold CallOK
  k_fill
  intro dp un gd cn cs a' ccd cl outer A₀ base h₀ L m s Q E B F X N T hH hC hk hd hu hret herr
  refine wpAny_call ?_
  k_dflt cell_enter
  k_steps
  unfold Mark
  k_dflt (refine CallOK.use (c_siftup_max _ _ _ _ _ _ _ _ _ _ _ _ _ _ ?hne (by assumption) ?hdom ?h2 ?hb) (by k_asm) (by k_asm) (by k_asm) (by k_asm) (by k_asm) (by assumption) (by assumption) (by first | exact rfl | assumption) (by ktr_room) (by ktr_units) ?ret (fun _ _ _ _ h => h.elim))
  (case' ret => (intro r9 n9 h9 tk9 hO9 F9 N9; refine hide_goal ?_; intro G9 hG9; obtain ⟨e91, e92⟩ := hO9; subst e91; subst e92; refine hG9 ?_; clear hG9 G9; (try dsimp only); (try k_sweep)))
  (all_goals (try (first | assumption | omega | exact dom_set (by assumption) (dom_getD (by assumption) (by omega)) | exact dom_set (by assumption) (by assumption) | exact dom_set (dom_drop (by assumption)) (dom_last (by assumption) (by assumption)) | (simp only [List.length_set, List.length_dropLast] at *; omega) | (simp only [List.length_set, List.length_dropLast]; omega))))
  k_steps
  refine hret _ _ _ _ ⟨rfl, rfl⟩ (by k_asm) (by k_asm)
end
-- Plain
theorem hole_perm {vs : List Value} {p q : Nat} {x : Value} (hp : p < vs.length) (hq : q < vs.length) (hne : p ≠ q) :
    ((vs.set p (vs.getD q .none)).set q x).Perm (vs.set p x) := by
  have h := List.set_set_perm (as := vs.set p x) (i := p) (j := q) (by simpa using hp) (by simpa using hq)
  have e1 : (vs.set p x)[q]'(by simpa using hq) = vs.getD q .none := by
    simp [List.getElem_set, hne, List.getD_eq_getElem?_getD, hq]
  have e2 : (vs.set p x)[p]'(by simpa using hp) = x := by simp
  rw [e1, e2, List.set_set] at h
  exact h
theorem sdGo_perm {lt : Value → Value → Bool} {new : Value} {st p : Nat} {vs : List Value} (hp : p < vs.length) : (sdGo lt new st p vs).Perm (vs.set p new) := by
  fun_induction sdGo lt new st p vs with
  | case1 p vs h1 h2 ih => exact (ih (by simp; omega)).trans (hole_perm hp (by omega) (by omega))
  | case2 p vs h1 h2 => exact .refl _
  | case3 p vs h1 => exact .refl _
theorem suGo_lt {lt : Value → Value → Bool} {N k : Nat} {vs : List Value} (hk : k < N) : (suGo lt N k vs).1 < N := by
  fun_induction suGo lt N k vs with
  | case1 k vs h c ih => exact ih (by simp only [c]; split <;> omega)
  | case2 k vs h => exact hk
theorem suGo_perm {lt : Value → Value → Bool} {N k : Nat} {vs : List Value} {x : Value} (hN : vs.length = N) (hk : k < N) :
    ((suGo lt N k vs).2.set (suGo lt N k vs).1 x).Perm (vs.set k x) := by
  fun_induction suGo lt N k vs with
  | case1 k vs h c ih =>
    have hc : c < N ∧ k ≠ c := by simp only [c]; split <;> omega
    exact (ih (by simpa using hN) hc.1).trans (hole_perm (by omega) (by omega) hc.2)
  | case2 k vs h => exact .refl _
theorem set_self {vs : List Value} {p : Nat} : vs.set p (vs.getD p .none) = vs := by
  by_cases hp : p < vs.length
  · simp [List.getD_eq_getElem?_getD, hp]
  · simp [List.set_eq_of_length_le (Nat.le_of_not_lt hp)]
theorem siftdown_perm {lt : Value → Value → Bool} {st p : Nat} {vs : List Value} (hp : p < vs.length) : (siftdown lt vs st p).Perm vs := by
  have h := sdGo_perm (lt := lt) (new := vs.getD p .none) (st := st) hp
  rw [set_self] at h
  exact h
theorem siftup_perm {lt : Value → Value → Bool} {p : Nat} {vs : List Value} (hp : p < vs.length) : (siftup lt vs p).Perm vs := by
  unfold siftup
  have h1 := suGo_perm (lt := lt) (x := vs.getD p .none) rfl hp
  rw [set_self] at h1
  refine (siftdown_perm ?_).trans h1
  simpa [suGo_len] using suGo_lt hp
-- CHy
section
theorem lines_CHy : True := by
  k_with_none
  k_with "subscriptTail Name Name ref int" => (k_here; k_dflt (refine gi_step (by k_asm) (by first | assumption | exact Int.natCast_nonneg _ | omega) (by first | assumption | exact ix_lt (by assumption) (by assumption) | omega) (by first | assumption | omega) ?_))
  k_with "compareOp Lt" => (k_here; k_dflt (refine cmp_step (by assumption) (by k_asm) (by first | assumption | exact dom_getD (by assumption) (by first | assumption | exact ix_nat (by assumption) (by assumption) (by assumption) | omega)) (by first | assumption | exact dom_getD (by assumption) (by first | assumption | exact ix_nat (by assumption) (by assumption) (by assumption) | omega)) (by ktr_units) ?_))
  trivial
local macro_rules | `(tactic| walk_at "call type:reversed") => `(tactic| (k_here; k_dflt (refine rev_stepD (by k_asm) (by k_asm) (by assumption) (by omega) ?_); intro D' h' F' N' l1; (try k_sweep)))
local macro_rules | `(tactic| k_all) => `(tactic| assumption)
local macro_rules | `(tactic| walk_at "call builtin:len") => `(tactic| (k_here; k_dflt (refine len_step (by k_asm) (by omega) ?_)))
def hyGo (lt : Value → Value → Bool) : Nat → List Value → List Value
  | 0, vs => vs
  | k + 1, vs => hyGo lt k (siftup lt vs k)
def heapifyL (lt : Value → Value → Bool) (vs : List Value) : List Value := hyGo lt (vs.length / 2) vs
inductive HYJ (mB : Str → Option Value) (a : Addr) (n : Nat) (rest : Led) (R : Nat → List Value → Prop) (M : Nat) (dom : Value → Prop) (j : Nat) (m1 : Str → Option Value) : Led → Prop
  | mk (vs1 : List Value) (h1 : ∀ y, y ∉ (["i"] : List Str) → m1 y = mB y) (h3 : R j vs1) (h5 : vs1.length = M) (h7 : ∀ v ∈ vs1, dom v) : HYJ mB a n rest R M dom j m1 ((a, listOf vs1.toArray n) :: rest)
theorem hy1 {N i : Nat} (h : i < N) : ((N : Int) - 1) + (i : Int) * (-1) = ((N - 1 - i : Nat) : Int) := by omega
theorem hy2 {N i : Nat} (h : i < N) : N - i = N - 1 - i + 1 := by
  rw [Nat.sub_right_comm]; exact (Nat.sub_add_cancel (Nat.sub_pos_of_lt h)).symm
theorem hy3 {N i : Nat} : N - (i + 1) = N - 1 - i := by
  rw [Nat.sub_right_comm]; rfl
theorem hy4 {M i : Nat} (h : i < M / 2) : M / 2 - 1 - i < M := Nat.lt_of_le_of_lt (Nat.sub_le _ _) (Nat.lt_of_lt_of_le (Nat.sub_lt (Nat.zero_lt_of_lt h) Nat.one_pos) (Nat.div_le_self M 2))
local macro_rules | `(tactic| walk_at "pyIter ref") => `(tactic| (refine Mark.mk ?_))
local macro_rules | `(tactic| walk_at "call ref") => `(tactic| (refine Mark.mk ?_))
set_option maxHeartbeats 4000000 in
theorem c_heapify (w p loose mean mg mb) (a : Addr) (vs : List Value) (n : Nat) (rest : Led) (lt : Value → Value → Bool) (dom : Value → Prop) (hne : ∀ p ∈ rest, p.1 ≠ a) (hcmp : CmpOK w lt dom rest) (hdom : ∀ v ∈ vs, dom v)
    (hb : vs.length < 2 ^ 60) :
    CallOK w p loose mean mg mb 73 [.ref a] ((a, listOf vs.toArray n) :: rest) 3 48 (fun r news' => r = .none ∧ news' = (a, listOf (heapifyL lt vs).toArray n) :: rest) (fun _ _ => False) := by
  unfold CallOK
  k_fill
  intro dp un gd cn cs a' ccd cl outer A₀ base h₀ L m s Q E B F X N T hH hC hk hd hu hret herr
  refine wpAny_call ?_
  k_dflt cell_enter
  k_steps
  unfold Mark
  rename Fr _ _ _ _ => F1
  rename News _ _ _ _ => N1
  rename Addr => D
  have st0 := (N1 _ (.head _)).1
  have e0 : rIt (((vs.length / 2 : Nat) : Int) - 1) ((vs.length / 2 : Nat) : Int) (-1) = rIt ((((vs.length / 2 : Nat) : Int) - 1) + ((0 : Nat) : Int) * (-1)) (((vs.length / 2 : Nat) : Int) - ((0 : Nat) : Int)) (-1) := by simp
  rw [e0] at st0
  refine (Walks.range (by rfl) D (((vs.length / 2 : Nat) : Int) - 1) (-1) (vs.length / 2)).self 0 _ _ _ st0 ?_
  refine iter_walk (HYJ _ a n rest (fun j vs1 => hyGo lt (vs.length / 2 - j) vs1 = heapifyL lt vs) vs.length dom) rfl (Walks.range (by rfl) D (((vs.length / 2 : Nat) : Int) - 1) (-1) (vs.length / 2)) (fun i h e => ⟨_, e⟩) (.head _) (N1 _ (.head _)).2.2 ?hL (fun b hb hne => absurd (List.mem_singleton.mp hb) hne) st0 F1 (fun p hp => N1 p (.tail _ hp)) ?hn ⟨vs, fun _ _ => rfl, rfl, rfl, hdom⟩ ?turn ?done
  case hL => exact fun hm => (N1 _ (.head _)).2.1 (List.mem_singleton.mp hm).symm
  case hn =>
    have l1 : ∀ p ∈ (a, listOf vs.toArray n) :: rest, p.1 < D := by assumption
    exact fun p hp e => absurd (l1 p hp) (by rw [e]; exact Nat.lt_irrefl _)
  case turn =>
    intro i v m₁ news₁ h tk io hi hZ10 hZ11
    obtain ⟨t, rfl⟩ := hZ10
    obtain ⟨vs1, hm, hgo, hlen, hdm⟩ := hZ11
    intro hoff F2 N2
    have hq := Nat.lt_of_lt_of_eq (hy4 hi) hlen.symm
    have hb1 := Nat.lt_of_le_of_lt (Nat.le_of_eq hlen) hb
    rw [hy1 hi] at F2
    have e := ov_eq [("i", m₁ "i")] (by simp) hm
    generalize m₁ "i" = u1 at e
    subst e
    simp only [List.cons_append] at N2
    have hcmp' := hcmp.app [(D, io)]
    have hne' : ∀ p ∈ rest ++ [(D, io)], p.1 ≠ a := fun p hp => by
      rcases List.mem_append.mp hp with h1 | h1
      · exact hne p h1
      · rw [List.mem_singleton.mp h1]; exact fun e => hoff (a, _) (.head _) e.symm
    clear F1 N1 hcmp hne hdom
    k_steps
    unfold Mark
    k_dflt (refine CallOK.use (c_siftup _ _ _ _ _ _ _ _ _ _ _ _ _ _ ?hne (by assumption) ?hdom ?h2 ?hb) (by k_asm) (by k_asm) (by k_asm) (by k_asm) (by k_asm) (by assumption) (by assumption) (by first | exact rfl | assumption) (by ktr_room) (by ktr_units) ?ret (fun _ _ _ _ h => h.elim))
    (case' ret => (intro r9 n9 h9 tk9 hO9 F9 N9; refine hide_goal ?_; intro G9 hG9; obtain ⟨e91, e92⟩ := hO9; subst e91; subst e92; refine hG9 ?_; clear hG9 G9; (try dsimp only); (try k_sweep)))
    (all_goals (try (first | assumption | omega | exact dom_set (by assumption) (dom_getD (by assumption) (by omega)) | (simp only [List.length_set]; omega))))
    k_steps
    refine wk_next (by k_asm) (by k_asm) (fun p hp => ?_) ⟨_, ?_, ?_, ?_, ?_⟩
    · rcases List.mem_cons.mp hp with h1 | h1
      · rw [h1]; exact hoff (a, listOf vs1.toArray n) (.head _)
      · exact hoff p (.tail _ h1)
    · exact up_off (by k_memK) fun y hy => ov_off hy
    · rw [← hgo]
      rw [hy2 hi, hy3]; rfl
    · exact (siftup_perm hq).length_eq.trans hlen
    · exact fun v hv => hdm v ((siftup_perm hq).mem_iff.mp hv)
  case done =>
    intro m₁ news₁ h tk hZ20
    obtain ⟨vs1, hm, hgo, hlen, hdm⟩ := hZ20
    intro hoff F2 N2
    have e := ov_eq [("i", m₁ "i")] (by simp) hm
    generalize m₁ "i" = u1 at e
    subst e
    clear F1 N1
    show wpAny _ _ _ _ _ _
    k_steps
    refine hret _ _ _ _ ⟨rfl, ?_⟩ (by k_asm) (by k_asm)
    rw [← hgo, Nat.sub_self]; rfl
set_option maxHeartbeats 4000000 in
theorem c_heapify_max (w p loose mean mg mb) (a : Addr) (vs : List Value) (n : Nat) (rest : Led) (lt : Value → Value → Bool) (dom : Value → Prop) (hne : ∀ p ∈ rest, p.1 ≠ a) (hcmp : CmpOK w lt dom rest) (hdom : ∀ v ∈ vs, dom v)
    (hb : vs.length < 2 ^ 60) :
    CallOK w p loose mean mg mb 87 [.ref a] ((a, listOf vs.toArray n) :: rest) 3 48 (fun r news' => r = .none ∧ news' = (a, listOf (heapifyL (flipB lt) vs).toArray n) :: rest) (fun _ _ => False) := by
  unfold CallOK
  k_fill
  intro dp un gd cn cs a' ccd cl outer A₀ base h₀ L m s Q E B F X N T hH hC hk hd hu hret herr
  refine wpAny_call ?_
  k_dflt cell_enter
  k_steps
  unfold Mark
  rename Fr _ _ _ _ => F1
  rename News _ _ _ _ => N1
  rename Addr => D
  have st0 := (N1 _ (.head _)).1
  have e0 : rIt (((vs.length / 2 : Nat) : Int) - 1) ((vs.length / 2 : Nat) : Int) (-1) = rIt ((((vs.length / 2 : Nat) : Int) - 1) + ((0 : Nat) : Int) * (-1)) (((vs.length / 2 : Nat) : Int) - ((0 : Nat) : Int)) (-1) := by simp
  rw [e0] at st0
  refine (Walks.range (by rfl) D (((vs.length / 2 : Nat) : Int) - 1) (-1) (vs.length / 2)).self 0 _ _ _ st0 ?_
  refine iter_walk (HYJ _ a n rest (fun j vs1 => hyGo (flipB lt) (vs.length / 2 - j) vs1 = heapifyL (flipB lt) vs) vs.length dom) rfl (Walks.range (by rfl) D (((vs.length / 2 : Nat) : Int) - 1) (-1) (vs.length / 2)) (fun i h e => ⟨_, e⟩) (.head _) (N1 _ (.head _)).2.2 ?hL (fun b hb hne => absurd (List.mem_singleton.mp hb) hne) st0 F1 (fun p hp => N1 p (.tail _ hp)) ?hn ⟨vs, fun _ _ => rfl, rfl, rfl, hdom⟩ ?turn ?done
  case hL => exact fun hm => (N1 _ (.head _)).2.1 (List.mem_singleton.mp hm).symm
  case hn =>
    have l1 : ∀ p ∈ (a, listOf vs.toArray n) :: rest, p.1 < D := by assumption
    exact fun p hp e => absurd (l1 p hp) (by rw [e]; exact Nat.lt_irrefl _)
  case turn =>
    intro i v m₁ news₁ h tk io hi hZ30 hZ31
    obtain ⟨t, rfl⟩ := hZ30
    obtain ⟨vs1, hm, hgo, hlen, hdm⟩ := hZ31
    intro hoff F2 N2
    have hq := Nat.lt_of_lt_of_eq (hy4 hi) hlen.symm
    have hb1 := Nat.lt_of_le_of_lt (Nat.le_of_eq hlen) hb
    rw [hy1 hi] at F2
    have e := ov_eq [("i", m₁ "i")] (by simp) hm
    generalize m₁ "i" = u1 at e
    subst e
    simp only [List.cons_append] at N2
    have hcmp' := hcmp.app [(D, io)]
    have hne' : ∀ p ∈ rest ++ [(D, io)], p.1 ≠ a := fun p hp => by
      rcases List.mem_append.mp hp with h1 | h1
      · exact hne p h1
      · rw [List.mem_singleton.mp h1]; exact fun e => hoff (a, _) (.head _) e.symm
    clear F1 N1 hcmp hne hdom
    k_steps
    unfold Mark
    k_dflt (refine CallOK.use (c_siftup_max _ _ _ _ _ _ _ _ _ _ _ _ _ _ ?hne (by assumption) ?hdom ?h2 ?hb) (by k_asm) (by k_asm) (by k_asm) (by k_asm) (by k_asm) (by assumption) (by assumption) (by first | exact rfl | assumption) (by ktr_room) (by ktr_units) ?ret (fun _ _ _ _ h => h.elim))
    (case' ret => (intro r9 n9 h9 tk9 hO9 F9 N9; refine hide_goal ?_; intro G9 hG9; obtain ⟨e91, e92⟩ := hO9; subst e91; subst e92; refine hG9 ?_; clear hG9 G9; (try dsimp only); (try k_sweep)))
    (all_goals (try (first | assumption | omega | exact dom_set (by assumption) (dom_getD (by assumption) (by omega)) | (simp only [List.length_set]; omega))))
    k_steps
    refine wk_next (by k_asm) (by k_asm) (fun p hp => ?_) ⟨_, ?_, ?_, ?_, ?_⟩
    · rcases List.mem_cons.mp hp with h1 | h1
      · rw [h1]; exact hoff (a, listOf vs1.toArray n) (.head _)
      · exact hoff p (.tail _ h1)
    · exact up_off (by k_memK) fun y hy => ov_off hy
    · rw [← hgo]
      rw [hy2 hi, hy3]; rfl
    · exact (siftup_perm hq).length_eq.trans hlen
    · exact fun v hv => hdm v ((siftup_perm hq).mem_iff.mp hv)
  case done =>
    intro m₁ news₁ h tk hZ40
    obtain ⟨vs1, hm, hgo, hlen, hdm⟩ := hZ40
    intro hoff F2 N2
    have e := ov_eq [("i", m₁ "i")] (by simp) hm
    generalize m₁ "i" = u1 at e
    subst e
    clear F1 N1
    show wpAny _ _ _ _ _ _
    k_steps
    refine hret _ _ _ _ ⟨rfl, ?_⟩ (by k_asm) (by k_asm)
    rw [← hgo, Nat.sub_self]; rfl
end
end
-- Cmp
section
open PySem.SeqAt
open PySem.AutoSeq1 (wpAny_loadPart')
open PySem.MeetsSeq PySem.MeetsSeq2 PySem.MeetsSeq3
def RcOp (op : CmpOp) (A : Around) (s : Shared) (x y : Value) (b : Bool) : Prop := ∀ (prog : Program) (w : World) (E : Value → Shared → Prop) (Q : Value → Shared → Prop), Q (.bool b) s → wpAny (model prog w) A (richCompare op x y) Q E s
def lexv (e g : Nat → Bool) (z : Bool) : Nat → Nat → Bool
  | 0, _ => z
  | k + 1, i => if e i then lexv e g z k (i + 1) else g i
theorem llt_loopAt (l b : Addr) (items items2 : Array Value) (n n2 : Nat) (dd dd2 : Option Addr) (sl sl2 : Array (Option Value)) (hsz : items.size = items2.size) (e g : Nat → Bool) (k : Nat) :
    ∀ i : Nat, items.size - i = k → Meets (Builtin.«list.__eq__.loop» ⟨[.ref l, .ref b, rawInt i, rawInt 0], []⟩)
      (fun A R s => s.heap.get? l = some { cls := .type "list", dict := dd, data := .seq items n, slots := sl } ∧ s.heap.get? b = some { cls := .type "list", dict := dd2, data := .seq items2 n2, slots := sl2 } ∧
        (∀ j (h1 : j < items.size) (h2 : j < items2.size), EqAt A.in1 s items[j] items2[j] (e j)) ∧
        (∀ j (h1 : j < items.size) (h2 : j < items2.size), e j = false → RcOp .Lt A.in1 s items[j] items2[j] (g j)) ∧
        R (.ok (.ret (.bool (lexv e g false k i)))) s) := by
  induction k with
  | zero =>
    intro i hk prog w A R s h
    obtain ⟨hp, gg, d, tk, os⟩ := s; obtain ⟨hl, hb, he, hg, h⟩ := h
    wp_walk using wpAny_loadPart' hl, wpAny_loadPart' hb
    have hi1 : items[((i : Nat) : Int).toNat]? = none := by simp; omega
    have hi2 : items2[((i : Nat) : Int).toNat]? = none := by simp; omega
    rw [hi1, hi2]
    wp_walk using wpAny_loadPart' hl, wpAny_loadPart' hb
    show R (.ok (.ret (.bool (decide (items.size < items2.size))))) _
    have e9 : decide (items.size < items2.size) = false := by rw [hsz]; simp
    rw [e9]
    exact h
  | succ k ih =>
    intro i hk prog w A R s h
    obtain ⟨hp, gg, d, tk, os⟩ := s; obtain ⟨hl, hb, he, hg, h⟩ := h
    wp_walk using wpAny_loadPart' hl, wpAny_loadPart' hb
    have hlt : i < items.size := by omega
    have hlt2 : i < items2.size := by omega
    have hi1 : items[((i : Nat) : Int).toNat]? = some items[i] := by simp [hlt]
    have hi2 : items2[((i : Nat) : Int).toNat]? = some items2[i] := by simp [hlt2]
    have hc : ((i : Int) + 1) = ((i + 1 : Nat) : Int) := by push_cast; rfl
    rw [lexv] at h
    rw [hi1, hi2]
    refine wpAny_bind (he i hlt hlt2 prog w _ _ ?_)
    cases hb' : e i with
    | true =>
      rw [hb'] at h
      wp_walk
      rw [hc]
      exact ⟨plainId_quiet plain_eq_loop _, codeAny_builtin entry_eq_loop (by
        rw [Around.under_plainId plain_eq_loop _]
        exact ih (i + 1) (by omega) prog w A R _ ⟨hl, hb, he, hg, by simpa using h⟩)⟩
    | false =>
      rw [hb'] at h
      wp_walk using wpAny_loadPart' hl, wpAny_loadPart' hb
      rw [hi1, hi2]
      refine wpAny_bind (hg i hlt hlt2 hb' prog w _ _ ?_)
      wp_walk
      simpa using h
theorem lltAt (l b : Addr) (items items2 : Array Value) (n n2 : Nat) (dd dd2 : Option Addr) (sl sl2 : Array (Option Value)) (hsz : items.size = items2.size) (e g : Nat → Bool) :
    Meets (Builtin.«list.__lt__» ⟨[.ref l, .ref b], []⟩)
      (fun A R s => s.heap.get? l = some { cls := .type "list", dict := dd, data := .seq items n, slots := sl } ∧ s.heap.get? b = some { cls := .type "list", dict := dd2, data := .seq items2 n2, slots := sl2 } ∧
        (∀ j (h1 : j < items.size) (h2 : j < items2.size), EqAt A.in1 s items[j] items2[j] (e j)) ∧
        (∀ j (h1 : j < items.size) (h2 : j < items2.size), e j = false → RcOp .Lt A.in1 s items[j] items2[j] (g j)) ∧
        R (.ok (.ret (.bool (lexv e g false items.size 0)))) s) := by
  intro prog w A R s h
  obtain ⟨hp, gg, d, tk, os⟩ := s; obtain ⟨hl, hb, he, hg, h⟩ := h
  have f3 := AutoSeq1.sub_list_list
  wp_walk using wpAny_loadPart' hl, wpAny_loadPart' hb
  exact ⟨plainId_quiet plain_eq_loop _, codeAny_builtin entry_eq_loop (by
    rw [Around.under_plainId plain_eq_loop _]
    exact llt_loopAt l b items items2 n n2 dd dd2 sl sl2 hsz e g _ 0 rfl prog w A R _ ⟨hl, hb, he, hg, by simpa using h⟩)⟩
theorem RcOp.llt {A : Around} {s : Shared} {l b : Addr} {items items2 : Array Value} {e g : Nat → Bool} (hl : s.heap.IsList l items) (hb : s.heap.IsList b items2) (hsz : items.size = items2.size) (hu : A.units < cLine)
    (he : ∀ j (h1 : j < items.size) (h2 : j < items2.size), EqAt A.in1 s items[j] items2[j] (e j))
    (hg : ∀ j (h1 : j < items.size) (h2 : j < items2.size), e j = false → RcOp .Lt A.in1 s items[j] items2[j] (g j)) : RcOp .Lt A s (.ref l) (.ref b) (lexv e g false items.size 0) := fun prog w E Q h => by
  obtain ⟨⟨cls, dd, data, sl⟩, ho, hc, n, hd⟩ := id hl
  obtain ⟨⟨cls2, dd2, data2, sl2⟩, ho2, hc2, n2, hd2⟩ := id hb
  simp only at hc hd hc2 hd2
  subst hc hd hc2 hd2
  exact richCompare_meets_room (op := .Lt) ⟨_, ho, rfl⟩ ⟨_, ho2, rfl⟩ F.slot_list_lt F.entry_list_lt (F.args_list_lt_2 _ _) (lltAt l b items items2 n n2 dd dd2 sl sl2 hsz e g)
    ⟨ho, ho2, he, hg, show Value.bool _ ≠ Value.notImplemented ∧ Q (.bool _) s from ⟨(fun x => nomatch x), h⟩⟩ hu
theorem lle2_loopAt (l b : Addr) (items items2 : Array Value) (n n2 : Nat) (dd dd2 : Option Addr) (sl sl2 : Array (Option Value)) (hsz : items.size = items2.size) (e g : Nat → Bool) (k : Nat) :
    ∀ i : Nat, items.size - i = k → Meets (Builtin.«list.__eq__.loop» ⟨[.ref l, .ref b, rawInt i, rawInt 1], []⟩)
      (fun A R s => s.heap.get? l = some { cls := .type "list", dict := dd, data := .seq items n, slots := sl } ∧ s.heap.get? b = some { cls := .type "list", dict := dd2, data := .seq items2 n2, slots := sl2 } ∧
        (∀ j (h1 : j < items.size) (h2 : j < items2.size), EqAt A.in1 s items[j] items2[j] (e j)) ∧
        (∀ j (h1 : j < items.size) (h2 : j < items2.size), e j = false → RcOp .LtE A.in1 s items[j] items2[j] (g j)) ∧
        R (.ok (.ret (.bool (lexv e g true k i)))) s) := by
  induction k with
  | zero =>
    intro i hk prog w A R s h
    obtain ⟨hp, gg, d, tk, os⟩ := s; obtain ⟨hl, hb, he, hg, h⟩ := h
    wp_walk using wpAny_loadPart' hl, wpAny_loadPart' hb
    have hi1 : items[((i : Nat) : Int).toNat]? = none := by simp; omega
    have hi2 : items2[((i : Nat) : Int).toNat]? = none := by simp; omega
    rw [hi1, hi2]
    wp_walk using wpAny_loadPart' hl, wpAny_loadPart' hb
    show R (.ok (.ret (.bool (decide (items.size ≤ items2.size))))) _
    have e9 : decide (items.size ≤ items2.size) = true := by rw [hsz]; simp
    rw [e9]
    exact h
  | succ k ih =>
    intro i hk prog w A R s h
    obtain ⟨hp, gg, d, tk, os⟩ := s; obtain ⟨hl, hb, he, hg, h⟩ := h
    wp_walk using wpAny_loadPart' hl, wpAny_loadPart' hb
    have hlt : i < items.size := by omega
    have hlt2 : i < items2.size := by omega
    have hi1 : items[((i : Nat) : Int).toNat]? = some items[i] := by simp [hlt]
    have hi2 : items2[((i : Nat) : Int).toNat]? = some items2[i] := by simp [hlt2]
    have hc : ((i : Int) + 1) = ((i + 1 : Nat) : Int) := by push_cast; rfl
    rw [lexv] at h
    rw [hi1, hi2]
    refine wpAny_bind (he i hlt hlt2 prog w _ _ ?_)
    cases hb' : e i with
    | true =>
      rw [hb'] at h
      wp_walk
      rw [hc]
      exact ⟨plainId_quiet plain_eq_loop _, codeAny_builtin entry_eq_loop (by
        rw [Around.under_plainId plain_eq_loop _]
        exact ih (i + 1) (by omega) prog w A R _ ⟨hl, hb, he, hg, by simpa using h⟩)⟩
    | false =>
      rw [hb'] at h
      wp_walk using wpAny_loadPart' hl, wpAny_loadPart' hb
      rw [hi1, hi2]
      refine wpAny_bind (hg i hlt hlt2 hb' prog w _ _ ?_)
      wp_walk
      simpa using h
theorem lle2At (l b : Addr) (items items2 : Array Value) (n n2 : Nat) (dd dd2 : Option Addr) (sl sl2 : Array (Option Value)) (hsz : items.size = items2.size) (e g : Nat → Bool) :
    Meets (Builtin.«list.__le__» ⟨[.ref l, .ref b], []⟩)
      (fun A R s => s.heap.get? l = some { cls := .type "list", dict := dd, data := .seq items n, slots := sl } ∧ s.heap.get? b = some { cls := .type "list", dict := dd2, data := .seq items2 n2, slots := sl2 } ∧
        (∀ j (h1 : j < items.size) (h2 : j < items2.size), EqAt A.in1 s items[j] items2[j] (e j)) ∧
        (∀ j (h1 : j < items.size) (h2 : j < items2.size), e j = false → RcOp .LtE A.in1 s items[j] items2[j] (g j)) ∧
        R (.ok (.ret (.bool (lexv e g true items.size 0)))) s) := by
  intro prog w A R s h
  obtain ⟨hp, gg, d, tk, os⟩ := s; obtain ⟨hl, hb, he, hg, h⟩ := h
  have f3 := AutoSeq1.sub_list_list
  wp_walk using wpAny_loadPart' hl, wpAny_loadPart' hb
  exact ⟨plainId_quiet plain_eq_loop _, codeAny_builtin entry_eq_loop (by
    rw [Around.under_plainId plain_eq_loop _]
    exact lle2_loopAt l b items items2 n n2 dd dd2 sl sl2 hsz e g _ 0 rfl prog w A R _ ⟨hl, hb, he, hg, by simpa using h⟩)⟩
theorem RcOp.lle2 {A : Around} {s : Shared} {l b : Addr} {items items2 : Array Value} {e g : Nat → Bool} (hl : s.heap.IsList l items) (hb : s.heap.IsList b items2) (hsz : items.size = items2.size) (hu : A.units < cLine)
    (he : ∀ j (h1 : j < items.size) (h2 : j < items2.size), EqAt A.in1 s items[j] items2[j] (e j))
    (hg : ∀ j (h1 : j < items.size) (h2 : j < items2.size), e j = false → RcOp .LtE A.in1 s items[j] items2[j] (g j)) : RcOp .LtE A s (.ref l) (.ref b) (lexv e g true items.size 0) := fun prog w E Q h => by
  obtain ⟨⟨cls, dd, data, sl⟩, ho, hc, n, hd⟩ := id hl
  obtain ⟨⟨cls2, dd2, data2, sl2⟩, ho2, hc2, n2, hd2⟩ := id hb
  simp only at hc hd hc2 hd2
  subst hc hd hc2 hd2
  exact richCompare_meets_room (op := .LtE) ⟨_, ho, rfl⟩ ⟨_, ho2, rfl⟩ F.slot_list_le F.entry_list_le (F.args_list_le_2 _ _) (lle2At l b items items2 n n2 dd dd2 sl sl2 hsz e g)
    ⟨ho, ho2, he, hg, show Value.bool _ ≠ Value.notImplemented ∧ Q (.bool _) s from ⟨(fun x => nomatch x), h⟩⟩ hu
end
-- CmpT
section
open PySem.SeqAt
open PySem.AutoSeq1 (wpAny_loadPart')
open PySem.MeetsSeq PySem.MeetsSeq2 PySem.MeetsSeq3
theorem tlt_At (l b : Addr) (items items2 : Array Value) (n n2 : Nat) (dd dd2 : Option Addr) (sl sl2 : Array (Option Value)) (hsz : items.size = items2.size) (e g : Nat → Bool) :
    Meets (Builtin.«tuple.__lt__» ⟨[.ref l, .ref b], []⟩)
      (fun A R s => s.heap.get? l = some { cls := .type "tuple", dict := dd, data := .seq items n, slots := sl } ∧ s.heap.get? b = some { cls := .type "tuple", dict := dd2, data := .seq items2 n2, slots := sl2 } ∧
        (∀ j (h1 : j < items.size) (h2 : j < items2.size), EqAt A.in1 s items[j] items2[j] (e j)) ∧
        (∀ j (h1 : j < items.size) (h2 : j < items2.size), e j = false → RcOp .Lt A.in1 s items[j] items2[j] (g j)) ∧
        R (.ok (.ret (.bool (lexv e g false items.size 0)))) s) :=
  .of_wp fun prog w A R s h => by
    obtain ⟨hp, gg, d, tk, os⟩ := s; obtain ⟨hl, hb, he, hg, h⟩ := h
    have f2 := AutoSeq1.sub_tuple_tuple
    have hZ : (items.toList.zip items2.toList).length = items.size := by simp [hsz]
    wp_walk using wpAny_loadPart' hl, wpAny_loadPart' hb, wpAny_forIn_list _ (fun rest b s' => b.1 = none ∧ s' = ⟨hp, gg, d, tk, os⟩ ∧ ∃ i, rest = (items.toList.zip items2.toList).drop i ∧ i ≤ items.size ∧
      R (.ok (.ret (.bool (lexv e g false (items.size - i) i)))) ⟨hp, gg, d, tk, os⟩) _
    case turn =>
      rintro ⟨y, x⟩ rest b s' ⟨hb', rfl, i, hz, hi, hR⟩
      have hlt : i < (items.toList.zip items2.toList).length := by
        rcases Nat.lt_or_ge i (items.toList.zip items2.toList).length with h' | h'
        · exact h'
        · rw [List.drop_of_length_le h'] at hz; cases hz
      have h1 : i < items.size := hZ ▸ hlt
      have h2 : i < items2.size := hsz ▸ h1
      rw [List.drop_eq_getElem_cons hlt] at hz
      injection hz with hyx hrest
      have hy : y = items[i] := by have := congrArg Prod.fst hyx; simpa using this
      have hx : x = items2[i] := by have := congrArg Prod.snd hyx; simpa using this
      subst hy hx
      have hd : items.size - i = (items.size - (i + 1)) + 1 := by omega
      rw [hd, lexv] at hR
      refine wpAny_bind (he i h1 h2 prog w _ _ ?_)
      cases hy : e i with
      | true =>
        rw [hy] at hR
        wp_walk
        exact ⟨rfl, rfl, i + 1, hrest, h1, by simpa using hR⟩
      | false =>
        rw [hy] at hR
        rw [if_pos (show (!false) = true from rfl)]
        refine wpAny_bind (wpAny_rule ?_)
        refine wpAny_bind (hg i h1 h2 hy prog w _ _ ?_)
        wp_walk
        exact ⟨_, rfl, by simpa using hR⟩
    case fin =>
      rintro ⟨b1, b2⟩ s' ⟨hb', rfl, i, hz, hi, hR⟩
      simp only at hb'
      subst hb'
      have hge : items.size ≤ i := by
        rcases Nat.lt_or_ge i (items.toList.zip items2.toList).length with h' | h'
        · rw [List.drop_eq_getElem_cons h'] at hz; cases hz
        · exact hZ ▸ h'
      have e0 : items.size - i = 0 := by omega
      rw [e0, lexv] at hR
      wp_walk
      have e9 : decide (items.size < items2.size) = false := by rw [hsz]; simp
      exact ⟨_, rfl, by simpa [Builtin.Tuple.tupleCompareSizes, hsz] using hR⟩
    case h =>
      exact ⟨rfl, rfl, 0, rfl, Nat.zero_le _, by simpa using h⟩
theorem RcOp.tlt {A : Around} {s : Shared} {l b : Addr} {items items2 : Array Value} {e g : Nat → Bool} (hl : s.heap.IsTuple l items) (hb : s.heap.IsTuple b items2) (hsz : items.size = items2.size) (hu : A.units < cLine)
    (he : ∀ j (h1 : j < items.size) (h2 : j < items2.size), EqAt A.in1 s items[j] items2[j] (e j))
    (hg : ∀ j (h1 : j < items.size) (h2 : j < items2.size), e j = false → RcOp .Lt A.in1 s items[j] items2[j] (g j)) : RcOp .Lt A s (.ref l) (.ref b) (lexv e g false items.size 0) := fun prog w E Q h => by
  obtain ⟨⟨cls, dd, data, sl⟩, ho, hc, n, hd⟩ := id hl
  obtain ⟨⟨cls2, dd2, data2, sl2⟩, ho2, hc2, n2, hd2⟩ := id hb
  simp only at hc hd hc2 hd2
  subst hc hd hc2 hd2
  exact richCompare_meets_room (op := .Lt) ⟨_, ho, rfl⟩ ⟨_, ho2, rfl⟩ F.slot_tuple_lt F.entry_tuple_lt (F.args_tuple_lt_2 _ _) (tlt_At l b items items2 n n2 dd dd2 sl sl2 hsz e g)
    ⟨ho, ho2, he, hg, show Value.bool _ ≠ Value.notImplemented ∧ Q (.bool _) s from ⟨(fun x => nomatch x), h⟩⟩ hu
theorem RcOp.intLt {A : Around} {s : Shared} (a b : Int) (t u : Tok) : RcOp .Lt A s (.int a t) (.int b u) (decide (a < b)) := fun prog w E Q h => PySem.P.lt_int h
theorem RcOp.intLe {A : Around} {s : Shared} (a b : Int) (t u : Tok) : RcOp .LtE A s (.int a t) (.int b u) (decide (a ≤ b)) := fun prog w E Q h => PySem.P.le_int h
/-- a row's object -/
def rowObj (k : Int × Int) (t u : Tok) (c : Nat) : Obj := PySem.W.listOf #[.int k.1 t, .int k.2 u] c
def klt (x y : Int × Int) : Bool := decide (x.1 < y.1 ∨ (x.1 = y.1 ∧ x.2 < y.2))
def kle (x y : Int × Int) : Bool := decide (x.1 < y.1 ∨ (x.1 = y.1 ∧ x.2 ≤ y.2))
theorem row_eq {A : Around} {s : Shared} {l b : Addr} {x y : Int × Int} {t u t' u' : Tok} {c c' : Nat} (hl : s.heap.get? l = some (rowObj x t u c)) (hb : s.heap.get? b = some (rowObj y t' u' c')) (hu : A.units < cLine) :
    EqAt A s (.ref l) (.ref b) (decide (x = y)) := by
  by_cases h : l = b
  · subst h
    rw [hl] at hb
    have e := Option.some.inj hb
    have e2 : x = y := by
      have e3 := congrArg Obj.data e
      simp only [rowObj, PySem.W.listOf] at e3
      injection e3 with e4
      have e5 := congrArg Array.toList e4
      simp at e5
      exact Prod.ext e5.1.1 e5.2.1
    subst e2
    simp only [decide_true]
    exact EqAt.same _
  · refine EqAt.of_refs h ?_
    have hl' : s.heap.IsList l #[.int x.1 t, .int x.2 u] := PySem.IsL.isList hl
    have hb' : s.heap.IsList b #[.int y.1 t', .int y.2 u'] := PySem.IsL.isList hb
    have r := RcAt.lists (e := fun j => if j = 0 then x.1 == y.1 else x.2 == y.2) hl' hb' rfl hu (fun j h1 h2 => by
      match j, h1 with
      | 0, _ => exact EqAt.int_int _ _ _ _
      | 1, _ => exact EqAt.int_int _ _ _ _)
    have e : (List.range (#[Value.int x.1 t, Value.int x.2 u]).size).all (fun j => if j = 0 then x.1 == y.1 else x.2 == y.2) = decide (x = y) := by
      show ((x.1 == y.1) && ((x.2 == y.2) && true)) = _
      rw [Bool.eq_iff_iff]
      simp [Prod.ext_iff]
    rw [e] at r
    exact r
theorem row_lt {A : Around} {s : Shared} {l b : Addr} {x y : Int × Int} {t u t' u' : Tok} {c c' : Nat} (hl : s.heap.get? l = some (rowObj x t u c)) (hb : s.heap.get? b = some (rowObj y t' u' c')) (hu : A.units < cLine) :
    RcOp .Lt A s (.ref l) (.ref b) (klt x y) := by
  have hl' : s.heap.IsList l #[.int x.1 t, .int x.2 u] := PySem.IsL.isList hl
  have hb' : s.heap.IsList b #[.int y.1 t', .int y.2 u'] := PySem.IsL.isList hb
  have r := RcOp.llt (e := fun j => if j = 0 then x.1 == y.1 else x.2 == y.2) (g := fun j => if j = 0 then decide (x.1 < y.1) else decide (x.2 < y.2)) hl' hb' rfl hu (fun j h1 h2 => by
      match j, h1 with
      | 0, _ => exact EqAt.int_int _ _ _ _
      | 1, _ => exact EqAt.int_int _ _ _ _) (fun j h1 h2 _ => by
      match j, h1 with
      | 0, _ => exact RcOp.intLt _ _ _ _
      | 1, _ => exact RcOp.intLt _ _ _ _)
  have e : lexv (fun j => if j = 0 then x.1 == y.1 else x.2 == y.2) (fun j => if j = 0 then decide (x.1 < y.1) else decide (x.2 < y.2)) false (#[Value.int x.1 t, Value.int x.2 u]).size 0 = klt x y := by
    show (if (x.1 == y.1) = true then (if (x.2 == y.2) = true then false else decide (x.2 < y.2)) else decide (x.1 < y.1)) = _
    unfold klt
    by_cases h1 : x.1 = y.1
    · by_cases h2 : x.2 = y.2 <;> simp [h1, h2]
    · simp [h1]
  rw [e] at r
  exact r
theorem llt_of {A : Around} {s : Shared} {l b : Addr} {x y : Int × Int} {t u t' u' : Tok} {c c' : Nat} (hl : s.heap.get? l = some (rowObj x t u c)) (hb : s.heap.get? b = some (rowObj y t' u' c')) (hu : A.units + 2 < cLine) :
    ∀ (prog : Program) (w : World) (E : Value → Shared → Prop) (Q : Value → Shared → Prop), Q (.bool (klt x y)) s → wpAny (model prog w) A (call (.builtin "list.__lt__") [.ref l, .ref b]) Q E s := fun prog w E Q hq => by
  have e : lexv (fun j => if j = 0 then x.1 == y.1 else x.2 == y.2) (fun j => if j = 0 then decide (x.1 < y.1) else decide (x.2 < y.2)) false (#[Value.int x.1 t, Value.int x.2 u]).size 0 = klt x y := by
    show (if (x.1 == y.1) = true then (if (x.2 == y.2) = true then false else decide (x.2 < y.2)) else decide (x.1 < y.1)) = _
    unfold klt
    by_cases h1 : x.1 = y.1
    · by_cases h2 : x.2 = y.2 <;> simp [h1, h2]
    · simp [h1]
  refine call_meets F.slot_list_lt ⟨_, hl, rfl⟩ F.entry_list_lt (F.args_list_lt_2 _ _) (lltAt l b #[.int x.1 t, .int x.2 u] #[.int y.1 t', .int y.2 u'] c c' none none #[] #[] rfl (fun j => if j = 0 then x.1 == y.1 else x.2 == y.2) (fun j => if j = 0 then decide (x.1 < y.1) else decide (x.2 < y.2)))
    ⟨hl, hb, fun j h1 h2 => ?_, fun j h1 h2 _ => ?_, ?_⟩
  · match j, h1 with
    | 0, _ => exact EqAt.int_int _ _ _ _
    | 1, _ => exact EqAt.int_int _ _ _ _
  · match j, h1 with
    | 0, _ => exact RcOp.intLt _ _ _ _
    | 1, _ => exact RcOp.intLt _ _ _ _
  · rw [e]; exact hq
theorem row_le {A : Around} {s : Shared} {l b : Addr} {x y : Int × Int} {t u t' u' : Tok} {c c' : Nat} (hl : s.heap.get? l = some (rowObj x t u c)) (hb : s.heap.get? b = some (rowObj y t' u' c')) (hu : A.units < cLine) :
    RcOp .LtE A s (.ref l) (.ref b) (kle x y) := by
  have hl' : s.heap.IsList l #[.int x.1 t, .int x.2 u] := PySem.IsL.isList hl
  have hb' : s.heap.IsList b #[.int y.1 t', .int y.2 u'] := PySem.IsL.isList hb
  have r := RcOp.lle2 (e := fun j => if j = 0 then x.1 == y.1 else x.2 == y.2) (g := fun j => if j = 0 then decide (x.1 ≤ y.1) else decide (x.2 ≤ y.2)) hl' hb' rfl hu (fun j h1 h2 => by
      match j, h1 with
      | 0, _ => exact EqAt.int_int _ _ _ _
      | 1, _ => exact EqAt.int_int _ _ _ _) (fun j h1 h2 _ => by
      match j, h1 with
      | 0, _ => exact RcOp.intLe _ _ _ _
      | 1, _ => exact RcOp.intLe _ _ _ _)
  have e : lexv (fun j => if j = 0 then x.1 == y.1 else x.2 == y.2) (fun j => if j = 0 then decide (x.1 ≤ y.1) else decide (x.2 ≤ y.2)) true (#[Value.int x.1 t, Value.int x.2 u]).size 0 = kle x y := by
    show (if (x.1 == y.1) = true then (if (x.2 == y.2) = true then true else decide (x.2 ≤ y.2)) else decide (x.1 ≤ y.1)) = _
    unfold kle
    by_cases h1 : x.1 = y.1
    · by_cases h2 : x.2 = y.2 <;> simp [h1, h2]
    · simp only [beq_iff_eq, h1, if_false, false_and, or_false]
      congr 1
      exact propext ⟨fun h => by omega, fun h => by omega⟩
  rw [e] at r
  exact r
/-- rows in the ledger, by a key of their addresses -/
inductive domR (key : Addr → Int × Int) (rest : Led) (v : Value) : Prop
  | mk (a : Addr) (t u : Tok) (c : Nat) (h1 : v = .ref a) (h2 : (a, rowObj (key a) t u c) ∈ rest)
def adr : Value → Addr
  | .ref a => a
  | _ => 0
def ltR (key : Addr → Int × Int) (x y : Value) : Bool := klt (key (adr x)) (key (adr y))
theorem cmp_rows {w : World} {key : Addr → Int × Int} {rest : Led} : CmpOK w (ltR key) (domR key rest) rest := by
  rintro A s h₀ L x y Q E ⟨a, t, u, c, rfl, ha⟩ ⟨b, t', u', c', rfl, hb⟩ N hu h
  exact row_lt (N _ ha).1 (N _ hb).1 (by omega) PW w E Q h
/-- pairs of a row and a place in the ledger -/
def tupO (a : Addr) (i : Int) (t : Tok) : Obj := { cls := .type "tuple", dict := none, data := .seq #[.ref a, .int i t] 0, slots := #[] }
def domT (key : Addr → Int × Int) (tk : Addr → Addr × Int) (rest : Led) (v : Value) : Prop := ∃ q t, v = .ref q ∧ (q, tupO (tk q).1 (tk q).2 t) ∈ rest ∧ domR key rest (.ref (tk q).1)
def ltT (key : Addr → Int × Int) (tk : Addr → Addr × Int) (x y : Value) : Bool :=
  let p := tk (adr x); let q := tk (adr y)
  if key p.1 = key q.1 then decide (p.2 < q.2) else klt (key p.1) (key q.1)
theorem cmp_tups {w : World} {key : Addr → Int × Int} {tk : Addr → Addr × Int} {rest : Led} : CmpOK w (ltT key tk) (domT key tk rest) rest := by
  rintro A s h₀ L x y Q E ⟨p, t, rfl, hp, a, t1, u1, c1, e1, ha⟩ ⟨q, t', rfl, hq, b, t2, u2, c2, e2, hb⟩ N hu h
  have hl : s.heap.IsTuple p #[.ref (tk p).1, .int (tk p).2 t] := ⟨_, (N _ hp).1, rfl, _, rfl⟩
  have hr : s.heap.IsTuple q #[.ref (tk q).1, .int (tk q).2 t'] := ⟨_, (N _ hq).1, rfl, _, rfl⟩
  injection e1 with e1
  injection e2 with e2
  rw [← e1] at ha
  rw [← e2] at hb
  have ga := (N _ ha).1
  have gb := (N _ hb).1
  have r := RcOp.tlt (A := A) (e := fun j => if j = 0 then decide (key (tk p).1 = key (tk q).1) else (tk p).2 == (tk q).2) (g := fun j => if j = 0 then klt (key (tk p).1) (key (tk q).1) else decide ((tk p).2 < (tk q).2)) hl hr rfl (by omega) (fun j h1 h2 => by
      match j, h1 with
      | 0, _ => exact row_eq ga gb (by simp only [units_in1]; omega)
      | 1, _ => exact EqAt.int_int _ _ _ _) (fun j h1 h2 _ => by
      match j, h1 with
      | 0, _ => exact row_lt ga gb (by simp only [units_in1]; omega)
      | 1, _ => exact RcOp.intLt _ _ _ _)
  refine r PW w E Q ?_
  have e : lexv (fun j => if j = 0 then decide (key (tk p).1 = key (tk q).1) else (tk p).2 == (tk q).2) (fun j => if j = 0 then klt (key (tk p).1) (key (tk q).1) else decide ((tk p).2 < (tk q).2)) false (#[Value.ref (tk p).1, Value.int (tk p).2 t]).size 0 = ltT key tk (.ref p) (.ref q) := by
    show (if decide (key (tk p).1 = key (tk q).1) = true then (if ((tk p).2 == (tk q).2) = true then false else decide ((tk p).2 < (tk q).2)) else klt (key (tk p).1) (key (tk q).1)) = _
    unfold ltT
    simp only [adr]
    by_cases h1 : key (tk p).1 = key (tk q).1
    · by_cases h2 : (tk p).2 = (tk q).2
      · simp [h1, h2]
      · simp only [h1, decide_true, if_true, beq_iff_eq, h2, if_false]
        rfl
    · simp [h1]
  rw [e]
  exact h
end
-- Base3
section
section
variable {w : World} {A : Around} {E : Value → Shared → Prop} {s : Shared} {h₀ : Heap} {L a : Addr} {m : Str → Option Value} {news rest : Led} {vs : List Value} {n : Nat} {k : Int} {u : Tok}
theorem News.front {h : Heap} {p : Addr × Obj} (N : News h₀ L h news) (hm : p ∈ news) : News h₀ L h (p :: news) := fun q hq => (List.mem_cons.mp hq).elim (fun e => e ▸ N _ hm) (N q)
theorem News.only {h : Heap} {p : Addr × Obj} (N : News h₀ L h news) (hm : p ∈ news) : News h₀ L h [p] := fun q hq => (List.mem_singleton.mp hq) ▸ N _ hm
theorem News.swap {h : Heap} {p q : Addr × Obj} (N : News h₀ L h (p :: q :: rest)) : News h₀ L h (q :: p :: rest) := fun x hx => N x (by
  rcases List.mem_cons.mp hx with rfl | hx
  · exact .tail _ (.head _)
  · rcases List.mem_cons.mp hx with rfl | hx
    · exact .head _
    · exact .tail _ (.tail _ hx))
theorem gi_stepM {value slice : PySem.Expr} {Q : Value → Shared → Prop} (N : News h₀ L s.heap news) (hm : (a, listOf vs.toArray n) ∈ news) (h0 : 0 ≤ k) (hk : k < vs.length) (hb : vs.length < 2 ^ 62) (h : Q (vs.getD k.toNat .none) s)
    (hs : subscripted slice false (.ref a) (.int k u) = operate [.ref a, .int k u] (getItem (.ref a) (.int k u)) := by with_unfolding_all rfl) :
    wpAny (model PW w) A (subscriptTail value slice (.ref a) (.int k u)) Q E s := gi_step (News.only N hm) h0 hk hb h hs
theorem len_stepM {Q : Value → Shared → Prop} (N : News h₀ L s.heap news) (hm : (a, listOf vs.toArray n) ∈ news) (hb : vs.length < 2 ^ 62)
    (h : Q (.int (vs.length : Int) (s.toks + 1)) { s with toks := s.toks + 1 + 1 }) : wpAny (model PW w) A (call (.builtin "len") [.ref a]) Q E s := len_step (News.only N hm) hb h
theorem truthy_stepM {Q : Bool → Shared → Prop} (N : News h₀ L s.heap news) (hm : (a, listOf vs.toArray n) ∈ news) (hb : vs.length < 2 ^ 62) (h : Q (decide (0 < vs.length)) { s with toks := s.toks + 1 + 1 }) : wpAny (model PW w) A (truthy (.ref a)) Q E s := truthy_step (News.only N hm) hb h
end
end
-- Comp
section
section
variable {prog : Program} {w : World} {A : Around} {E : Value → Shared → Prop} {R : Result → Shared → Prop} {s : Shared}
theorem compLoop_go {elt target iter : PySem.Expr} {ifs : List PySem.Expr} {scope : Scope} {pos : Pos} {it acc : Value} {env : Env} (I : Nat → Shared → Prop)
    (turn : ∀ n s, I n s → wpAny (model prog w) A (pyNext it) (fun r s₁ => match r with
      | none => R (.ok .next) s₁
      | some v => wpAny (model prog w) A (letOwnedTupleGo target it v) (fun _ s₁ => wpAny (model prog w) A (assign target env v) (fun _ s₂ =>
          wpAny (model prog w) A (forIn ifs true fun c r => if r = true then do let ok ← isTrue c env (eval c env); pure (ForInStep.yield ok) else pure (ForInStep.yield r)) (fun ok s₃ =>
            if ok = true then wpAny (model prog w) A (eval elt env) (fun x s₄ =>
              wpAny (model prog w) A (call (.builtin "list.append") [acc, x]) (fun _ s₅ => ∃ m, m < n ∧ I m s₅) (notedBy (model prog w) A env fun e s' => R (.error e) s') s₄) (notedBy (model prog w) A env fun e s' => R (.error e) s') s₃
            else ∃ m, m < n ∧ I m s₃) (notedBy (model prog w) A env fun e s' => R (.error e) s') s₂) (notedBy (model prog w) A env fun e s' => R (.error e) s') s₁) (notedBy (model prog w) A env fun e s' => R (.error e) s') s₁) (notedBy (model prog w) A env fun e s' => R (.error e) s') s)
    (n : Nat) (h : I n s) :
    codeAny (model prog w) A (.compLoop (.ListComp elt [⟨target, iter, ifs, 0⟩] scope pos) 0 it acc env) R s := by
  refine codeAny_loop rfl I (fun n s hI => ?_) n h
  show wpAny _ A ((compTurn (.ListComp elt [⟨target, iter, ifs, 0⟩] scope pos) 0 it acc env).onRaise (fun x => do noteFrame x env; theTreesLotGoes x)) _ _ s
  refine wpAny_noted ?_
  rw [compTurn_list]
  refine wpAny_bind (wpAny_standAt (wpAny_bind (wpAny_mono (turn n s hI) (fun r s₁ h₁ => ?_) fun _ _ h' => h')))
  cases r with
  | none => exact wpAny_pure h₁
  | some v =>
    refine wpAny_bind (wpAny_mono h₁ (fun _ s₁ h₁ => ?_) fun _ _ h' => h')
    refine wpAny_bind (wpAny_mono h₁ (fun _ s₂ h₂ => wpAny_bind (wpAny_mono h₂ (fun ok s₃ h₃ => ?_) fun _ _ h' => h')) fun _ _ h' => h')
    cases ok with
    | false => exact wpAny_pure ⟨rfl, h₃⟩
    | true =>
      exact wpAny_bind (wpAny_bind (wpAny_mono h₃ (fun x s₄ h₄ => wpAny_bind (wpAny_mono h₄ (fun _ s₅ h₅ => wpAny_pure (wpAny_pure ⟨rfl, h₅⟩)) fun _ _ h' => h')) fun _ _ h' => h'))
variable {h₀ : Heap} {L : Addr} {m : Str → Option Value} {env : Env}
abbrev clst := LCg.lst
def CpEnd (h₀ : Heap) (L : Addr) (m : Str → Option Value) (s₂ : Shared) (D C : Addr) (k : Nat) (J : Nat → List Value → Led → Prop) (ys zs : List Value) (s' : Shared) : Prop :=
  ∃ h' tk m' news' k', s' = { s₂ with heap := h', toks := tk } ∧ k' < k ∧ Fr h₀ L h' m ∧ h'.Ns C m' ∧ News h₀ L h' ((D, clst ys) :: news') ∧ (∀ p ∈ news', p.1 ≠ C ∧ p.1 ≠ D) ∧ J k' zs news'
def CpFin (h₀ : Heap) (L : Addr) (m : Str → Option Value) (s₂ : Shared) (D C : Addr) (Fin : List Value → Led → Prop) (ys : List Value) (s' : Shared) : Prop :=
  ∃ h' tk m' news', s' = { s₂ with heap := h', toks := tk } ∧ Fr h₀ L h' m ∧ h'.Ns C m' ∧ News h₀ L h' ((D, clst ys) :: news') ∧ (∀ p ∈ news', p.1 ≠ C ∧ p.1 ≠ D) ∧ Fin ys news'
inductive CompAt (prog : Program) (w : World) (A : Around) (h₀ : Heap) (L : Addr) (m : Str → Option Value) (env : Env) (elt target : PySem.Expr) (ifs : List PySem.Expr) (scope : Scope) (cl : List (Str × Addr)) (Fin : Shared → List Value → Led → Prop) (it : Value) (s₂ : Shared) : Prop
  | mk (J : Nat → List Value → Led → Prop) (n₀ : Nat) (news : Led) (F : Fr h₀ L s₂.heap m) (N : News h₀ L s₂.heap news) (hj : J n₀ [] news) (hlen : ∀ k ys nw, J k ys nw → ys.length ≤ sizeLine)
    (self : ∀ (s : Shared) (Q : Value → Shared → Prop) (E : Value → Shared → Prop), News h₀ L s.heap news → Q it s → wpAny (model prog w) A (pyIter it) Q E s)
    (turn : ∀ k ys m' news' h tk D C (E' : Value → Shared → Prop), J k ys news' → Fr h₀ L h m → h.Ns C m' → News h₀ L h ((D, clst ys) :: news') → (∀ p ∈ news', p.1 ≠ C ∧ p.1 ≠ D) → C ≠ D → C ≠ L → h₀.get? C = none →
      wpAny (model prog w) A (pyNext it) (fun r s₁ => match r with
        | none => CpFin h₀ L m s₂ D C (Fin s₂) ys s₁
        | some v => wpAny (model prog w) A (letOwnedTupleGo target it v) (fun _ s₁ => wpAny (model prog w) A (assign target (compEnvC scope cl C env) v) (fun _ s₂' =>
          wpAny (model prog w) A (forIn ifs true fun c r => if r = true then do let ok ← isTrue c (compEnvC scope cl C env) (eval c (compEnvC scope cl C env)); pure (ForInStep.yield ok) else pure (ForInStep.yield r)) (fun ok s₃ =>
            if ok = true then wpAny (model prog w) A (eval elt (compEnvC scope cl C env)) (fun x s₄ => CpEnd h₀ L m s₂ D C k J ys (ys ++ [x]) s₄) E' s₃
            else CpEnd h₀ L m s₂ D C k J ys ys s₃) E' s₂') E' s₁) E' s₁) E' { s₂ with heap := h, toks := tk })
theorem comp_block {elt target iter : PySem.Expr} {ifs : List PySem.Expr} {scope : Scope} {cl : List (Str × Addr)} {pos : Pos} {s₂ : Shared} {it : Value} {Fin : Shared → List Value → Led → Prop} {RR : Value → Addr → Result → Shared → Prop}
    (hcell : ∀ y ∈ scope.names, y.2 ≠ .cell) (hkind : scope.kind = .function) (X : CompAt prog w A h₀ L m env elt target ifs scope cl Fin it s₂)
    (hRR : ∀ D C h tk m' ys news', Fr h₀ L h m → News h₀ L h ((D, clst ys) :: news') → LCg.Off1 D news' → h.Ns C m' → h₀.get? C = none → h₀.get? D = none → C ≠ L → D ≠ L → C ≠ D → (∀ p ∈ news', p.1 ≠ C) → Fin s₂ ys news' → RR (.ref D) C (.ok .next) { s₂ with heap := h, toks := tk }) :
    wpAny (model prog w) A (newList []) (fun acc s₃ => wpAny (model prog w) A (newFunctionEnv scope env.globals cl [] env.qual none .none (some env)) (fun cenv s₄ =>
      codeAny (model prog w) A (.compStart (.ListComp elt [⟨target, iter, ifs, 0⟩] scope pos) 0 it acc { cenv with scope := relabel scope env }) (RR acc cenv.locals) s₄) E s₃) E s₂ := by
  obtain ⟨J, n₀, news, F, N, hj, hlen, self, turn⟩ := X
  refine wpAny_newObj_type (wpAny_newFunctionEnv hcell (by intro y hy; simp at hy) (fun h₁ hns₁ hsb₁ => ?_) hkind)
  dsimp only at hns₁ hsb₁ ⊢
  generalize hH2 : s₂.heap.push { cls := .type "list", dict := none, data := .seq ([] : List Value).toArray } = H2 at hns₁ hsb₁ ⊢
  have hC : H2.objs.size = s₂.heap.objs.size + 1 := by rw [← hH2, Heap.size_push]
  have hDC : s₂.heap.objs.size ≠ H2.objs.size := by rw [hC]; exact Nat.ne_of_lt (Nat.lt_succ_self _)
  have below : ∀ b, b < s₂.heap.objs.size → b ≠ H2.objs.size ∧ b ≠ s₂.heap.objs.size := fun b hb => ⟨by rw [hC]; exact Nat.ne_of_lt (Nat.lt_succ_of_lt hb), Nat.ne_of_lt hb⟩
  have old : ∀ b o, s₂.heap.get? b = some o → h₁.get? b = some o := fun b o e => hsb₁.extBut b o (below b (Heap.lt_size e)).1 (Heap.get?_push_of_some _ (hH2 ▸ Heap.get?_push_of_some _ e))
  have hacc : h₁.get? s₂.heap.objs.size = some (clst []) := hsb₁.extBut _ _ hDC (Heap.get?_push_of_some _ (hH2 ▸ Heap.get?_push_size _ rfl))
  have fresh : ∀ a, s₂.heap.objs.size ≤ a → s₂.heap.get? a = none := fun a ha => by
    cases e : s₂.heap.get? a with
    | none => rfl
    | some o' => exact absurd (Heap.lt_size e) (Nat.not_lt.mpr ha)
  have fresh₀ : ∀ a, s₂.heap.objs.size ≤ a → h₀.get? a = none := fun a ha => by
    cases e : h₀.get? a with
    | none => rfl
    | some o' => have := F.keep a o' e; rw [fresh a ha] at this; cases this
  have hD₀ : h₀.get? s₂.heap.objs.size = none := fresh₀ _ (Nat.le_refl _)
  have hC₀ : h₀.get? H2.objs.size = none := fresh₀ _ (by rw [hC]; exact Nat.le_succ _)
  have hLlt : L < s₂.heap.objs.size := F.ns.lt
  have hDL : s₂.heap.objs.size ≠ L := Ne.symm (below L hLlt).2
  have hCL : H2.objs.size ≠ L := Ne.symm (below L hLlt).1
  have off₀ : ∀ p ∈ news, p.1 ≠ H2.objs.size ∧ p.1 ≠ s₂.heap.objs.size := fun p hp => below _ (Heap.lt_size (N p hp).1)
  have N₁ : News h₀ L h₁ news := fun p hp => ⟨old _ _ (N p hp).1, (N p hp).2⟩
  have loop : ∀ s₃ : Shared, s₃ = { s₂ with heap := h₁, toks := s₂.toks + ([] : List (Str × Value)).length } →
      codeAny (model prog w) A (.compLoop (.ListComp elt [⟨target, iter, ifs, 0⟩] scope pos) 0 it (.ref s₂.heap.objs.size) (compEnvC scope cl H2.objs.size env))
        (RR (.ref s₂.heap.objs.size) H2.objs.size) s₃ := by
    rintro s₃ rfl
    refine compLoop_go
      (fun k s' => ∃ h' tk ys m' news', s' = { s₂ with heap := h', toks := tk } ∧ Fr h₀ L h' m ∧ h'.Ns H2.objs.size m' ∧ News h₀ L h' ((s₂.heap.objs.size, clst ys) :: news') ∧
        (∀ p ∈ news', p.1 ≠ H2.objs.size ∧ p.1 ≠ s₂.heap.objs.size) ∧ J k ys news') ?_ n₀
      ⟨h₁, _, [], _, news, rfl, F.keeps old, hns₁, fun p hp => ?_, off₀, hj⟩
    · intro k s' hZ10
      refine hide_goal ?_
      intro G₀ hG₀
      obtain ⟨h', tk, ys, m', news', rfl, F', hn', N', off', hJ⟩ := hZ10
      refine hG₀ ?_
      clear hG₀ G₀
      refine wpAny_mono (turn k ys m' news' h' tk _ _ _ hJ F' hn' N' off' (Ne.symm hDC) hCL hC₀) (fun r s₁ hr => ?_) fun _ _ e => e
      cases r with
      | none =>
        refine hide_goal ?_
        intro G₀ hG₀
        obtain ⟨h₂, tk₂, m₂, news₂, rfl, F₂, hn₂, N₂, off₂, hfin⟩ := hr
        refine hG₀ ?_
        clear hG₀ G₀
        have o1 : ∀ (l : Led), (∀ p ∈ l, p.1 ≠ H2.objs.size ∧ p.1 ≠ s₂.heap.objs.size) → LCg.Off1 s₂.heap.objs.size l := by
          intro l
          induction l with
          | nil => intro _; trivial
          | cons p r ih => exact fun h => ⟨(h p (.head _)).2, ih fun q hq => h q (.tail _ hq)⟩
        exact hRR _ _ h₂ tk₂ m₂ ys news₂ F₂ N₂ (o1 _ off₂) hn₂ hC₀ hD₀ hCL hDL (Ne.symm hDC) (fun p hp => (off₂ p hp).1) hfin
      | some v =>
        refine wpAny_mono hr (fun _ s₁ h₁ => wpAny_mono h₁ (fun _ s₂' h₂ => wpAny_mono h₂ (fun ok s₃ h₃ => ?_) fun _ _ e => e) fun _ _ e => e) fun _ _ e => e
        cases ok with
        | false =>
          refine hide_goal ?_
          intro G₀ hG₀
          obtain ⟨h₂, tk₂, m₂, news₂, k', rfl, hk, F₂, hn₂, N₂, off₂, hJ₂⟩ := h₃
          refine hG₀ ?_
          clear hG₀ G₀
          exact ⟨k', hk, h₂, tk₂, ys, m₂, news₂, rfl, F₂, hn₂, N₂, off₂, hJ₂⟩
        | true =>
          refine wpAny_mono h₃ (fun x s₄ h₄ => ?_) fun _ _ e => e
          refine hide_goal ?_
          intro G₀ hG₀
          obtain ⟨h₂, tk₂, m₂, news₂, k', rfl, hk, F₂, hn₂, N₂, off₂, hJ₂⟩ := h₄
          refine hG₀ ?_
          clear hG₀ G₀
          have hl := hlen _ _ _ hJ₂
          have zD := (N₂ (s₂.heap.objs.size, clst ys) (.head _)).1
          refine append_at (hsz := by show ys.toArray.size ≤ sizeLine; rw [List.size_toArray]; rw [List.length_append] at hl; exact Nat.le_trans (Nat.le_add_right _ _) hl) zD fun h₅ hs₅ hD₅ => ?_
          refine ⟨k', hk, h₅, tk₂, ys ++ [x], m₂, news₂, rfl, F₂.change hs₅ hDL hD₀, hn₂.sameBut hs₅ (Ne.symm hDC), fun p hp => ?_, off₂, hJ₂⟩
          rcases List.mem_cons.mp hp with rfl | hp
          · exact ⟨hD₅.trans (congrArg some (LCg.lst_snoc ys x)), hDL, hD₀⟩
          · exact ⟨hs₅.extBut _ _ (off₂ p hp).2 (N₂ p (.tail _ hp)).1, (N₂ p (.tail _ hp)).2⟩
    · rcases List.mem_cons.mp hp with rfl | hp
      · exact ⟨hacc, hDL, hD₀⟩
      · exact N₁ p hp
  exact codeAny_compStart_list (loop _ rfl) (self _ _ _ N₁ (loop _ rfl))
/-- a comprehension as a value -/
theorem comp_value {elt target iter : PySem.Expr} {ifs : List PySem.Expr} {scope : Scope} {cl : List (Str × Addr)} {pos : Pos} {Q : Value → Shared → Prop} (F₀ : Fr h₀ L s.heap m)
    (hclos : closureFor scope env = pure cl) (hcell : ∀ y ∈ scope.names, y.2 ≠ .cell) (hkind : scope.kind = .function)
    (hnames : ∀ y ∈ scope.names, y.2 = .local → scope.names.lookup y.1 = some .local)
    (h : wpAny (model prog w) A (eval iter env) (fun xv s₁ => wpAny (model prog w) A (pyIter xv) (CompAt prog w A h₀ L m env elt target ifs scope cl (fun s₂ => LCg.FinE h₀ L m s₂ Q)) E s₁) E s)
    (hs : ∀ x, foldedSetIterable iter env x = pure x := by intro _; rfl) :
    wpAny (model prog w) A (eval (.ListComp elt [⟨target, iter, ifs, 0⟩] scope pos) env) Q E s := by
  rw [eval_ListComp]
  refine wpAny_comprehension_free (use := none) rfl hs hclos hkind hnames (wpAny_mono h (fun xv s₁ h₁ => wpAny_mono h₁ (fun it s₂ h₂ => ?_) fun _ _ e => e) fun _ _ e => e)
  refine comp_block hcell hkind h₂ ?_
  intro D C h tk m' ys news' F' N' o1 hn hC₀ hD₀ hCL hDL hCD offC fin
  refine ⟨m', hn, fun h'' hs'' => fin D h'' tk (F'.change hs'' hCL hC₀) (fun p hp => ?_) o1⟩
  refine ⟨hs''.extBut _ _ ?_ (N' p hp).1, (N' p hp).2⟩
  rcases List.mem_cons.mp hp with rfl | hp
  · exact Ne.symm hCD
  · exact offC p hp
/-- a comprehension that a name is set to -/
theorem comp_assign {elt target iter : PySem.Expr} {ifs : List PySem.Expr} {y : Str} {py : Pos} {scope : Scope} {cl : List (Str × Addr)} {pos spos : Pos} {Q : Flow → Shared → Prop} (F₀ : Fr h₀ L s.heap m) (hLe : env.locals = L)
    (hsw : swapsWith (.ListComp elt [⟨target, iter, ifs, 0⟩] scope pos) (some (.Name y py)) spos.line env = pure true)
    (hclos : closureFor scope env = pure cl) (hcell : ∀ z ∈ scope.names, z.2 ≠ .cell) (hkind : scope.kind = .function)
    (hnames : ∀ z ∈ scope.names, z.2 = .local → scope.names.lookup z.1 = some .local)
    (hy : env.kindOf y = some .local) (hp : (env.scope.kind == .class || (env.scope.kind == .module && env.locals != env.globals)) = false)
    (h : wpAny (model prog w) A (eval iter env) (fun xv s₁ => wpAny (model prog w) A (pyIter xv) (CompAt prog w A h₀ L m env elt target ifs scope cl (fun s₂ => LCg.FinA h₀ L m s₂ y Q)) E s₁) E s)
    (hs : ∀ x, foldedSetIterable iter env x = pure x := by intro _; rfl) :
    wpAny (model prog w) A (exec (.Assign [.Name y py] (.ListComp elt [⟨target, iter, ifs, 0⟩] scope pos) spos) env) Q E s := by
  subst hLe
  rw [exec_Assign_Name_used _ _ _ _ hsw]
  refine wpAny_bind (wpAny_standAt (wpAny_bind ?_))
  show wpAny _ A (do let _ ← comprehension (.ListComp elt [⟨target, iter, ifs, 0⟩] scope pos) scope env _ (newList []) false (eval iter env) (some (assign (.Name y py) env))) _ _ s
  refine wpAny_bind (wpAny_mono (wpAny_comprehension_free (use := some (assign (.Name y py) env)) (Q := fun _ s' => Q .next s') rfl hs hclos hkind hnames
    (wpAny_mono h (fun xv s₁ h₁ => wpAny_mono h₁ (fun it s₂ h₂ => ?_) fun _ _ e => e) fun _ _ e => e)) (fun _ s' hq => wpAny_pure (wpAny_pure hq)) fun _ _ e => e)
  refine comp_block hcell hkind h₂ ?_
  intro D C h' tk m' ys news' F' N' o1 hn hC₀ hD₀ hCL hDL hCD offC fin
  show wpAny _ A (assign (.Name y py) env (.ref D)) _ _ _
  refine wpAny_assign_Name (wpAny_storeName_local hy F'.ns (fun h₂ hn₂ hs₂ => ?_) hp)
  have hL₀ : h₀.get? env.locals = none := Heap.get?_none_of_le F'.above
  have F₂ : Fr h₀ env.locals h₂ (fun z => if z = y then some (.ref D) else m z) := ⟨hn₂, fun b o e => hs₂.extBut b o (fun q => by rw [q, hL₀] at e; cases e) (F'.keep b o e), F'.above⟩
  refine ⟨m', hn.sameBut hs₂ hCL, fun h'' hs'' => fin D h'' _ (F₂.change hs'' hCL hC₀) (fun p hp => ?_) o1⟩
  have z : h₂.get? p.1 = some p.2 := hs₂.extBut _ _ (N' p hp).2.1 (N' p hp).1
  refine ⟨hs''.extBut _ _ ?_ z, (N' p hp).2⟩
  rcases List.mem_cons.mp hp with rfl | hp
  · exact Ne.symm hCD
  · exact offC p hp
end
end
-- ZipR
section
section
variable {prog : Program} {w : World} {A : Around} {E : Value → Shared → Prop} {s : Shared}
theorem nextOf_range_item {it : Addr} {x left step : Int} {Q : Value → Shared → Prop} (hit : IsRangeIter s.heap it x left step) (hleft : 0 < left)
    (hQ : ∀ h', IsRangeIter h' it (x + step) (left - 1) step → Heap.SameBut it s.heap h' → Q (.int x s.toks) { s with heap := h', toks := s.toks + 1 }) :
    wpAny (model prog w) A (Builtin.SmallTypes.nextOf (.ref it)) Q E s := by
  have hT : s.TypeIs (.ref it) "range_iterator" := ⟨_, hit, rfl⟩
  unfold Builtin.SmallTypes.nextOf
  refine wpAny_bind (wpAny_callSpecial?_slot (name := Str.ofString "__next__") hT F.slot_range_iterator_next
    (call_meets F.slot_range_iterator_next hT F.entry_range_iterator_next (F.args_range_iterator_next_1 _) (AutoRange.range_iterator___next___range_iterator_1 it x left step (by omega)) ⟨hit, ?_⟩))
  exact wpAny_pure (hQ _ (Heap.get?_update_self _ (Heap.get?_update_self _ hit rfl) rfl) ((Heap.SameBut.update ..).trans (Heap.SameBut.update ..)))
theorem nextOf_range_end {it : Addr} {x left step : Int} {Q : Value → Shared → Prop} (hh : A.handled = none) (hit : IsRangeIter s.heap it x left step) (hleft : left ≤ 0)
    (hE : ∀ h' e, Heap.ExtBut it s.heap h' → (∃ o, h'.get? e = some o ∧ o.cls = .type "StopIteration") → E (.ref e) { s with heap := h' }) :
    wpAny (model prog w) A (Builtin.SmallTypes.nextOf (.ref it)) Q E s := by
  have hT : s.TypeIs (.ref it) "range_iterator" := ⟨_, hit, rfl⟩
  unfold Builtin.SmallTypes.nextOf
  refine wpAny_bind (wpAny_callSpecial?_slot (name := Str.ofString "__next__") hT F.slot_range_iterator_next
    (wpAny_call_entry F.slot_range_iterator_next hT F.entry_range_iterator_next ?_ (F.args_range_iterator_next_1 _)))
  show wpAny _ _ (field (.ref it) 0 >>= _) _ _ s
  refine wpAny_bind (wpAny_field hit rfl (x := rawInt x) rfl ?_)
  show wpAny _ _ (field (.ref it) 1 >>= _) _ _ s
  refine wpAny_bind (wpAny_field hit rfl (x := rawInt left) rfl ?_)
  show wpAny _ _ (field (.ref it) 2 >>= _) _ _ s
  refine wpAny_bind (wpAny_field hit rfl (x := rawInt step) rfl ?_)
  show wpAny _ _ (if left ≤ 0 then _ else _) _ _ s
  rw [if_pos hleft]
  refine wpAny_bind (wpAny_rule ?_)
  refine wpAny_bind ?_
  show wpAny _ _ (newExc (.type "StopIteration") [] >>= _) _ _ _
  refine wpAny_bind ?_
  simp only [newExc, newTuple]
  refine wpAny_bind (wpAny_newObj_type ?_ (by size_fits))
  refine wpAny_bind (m := firstArgMember _ _) (wpAny_of_eq (a := Value.none) (by first | rfl | (simp only [firstArgMember]; rfl)) ?_)
  refine wpAny_newObj_type ?_ (by size_fits)
  simp only [raiseNew]
  refine wpAny_bind (wpAny_handled ?_)
  first | rw [show A.in1.handled = none from hh] | rw [hh]
  refine wpAny_bind (wpAny_pure (wpAny_throw ?_))
  exact hE _ _ (((Heap.ExtBut.refl it s.heap).push _).push _) ⟨_, Heap.get?_push_size _ rfl, rfl⟩
structure ZApart (z TI TO i1 i2 l2 : Addr) : Prop where
  TIz : TI ≠ z
  TOz : TO ≠ z
  i1z : i1 ≠ z
  i2z : i2 ≠ z
  TITO : TI ≠ TO
  TIi1 : TI ≠ i1
  TIi2 : TI ≠ i2
  TOi1 : TO ≠ i1
  TOi2 : TO ≠ i2
  i12 : i1 ≠ i2
  l2z : l2 ≠ z
  l2TO : l2 ≠ TO
  l2i1 : l2 ≠ i1
  l2i2 : l2 ≠ i2
theorem zip_next_itemR {z TI TO i1 i2 l2 : Addr} {k2 : Nat} {px left step : Int} {ys : Array Value} {y a b : Value} {Q : Value → Shared → Prop} (D : ZApart z TI TO i1 i2 l2)
    (hz : IsZip s.heap z TI TO .none) (hTI : IsPair s.heap TI (.ref i1) (.ref i2)) (hTO : IsPair s.heap TO a b)
    (h1 : IsRangeIter s.heap i1 px left step) (h2 : s.heap.IsListIter i2 l2 k2) (hl2 : s.heap.IsList l2 ys) (hx : 0 < left) (hy : ys[k2]? = some y)
    (hQ : ∀ h', IsZip h' z TI TO (rawInt s.heap.objs.size) → IsPair h' TO (.int px s.toks) y → IsRangeIter h' i1 (px + step) (left - 1) step → h'.IsListIter i2 l2 (k2 + 1) → IsPair h' s.heap.objs.size (.int px s.toks) y → h'.objs.size = s.heap.objs.size + 1 →
      (∀ c o, c ≠ z → c ≠ TO → c ≠ i1 → c ≠ i2 → s.heap.get? c = some o → h'.get? c = some o) → Q (.ref s.heap.objs.size) { s with heap := h', toks := s.toks + 1 }) :
    wpAny (model prog w) A (Builtin.«zip.__next__» ⟨[.ref z], []⟩) (fun fin s' => ∃ v, fin = .done (.ret v) ∧ Q v s') E s := by
  show wpAny _ _ (field (.ref z) 2 >>= _) _ _ _
  refine wpAny_bind (wpAny_field hz rfl (x := .bool false) rfl ?_)
  show wpAny _ _ (field (.ref z) 3 >>= _) _ _ _
  refine wpAny_bind (wpAny_field hz rfl (x := .ref TI) rfl ?_)
  refine wpAny_bind (wpAny_seqItems hTI rfl ?_)
  show wpAny _ _ (Builtin.SmallTypes.ownedTupleIsFree (.ref z) >>= _) _ _ _
  refine wpAny_bind ?_
  unfold Builtin.SmallTypes.ownedTupleIsFree
  refine wpAny_bind (wpAny_field hz rfl (x := .none) rfl (wpAny_pure ?_))
  simp only [if_true]
  refine wpAny_bind (wpAny_rule ?_)
  refine wpAny_bind (wpAny_field hz rfl (x := .ref TO) rfl ?_)
  refine wpAny_bind (wpAny_setField_rec hz (by simp) fun h₁ hz₁ hs₁ => ?_)
  replace hz₁ : IsZip h₁ z TI TO .ellipsis := hz₁
  refine wpAny_bind ?_
  simp only [List.zipIdx_cons, List.zipIdx_nil, List.forIn_cons, List.forIn_nil]
  refine wpAny_bind (wpAny_bind (wpAny_onRaise ?_))
  show wpAny _ _ (Builtin.SmallTypes.nextOf (.ref i1) >>= _) _ _ _
  refine wpAny_bind (nextOf_range_item (hs₁.extBut _ _ D.i1z h1) hx fun h₂ h1₂ hs₂ => wpAny_pure ?_)
  have hTO₂ : IsPair h₂ TO a b := hs₂.extBut _ _ D.TOi1 (hs₁.extBut _ _ D.TOz hTO)
  refine wpAny_bind (wpAny_seqItems hTO₂ rfl ?_)
  refine wpAny_bind (wpAny_updateSeq_pair hTO₂ fun h₃ hTO₃ hs₃ => ?_)
  replace hTO₃ : IsPair h₃ TO (.int px s.toks) b := hTO₃
  refine wpAny_bind (wpAny_letGo (wpAny_pure ?_))
  refine wpAny_bind (wpAny_bind (wpAny_onRaise ?_))
  show wpAny _ _ (Builtin.SmallTypes.nextOf (.ref i2) >>= _) _ _ _
  refine wpAny_bind (wpAny_nextOf_list_item (((h2.extBut hs₁.extBut D.i2z).extBut hs₂.extBut D.i12.symm).extBut hs₃.extBut D.TOi2.symm)
    (((hl2.extBut hs₁.extBut D.l2z).extBut hs₂.extBut D.l2i1).extBut hs₃.extBut D.l2TO) hy fun h₄ h2₄ hs₄ => wpAny_pure ?_)
  have hTO₄ : IsPair h₄ TO (.int px s.toks) b := hs₄.extBut _ _ D.TOi2 hTO₃
  refine wpAny_bind (wpAny_seqItems hTO₄ rfl ?_)
  refine wpAny_bind (wpAny_updateSeq_pair hTO₄ fun h₅ hTO₅ hs₅ => ?_)
  replace hTO₅ : IsPair h₅ TO (.int px s.toks) y := hTO₅
  refine wpAny_bind (wpAny_letGo (wpAny_pure (wpAny_pure ?_)))
  refine wpAny_bind (wpAny_seqItems hTO₅ rfl ?_)
  refine wpAny_bind (wpAny_newTuple ?_)
  have hsz : h₅.objs.size = s.heap.objs.size := by rw [hs₅.1, hs₄.1, hs₃.1, hs₂.1, hs₁.1]
  have hz₅ : IsZip h₅ z TI TO .ellipsis := hs₅.extBut _ _ D.TOz.symm (hs₄.extBut _ _ D.i2z.symm (hs₃.extBut _ _ D.TOz.symm (hs₂.extBut _ _ D.i1z.symm hz₁)))
  have hk₅ : ∀ c o, c ≠ z → c ≠ TO → c ≠ i1 → c ≠ i2 → s.heap.get? c = some o → h₅.get? c = some o := fun c o c1 c2 c3 c4 e =>
    hs₅.extBut _ _ c2 (hs₄.extBut _ _ c4 (hs₃.extBut _ _ c2 (hs₂.extBut _ _ c3 (hs₁.extBut _ _ c1 e))))
  have h1₅ : IsRangeIter h₅ i1 (px + step) (left - 1) step := hs₅.extBut _ _ D.TOi1.symm (hs₄.extBut _ _ D.i12 (hs₃.extBut _ _ D.TOi1.symm h1₂))
  have h2₅ : h₅.IsListIter i2 l2 (k2 + 1) := h2₄.extBut hs₅.extBut D.TOi2.symm
  have hzlt : z < h₅.objs.size := Heap.lt_size hz₅
  have hTOlt : TO < h₅.objs.size := Heap.lt_size hTO₅
  show wpAny _ _ (Builtin.SmallTypes.ownedTupleHandOut (.ref z) (.ref h₅.objs.size) >>= _) _ _ _
  refine wpAny_bind ?_
  unfold Builtin.SmallTypes.ownedTupleHandOut
  have hz₆ : IsZip (h₅.push { cls := .type "tuple", data := .seq #[.int px s.toks, y] }) z TI TO .ellipsis := Heap.get?_push_of_some _ hz₅
  refine wpAny_bind (wpAny_setField_rec hz₆ (by simp) fun h₇ hz₇ hs₇ => ?_)
  replace hz₇ : IsZip h₇ z TI TO (rawInt h₅.objs.size) := hz₇
  refine wpAny_setField_rec hz₇ (by simp) fun h₈ hz₈ hs₈ => ?_
  replace hz₈ : IsZip h₈ z TI TO (rawInt h₅.objs.size) := hz₈
  have up : ∀ c o, c ≠ z → h₅.get? c = some o → h₈.get? c = some o := fun c o c1 e => hs₈.extBut _ _ c1 (hs₇.extBut _ _ c1 (Heap.get?_push_of_some _ e))
  have hT₈ : IsPair h₈ h₅.objs.size (.int px s.toks) y := hs₈.extBut _ _ (Nat.ne_of_gt hzlt) (hs₇.extBut _ _ (Nat.ne_of_gt hzlt) (Heap.get?_push_size _ rfl))
  have hz8 : h₈.objs.size = h₅.objs.size + 1 := by rw [hs₈.1, hs₇.1, Heap.size_push]
  rw [hsz] at hz₈ hT₈ hz8
  refine wpAny_pure ⟨_, rfl, ?_⟩
  show Q (.ref h₅.objs.size) _
  rw [hsz]
  exact hQ h₈ hz₈ (up _ _ D.TOz hTO₅) (up _ _ D.i1z h1₅) (h2₅.at fun o e => up _ o D.i2z e) hT₈ hz8 fun c o c1 c2 c3 c4 e => up c o c1 (hk₅ c o c1 c2 c3 c4 e)
theorem zip_next_endR {z TI TO i1 i2 : Addr} {px left step : Int} {a b : Value} {Q : Fin → Shared → Prop} (hh : A.handled = none) (i1z : i1 ≠ z)
    (hz : IsZip s.heap z TI TO .none) (hTI : IsPair s.heap TI (.ref i1) (.ref i2)) (h1 : IsRangeIter s.heap i1 px left step) (hend : left ≤ 0)
    (hE : ∀ h' e, (∀ c o, c ≠ z → c ≠ i1 → s.heap.get? c = some o → h'.get? c = some o) → (∃ o, h'.get? e = some o ∧ o.cls = .type "StopIteration") → E (.ref e) { s with heap := h' }) :
    wpAny (model prog w) A (Builtin.«zip.__next__» ⟨[.ref z], []⟩) Q E s := by
  show wpAny _ _ (field (.ref z) 2 >>= _) _ _ _
  refine wpAny_bind (wpAny_field hz rfl (x := .bool false) rfl ?_)
  show wpAny _ _ (field (.ref z) 3 >>= _) _ _ _
  refine wpAny_bind (wpAny_field hz rfl (x := .ref TI) rfl ?_)
  refine wpAny_bind (wpAny_seqItems hTI rfl ?_)
  show wpAny _ _ (Builtin.SmallTypes.ownedTupleIsFree (.ref z) >>= _) _ _ _
  refine wpAny_bind ?_
  unfold Builtin.SmallTypes.ownedTupleIsFree
  refine wpAny_bind (wpAny_field hz rfl (x := .none) rfl (wpAny_pure ?_))
  simp only [if_true]
  refine wpAny_bind (wpAny_rule ?_)
  refine wpAny_bind (wpAny_field hz rfl (x := .ref TO) rfl ?_)
  refine wpAny_bind (wpAny_setField_rec hz (by simp) fun h₁ hz₁ hs₁ => ?_)
  replace hz₁ : IsZip h₁ z TI TO .ellipsis := hz₁
  refine wpAny_bind ?_
  simp only [List.zipIdx_cons, List.zipIdx_nil, List.forIn_cons, List.forIn_nil]
  refine wpAny_bind (wpAny_bind (wpAny_onRaise ?_))
  show wpAny _ _ (Builtin.SmallTypes.nextOf (.ref i1) >>= _) _ _ _
  refine wpAny_bind (nextOf_range_end hh (hs₁.extBut _ _ i1z h1) hend fun h₂ e hs₂ he => ?_)
  obtain ⟨oe, hoe, hce⟩ := he
  have hz₂ : IsZip h₂ z TI TO .ellipsis := hs₂ _ _ i1z.symm hz₁
  have hez : e ≠ z := fun x => by subst x; rw [hz₂] at hoe; cases hoe; simp at hce
  exact wpAny_setField_rec hz₂ (by simp) fun h₃ _ hs₃ => hE h₃ e (fun c o c1 c3 x => hs₃.extBut _ _ c1 (hs₂ _ _ c3 (hs₁.extBut _ _ c1 x))) ⟨oe, hs₃.extBut _ _ hez hoe, hce⟩
theorem pyNext_zip_itemR {z TI TO i1 i2 l2 : Addr} {k2 : Nat} {px left step : Int} {ys : Array Value} {y a b : Value} {Q : Option Value → Shared → Prop} (D : ZApart z TI TO i1 i2 l2)
    (hz : IsZip s.heap z TI TO .none) (hTI : IsPair s.heap TI (.ref i1) (.ref i2)) (hTO : IsPair s.heap TO a b)
    (h1 : IsRangeIter s.heap i1 px left step) (h2 : s.heap.IsListIter i2 l2 k2) (hl2 : s.heap.IsList l2 ys) (hx : 0 < left) (hy : ys[k2]? = some y)
    (hQ : ∀ h', IsZip h' z TI TO (rawInt s.heap.objs.size) → IsPair h' TO (.int px s.toks) y → IsRangeIter h' i1 (px + step) (left - 1) step → h'.IsListIter i2 l2 (k2 + 1) → IsPair h' s.heap.objs.size (.int px s.toks) y → h'.objs.size = s.heap.objs.size + 1 →
      (∀ c o, c ≠ z → c ≠ TO → c ≠ i1 → c ≠ i2 → s.heap.get? c = some o → h'.get? c = some o) → Q (some (.ref s.heap.objs.size)) { s with heap := h', toks := s.toks + 1 }) :
    wpAny (model prog w) A (pyNext (.ref z)) Q E s := by
  have hT : s.TypeIs (.ref z) "zip" := ⟨_, hz, rfl⟩
  unfold pyNext
  exact wpAny_bind (wpAny_attempt (wpAny_callSpecial?_slot (name := Str.ofString "__next__") hT F.slot_zip_next
    (wpAny_call_entry F.slot_zip_next hT F.entry_zip_next
      (zip_next_itemR D hz hTI hTO h1 h2 hl2 hx hy fun h' a1 a2 a3 a4 a5 a6 a7 => wpAny_pure (hQ h' a1 a2 a3 a4 a5 a6 a7)) (F.args_zip_next_1 _))))
theorem pyNext_zip_endR {z TI TO i1 i2 : Addr} {px left step : Int} {Q : Option Value → Shared → Prop} (hh : A.handled = none) (i1z : i1 ≠ z)
    (hz : IsZip s.heap z TI TO .none) (hTI : IsPair s.heap TI (.ref i1) (.ref i2)) (h1 : IsRangeIter s.heap i1 px left step) (hend : left ≤ 0)
    (hQ : ∀ h', (∀ c o, c ≠ z → c ≠ i1 → s.heap.get? c = some o → h'.get? c = some o) → Q none { s with heap := h' }) : wpAny (model prog w) A (pyNext (.ref z)) Q E s := by
  have hT : s.TypeIs (.ref z) "zip" := ⟨_, hz, rfl⟩
  unfold pyNext
  refine wpAny_bind (wpAny_attempt (wpAny_callSpecial?_slot (name := Str.ofString "__next__") hT F.slot_zip_next
    (wpAny_call_entry F.slot_zip_next hT F.entry_zip_next (zip_next_endR (a := .none) (b := .none) hh i1z hz hTI h1 hend fun h' e hk he => ?_) (F.args_zip_next_1 _))))
  obtain ⟨o, ho, hc⟩ := he
  refine wpAny_bind (wpAny_isInstance (T := "StopIteration") (b := true) ⟨o, ho, hc⟩ isSubtype_stop ?_)
  exact wpAny_pure (hQ _ hk)
end
/-- zip of a range and an iterator of a list -/
def rObj (x left step : Int) : Obj := { cls := .type "range_iterator", data := .fields #[rawInt x, rawInt left, rawInt step] }
def zipHR (h : Heap) (a n c : Int) (i2 : Addr) : Heap :=
  (((h.push (rObj a n c)).push { cls := .type "tuple", data := .seq #[.ref h.objs.size, .ref i2] }).push { cls := .type "tuple", data := .seq #[.none, .none] }).push { cls := .type "zip", data := .fields #[.none, .bool false, .bool false, .ref (h.objs.size + 1), .ref (h.objs.size + 2)] }
theorem meets_zip_newR (r i2 l2 : Addr) (k2 : Nat) (a b c : Int) (t u v : Tok) (hsm : Builtin.Range.small a b c = true) :
    Meets (Builtin.«zip.__new__» ⟨[.type "zip", .ref r, .ref i2], []⟩) (fun _ R s => IsRange s.heap r a b c t u v ∧ s.heap.IsListIter i2 l2 k2 ∧
      R (.ok (.ret (.ref (s.heap.objs.size + 3)))) { s with heap := zipHR s.heap a (Builtin.Range.rangeSize a b c) c i2 }) :=
  .of_wp fun prog w A R s h => by
    refine hide_goal ?_
    intro G₀ hG₀
    obtain ⟨hp, g, d, tk, os⟩ := s; obtain ⟨hr, hi, h⟩ := h
    refine hG₀ ?_
    clear hG₀ G₀
    have hsub := sub_zip
    have hI2 : Heap.IsListIter (Shared.heap ⟨hp.push { cls := .type "range_iterator", data := .fields #[rawInt a, rawInt (Builtin.Range.rangeSize a b c), rawInt c] }, g, d, tk, os⟩) i2 l2 k2 := hi.at fun o e => Heap.get?_push_of_some _ e
    wp_walk using wpAny_pyIter_range hr hsm, wpAny_pyIter_listiter hI2
    simp only [Heap.size_push, zipHR, rObj, Nat.add_assoc] at h ⊢
    exact ⟨_, rfl, h⟩
section
variable {prog : Program} {w : World} {A : Around} {E : Value → Shared → Prop} {s : Shared}
theorem call_zipR {r i2 l2 : Addr} {k2 : Nat} {a b c : Int} {t u v : Tok} {Q : Value → Shared → Prop} (hr : IsRange s.heap r a b c t u v) (hsm : Builtin.Range.small a b c = true) (hi : s.heap.IsListIter i2 l2 k2)
    (h : Q (.ref (s.heap.objs.size + 3)) { s with heap := zipHR s.heap a (Builtin.Range.rangeSize a b c) c i2 }) :
    wpAny (model prog w) A (call (.type "zip") [.ref r, .ref i2]) Q E s := by
  refine callType_new F.called_zip (by decide) (F.typeCall_zip_2 _ _) (F.newCall_zip_2 _ _) (fun obj => F.args_object_init_3 obj _ _) F.entry_zip_new
    (meets_zip_newR r i2 l2 k2 a b c t u v hsm) ⟨hr, hi, ?_⟩
  have e3 : (((s.heap.push (rObj a (Builtin.Range.rangeSize a b c) c)).push { cls := .type "tuple", data := .seq #[.ref s.heap.objs.size, .ref i2] }).push { cls := .type "tuple", data := .seq #[.none, .none] }).objs.size = s.heap.objs.size + 3 := by simp only [Heap.size_push]
  have e4 : (zipHR s.heap a (Builtin.Range.rangeSize a b c) c i2).get? (s.heap.objs.size + 3) = some { cls := .type "zip", data := .fields #[.none, .bool false, .bool false, .ref (s.heap.objs.size + 1), .ref (s.heap.objs.size + 2)] } := by
    rw [← e3]; unfold zipHR; exact Heap.get?_push_size _ rfl
  exact ⟨⟨_, e4, rfl⟩, h⟩
end
end
-- Comp2
section
section
variable {prog : Program} {w : World} {A : Around} {E : Value → Shared → Prop} {s : Shared} {h₀ : Heap} {L : Addr} {m : Str → Option Value} {env : Env}
/-- the block's own names stand first in the ledger -/
theorem ns_front {h : Heap} {C D : Addr} {ys : List Value} {m₂ : Str → Option Value} {news : Led} (hn : h.Ns C m₂) (N : News h₀ L h ((D, clst ys) :: news)) (hCL : C ≠ L) (hC₀ : h₀.get? C = none) :
    ∃ oC, LCg.NsObj oC m₂ ∧ News h₀ L h ((C, oC) :: (D, clst ys) :: news) := by
  obtain ⟨oC, e, hoC⟩ := LCg.ns_obj hn
  exact ⟨oC, hoC, fun p hp => (List.mem_cons.mp hp).elim (fun q => q ▸ ⟨e, hCL, hC₀⟩) (N p)⟩
/-- a turn whose target is one name and whose test list is empty -/
theorem turn_one {elt : PySem.Expr} {x : Str} {px : Pos} {scope : Scope} {cl : List (Str × Addr)} {C D : Addr} {ys : List Value} {m' : Str → Option Value} {news : Led} {v : Value} {Q1 : Value → Shared → Prop} {Q2 : Shared → Prop}
    (hx : scope.names.lookup x = some .local) (hkind : scope.kind = .function) (F : Fr h₀ L s.heap m) (hn : s.heap.Ns C m') (N : News h₀ L s.heap ((D, clst ys) :: news)) (off : ∀ p ∈ news, p.1 ≠ C ∧ p.1 ≠ D) (hCD : C ≠ D) (hCL : C ≠ L) (hC₀ : h₀.get? C = none)
    (K : ∀ h' tk oC m₂, LCg.NsObj oC m₂ → m₂ x = some v → Fr h₀ L h' m → News h₀ L h' ((C, oC) :: (D, clst ys) :: news) → wpAny (model prog w) A (eval elt (compEnvC scope cl C env)) Q1 E { s with heap := h', toks := tk }) :
    wpAny (model prog w) A (assign (.Name x px) (compEnvC scope cl C env) v) (fun _ s₂' =>
          wpAny (model prog w) A (forIn ([] : List PySem.Expr) true fun c r => if r = true then do let ok ← isTrue c (compEnvC scope cl C env) (eval c (compEnvC scope cl C env)); pure (ForInStep.yield ok) else pure (ForInStep.yield r)) (fun ok s₃ =>
            if ok = true then wpAny (model prog w) A (eval elt (compEnvC scope cl C env)) Q1 E s₃
            else Q2 s₃) E s₂') E s := by
  refine wpAny_assign_Name (wpAny_storeName_local (lookup_relabel_local hx) hn (fun h₃ hn₃ hs₃ => ?_) (by simp [compEnvC, relabel, hkind]))
  refine wpAny_tests_nil ?_
  simp only [if_true]
  have N₃ : News h₀ L h₃ ((D, clst ys) :: news) := fun p hp => ⟨hs₃.extBut _ _ (by
    rcases List.mem_cons.mp hp with rfl | hp
    · exact hCD.symm
    · exact (off p hp).1) (N p hp).1, (N p hp).2⟩
  obtain ⟨oC, hoC, N₄⟩ := ns_front hn₃ N₃ hCL hC₀
  exact K h₃ _ oC _ hoC (by simp) (F.change hs₃ hCL hC₀) N₄
theorem turn_pair {elt : PySem.Expr} {x y : Str} {px py pt : Pos} {kt : Nat} {scope : Scope} {cl : List (Str × Addr)} {C D T : Addr} {ys : List Value} {m' : Str → Option Value} {news : Led} {a b : Value} {Q1 : Value → Shared → Prop} {Q2 : Shared → Prop}
    (hh : A.handled = none) (hx : scope.names.lookup x = some .local) (hy : scope.names.lookup y = some .local) (hxy : x ≠ y) (hkind : scope.kind = .function) (F : Fr h₀ L s.heap m) (hn : s.heap.Ns C m') (N : News h₀ L s.heap ((D, clst ys) :: news)) (off : ∀ p ∈ news, p.1 ≠ C ∧ p.1 ≠ D) (hCD : C ≠ D) (hCL : C ≠ L) (hC₀ : h₀.get? C = none)
    (hT : IsTup s.heap T #[a, b])
    (K : ∀ h' tk oC m₂, LCg.NsObj oC m₂ → m₂ x = some a → m₂ y = some b → Fr h₀ L h' m → News h₀ L h' ((C, oC) :: (D, clst ys) :: news) → wpAny (model prog w) A (eval elt (compEnvC scope cl C env)) Q1 E { s with heap := h', toks := tk }) :
    wpAny (model prog w) A (assign (.Tuple [.Name x px, .Name y py] kt pt) (compEnvC scope cl C env) (.ref T)) (fun _ s₂' =>
          wpAny (model prog w) A (forIn ([] : List PySem.Expr) true fun c r => if r = true then do let ok ← isTrue c (compEnvC scope cl C env) (eval c (compEnvC scope cl C env)); pure (ForInStep.yield ok) else pure (ForInStep.yield r)) (fun ok s₃ =>
            if ok = true then wpAny (model prog w) A (eval elt (compEnvC scope cl C env)) Q1 E s₃
            else Q2 s₃) E s₂') E s := by
  refine assign_Tuple_tuple hh hT rfl rfl fun h₁ he₁ => ?_
  have hn₁ : h₁.Ns C m' := hn.extBut he₁ (Nat.ne_of_lt hn.lt)
  have F₁ : Fr h₀ L h₁ m := F.extBut he₁ (Nat.le_refl _)
  have N₁ : News h₀ L h₁ ((D, clst ys) :: news) := N.extBut he₁ (Nat.le_refl _)
  refine assignInOrder_cons ?_
  show wpAny _ _ (assign (.Name x px) (compEnvC scope cl C env) a) _ _ _
  refine wpAny_assign_Name (wpAny_storeName_local (lookup_relabel_local hx) hn₁ (fun h₂ hn₂ hs₂ => ?_) (by simp [compEnvC, relabel, hkind]))
  refine assignInOrder_cons ?_
  show wpAny _ _ (assign (.Name y py) (compEnvC scope cl C env) b) _ _ _
  refine wpAny_assign_Name (wpAny_storeName_local (lookup_relabel_local hy) hn₂ (fun h₃ hn₃ hs₃ => ?_) (by simp [compEnvC, relabel, hkind]))
  refine assignInOrder_nil ?_
  refine wpAny_tests_nil ?_
  simp only [if_true]
  have F₂ : Fr h₀ L h₂ m := F₁.change hs₂ hCL hC₀
  have F₃ : Fr h₀ L h₃ m := F₂.change hs₃ hCL hC₀
  have N₃ : News h₀ L h₃ ((D, clst ys) :: news) := fun p hp => by
    have hne : p.1 ≠ C := by
      rcases List.mem_cons.mp hp with rfl | hp
      · exact hCD.symm
      · exact (off p hp).1
    exact ⟨hs₃.extBut _ _ hne (hs₂.extBut _ _ hne (N₁ p hp).1), (N₁ p hp).2⟩
  obtain ⟨oC, hoC, N₄⟩ := ns_front hn₃ N₃ hCL hC₀
  exact K h₃ _ oC _ hoC (by simp [hxy]) (by simp) F₃ N₄
theorem cp_end {s₂ : Shared} {C D : Addr} {k k' : Nat} {J : Nat → List Value → Led → Prop} {ys zs : List Value} {h' : Heap} {tk : Nat} {oC : Obj} {m₂ : Str → Option Value} {all news' : Led} (hoC : LCg.NsObj oC m₂) (F : Fr h₀ L h' m) (N : News h₀ L h' all)
    (hC : (C, oC) ∈ all) (hD : (D, clst ys) ∈ all) (hs : ∀ p ∈ news', p ∈ all) (off : ∀ p ∈ news', p.1 ≠ C ∧ p.1 ≠ D) (hk : k' < k) (hJ : J k' zs news') : CpEnd h₀ L m s₂ D C k J ys zs { s₂ with heap := h', toks := tk } :=
  ⟨h', tk, m₂, news', k', rfl, hk, F, hoC.ns (N _ hC).1, fun p hp => (List.mem_cons.mp hp).elim (fun e => e ▸ N _ hD) fun h => N p (hs p h), off, hJ⟩
end
end
-- NsA
section
def LitOf (o : Obj) (l : Addr) (k : Nat) : Prop := o.cls = .type "list_iterator" ∧ o.data = .fields #[.ref l, .int k 0]
theorem LitOf.at {o : Obj} {l it : Addr} {k : Nat} {h : Heap} (x : LitOf o l k) (e : h.get? it = some o) : h.IsListIter it l k := ⟨o, e, x.1, x.2⟩
theorem LitOf.of {l it : Addr} {k : Nat} {h : Heap} (x : h.IsListIter it l k) : ∃ o, h.get? it = some o ∧ LitOf o l k := let ⟨o, e, a, b⟩ := x; ⟨o, e, a, b⟩
def zO (f0 : Value) (TI TO : Addr) : Obj := { cls := .type "zip", dict := none, data := .fields #[f0, .bool false, .bool false, .ref TI, .ref TO], slots := #[] }
def prO (a b : Value) : Obj := { cls := .type "tuple", data := .seq #[a, b] }
section
variable {prog : Program} {w : World} {A : Around} {E : Value → Shared → Prop} {s : Shared} {h₀ : Heap} {L : Addr} {m : Str → Option Value} {news rest : Led}
theorem iter_step {a : Addr} {its : Array Value} {n : Nat} {Q : Value → Shared → Prop} (F : Fr h₀ L s.heap m) (N : News h₀ L s.heap news) (hm : (a, PySem.W.listOf its n) ∈ news)
    (h : ∀ (I : Addr) h' io, Fr h₀ L h' m → News h₀ L h' ((I, io) :: news) → (∀ p ∈ news, p.1 < I) → LitOf io a 0 → Q (.ref I) { s with heap := h' }) :
    wpAny (model prog w) A (call (.builtin "iter") [.ref a]) Q E s := by
  have hl : s.heap.IsList a its := PySem.IsL.isList (n := n) (N _ hm).1
  refine call_function_entry (by decide +kernel) (by decide +kernel) kdk_entry_iter (kdk_args_iter _) ?_
  unfold Builtin.«iter»
  refine wpAny_bind (m := someArgs "iter" 1 2 _) (wpAny_of_eq (a := [Value.ref a]) (by first | rfl | kernel_rfl!) ?_)
  show wpAny _ _ (pyIter (.ref a) >>= _) _ _ _
  refine wpAny_bind (wpAny_pyIter_list hl ?_)
  exact wpAny_pure ⟨_, rfl, h _ _ _ (F.push _) (News.push F N _ rfl) (fun q hq => Heap.lt_size (N q hq).1) ⟨rfl, rfl⟩⟩
theorem zip_step {r it l : Addr} {io : Obj} {k n : Nat} {a b c : Int} {t u v : Tok} {Q : Value → Shared → Prop} (F : Fr h₀ L s.heap m) (N : News h₀ L s.heap news) (hr : IsRange s.heap r a b c t u v) (hsm : Builtin.Range.small a b c = true) (hn : Builtin.Range.rangeSize a b c = (n : Int))
    (hm : (it, io) ∈ news) (hi : LitOf io l k)
    (K : ∀ (z TI TO ri : Addr) h', Fr h₀ L h' m → News h₀ L h' ((z, zO .none TI TO) :: (TI, prO (.ref ri) (.ref it)) :: (TO, prO .none .none) :: (ri, rIt a n c) :: news) → (∀ p ∈ news, p.1 < ri) → ri < TI → TI < TO → TO < z → Q (.ref z) { s with heap := h' }) :
    wpAny (model prog w) A (call (.type "zip") [.ref r, .ref it]) Q E s := by
  refine call_zipR hr hsm (hi.at (N _ hm).1) ?_
  have N1 := News.push F N (rIt a n c)
  have F1 := F.push (o := rIt a n c)
  have N2 := News.push F1 N1 (prO (.ref s.heap.objs.size) (.ref it))
  have F2 := F1.push (o := prO (.ref s.heap.objs.size) (.ref it))
  have N3 := News.push F2 N2 (prO .none .none)
  have F3 := F2.push (o := prO .none .none)
  have N4 := News.push F3 N3 (zO .none (s.heap.objs.size + 1) (s.heap.objs.size + 2))
  have F4 := F3.push (o := zO .none (s.heap.objs.size + 1) (s.heap.objs.size + 2))
  simp only [Heap.size_push] at N2 N3 N4
  rw [hn]
  refine K (s.heap.objs.size + 3) (s.heap.objs.size + 1) (s.heap.objs.size + 2) s.heap.objs.size _ F4 (fun p hp => N4 p ?_) (fun p hp => Heap.lt_size (N p hp).1) (Nat.lt_succ_self _) (Nat.lt_succ_self _) (Nat.lt_succ_self _)
  simp only [List.mem_cons] at hp ⊢
  rcases hp with h | h | h | h | h
  · exact .inl h
  · exact .inr (.inr (.inl h))
  · exact .inr (.inl h)
  · exact .inr (.inr (.inr (.inl h)))
  · exact .inr (.inr (.inr (.inr h)))
/-- a turn of zip: the pair handed out and let go -/
theorem zip_turn {z TI TO ri it l : Addr} {io : Obj} {k : Nat} {px left step : Int} {ys : Array Value} {y a b : Value} {elts : List PySem.Expr} {x1 : Nat} {pos : Pos} {G : Value → Shared → Prop} {X : Shared → Prop} {nl : Nat}
    (F : Fr h₀ L s.heap m) (N : News h₀ L s.heap ((z, zO .none TI TO) :: (TI, prO (.ref ri) (.ref it)) :: (TO, prO a b) :: (ri, rIt px left step) :: (it, io) :: rest)) (hi : LitOf io l k) (hl : (l, PySem.W.listOf ys nl) ∈ rest)
    (hoff : ∀ p ∈ rest, p.1 ≠ z ∧ p.1 ≠ TO ∧ p.1 ≠ ri ∧ p.1 ≠ it) (o1 : it < ri) (o2 : ri < TI) (o3 : TI < TO) (o4 : TO < z) (hx : 0 < left) (hy : ys[k]? = some y)
    (K : ∀ (T : Addr) h' io', Fr h₀ L h' m → News h₀ L h' ((z, zO .none TI TO) :: (TI, prO (.ref ri) (.ref it)) :: (TO, prO (.int px s.toks) y) :: (ri, rIt (px + step) (left - 1) step) :: (it, io') :: rest) → LitOf io' l (k + 1) → IsTup h' T #[.int px s.toks, y] → G (.ref T) { s with heap := h', toks := s.toks + 1 }) :
    wpAny (model prog w) A (pyNext (.ref z)) (fun r s₁ => match r with | none => X s₁ | some v => wpAny (model prog w) A (letOwnedTupleGo (.Tuple elts x1 pos) (.ref z) v) (fun _ s₂ => G v s₂) E s₁) E s := by
  have zz := N _ (.head _)
  have zTI := N _ (.tail _ (.head _))
  have zTO := N _ (.tail _ (.tail _ (.head _)))
  have zri := N _ (.tail _ (.tail _ (.tail _ (.head _))))
  have zit := N _ (.tail _ (.tail _ (.tail _ (.tail _ (.head _)))))
  have hlt := hoff _ hl
  have zl := N _ (.tail _ (.tail _ (.tail _ (.tail _ (.tail _ hl)))))
  have D : ZApart z TI TO ri it l := ⟨by intro e; subst e; exact absurd (Nat.lt_trans o3 o4) (Nat.lt_irrefl _), Nat.ne_of_lt o4, Nat.ne_of_lt (Nat.lt_trans o2 (Nat.lt_trans o3 o4)), Nat.ne_of_lt (Nat.lt_trans o1 (Nat.lt_trans o2 (Nat.lt_trans o3 o4))), Nat.ne_of_lt o3,
    Nat.ne_of_gt o2, Nat.ne_of_gt (Nat.lt_trans o1 o2), Nat.ne_of_gt (Nat.lt_trans o2 o3), Nat.ne_of_gt (Nat.lt_trans o1 (Nat.lt_trans o2 o3)), Nat.ne_of_gt o1,
    hlt.1, hlt.2.1, hlt.2.2.1, hlt.2.2.2⟩
  refine pyNext_zip_itemR D zz.1 zTI.1 zTO.1 zri.1 (hi.at zit.1) (PySem.IsL.isList (n := nl) zl.1) hx hy fun h' hz' hTO' hri' hit' hT' hsz' hk' => ?_
  refine wpAny_letOwnedTupleGo_zip hz' fun h'' hz'' hs'' => ?_
  obtain ⟨io', eit, hio'⟩ := LitOf.of hit'
  have up : ∀ c o, c ≠ z → h'.get? c = some o → h''.get? c = some o := fun c o c1 e => hs''.extBut _ _ c1 e
  have keep : ∀ c o, h₀.get? c = some o → h''.get? c = some o := fun c o e => by
    have ne : ∀ q : Addr × Obj, News h₀ L s.heap [q] → c ≠ q.1 := fun q M h => by
      have := (M q (.head _)).2.2
      rw [← h, e] at this; cases this
    have n1 : c ≠ z := fun h => by have := zz.2.2; rw [← h] at this; simp only at this; rw [e] at this; cases this
    have n2 : c ≠ TO := fun h => by have := zTO.2.2; rw [← h] at this; simp only at this; rw [e] at this; cases this
    have n3 : c ≠ ri := fun h => by have := zri.2.2; rw [← h] at this; simp only at this; rw [e] at this; cases this
    have n4 : c ≠ it := fun h => by have := zit.2.2; rw [← h] at this; simp only at this; rw [e] at this; cases this
    exact up _ _ n1 (hk' _ _ n1 n2 n3 n4 (F.keep _ _ e))
  have hsL : h''.Ns L m := by
    have a1 : L ≠ z := Ne.symm zz.2.1
    have a2 : L ≠ TO := Ne.symm zTO.2.1
    have a3 : L ≠ ri := Ne.symm zri.2.1
    have a4 : L ≠ it := Ne.symm zit.2.1
    exact F.ns.at' fun o e => up _ _ a1 (hk' _ _ a1 a2 a3 a4 e)
  have hTne : s.heap.objs.size ≠ z := Nat.ne_of_gt (Heap.lt_size zz.1)
  refine K s.heap.objs.size h'' io' ⟨hsL, keep, F.above⟩ (fun p hp => ?_) hio' ⟨_, up _ _ hTne hT', rfl, _, rfl⟩
  simp only [List.mem_cons] at hp
  rcases hp with rfl | rfl | rfl | rfl | rfl | hp
  · exact ⟨hz'', zz.2⟩
  · exact ⟨up _ _ D.TIz (hk' _ _ D.TIz D.TITO D.TIi1 D.TIi2 zTI.1), zTI.2⟩
  · exact ⟨up _ _ D.TOz hTO', zTO.2⟩
  · exact ⟨up _ _ D.i1z hri', zri.2⟩
  · exact ⟨up _ _ D.i2z eit, zit.2⟩
  · have hp' := hoff p hp
    have q := N p (.tail _ (.tail _ (.tail _ (.tail _ (.tail _ hp)))))
    obtain ⟨b1, b2, b3, b4⟩ := hp'
    exact ⟨up _ _ b1 (hk' _ _ b1 b2 b3 b4 q.1), q.2⟩
theorem zip_end {z TI TO ri it : Addr} {io : Obj} {px left step : Int} {a b : Value} {G : Value → Shared → Prop} {X : Shared → Prop}
    (hh : A.handled = none) (F : Fr h₀ L s.heap m) (N : News h₀ L s.heap ((z, zO .none TI TO) :: (TI, prO (.ref ri) (.ref it)) :: (TO, prO a b) :: (ri, rIt px left step) :: (it, io) :: rest))
    (hoff : ∀ p ∈ rest, p.1 ≠ z ∧ p.1 ≠ TO ∧ p.1 ≠ ri ∧ p.1 ≠ it) (o1 : it < ri) (o2 : ri < TI) (o3 : TI < TO) (o4 : TO < z) (hx : left ≤ 0) {elts : List PySem.Expr} {x1 : Nat} {pos : Pos}
    (K : ∀ h', Fr h₀ L h' m → News h₀ L h' ((it, io) :: rest) → (∀ c o, c ≠ z → c ≠ ri → s.heap.get? c = some o → h'.get? c = some o) → X { s with heap := h' }) :
    wpAny (model prog w) A (pyNext (.ref z)) (fun r s₁ => match r with | none => X s₁ | some v => wpAny (model prog w) A (letOwnedTupleGo (.Tuple elts x1 pos) (.ref z) v) (fun _ s₂ => G v s₂) E s₁) E s := by
  have zz := N _ (.head _)
  have zTI := N _ (.tail _ (.head _))
  have zri := N _ (.tail _ (.tail _ (.tail _ (.head _))))
  have zit := N _ (.tail _ (.tail _ (.tail _ (.tail _ (.head _)))))
  refine pyNext_zip_endR hh (Nat.ne_of_lt (Nat.lt_trans o2 (Nat.lt_trans o3 o4))) zz.1 zTI.1 zri.1 hx fun h' hk' => ?_
  have keep : ∀ c o, h₀.get? c = some o → h'.get? c = some o := fun c o e => by
    have n1 : c ≠ z := fun h => by have := zz.2.2; rw [← h] at this; simp only at this; rw [e] at this; cases this
    have n3 : c ≠ ri := fun h => by have := zri.2.2; rw [← h] at this; simp only at this; rw [e] at this; cases this
    exact hk' _ _ n1 n3 (F.keep _ _ e)
  refine K h' ⟨F.ns.at' fun o e => hk' _ _ (Ne.symm zz.2.1) (Ne.symm zri.2.1) e, keep, F.above⟩ (fun p hp => ?_) hk'
  have q := N p (.tail _ (.tail _ (.tail _ (.tail _ hp))))
  have b : p.1 ≠ z ∧ p.1 ≠ ri := by
    rcases List.mem_cons.mp hp with rfl | hp
    · exact ⟨Nat.ne_of_lt (Nat.lt_trans o1 (Nat.lt_trans o2 (Nat.lt_trans o3 o4))), Nat.ne_of_lt o1⟩
    · exact ⟨(hoff p hp).1, (hoff p hp).2.2.1⟩
  obtain ⟨b1, b3⟩ := b
  exact ⟨hk' _ _ b1 b3 q.1, q.2⟩
theorem ns_turn {z TI TO ri I a C D : Addr} {io : Obj} {k : Nat} {px left c : Int} {its : Array Value} {y x0 y0 : Value} {ys : List Value} {m' : Str → Option Value} {elts : List PySem.Expr} {x1 : Nat} {pos : Pos} {G : Value → Shared → Prop} {X : Shared → Prop} {nl : Nat}
    (hi : LitOf io a k) (F : Fr h₀ L s.heap m) (hn : s.heap.Ns C m') (N : News h₀ L s.heap ((D, clst ys) :: (z, zO .none TI TO) :: (TI, prO (.ref ri) (.ref I)) :: (TO, prO x0 y0) :: (ri, rIt px left c) :: (I, io) :: rest))
    (off : ∀ p ∈ (z, zO .none TI TO) :: (TI, prO (.ref ri) (.ref I)) :: (TO, prO x0 y0) :: (ri, rIt px left c) :: (I, io) :: rest, p.1 ≠ C ∧ p.1 ≠ D) (hCL : C ≠ L) (hC₀ : h₀.get? C = none)
    (hr : ∀ p ∈ rest, p.1 ≠ z ∧ p.1 ≠ TO ∧ p.1 ≠ ri ∧ p.1 ≠ I) (ha : (a, PySem.W.listOf its nl) ∈ rest) (o1 : I < ri) (o2 : ri < TI) (o3 : TI < TO) (o4 : TO < z) (hx : 0 < left) (hy : its[k]? = some y)
    (K : ∀ (T : Addr) h' io', Fr h₀ L h' m → h'.Ns C m' → News h₀ L h' ((D, clst ys) :: (z, zO .none TI TO) :: (TI, prO (.ref ri) (.ref I)) :: (TO, prO (.int px s.toks) y) :: (ri, rIt (px + c) (left - 1) c) :: (I, io') :: rest) → LitOf io' a (k + 1) → IsTup h' T #[.int px s.toks, y] → G (.ref T) { s with heap := h', toks := s.toks + 1 }) :
    wpAny (model prog w) A (pyNext (.ref z)) (fun r s₁ => match r with | none => X s₁ | some v => wpAny (model prog w) A (letOwnedTupleGo (.Tuple elts x1 pos) (.ref z) v) (fun _ s₂ => G v s₂) E s₁) E s := by
  obtain ⟨oC, hoC, N'⟩ := ns_front hn N hCL hC₀
  have f1 := off _ (.head _)
  have f3 := off _ (.tail _ (.tail _ (.head _)))
  have f4 := off _ (.tail _ (.tail _ (.tail _ (.head _))))
  have f5 := off _ (.tail _ (.tail _ (.tail _ (.tail _ (.head _)))))
  refine zip_turn (a := x0) (b := y0) (step := c) (px := px) (left := left) (rest := (C, oC) :: (D, clst ys) :: rest) F (fun p hp => N' p ?_) hi (.tail _ (.tail _ ha)) ?_ o1 o2 o3 o4 hx hy fun T h' io' F' N'' hio' hT => ?_
  · simp only [List.mem_cons] at hp ⊢
    rcases hp with h | h | h | h | h | h | h | h <;> simp only [h, true_or, or_true]
  · intro p hp
    rcases List.mem_cons.mp hp with rfl | hp
    · exact ⟨Ne.symm f1.1, Ne.symm f3.1, Ne.symm f4.1, Ne.symm f5.1⟩
    · rcases List.mem_cons.mp hp with rfl | hp
      · exact ⟨Ne.symm f1.2, Ne.symm f3.2, Ne.symm f4.2, Ne.symm f5.2⟩
      · exact hr p hp
  · refine K T h' io' F' (hoC.ns (N'' (C, oC) (.tail _ (.tail _ (.tail _ (.tail _ (.tail _ (.head _)))))) ).1) (fun p hp => N'' p ?_) hio' hT
    simp only [List.mem_cons] at hp ⊢
    rcases hp with h | h | h | h | h | h | h <;> simp only [h, true_or, or_true]
theorem ns_fin {z TI TO ri I C D : Addr} {io : Obj} {px left c : Int} {x0 y0 : Value} {ys : List Value} {m' : Str → Option Value} {elts : List PySem.Expr} {x1 : Nat} {pos : Pos} {G : Value → Shared → Prop} {X : Shared → Prop}
    (hh : A.handled = none) (F : Fr h₀ L s.heap m) (hn : s.heap.Ns C m') (N : News h₀ L s.heap ((D, clst ys) :: (z, zO .none TI TO) :: (TI, prO (.ref ri) (.ref I)) :: (TO, prO x0 y0) :: (ri, rIt px left c) :: (I, io) :: rest))
    (off : ∀ p ∈ (z, zO .none TI TO) :: (TI, prO (.ref ri) (.ref I)) :: (TO, prO x0 y0) :: (ri, rIt px left c) :: (I, io) :: rest, p.1 ≠ C ∧ p.1 ≠ D) (hCL : C ≠ L) (hC₀ : h₀.get? C = none)
    (hr : ∀ p ∈ rest, p.1 ≠ z ∧ p.1 ≠ TO ∧ p.1 ≠ ri ∧ p.1 ≠ I) (o1 : I < ri) (o2 : ri < TI) (o3 : TI < TO) (o4 : TO < z) (hx : left ≤ 0)
    (K : ∀ h', Fr h₀ L h' m → h'.Ns C m' → News h₀ L h' ((D, clst ys) :: (I, io) :: rest) → X { s with heap := h' }) :
    wpAny (model prog w) A (pyNext (.ref z)) (fun r s₁ => match r with | none => X s₁ | some v => wpAny (model prog w) A (letOwnedTupleGo (.Tuple elts x1 pos) (.ref z) v) (fun _ s₂ => G v s₂) E s₁) E s := by
  obtain ⟨oC, hoC, N'⟩ := ns_front hn N hCL hC₀
  have f1 := off _ (.head _)
  have f3 := off _ (.tail _ (.tail _ (.head _)))
  have f4 := off _ (.tail _ (.tail _ (.tail _ (.head _))))
  have f5 := off _ (.tail _ (.tail _ (.tail _ (.tail _ (.head _)))))
  refine zip_end (a := x0) (b := y0) (step := c) (px := px) (left := left) (TI := TI) (io := io) (rest := (C, oC) :: (D, clst ys) :: rest) hh F (fun p hp => N' p ?_) ?_ o1 o2 o3 o4 hx fun h' F' N'' _ => ?_
  · simp only [List.mem_cons] at hp ⊢
    rcases hp with h | h | h | h | h | h | h | h <;> simp only [h, true_or, or_true]
  · intro p hp
    rcases List.mem_cons.mp hp with rfl | hp
    · exact ⟨Ne.symm f1.1, Ne.symm f3.1, Ne.symm f4.1, Ne.symm f5.1⟩
    · rcases List.mem_cons.mp hp with rfl | hp
      · exact ⟨Ne.symm f1.2, Ne.symm f3.2, Ne.symm f4.2, Ne.symm f5.2⟩
      · exact hr p hp
  · refine K h' F' (hoC.ns (N'' (C, oC) (.tail _ (.head _))).1) (fun p hp => N'' p ?_)
    simp only [List.mem_cons] at hp ⊢
    rcases hp with h | h | h <;> simp only [h, true_or, or_true]
/-- the ledgers of the first pairs -/
inductive NsJ (z TI TO ri I a : Addr) (v0 v1 : Value) (c : Int) (base : Led) : Nat → List Value → Led → Prop
  | s0 (io : Obj) (T0 : Addr) (t0 : Tok) (T1 : Addr) (t1 : Tok) (x : Value) (h : LitOf io a 2) (b1 : I < T0) (b2 : T0 ≠ ri) (b3 : T0 ≠ TO) (b4 : T0 ≠ z) (b5 : I < T1) (b6 : T1 ≠ ri) (b7 : T1 ≠ TO) (b8 : T1 ≠ z) (b9 : T1 ≠ T0) : NsJ z TI TO ri I a v0 v1 c base 0 [.ref T0, .ref T1] ((z, zO .none TI TO) :: (TI, prO (.ref ri) (.ref I)) :: (TO, prO x v1) :: (ri, rIt (c + c) 0 c) :: (I, io) :: (T1, prO v1 (.int c t1)) :: (T0, prO v0 (.int 0 t0)) :: base)
  | s1 (io : Obj) (T0 : Addr) (t0 : Tok) (x : Value) (h : LitOf io a 1) (b1 : I < T0) (b2 : T0 ≠ ri) (b3 : T0 ≠ TO) (b4 : T0 ≠ z) : NsJ z TI TO ri I a v0 v1 c base 1 [.ref T0] ((z, zO .none TI TO) :: (TI, prO (.ref ri) (.ref I)) :: (TO, prO x v0) :: (ri, rIt c 1 c) :: (I, io) :: (T0, prO v0 (.int 0 t0)) :: base)
  | s2 (io : Obj) (h : LitOf io a 0) : NsJ z TI TO ri I a v0 v1 c base 2 [] ((z, zO .none TI TO) :: (TI, prO (.ref ri) (.ref I)) :: (TO, prO .none .none) :: (ri, rIt 0 2 c) :: (I, io) :: base)
theorem NsJ_len {z TI TO ri I a : Addr} {v0 v1 : Value} {c : Int} {base : Led} (k : Nat) (ys : List Value) (nw : Led) (h : NsJ z TI TO ri I a v0 v1 c base k ys nw) : ys.length ≤ sizeLine := by
  cases h <;> exact Nat.le_of_ble_eq_true rfl
end
theorem hr4_of {base : Led} {I ri TI TO z : Addr} (hr : ∀ p ∈ base, p.1 < I) (o1 : I < ri) (o2 : ri < TI) (o3 : TI < TO) (o4 : TO < z) : ∀ p ∈ base, p.1 ≠ z ∧ p.1 ≠ TO ∧ p.1 ≠ ri ∧ p.1 ≠ I := fun p hp =>
  have h1 := hr p hp
  ⟨Nat.ne_of_lt (Nat.lt_trans h1 (Nat.lt_trans o1 (Nat.lt_trans o2 (Nat.lt_trans o3 o4)))), Nat.ne_of_lt (Nat.lt_trans h1 (Nat.lt_trans o1 (Nat.lt_trans o2 o3))), Nat.ne_of_lt (Nat.lt_trans h1 o1), Nat.ne_of_lt h1⟩
theorem off_same {l l' : Led} {C D : Addr} (off : ∀ p ∈ l, p.1 ≠ C ∧ p.1 ≠ D) (e : l'.map (·.1) = l.map (·.1)) : ∀ p ∈ l', p.1 ≠ C ∧ p.1 ≠ D := fun p hp => by
  have h : p.1 ∈ l'.map (·.1) := List.mem_map.mpr ⟨p, hp, rfl⟩
  rw [e] at h
  obtain ⟨q, hq, e2⟩ := List.mem_map.mp h
  rw [← e2]; exact off q hq
theorem arr_get {vs : List Value} {k : Nat} (h : k < vs.length) : vs.toArray[k]? = some (vs.getD k .none) := by simp [List.getD_eq_getElem?_getD, h]
theorem hr4_cons {base : Led} {I ri TO z T : Addr} {o : Obj} (h : T ≠ z ∧ T ≠ TO ∧ T ≠ ri ∧ T ≠ I) (hr : ∀ p ∈ base, p.1 ≠ z ∧ p.1 ≠ TO ∧ p.1 ≠ ri ∧ p.1 ≠ I) : ∀ p ∈ (T, o) :: base, p.1 ≠ z ∧ p.1 ≠ TO ∧ p.1 ≠ ri ∧ p.1 ≠ I := fun p hp =>
  (List.mem_cons.mp hp).elim (fun e => e ▸ h) (hr p)
theorem sub_ins {a b c d e f g t : Addr × Obj} {rest : Led} : ∀ p ∈ (a :: b :: c :: d :: e :: t :: rest : Led), p ∈ (t :: f :: g :: a :: b :: c :: d :: e :: rest : Led) := fun p hp => by
  simp only [List.mem_cons] at hp ⊢
  rcases hp with h | h | h | h | h | h | h <;> simp only [h, true_or, or_true]
theorem off_ins {a b c d e t : Addr × Obj} {rest : Led} {C D : Addr} (off : ∀ p ∈ (a :: b :: c :: d :: e :: rest : Led), p.1 ≠ C ∧ p.1 ≠ D) (ht : t.1 ≠ C ∧ t.1 ≠ D) : ∀ p ∈ (a :: b :: c :: d :: e :: t :: rest : Led), p.1 ≠ C ∧ p.1 ≠ D := fun p hp => by
  simp only [List.mem_cons] at hp
  rcases hp with h | h | h | h | h | h | h
  · exact off p (by simp [h])
  · exact off p (by simp [h])
  · exact off p (by simp [h])
  · exact off p (by simp [h])
  · exact off p (by simp [h])
  · exact h ▸ ht
  · exact off p (by simp [h])
end
-- NsB
section
theorem sift_two (lt : Value → Value → Bool) (A B : Value) : siftup lt [A, B] 0 = if lt A B then [A, B] else [B, A] := by
  have e1 : suGo lt 2 0 [A, B] = (1, [B, B]) := by
    rw [suGo.eq_def]
    simp only [Nat.mul_zero, Nat.zero_add, Nat.lt_irrefl, false_and, if_false, show (1 : Nat) < 2 from by decide, dif_pos]
    rw [suGo.eq_def]
    simp
  unfold siftup siftdown
  simp only [List.length_cons, List.length_nil, Nat.zero_add, Nat.reduceAdd, e1]
  rw [sdGo.eq_def]
  simp only [List.set_cons_succ, List.set_cons_zero, List.getD_cons_zero, List.getD_cons_succ, Nat.sub_self, Nat.zero_div, show (0:Nat) < 1 from by decide, if_true]
  by_cases h : lt A B = true
  · simp only [h, if_true]
    rw [sdGo.eq_def]
    simp
  · simp only [h, if_false]
    rfl
theorem heapify_two (lt : Value → Value → Bool) (A B : Value) : heapifyL lt [A, B] = if lt A B then [A, B] else [B, A] := by
  unfold heapifyL
  rw [show ([A, B] : List Value).length / 2 = 1 from by simp, hyGo, hyGo]
  exact sift_two lt A B
/-- the addresses' pairs -/
def tk3 (P : Addr) (p : Addr × Int) (Q : Addr) (q : Addr × Int) (R : Addr) (r : Addr × Int) : Addr → Addr × Int := fun a => if a = P then p else if a = Q then q else r
theorem lst_listOf (ys : List Value) : LCg.lst ys = PySem.W.listOf ys.toArray ys.length := rfl
theorem row_step {w : World} {A : Around} {E : Value → Shared → Prop} {s : Shared} {h₀ : Heap} {L : Addr} {key : Addr → Int × Int} {rest news : Led} {x y : Value} {Q : Value → Shared → Prop} (dx : domR key rest x) (dy : domR key rest y) (N : News h₀ L s.heap news) (sub : ∀ p ∈ rest, p ∈ news)
    (hu : A.units + 8 < cLine) (h : Q (.bool (ltR key x y)) s) : wpAny (model PW w) A (compareOp .Lt x y) Q E s :=
  cmp_rows (w := w) A s h₀ L x y Q E dx dy (fun p hp => N p (sub p hp)) hu h
def nsStep (lt : Value → Value → Bool) (st : Value × Value) (e : Value) : Value × Value := if lt e st.1 then (if lt st.2 e then (e, st.2) else (st.2, e)) else st
def nsIni (lt : Value → Value → Bool) (x y : Value) : Value × Value := if lt y x then (x, y) else (y, x)
def nsFin (lt : Value → Value → Bool) (st : Value × Value) : List Value := if lt st.2 st.1 then [st.2, st.1] else [st.1, st.2]
def ns2 (lt : Value → Value → Bool) (vs : List Value) : List Value := nsFin lt ((vs.drop 2).foldl (nsStep lt) (nsIni lt (vs.getD 0 .none) (vs.getD 1 .none)))
/-- the ledger of the two pairs -/
inductive NsS (h₀ h : Heap) (L D I : Addr) (base : Led) (io : Obj) (st : Value × Value) : Prop
  | mk (P Q : Addr) (ip iq : Int) (tp tq : Tok) (n : Nat) (h1 : P ≠ D) (h2 : Q ≠ D) (h3 : P ≠ Q) (h4 : P ≠ I) (h5 : Q ≠ I) (N : News h₀ L h ((D, PySem.W.listOf [.ref P, .ref Q].toArray n) :: (P, prO st.1 (.int ip tp)) :: (Q, prO st.2 (.int iq tq)) :: (base ++ [(I, io)])))
/-- two different places of the list -/
inductive NsP (vs : List Value) (k : Nat) (st : Value × Value) : Prop
  | mk (i j : Nat) (h1 : i < k) (h2 : j < k) (h3 : i ≠ j) (h4 : st.1 = vs.getD i .none) (h5 : st.2 = vs.getD j .none)
theorem NsP.ini {lt vs} : NsP vs 2 (nsIni lt (vs.getD 0 .none) (vs.getD 1 .none)) := by
  unfold nsIni
  split
  · exact ⟨0, 1, by decide, by decide, by decide, rfl, rfl⟩
  · exact ⟨1, 0, by decide, by decide, by decide, rfl, rfl⟩
theorem NsP.step {lt vs k st} (h : NsP vs k st) : NsP vs (k + 1) (nsStep lt st (vs.getD k .none)) := by
  obtain ⟨i, j, hi, hj, hne, e1, e2⟩ := h
  unfold nsStep
  split
  · split
    · exact ⟨k, j, by omega, by omega, by omega, rfl, e2⟩
    · exact ⟨j, k, by omega, by omega, by omega, e2, rfl⟩
  · exact ⟨i, j, by omega, by omega, hne, e1, e2⟩
theorem ltT_pair {key : Addr → Int × Int} {tk : Addr → Addr × Int} {P Q : Addr} (h : key (tk P).1 ≠ key (tk Q).1) : ltT key tk (.ref P) (.ref Q) = klt (key (tk P).1) (key (tk Q).1) := by
  unfold ltT
  simp only [adr]
  exact if_neg h
theorem keys_ne {key : Addr → Int × Int} {vs : List Value} (hkey : ∀ i j, i < j → j < vs.length → key (adr (vs.getD i .none)) ≠ key (adr (vs.getD j .none))) {i j : Nat} (hi : i < vs.length) (hj : j < vs.length) (h : i ≠ j) : key (adr (vs.getD i .none)) ≠ key (adr (vs.getD j .none)) := by
  rcases Nat.lt_or_ge i j with h1 | h1
  · exact hkey i j h1 hj
  · exact Ne.symm (hkey j i (by omega) hi)
theorem off1_ne {D : Addr} : ∀ {l : Led}, LCg.Off1 D l → ∀ p ∈ l, p.1 ≠ D
  | [], _, p, hp => nomatch hp
  | q :: r, h, p, hp => by
    rcases List.mem_cons.mp hp with rfl | hp
    · exact h.1
    · exact off1_ne h.2 p hp
theorem CallOK.mono {w p loose mean mg mb f vs news d u} {Out Out' Err Err' : Value → Led → Prop} (C : CallOK w p loose mean mg mb f vs news d u Out Err) (h1 : ∀ r n, Out r n → Out' r n) (h2 : ∀ r n, Err r n → Err' r n) : CallOK w p loose mean mg mb f vs news d u Out' Err' := by
  intro dp un gd cn cs a ccd cl outer A₀ base h₀ L m s Q E B F X N T hH hC hk hd hu ret err
  exact C dp un gd cn cs a ccd cl outer A₀ base h₀ L m s Q E B F X N T hH hC hk hd hu (fun r n h t o => ret r n h t (h1 r n o)) (fun r n h t o => err r n h t (h2 r n o))
theorem domT_of {key : Addr → Int × Int} {tk : Addr → Addr × Int} {rest base : Led} {P : Addr} {p : Value} {ip : Int} {tp : Tok} (hp : domR key rest p) (sub : ∀ x ∈ rest, x ∈ base) (m1 : (P, prO p (.int ip tp)) ∈ base) (ht : tk P = (adr p, ip)) : domT key tk base (.ref P) := by
  obtain ⟨a, t, u, c, rfl, ha⟩ := hp
  refine ⟨P, tp, rfl, ?_, a, t, u, c, ?_, sub _ ha⟩
  · rw [ht]; exact m1
  · rw [ht]; rfl
theorem tk3_1 {P Q R p q r} : tk3 P p Q q R r P = p := by unfold tk3; rw [if_pos rfl]
theorem tk3_2 {P Q R p q r} (h : Q ≠ P) : tk3 P p Q q R r Q = q := by unfold tk3; rw [if_neg h, if_pos rfl]
theorem tk3_3 {P Q R p q r} (h1 : R ≠ P) (h2 : R ≠ Q) : tk3 P p Q q R r R = r := by unfold tk3; rw [if_neg h1, if_neg h2]
section
variable {w : World} {p : Program} {loose : List Str} {mean : ExcName → Option Value} {mg mb : Str → Option Value} {key : Addr → Int × Int} {rest base : Led} {D P Q R : Addr} {x y e : Value} {ip iq ir : Int} {tp tq tr : Tok} {n : Nat}
/-- two pairs made a heap with the last ahead -/
theorem c_max2 (hx : domR key rest x) (hy : domR key rest y) (hk : key (adr x) ≠ key (adr y)) (sub : ∀ z ∈ rest, z ∈ base) (hPQ : P ≠ Q) (m1 : (P, prO x (.int ip tp)) ∈ base) (m2 : (Q, prO y (.int iq tq)) ∈ base) (hne : ∀ z ∈ base, z.1 ≠ D) :
    CallOK w p loose mean mg mb 87 [.ref D] ((D, PySem.W.listOf [.ref P, .ref Q].toArray n) :: base) 3 48 (fun r nw => r = .none ∧ nw = (D, PySem.W.listOf (if ltR key y x then [.ref P, .ref Q] else [.ref Q, .ref P]).toArray n) :: base) (fun _ _ => False) := by
  refine CallOK.mono (c_heapify_max w p loose mean mg mb D [.ref P, .ref Q] n base (ltT key (tk3 P (adr x, ip) Q (adr y, iq) 0 (0, 0))) (domT key (tk3 P (adr x, ip) Q (adr y, iq) 0 (0, 0)) base) hne cmp_tups ?_ (by simp)) ?_ (fun _ _ h => h)
  · intro v hv
    simp only [List.mem_cons, List.not_mem_nil, or_false] at hv
    rcases hv with rfl | rfl
    · exact domT_of hx sub m1 tk3_1
    · exact domT_of hy sub m2 (tk3_2 (Ne.symm hPQ))
  · rintro r nw ⟨rfl, rfl⟩
    refine ⟨rfl, ?_⟩
    rw [heapify_two]
    have e : flipB (ltT key (tk3 P (adr x, ip) Q (adr y, iq) 0 (0, 0))) (.ref P) (.ref Q) = ltR key y x := by
      show ltT _ _ (.ref Q) (.ref P) = _
      rw [ltT_pair (by rw [tk3_1, tk3_2 (Ne.symm hPQ)]; exact Ne.symm hk), tk3_1, tk3_2 (Ne.symm hPQ)]
      rfl
    rw [e]
theorem c_rep2 (hx : domR key rest x) (hy : domR key rest y) (he : domR key rest e) (hk : key (adr e) ≠ key (adr y)) (sub : ∀ z ∈ rest, z ∈ base) (hPQ : P ≠ Q) (hRP : R ≠ P) (hRQ : R ≠ Q) (m1 : (P, prO x (.int ip tp)) ∈ base) (m2 : (Q, prO y (.int iq tq)) ∈ base) (m3 : (R, prO e (.int ir tr)) ∈ base) (hne : ∀ z ∈ base, z.1 ≠ D) :
    CallOK w p loose mean mg mb 80 [.ref D, .ref R] ((D, PySem.W.listOf [.ref P, .ref Q].toArray n) :: base) 3 48 (fun r nw => nw = (D, PySem.W.listOf (if ltR key y e then [.ref R, .ref Q] else [.ref Q, .ref R]).toArray n) :: base) (fun _ _ => False) := by
  refine CallOK.mono (c_heapreplace_max w p loose mean mg mb D (.ref R) [.ref P, .ref Q] n base (ltT key (tk3 P (adr x, ip) Q (adr y, iq) R (adr e, ir))) (domT key (tk3 P (adr x, ip) Q (adr y, iq) R (adr e, ir)) base) hne cmp_tups ?_ ?_ (by simp) (by simp)) ?_ (fun _ _ h => h)
  · intro v hv
    simp only [List.mem_cons, List.not_mem_nil, or_false] at hv
    rcases hv with rfl | rfl
    · exact domT_of hx sub m1 tk3_1
    · exact domT_of hy sub m2 (tk3_2 (Ne.symm hPQ))
  · exact domT_of he sub m3 (tk3_3 hRP hRQ)
  · rintro r nw ⟨rfl, rfl⟩
    show _ = _
    have e0 : ([Value.ref P, .ref Q] : List Value).set 0 (.ref R) = [.ref R, .ref Q] := rfl
    rw [e0, sift_two]
    have e1 : flipB (ltT key (tk3 P (adr x, ip) Q (adr y, iq) R (adr e, ir))) (.ref R) (.ref Q) = ltR key y e := by
      show ltT _ _ (.ref Q) (.ref R) = _
      rw [ltT_pair (by rw [tk3_2 (Ne.symm hPQ), tk3_3 hRP hRQ]; exact Ne.symm hk), tk3_2 (Ne.symm hPQ), tk3_3 hRP hRQ]
      rfl
    rw [e1]
end
theorem ns_ini {h₀ h : Heap} {L D I P Q : Addr} {base : Led} {x y : Value} {ip iq : Int} {tp tq : Tok} {n : Nat} {io : Obj} (lt : Value → Value → Bool) (N : News h₀ L h ((D, PySem.W.listOf (if lt y x then [.ref P, .ref Q] else [.ref Q, .ref P]).toArray n) :: (I, io) :: (Q, prO y (.int iq tq)) :: (P, prO x (.int ip tp)) :: base))
    (h1 : P ≠ D) (h2 : Q ≠ D) (h3 : P ≠ Q) (h4 : P ≠ I) (h5 : Q ≠ I) : NsS h₀ h L D I base io (nsIni lt x y) := by
  unfold nsIni
  cases hb : lt y x with
  | true =>
    rw [hb] at N
    simp only [if_true] at N ⊢
    refine ⟨P, Q, ip, iq, tp, tq, n, h1, h2, h3, h4, h5, fun p hp => N p ?_⟩
    simp only [List.mem_append, List.mem_cons, List.not_mem_nil, or_false] at hp ⊢
    rcases hp with h | h | h | h | h <;> simp only [h, true_or, or_true]
  | false =>
    rw [hb] at N
    simp only [Bool.false_eq_true, if_false] at N ⊢
    refine ⟨Q, P, iq, ip, tq, tp, n, h2, h1, Ne.symm h3, h5, h4, fun p hp => N p ?_⟩
    simp only [List.mem_append, List.mem_cons, List.not_mem_nil, or_false] at hp ⊢
    rcases hp with h | h | h | h | h <;> simp only [h, true_or, or_true]
theorem getD_mem {vs : List Value} {i : Nat} (h : i < vs.length) : vs.getD i .none ∈ vs := by
  have e : vs.getD i .none = vs[i] := by simp [List.getD_eq_getElem?_getD, h]
  rw [e]; exact List.getElem_mem h
theorem walks_shift {prog : Program} {w : World} {A : Around} {I : Addr} {fp wr : List Addr} {n : Nat} {P : Nat → Value → Prop} {St : Nat → Heap → Prop} (W : Walks prog w A I fp wr n P St) (k : Nat) (hk : k ≤ n) :
    Walks prog w A I fp wr (n - k) (fun i v => P (i + k) v) (fun i h => St (i + k) h) where
  sub := W.sub
  frame := fun i => W.frame (i + k)
  item := fun i s Q E hi st hQ => W.item (i + k) s Q E (by omega) st fun v h' tk hP hst => by
    rw [Nat.add_right_comm] at hst
    exact hQ v h' tk hP hst
  done := fun s Q E st hQ => by
    rw [Nat.sub_add_cancel hk] at st
    exact W.done s Q E st hQ
  self := fun i => W.self (i + k)
inductive NsL (mB : Str → Option Value) (lt : Value → Value → Bool) (vs : List Value) (D I : Addr) (base : Led) (i : Nat) (m : Str → Option Value) : Led → Prop
  | mk (st : Value × Value) (o : Int) (t : Tok) (h1 : m "top" = some st.1) (h2 : m "order" = some (.int o t)) (h3 : ∀ y, y ∉ (["elem", "top", "order", "_order"] : List Str) → m y = mB y) (P Q : Addr) (ip iq : Int) (tp tq : Tok) (n : Nat) (c1 : P ≠ D) (c2 : Q ≠ D) (c3 : P ≠ Q) (c4 : P ≠ I) (c5 : Q ≠ I) (h5 : NsP vs (i + 2) st)
    (h6 : (vs.drop (i + 2)).foldl (nsStep lt) st = (vs.drop 2).foldl (nsStep lt) (nsIni lt (vs.getD 0 .none) (vs.getD 1 .none))) : NsL mB lt vs D I base i m ((D, PySem.W.listOf [.ref P, .ref Q].toArray n) :: (P, prO st.1 (.int ip tp)) :: (Q, prO st.2 (.int iq tq)) :: base)
theorem ns_fold {lt : Value → Value → Bool} {vs : List Value} {i : Nat} {st r : Value × Value} (h : (vs.drop (i + 2)).foldl (nsStep lt) st = r) (hi : i + 2 < vs.length) : (vs.drop (i + 1 + 2)).foldl (nsStep lt) (nsStep lt st (vs.getD (i + 2) .none)) = r := by
  rw [List.drop_eq_getElem_cons hi, List.foldl_cons] at h
  have e : vs.getD (i + 2) .none = vs[i + 2] := by simp [List.getD_eq_getElem?_getD, hi]
  rw [e, show i + 1 + 2 = i + 2 + 1 by omega]
  exact h
theorem ns_hne {D I P Q c a : Addr} {oP oQ oc oa io io0 o1 o2 : Obj} {T1 T0 : Addr} {rest : Led} (c1 : P ≠ D) (c2 : Q ≠ D) (hD : ∀ p ∈ ((I, io0) :: (T1, o1) :: (T0, o2) :: (c, oc) :: (a, oa) :: rest : Led), p.1 ≠ D) {p : Addr × Obj} (hp : p ∈ ((P, oP) :: (Q, oQ) :: (c, oc) :: (a, oa) :: (rest ++ [(I, io)]) : Led)) : p.1 ≠ D := by
  simp only [List.mem_cons, List.mem_append, List.not_mem_nil, or_false] at hp
  rcases hp with rfl | rfl | rfl | rfl | hp | rfl
  · exact c1
  · exact c2
  · exact hD (c, oc) (by simp)
  · exact hD (a, oa) (by simp)
  · exact hD p (by simp [hp])
  · exact hD (I, io0) (by simp)
theorem ns_rep {h₀ h : Heap} {L D I P Q R : Addr} {base : Led} {st : Value × Value} {e x : Value} {ip iq ir : Int} {tp tq tr : Tok} {n : Nat} {io : Obj} (lt : Value → Value → Bool) (hc : lt e st.1 = true)
    (N : News h₀ L h ((D, PySem.W.listOf (if lt st.2 e then [.ref R, .ref Q] else [.ref Q, .ref R]).toArray n) :: (R, prO e (.int ir tr)) :: (P, prO x (.int ip tp)) :: (Q, prO st.2 (.int iq tq)) :: (base ++ [(I, io)])))
    (h1 : R ≠ D) (h2 : Q ≠ D) (h3 : R ≠ Q) (h4 : R ≠ I) (h5 : Q ≠ I) : NsS h₀ h L D I base io (nsStep lt st e) := by
  unfold nsStep
  rw [if_pos hc]
  cases hb : lt st.2 e with
  | true =>
    rw [hb] at N
    simp only [if_true] at N ⊢
    refine ⟨R, Q, ir, iq, tr, tq, n, h1, h2, h3, h4, h5, fun p hp => N p ?_⟩
    simp only [List.mem_append, List.mem_cons, List.not_mem_nil, or_false] at hp ⊢
    rcases hp with h | h | h | h | h <;> simp only [h, true_or, or_true]
  | false =>
    rw [hb] at N
    simp only [Bool.false_eq_true, if_false] at N ⊢
    refine ⟨Q, R, iq, ir, tq, tr, n, h2, h1, Ne.symm h3, h5, h4, fun p hp => N p ?_⟩
    simp only [List.mem_append, List.mem_cons, List.not_mem_nil, or_false] at hp ⊢
    rcases hp with h | h | h | h | h <;> simp only [h, true_or, or_true]
theorem ns_off {D I P Q : Addr} {oD oP oQ : Obj} {base : Led} (h1 : D ≠ I) (h2 : P ≠ I) (h3 : Q ≠ I) (hb : ∀ p ∈ base, p.1 < I) : ∀ p ∈ ((D, oD) :: (P, oP) :: (Q, oQ) :: base : Led), p.1 ≠ I := fun p hp => by
  rcases List.mem_cons.mp hp with rfl | hp
  · exact h1
  · rcases List.mem_cons.mp hp with rfl | hp
    · exact h2
    · rcases List.mem_cons.mp hp with rfl | hp
      · exact h3
      · exact Nat.ne_of_lt (hb p hp)
theorem allLt_at {d : Addr} : ∀ {l : Led}, AllLt d l → ∀ p ∈ l, p.1 < d
  | [], _, p, hp => nomatch hp
  | q :: r, h, p, hp => by
    rcases List.mem_cons.mp hp with rfl | hp
    · exact h.1
    · exact allLt_at h.2 p hp
end
-- NsC
section
open PySem.SeqAt
section
variable {w : World} {A : Around} {E : Value → Shared → Prop} {s : Shared}
theorem row_one {prog : Program} {l b : Addr} {x y : Int × Int} {t u t' u' : Tok} {c c' : Nat} {Q : Bool → Shared → Prop} (hl : s.heap.get? l = some (rowObj x t u c)) (hb : s.heap.get? b = some (rowObj y t' u' c')) (hu : A.units + 3 < cLine) (h : Q (klt x y) s) :
    wpAny (model prog w) A (oneLt' true (.ref l) (.ref b)) Q E s := by
  rw [oneLt'_eq]
  simp only [if_true]
  refine wpAny_bind (wpAny_cRoomFor (by omega) ?_)
  have hT : s.TypeIs (.ref l) "list" := ⟨_, hl, rfl⟩
  have m := llt_of hl hb (A := A) (by omega)
  refine wpAny_bind (wpAny_callSpecialIfBound?_slot hT F.slot_list_lt (m prog w E _ ?_))
  exact wpAny_truthy_bool h
theorem looks_row {M : Model} {h : Heap} {a : Addr} {k : Int × Int} {t u : Tok} {c : Nat} (e : h.get? a = some (rowObj k t u c)) : Looks M h (typeOf (.ref a)) (.type "list") := (Looks.ld e).andThen .now
/-- list.sort upon two pairs with rows of distinct keys ahead -/
theorem sort_two {h₀ : Heap} {L D P Q : Addr} {m : Str → Option Value} {base : Led} {a b : Addr} {x y : Int × Int} {ta ua tb ub : Tok} {ca cb : Nat} {ip iq : Int} {tp tq : Tok} {n : Nat} {R : Value → Shared → Prop}
    (F : Fr h₀ L s.heap m) (N : News h₀ L s.heap ((D, PySem.W.listOf [.ref P, .ref Q].toArray n) :: base)) (hne : ∀ z ∈ base, z.1 ≠ D) (m1 : (P, prO (.ref a) (.int ip tp)) ∈ base) (m2 : (Q, prO (.ref b) (.int iq tq)) ∈ base)
    (ma : (a, rowObj x ta ua ca) ∈ base) (mb : (b, rowObj y tb ub cb) ∈ base) (hk : x ≠ y) (hu : A.units + 8 < cLine)
    (K : ∀ h' c, Fr h₀ L h' m → News h₀ L h' ((D, PySem.W.listOf (if klt y x then [.ref Q, .ref P] else [.ref P, .ref Q]).toArray c) :: base) → R .none { s with heap := h' }) :
    wpAny (model PW w) A (call (.builtin "list.sort") [.ref D]) R E s := by
  refine kat_lsort F N (g := fun o => (D, o) :: base) (.head hne) (vs := [.ref P, .ref Q]) rfl (Nat.le_refl 2) (Nat.le_of_ble_eq_true rfl) fun e1 h' F' N' => ?_
  have gP := (N' _ (List.mem_cons_of_mem _ m1)).1
  have gQ := (N' _ (List.mem_cons_of_mem _ m2)).1
  have ga := (N' _ (List.mem_cons_of_mem _ ma)).1
  have gb := (N' _ (List.mem_cons_of_mem _ mb)).1
  refine kat_kind (fs := [.ref a, .ref b]) (T := .type "list") (KatTups.cons gP rfl rfl rfl (KatTups.cons gQ rfl rfl rfl KatTups.nil)) (Nat.le_of_ble_eq_true rfl) (fun v hv => ?_) (by decide) ?_
  · simp only [List.mem_cons, List.not_mem_nil, or_false] at hv
    rcases hv with rfl | rfl
    · exact looks_row ga
    · exact looks_row gb
  · kat_step
    refine kat_lt gQ rfl gP rfl ?_
    refine kat_cons (p := .ref b) (q := .ref a) ?_
    refine row_eq (s := { s with heap := h' }) gb ga (by simp only [units_in1]; omega) PW w _ _ ?_
    rw [decide_eq_false (Ne.symm hk)]
    refine kat_no ?_
    refine row_one (s := { s with heap := h' }) gb ga (by simp only [units_in1]; omega) ?_
    cases hb : klt y x with
    | true =>
      unfold KasNext
      kat_step
      refine KasFin.intro F' N' (.head hne) fun h'' c F'' N'' => K h'' c F'' ?_
      rw [hb]; exact N''
    | false =>
      unfold KasNext
      kat_step
      refine KasFin.intro F' N' (.head hne) fun h'' c F'' N'' => K h'' c F'' ?_
      rw [hb]; exact N''
end
end
-- CompL
section
section
variable {prog : Program} {w : World} {A : Around} {E : Value → Shared → Prop} {s : Shared} {h₀ : Heap} {L : Addr} {m : Str → Option Value} {env : Env}
def LetOK (prog : Program) (w : World) (A : Around) (target : PySem.Expr) : Prop := ∀ (I ax : Addr) (i : Nat) (v : Value) (s : Shared) (Q : Unit → Shared → Prop) (E : Value → Shared → Prop), s.heap.IsListIter I ax i → Q () s → wpAny (model prog w) A (letOwnedTupleGo target (.ref I) v) Q E s
theorem let_name {x : Str} {px : Pos} : LetOK prog w A (.Name x px) := fun I ax i v s Q E _ h => wpAny_pure h
theorem let_tuple {elts : List PySem.Expr} {k : Nat} {pos : Pos} : LetOK prog w A (.Tuple elts k pos) := fun I ax i v s Q E hi h => by
  obtain ⟨o, ho, hc, hd⟩ := hi
  unfold letOwnedTupleGo
  cases v with
  | ref T =>
    refine wpAny_bind (wpAny_load ho ?_)
    rw [hc, hd]
    exact wpAny_pure h
  | _ => exact wpAny_pure h
/-- a comprehension over a list of the ledger -/
theorem comp_list {elt target : PySem.Expr} {ifs : List PySem.Expr} {scope : Scope} {cl : List (Str × Addr)} {Fin : Shared → List Value → Led → Prop} {ax : Addr} {vs : List Value} {n : Nat} {news : Led} (JJ : Nat → List Value → Led → Prop)
    (hh : A.handled = none) (hlet : LetOK prog w A target) (F : Fr h₀ L s.heap m) (N : News h₀ L s.heap news) (hax : (∃ o, h₀.get? ax = some o) ∧ h₀.IsList ax vs.toArray ∨ ∀ i ys nw, JJ i ys nw → (ax, PySem.W.listOf vs.toArray n) ∈ nw) (h0 : JJ 0 [] news) (hv : vs.length ≤ 1000) (hlen : ∀ i ys nw, JJ i ys nw → ys.length ≤ i)
    (turn : ∀ i I io ys m' nw h tk D C s₂ (E' : Value → Shared → Prop), i < vs.length → JJ i ys nw → Fr h₀ L h m → h.Ns C m' → News h₀ L h ((D, clst ys) :: (I, io) :: nw) → (∀ p ∈ ((I, io) :: nw : Led), p.1 ≠ C ∧ p.1 ≠ D) → (∀ p ∈ nw, p.1 ≠ I) → C ≠ D → C ≠ L → h₀.get? C = none → (∃ h2, s₂ = { s with heap := h2 }) →
      wpAny (model prog w) A (assign target (compEnvC scope cl C env) (vs.getD i .none)) (fun _ s₂' =>
          wpAny (model prog w) A (forIn ifs true fun c r => if r = true then do let ok ← isTrue c (compEnvC scope cl C env) (eval c (compEnvC scope cl C env)); pure (ForInStep.yield ok) else pure (ForInStep.yield r)) (fun ok s₃ =>
            if ok = true then wpAny (model prog w) A (eval elt (compEnvC scope cl C env)) (fun x s₄ => CpEnd h₀ L m s₂ D C (i + 1) (fun k zs nw' => k = i ∧ ∃ nw1, nw' = (I, io) :: nw1 ∧ (∀ p ∈ nw1, p.1 ≠ I) ∧ JJ (i + 1) zs nw1) ys (ys ++ [x]) s₄) E' s₃
            else CpEnd h₀ L m s₂ D C (i + 1) (fun k zs nw' => k = i ∧ ∃ nw1, nw' = (I, io) :: nw1 ∧ (∀ p ∈ nw1, p.1 ≠ I) ∧ JJ (i + 1) zs nw1) ys ys s₃) E' s₂') E' { s₂ with heap := h, toks := tk })
    (fin : ∀ ys nw s₂, (∃ h2, s₂ = { s with heap := h2 }) → JJ vs.length ys nw → Fin s₂ ys nw) :
    wpAny (model prog w) A (pyIter (.ref ax)) (CompAt prog w A h₀ L m env elt target ifs scope cl Fin) E s := by
  have look : ∀ (h : Heap) (i : Nat) (ys : List Value) (nw l : Led), JJ i ys nw → (∀ b o, h₀.get? b = some o → h.get? b = some o) → News h₀ L h l → (∀ p ∈ nw, p ∈ l) → h.IsList ax vs.toArray := fun h i ys nw l hJ hk hN hs => by
    rcases hax with ⟨_, hl⟩ | hm
    · exact hl.at fun o e => hk _ _ e
    · exact PySem.IsL.isList (n := n) (hN _ (hs _ (hm _ _ _ hJ))).1
  have hl := look s.heap 0 [] news news h0 F.keep N fun p hp => hp
  have hlt : ax < s.heap.objs.size := by obtain ⟨o, e, _⟩ := id hl; exact Heap.lt_size e
  refine wpAny_pyIter_list hl ?_
  generalize hI : s.heap.objs.size = I at hlt
  have hIL : L ≠ I := by rw [← hI]; exact Nat.ne_of_lt F.ns.lt
  have hI0 : h₀.get? I = none := by rw [← hI]; exact next_is_new F
  have hgI : (s.heap.push { cls := .type "list_iterator", data := .fields #[.ref ax, .int 0 0] }).get? I = some { cls := .type "list_iterator", data := .fields #[.ref ax, .int 0 0] } := by rw [← hI]; exact Heap.get?_push_size _ rfl
  have up : ∀ b o, s.heap.get? b = some o → (s.heap.push { cls := .type "list_iterator", data := .fields #[.ref ax, .int 0 0] }).get? b = some o := fun b o e => Heap.get?_push_of_some _ e
  refine ⟨fun k ys nw => ∃ i io nw0, i ≤ vs.length ∧ k = vs.length - i ∧ LitOf io ax i ∧ nw = (I, io) :: nw0 ∧ (∀ p ∈ nw0, p.1 ≠ I) ∧ JJ i ys nw0, vs.length, (I, { cls := .type "list_iterator", data := .fields #[.ref ax, .int 0 0] }) :: news, F.keeps up, ?_, ⟨0, _, news, Nat.zero_le _, rfl, ⟨rfl, rfl⟩, rfl, ?_, h0⟩, ?_, ?_, ?_⟩
  · intro p hp
    rcases List.mem_cons.mp hp with rfl | hp
    · exact ⟨hgI, Ne.symm hIL, hI0⟩
    · exact ⟨up _ _ (N p hp).1, (N p hp).2⟩
  · intro p hp
    rw [← hI]
    exact Nat.ne_of_lt (Heap.lt_size (N p hp).1)
  · intro k ys nw hZ10
    refine hide_goal ?_
    intro G₀ hG₀
    obtain ⟨i, io, nw0, hi, _, _, _, _, hJ⟩ := hZ10
    refine hG₀ ?_
    clear hG₀ G₀
    have := hlen _ _ _ hJ
    rw [sizeLine_eq]; omega
  · intro s' Q E' N' hQ
    exact wpAny_pyIter_listiter (show s'.heap.IsListIter I ax 0 from ⟨_, (N' _ (.head _)).1, rfl, rfl⟩) hQ
  · intro k ys m' nw h tk D C E' hZ20 F' hn N' off hCD hCL hC0
    refine hide_goal ?_
    intro G₀ hG₀
    obtain ⟨i, io, nw0, hi, rfl, hlit, rfl, hoff, hJ⟩ := hZ20
    refine hG₀ ?_
    clear hG₀ G₀
    have gI := N' (I, io) (.tail _ (.head _))
    have hli : h.IsList ax vs.toArray := look h i ys nw0 _ hJ F'.keep N' fun p hp => .tail _ (.tail _ hp)
    have hCI : C ≠ I := Ne.symm (off _ (.head _)).1
    have hDI : D ≠ I := Ne.symm (off _ (.head _)).2
    rcases Nat.lt_or_ge i vs.length with hlt2 | hge
    · refine wpAny_pyNext_list_item (hlit.at gI.1) hli (arr_get hlt2) fun h' hit' hs' => ?_
      obtain ⟨io', eio', hio'⟩ := LitOf.of hit'
      refine hlet I ax (i + 1) _ _ _ _ hit' ?_
      have F2 : Fr h₀ L h' m := F'.change hs' gI.2.1 gI.2.2
      have hn2 : h'.Ns C m' := hn.sameBut hs' hCI
      have N2 : News h₀ L h' ((D, clst ys) :: (I, io') :: nw0) := fun p hp => by
        rcases List.mem_cons.mp hp with rfl | hp
        · exact ⟨hs'.extBut _ _ hDI (N' _ (.head _)).1, (N' _ (.head _)).2⟩
        · rcases List.mem_cons.mp hp with rfl | hp
          · exact ⟨eio', gI.2⟩
          · exact ⟨hs'.extBut _ _ (hoff p hp) (N' p (.tail _ (.tail _ hp))).1, (N' p (.tail _ (.tail _ hp))).2⟩
      have off2 : ∀ p ∈ ((I, io') :: nw0 : Led), p.1 ≠ C ∧ p.1 ≠ D := fun p hp => by
        rcases List.mem_cons.mp hp with rfl | hp
        · exact (show I ≠ C ∧ I ≠ D from off (I, io) (.head _))
        · exact off p (.tail _ hp)
      refine wpAny_mono (turn i I io' ys m' nw0 h' tk D C { s with heap := s.heap.push { cls := .type "list_iterator", data := .fields #[.ref ax, .int 0 0] } } E' hlt2 hJ F2 hn2 N2 off2 hoff hCD hCL hC0 ⟨_, rfl⟩) (fun _ s1 h1 => wpAny_mono h1 (fun ok s3 h3 => ?_) fun _ _ e => e) fun _ _ e => e
      have conv : ∀ s2 zs s', CpEnd h₀ L m s2 D C (i + 1) (fun k zs nw' => k = i ∧ ∃ nw1, nw' = (I, io') :: nw1 ∧ (∀ p ∈ nw1, p.1 ≠ I) ∧ JJ (i + 1) zs nw1) ys zs s' →
          CpEnd h₀ L m s2 D C (vs.length - i) (fun k ys nw => ∃ i io nw0, i ≤ vs.length ∧ k = vs.length - i ∧ LitOf io ax i ∧ nw = (I, io) :: nw0 ∧ (∀ p ∈ nw0, p.1 ≠ I) ∧ JJ i ys nw0) ys zs s' := by
        intro s2 zs s' hZ30
        refine hide_goal ?_
        intro G₀ hG₀
        obtain ⟨h4, tk4, m4, news4, k', rfl, hk', F4, hn4, N4, off4, rfl, nw1, rfl, ho1, hJ4⟩ := hZ30
        refine hG₀ ?_
        clear hG₀ G₀
        exact ⟨h4, tk4, m4, _, vs.length - (k' + 1), rfl, by omega, F4, hn4, N4, off4, k' + 1, io', nw1, hlt2, rfl, hio', rfl, ho1, hJ4⟩
      cases ok with
      | true => exact wpAny_mono h3 (fun x s4 h4 => conv _ _ _ h4) fun _ _ e => e
      | false => exact conv _ _ _ h3
    · have hie : i = vs.length := Nat.le_antisymm hi hge
      subst hie
      refine wpAny_pyNext_list_end hh (hlit.at gI.1) hli (by simp) fun h' he' => ?_
      refine ⟨h', tk, m', nw0, rfl, ⟨F'.ns.extBut he' (Ne.symm gI.2.1), fun b o e => he' b o (fun q => by rw [q, hI0] at e; cases e) (F'.keep b o e), F'.above⟩, hn.extBut he' hCI, fun p hp => ?_, fun p hp => off p (.tail _ hp), fin _ _ _ ⟨_, rfl⟩ hJ⟩
      rcases List.mem_cons.mp hp with rfl | hp
      · exact ⟨he' _ _ hDI (N' _ (.head _)).1, (N' _ (.head _)).2⟩
      · exact ⟨he' _ _ (hoff p hp) (N' p (.tail _ (.tail _ hp))).1, (N' p (.tail _ (.tail _ hp))).2⟩
end
inductive NsX (h₀ h : Heap) (L D : Addr) (base : Led) (c : Nat) (lt : Value → Value → Bool) (st : Value × Value) : Prop
  | mk (P Q : Addr) (x y : Value) (ip iq : Int) (tp tq : Tok) (hf : nsFin lt st = [x, y]) (N : News h₀ L h ((D, PySem.W.listOf [.ref P, .ref Q].toArray c) :: (P, prO x (.int ip tp)) :: (Q, prO y (.int iq tq)) :: base))
theorem ns_endE {h₀ h : Heap} {L D P Q : Addr} {base : Led} {st : Value × Value} {ip iq : Int} {tp tq : Tok} {c : Nat} (lt : Value → Value → Bool)
    (N : News h₀ L h ((D, PySem.W.listOf (if lt st.2 st.1 then [.ref Q, .ref P] else [.ref P, .ref Q]).toArray c) :: (P, prO st.1 (.int ip tp)) :: (Q, prO st.2 (.int iq tq)) :: base)) :
    NsX h₀ h L D base c lt st := by
  have e : nsFin lt st = if lt st.2 st.1 then [st.2, st.1] else [st.1, st.2] := rfl
  cases hb : lt st.2 st.1 with
  | true =>
    rw [hb] at N e
    refine ⟨Q, P, _, _, iq, ip, tq, tp, e, fun p hp => N p ?_⟩
    simp only [if_true, List.mem_cons] at hp ⊢
    rcases hp with h | h | h | h <;> simp only [h, true_or, or_true]
  | false =>
    rw [hb] at N e
    exact ⟨P, Q, _, _, ip, iq, tp, tq, e, N⟩
theorem News.sub {h₀ h : Heap} {L : Addr} {l l' : Led} (N : News h₀ L h l) (s : ∀ p ∈ l', p ∈ l) : News h₀ L h l' := fun p hp => N p (s p hp)
end
-- Comp3
section
section
variable {prog : Program} {w : World} {A : Around} {E : Value → Shared → Prop} {s : Shared} {h₀ : Heap} {L : Addr} {m : Str → Option Value} {env : Env}
/-- the end of a comprehension's turn -/
def TurnEnd (h₀ : Heap) (L : Addr) (m : Str → Option Value) (s : Shared) (D C I : Addr) (io : Obj) (ys : List Value) (JJ : List Value → Led → Prop) (y : Value) (s₄ : Shared) : Prop :=
  ∃ h' tk' oC' m' nw', s₄ = { s with heap := h', toks := tk' } ∧ LCg.NsObj oC' m' ∧ Fr h₀ L h' m ∧ News h₀ L h' ((C, oC') :: (D, clst ys) :: (I, io) :: nw') ∧ (∀ p ∈ nw', p.1 ≠ C ∧ p.1 ≠ D ∧ p.1 ≠ I) ∧ JJ (ys ++ [y]) nw'
theorem te_end {D C I : Addr} {io : Obj} {ys : List Value} {JJ : List Value → Led → Prop} {y : Value} {h' : Heap} {tk' : Nat} {oC' : Obj} {m' : Str → Option Value} {all nw' : Led} (hoC : LCg.NsObj oC' m') (F : Fr h₀ L h' m) (N : News h₀ L h' all)
    (hC : (C, oC') ∈ all) (hD : (D, clst ys) ∈ all) (hI : (I, io) ∈ all) (hs : ∀ p ∈ nw', p ∈ all) (off : ∀ p ∈ nw', p.1 ≠ C ∧ p.1 ≠ D ∧ p.1 ≠ I) (hJ : JJ (ys ++ [y]) nw') : TurnEnd h₀ L m s D C I io ys JJ y { s with heap := h', toks := tk' } :=
  ⟨h', tk', oC', m', nw', rfl, hoC, F, fun p hp => by
    rcases List.mem_cons.mp hp with rfl | hp
    · exact N _ hC
    · rcases List.mem_cons.mp hp with rfl | hp
      · exact N _ hD
      · rcases List.mem_cons.mp hp with rfl | hp
        · exact N _ hI
        · exact N p (hs p hp), off, hJ⟩
/-- a comprehension with one name and no test, over any walk -/
theorem comp_walk {elt : PySem.Expr} {x : Str} {px : Pos} {scope : Scope} {cl : List (Str × Addr)} {Fin : Shared → List Value → Led → Prop} {I : Addr} {n : Nat} {P : Nat → Value → Prop} {St : Nat → Heap → Prop} {news : Led} {io₀ : Obj} (JJ : Nat → List Value → Led → Prop)
    (W : Walks prog w A I [I] [I] n P St) (hob : ∀ i h, St i h → ∃ o, h.get? I = some o) (st : St 0 s.heap) (F : Fr h₀ L s.heap m) (N : News h₀ L s.heap ((I, io₀) :: news)) (hoff : ∀ p ∈ news, p.1 ≠ I) (h0 : JJ 0 [] news) (hlen : ∀ i ys nw, JJ i ys nw → ys.length ≤ i) (hn : n ≤ 1000)
    (hx : scope.names.lookup x = some .local) (hkind : scope.kind = .function)
    (turn : ∀ i io ys nw h tk D C oC m₂ v (E' : Value → Shared → Prop), i < n → P i v → JJ i ys nw → LCg.NsObj oC m₂ → m₂ x = some v → Fr h₀ L h m → News h₀ L h ((C, oC) :: (D, clst ys) :: (I, io) :: nw) → (∀ p ∈ nw, p.1 ≠ C ∧ p.1 ≠ D ∧ p.1 ≠ I) → C ≠ D → C ≠ I → D ≠ I →
      wpAny (model prog w) A (eval elt (compEnvC scope cl C env)) (TurnEnd h₀ L m s D C I io ys (JJ (i + 1))) E' { s with heap := h, toks := tk })
    (fin : ∀ ys nw, JJ n ys nw → Fin s ys nw) :
    CompAt prog w A h₀ L m env elt (.Name x px) [] scope cl Fin (.ref I) s := by
  have hI0 := (N _ (.head _)).2.2
  have hIL := (N _ (.head _)).2.1
  refine ⟨fun k ys nw => ∃ i io nw0 hh, i ≤ n ∧ k = n - i ∧ St i hh ∧ hh.get? I = some io ∧ nw = (I, io) :: nw0 ∧ (∀ p ∈ nw0, p.1 ≠ I) ∧ JJ i ys nw0, n, (I, io₀) :: news, F, N, ⟨0, io₀, news, s.heap, Nat.zero_le _, rfl, st, (N _ (.head _)).1, rfl, hoff, h0⟩, ?_, ?_, ?_⟩
  · intro k ys nw hZ10
    refine hide_goal ?_
    intro G₀ hG₀
    obtain ⟨i, io, nw0, hh, hi, _, _, _, _, _, hJ⟩ := hZ10
    refine hG₀ ?_
    clear hG₀ G₀
    have := hlen _ _ _ hJ
    rw [sizeLine_eq]; omega
  · intro s' Q E' N' hQ
    refine W.self 0 s' Q E' ?_ hQ
    refine W.frame 0 _ _ st fun b hb o ho => ?_
    rw [List.mem_singleton.mp hb] at ho ⊢
    rw [(N _ (.head _)).1] at ho
    exact (N' _ (.head _)).1.trans ho
  · intro k ys m' nw h tk D C E' hZ20 F' hn' N' off hCD hCL hC0
    refine hide_goal ?_
    intro G₀ hG₀
    obtain ⟨i, io, nw0, hh, hi, rfl, hst, hio, rfl, ho, hJ⟩ := hZ20
    refine hG₀ ?_
    clear hG₀ G₀
    have gI := N' (I, io) (.tail _ (.head _))
    have hst' : St i h := W.frame i _ _ hst fun b hb o hb' => by
      rw [List.mem_singleton.mp hb] at hb' ⊢
      rw [hio] at hb'
      exact gI.1.trans hb'
    have hCI : C ≠ I := Ne.symm (off _ (.head _)).1
    have hDI : D ≠ I := Ne.symm (off _ (.head _)).2
    rcases Nat.lt_or_ge i n with hlt | hge
    · refine W.item i _ _ _ hlt hst' fun v h' tk' hP hst2 hk => ?_
      obtain ⟨io', hio'⟩ := hob _ _ hst2
      have keep : ∀ p : Addr × Obj, p.1 ≠ I → h.get? p.1 = some p.2 → h'.get? p.1 = some p.2 := fun p hp e => hk _ _ (fun hm => hp (List.mem_singleton.mp hm)) e
      have F2 : Fr h₀ L h' m := LCg.fr_but F' hk (Ne.symm hIL) hI0
      have hn2 : h'.Ns C m' := by
        refine hide_goal ?_
        intro G₀ hG₀
        obtain ⟨o, es, ep, e, r⟩ := hn'
        refine hG₀ ?_
        clear hG₀ G₀
        exact ⟨o, es, ep, keep (C, o) hCI e, r⟩
      have N2 : News h₀ L h' ((D, clst ys) :: (I, io') :: nw0) := fun p hp => by
        rcases List.mem_cons.mp hp with rfl | hp
        · exact ⟨keep _ hDI (N' _ (.head _)).1, (N' _ (.head _)).2⟩
        · rcases List.mem_cons.mp hp with rfl | hp
          · exact ⟨hio', gI.2⟩
          · exact ⟨keep _ (ho p hp) (N' p (.tail _ (.tail _ hp))).1, (N' p (.tail _ (.tail _ hp))).2⟩
      have off2 : ∀ p ∈ ((I, io') :: nw0 : Led), p.1 ≠ C ∧ p.1 ≠ D := fun p hp => by
        rcases List.mem_cons.mp hp with rfl | hp
        · exact (show I ≠ C ∧ I ≠ D from off (I, io) (.head _))
        · exact off p (.tail _ hp)
      refine wpAny_pure ?_
      refine turn_one (s := { s with heap := h', toks := tk' }) hx hkind F2 hn2 N2 off2 hCD hCL hC0 fun h3 tk3 oC m₂ hoC hm₂ F3 N3 => ?_
      have offT : ∀ p ∈ nw0, p.1 ≠ C ∧ p.1 ≠ D ∧ p.1 ≠ I := fun p hp => ⟨(off p (.tail _ hp)).1, (off p (.tail _ hp)).2, ho p hp⟩
      refine wpAny_mono (turn i io' ys nw0 h3 tk3 D C oC m₂ v E' hlt hP hJ hoC hm₂ F3 N3 offT hCD hCI hDI) (fun y s₄ h₄ => ?_) fun _ _ e => e
      refine hide_goal ?_
      intro G₀ hG₀
      obtain ⟨h5, tk5, oC5, m5, nw5, rfl, hoC5, F5, N5, off5, hJ5⟩ := h₄
      refine hG₀ ?_
      clear hG₀ G₀
      refine cp_end hoC5 F5 N5 (.head _) (.tail _ (.head _)) (news' := (I, io') :: nw5) (fun p hp => .tail _ (.tail _ hp)) ?_ (k' := n - (i + 1)) (by omega) ⟨i + 1, io', nw5, h', hlt, rfl, hst2, hio', rfl, fun p hp => (off5 p hp).2.2, hJ5⟩
      intro p hp
      rcases List.mem_cons.mp hp with rfl | hp
      · exact (show I ≠ C ∧ I ≠ D from ⟨Ne.symm hCI, Ne.symm hDI⟩)
      · exact ⟨(off5 p hp).1, (off5 p hp).2.1⟩
    · have hie : i = n := Nat.le_antisymm hi hge
      subst hie
      refine W.done _ _ _ hst' fun h' tk' hk => ?_
      have keep : ∀ p : Addr × Obj, p.1 ≠ I → h.get? p.1 = some p.2 → h'.get? p.1 = some p.2 := fun p hp e => hk _ _ (fun hm => hp (List.mem_singleton.mp hm)) e
      have hn2 : h'.Ns C m' := by
        refine hide_goal ?_
        intro G₀ hG₀
        obtain ⟨o, es, ep, e, r⟩ := hn'
        refine hG₀ ?_
        clear hG₀ G₀
        exact ⟨o, es, ep, keep (C, o) hCI e, r⟩
      refine ⟨h', tk', m', nw0, rfl, LCg.fr_but F' hk (Ne.symm hIL) hI0, hn2, fun p hp => ?_, fun p hp => off p (.tail _ hp), fin _ _ hJ⟩
      rcases List.mem_cons.mp hp with rfl | hp
      · exact ⟨keep _ hDI (N' _ (.head _)).1, (N' _ (.head _)).2⟩
      · exact ⟨keep _ (ho p hp) (N' p (.tail _ (.tail _ hp))).1, (N' p (.tail _ (.tail _ hp))).2⟩
/-- over a range -/
theorem comp_range {elt : PySem.Expr} {x : Str} {px : Pos} {scope : Scope} {cl : List (Str × Addr)} {Fin : Shared → List Value → Led → Prop} {r : Addr} {a b c : Int} {t u v : Tok} {n : Nat} {news : Led} (JJ : Nat → List Value → Led → Prop)
    (hh : A.handled = none) (hr : IsRange s.heap r a b c t u v) (hsmall : Builtin.Range.small a b c = true) (hsz : Builtin.Range.rangeSize a b c = (n : Int)) (F : Fr h₀ L s.heap m) (N : News h₀ L s.heap news) (h0 : JJ 0 [] news) (hlen : ∀ i ys nw, JJ i ys nw → ys.length ≤ i) (hn : n ≤ 1000)
    (hx : scope.names.lookup x = some .local) (hkind : scope.kind = .function)
    (turn : ∀ i I io ys nw h tk D C oC m₂ tv s₂ (E' : Value → Shared → Prop), i < n → JJ i ys nw → LCg.NsObj oC m₂ → m₂ x = some (.int (a + (i : Int) * c) tv) → Fr h₀ L h m → News h₀ L h ((C, oC) :: (D, clst ys) :: (I, io) :: nw) → (∀ p ∈ nw, p.1 ≠ C ∧ p.1 ≠ D ∧ p.1 ≠ I) → C ≠ D → C ≠ I → D ≠ I → (∃ h2, s₂ = { s with heap := h2 }) →
      wpAny (model prog w) A (eval elt (compEnvC scope cl C env)) (TurnEnd h₀ L m s₂ D C I io ys (JJ (i + 1))) E' { s₂ with heap := h, toks := tk })
    (fin : ∀ ys nw s₂, (∃ h2, s₂ = { s with heap := h2 }) → JJ n ys nw → Fin s₂ ys nw) :
    wpAny (model prog w) A (pyIter (.ref r)) (CompAt prog w A h₀ L m env elt (.Name x px) [] scope cl Fin) E s := by
  refine wpAny_pyIter_range hr hsmall ?_
  rw [hsz]
  generalize hio : ({ cls := .type "range_iterator", data := .fields #[rawInt a, rawInt (n : Int), rawInt c] } : Obj) = io
  have hIL : s.heap.objs.size ≠ L := Ne.symm (Nat.ne_of_lt F.ns.lt)
  have up : ∀ b o, s.heap.get? b = some o → (s.heap.push io).get? b = some o := fun b o e => Heap.get?_push_of_some _ e
  have hg : (s.heap.push io).get? s.heap.objs.size = some io := Heap.get?_push_size _ (by rw [← hio]; rfl)
  refine comp_walk (s := { s with heap := s.heap.push io }) (io₀ := io) (news := news) JJ (Walks.range hh s.heap.objs.size a c n) (fun i h e => ⟨_, e⟩) ?_ (F.keeps up) ?_ (fun p hp => Nat.ne_of_lt (Heap.lt_size (N p hp).1)) h0 hlen hn hx hkind ?_ ?_
  · show (s.heap.push io).get? s.heap.objs.size = _
    rw [hg, ← hio]
    simp
  · intro p hp
    rcases List.mem_cons.mp hp with rfl | hp
    · exact ⟨hg, hIL, next_is_new F⟩
    · exact ⟨up _ _ (N p hp).1, (N p hp).2⟩
  · intro i io' ys nw h tk D C oC m₂ v' E' hi hZ30 hJ hoC hm F' N' off h1 h2 h3
    refine hide_goal ?_
    intro G₀ hG₀
    obtain ⟨tv, rfl⟩ := hZ30
    refine hG₀ ?_
    clear hG₀ G₀
    exact turn i _ io' ys nw h tk D C oC m₂ tv _ E' hi hJ hoC hm F' N' off h1 h2 h3 ⟨_, rfl⟩
  · exact fun ys nw hJ => fin ys nw _ ⟨_, rfl⟩ hJ
end
section
variable {prog : Program} {w : World} {A : Around} {E : Value → Shared → Prop} {s : Shared} {h₀ : Heap} {L : Addr} {m : Str → Option Value} {env : Env}
/-- one name, no test, over a list of the ledger -/
theorem comp_listN {elt : PySem.Expr} {x : Str} {px : Pos} {scope : Scope} {cl : List (Str × Addr)} {Fin : Shared → List Value → Led → Prop} {ax : Addr} {vs : List Value} {n : Nat} {news : Led} (JJ : Nat → List Value → Led → Prop)
    (hh : A.handled = none) (F : Fr h₀ L s.heap m) (N : News h₀ L s.heap news) (hax : ∀ i ys nw, JJ i ys nw → (ax, PySem.W.listOf vs.toArray n) ∈ nw) (h0 : JJ 0 [] news) (hv : vs.length ≤ 1000) (hlen : ∀ i ys nw, JJ i ys nw → ys.length ≤ i)
    (hx : scope.names.lookup x = some .local) (hkind : scope.kind = .function)
    (turn : ∀ i I io ys nw h tk D C oC m₂ s₂ (E' : Value → Shared → Prop), i < vs.length → JJ i ys nw → LCg.NsObj oC m₂ → m₂ x = some (vs.getD i .none) → Fr h₀ L h m → News h₀ L h ((C, oC) :: (D, clst ys) :: (I, io) :: nw) → (∀ p ∈ nw, p.1 ≠ C ∧ p.1 ≠ D ∧ p.1 ≠ I) → C ≠ D → C ≠ I → D ≠ I → (∃ h2, s₂ = { s with heap := h2 }) →
      wpAny (model prog w) A (eval elt (compEnvC scope cl C env)) (TurnEnd h₀ L m s₂ D C I io ys (JJ (i + 1))) E' { s₂ with heap := h, toks := tk })
    (fin : ∀ ys nw s₂, (∃ h2, s₂ = { s with heap := h2 }) → JJ vs.length ys nw → Fin s₂ ys nw) :
    wpAny (model prog w) A (pyIter (.ref ax)) (CompAt prog w A h₀ L m env elt (.Name x px) [] scope cl Fin) E s := by
  refine comp_list (vs := vs) (n := n) JJ hh let_name F N (.inr hax) h0 hv hlen ?_ fin
  rintro i I io ys m' nw h tk D C s₂ E' hi hJ F' hn N' off hoff hCD hCL hC0 hs₂
  have hCI : C ≠ I := Ne.symm (off _ (.head _)).1
  have hDI : D ≠ I := Ne.symm (off _ (.head _)).2
  refine turn_one (s := { s₂ with heap := h, toks := tk }) hx hkind F' hn N' off hCD hCL hC0 fun h3 tk3 oC m₂ hoC hm₂ F3 N3 => ?_
  have offT : ∀ p ∈ nw, p.1 ≠ C ∧ p.1 ≠ D ∧ p.1 ≠ I := fun p hp => ⟨(off p (.tail _ hp)).1, (off p (.tail _ hp)).2, hoff p hp⟩
  refine wpAny_mono (turn i I io ys nw h3 tk3 D C oC m₂ s₂ E' hi hJ hoC hm₂ F3 N3 offT hCD hCI hDI hs₂) (fun y s₄ h₄ => ?_) fun _ _ e => e
  refine hide_goal ?_
  intro G₀ hG₀
  obtain ⟨h5, tk5, oC5, m5, nw5, rfl, hoC5, F5, N5, off5, hJ5⟩ := h₄
  refine hG₀ ?_
  clear hG₀ G₀
  refine cp_end hoC5 F5 N5 (.head _) (.tail _ (.head _)) (news' := (I, io) :: nw5) (fun p hp => .tail _ (.tail _ hp)) ?_ (k' := i) (Nat.lt_succ_self _) ⟨rfl, nw5, rfl, fun p hp => (off5 p hp).2.2, hJ5⟩
  intro p hp
  rcases List.mem_cons.mp hp with rfl | hp
  · exact (show I ≠ C ∧ I ≠ D from ⟨Ne.symm hCI, Ne.symm hDI⟩)
  · exact ⟨(off5 p hp).1, (off5 p hp).2.1⟩
end
/-- a list of values, each as P says of its place -/
def Vals (P : Nat → Value → Prop) (i : Nat) (ys : List Value) : Prop := ys.length = i ∧ ∀ j, j < i → P j (ys.getD j .none)
theorem Vals.nil {P : Nat → Value → Prop} : Vals P 0 [] := ⟨rfl, fun _ h => absurd h (Nat.not_lt_zero _)⟩
theorem Vals.snoc {P : Nat → Value → Prop} {i : Nat} {ys : List Value} {y : Value} (h : Vals P i ys) (hy : P i y) : Vals P (i + 1) (ys ++ [y]) := by
  obtain ⟨hl, hp⟩ := h
  refine ⟨by rw [List.length_append, hl]; rfl, fun j hj => ?_⟩
  rcases Nat.lt_or_ge j i with h2 | h2
  · have e : (ys ++ [y]).getD j .none = ys.getD j .none := by
      simp only [List.getD_eq_getElem?_getD]
      rw [List.getElem?_append_left (by omega)]
    rw [e]; exact hp j h2
  · have : j = i := by omega
    subst this
    have e : (ys ++ [y]).getD j .none = y := by
      simp only [List.getD_eq_getElem?_getD]
      rw [List.getElem?_append_right (by omega), hl]
      simp
    rw [e]; exact hy
theorem len_cons {l : List Value} {n : Nat} (h : l.length = n + 1) : ∃ a t, l = a :: t ∧ t.length = n := by
  cases l with
  | nil => cases h
  | cons a t => exact ⟨a, t, rfl, Nat.succ.inj h⟩
theorem Vals.four {P : Nat → Value → Prop} {ys : List Value} (h : Vals P 4 ys) : ∃ a b c d, ys = [a, b, c, d] ∧ P 0 a ∧ P 1 b ∧ P 2 c ∧ P 3 d := by
  obtain ⟨hl, hp⟩ := h
  obtain ⟨a, t1, e1, h1⟩ := len_cons hl
  obtain ⟨b, t2, e2, h2⟩ := len_cons h1
  obtain ⟨c, t3, e3, h3⟩ := len_cons h2
  obtain ⟨d, t4, e4, h4⟩ := len_cons h3
  rw [e1, e2, e3, e4, List.eq_nil_of_length_eq_zero h4] at hp ⊢
  exact ⟨a, b, c, d, rfl, hp 0 (by decide), hp 1 (by decide), hp 2 (by decide), hp 3 (by decide)⟩
end
-- ForW
section
section
variable {prog : Program} {w : World} {A : Around} {E : Value → Shared → Prop} {s : Shared} {h₀ : Heap} {env : Env}
/-- the end of a for loop's turn -/
def ForEnd (h₀ : Heap) (L : Addr) (s : Shared) (I : Addr) (io : Obj) (J : (Str → Option Value) → Led → Prop) (Q : Flow → Shared → Prop) (f : Flow) (s₃ : Shared) : Prop := match f with
  | .ret v => Q (.ret v) s₃
  | .brk => Q .next s₃
  | _ => ∃ h' tk' m' nw', s₃ = { s with heap := h', toks := tk' } ∧ Fr h₀ L h' m' ∧ News h₀ L h' ((I, io) :: nw') ∧ (∀ p ∈ nw', p.1 ≠ I) ∧ J m' nw'
theorem fe_next {L I : Addr} {io : Obj} {J : (Str → Option Value) → Led → Prop} {Q : Flow → Shared → Prop} {h' : Heap} {tk' : Nat} {m' : Str → Option Value} {nw' : Led} (F : Fr h₀ L h' m') (N : News h₀ L h' ((I, io) :: nw')) (off : ∀ p ∈ nw', p.1 ≠ I) (hJ : J m' nw') :
    ForEnd h₀ L s I io J Q .next { s with heap := h', toks := tk' } := ⟨h', tk', m', nw', rfl, F, N, off, hJ⟩
theorem for_walk {target iter : PySem.Expr} {body : List Stmt} {pos : Pos} {Q : Flow → Shared → Prop}
    (h : wpAny (model prog w) A (eval iter env) (fun xv s₁ => wpAny (model prog w) A (pyIter xv) (fun it s₂ =>
      ∃ (I : Addr) (fp : List Addr) (n : Nat) (P : Nat → Value → Prop) (St : Nat → Heap → Prop) (io₀ : Obj) (m₀ : Str → Option Value) (news : Led) (J : Nat → (Str → Option Value) → Led → Prop), it = .ref I ∧ Walks prog w A I fp [I] n P St ∧ (∀ i h, St i h → ∃ o, h.get? I = some o) ∧
        (∀ b ∈ fp, b ≠ I → ∃ o, ∀ i m nx, J i m nx → (b, o) ∈ nx) ∧ St 0 s₂.heap ∧ Fr h₀ env.locals s₂.heap m₀ ∧ News h₀ env.locals s₂.heap ((I, io₀) :: news) ∧ (∀ p ∈ news, p.1 ≠ I) ∧ J 0 m₀ news ∧
        (∀ i v m₁ nw h tk io, i < n → P i v → J i m₁ nw → (∃ hh, St (i + 1) hh ∧ hh.get? I = some io) → (∀ p ∈ nw, p.1 ≠ I) → Fr h₀ env.locals h m₁ → News h₀ env.locals h ((I, io) :: nw) →
          wpAny (model prog w) A (assign target env v) (fun _ s₃ => wpAny (model prog w) A (execs body env) (ForEnd h₀ env.locals s₂ I io (J (i + 1)) Q) E s₃) E { s₂ with heap := h, toks := tk }) ∧
        (∀ m₁ nw h tk, J n m₁ nw → Fr h₀ env.locals h m₁ → News h₀ env.locals h nw → Q .next { s₂ with heap := h, toks := tk })) E s₁) E s)
    (ht : ∀ it v, letOwnedTupleGo target it v = pure () := by intro _ _; rfl)
    (hs : ∀ x, foldedSetIterable iter env x = pure x := by intro _; rfl)
    (hE : PassesOwn (model prog w) A env E := by passes_own) :
    wpAny (model prog w) A (exec (.For target iter body [] pos) env) Q E s := by
  refine wpAny_For (wpAny_mono h (fun xv s₁ h₁ => wpAny_mono h₁ (fun it s₂ h₂ => ?_) fun _ _ e => e) fun _ _ e => e) hs
  refine hide_goal ?_
  intro G₀ hG₀
  obtain ⟨I, fp, n, P, St, io₀, m₀, news, J, rfl, W, hob, hfix, st, F, N, hoff, h0, turn, done⟩ := h₂
  refine hG₀ ?_
  clear hG₀ G₀
  have hI0 := (N _ (.head _)).2.2
  have hIL := (N _ (.head _)).2.1
  refine codeAny_forLoop (R := fun r s' => match r with | .ok f => Q f s' | .error e => cameBackBy (model prog w) A env E e s')
    (fun k s' => ∃ h' tk m' nw i io hh, s' = { s₂ with heap := h', toks := tk } ∧ St i hh ∧ (∀ b ∈ fp, ∀ o, hh.get? b = some o → h'.get? b = some o) ∧ Fr h₀ env.locals h' m' ∧ News h₀ env.locals h' ((I, io) :: nw) ∧ (∀ p ∈ nw, p.1 ≠ I) ∧ J i m' nw ∧ i ≤ n ∧ k = n + 1 - i) ?_ (n + 1)
    ⟨s₂.heap, s₂.toks, m₀, news, 0, io₀, s₂.heap, rfl, st, fun _ _ _ e => e, F, N, hoff, h0, Nat.zero_le _, rfl⟩ (fun v => ht _ v)
  intro k s' hZ10
  refine hide_goal ?_
  intro G₀ hG₀
  obtain ⟨h', tk, m', nw, i, io, hh, rfl, hst, hkp, F', N', ho, hJ, hi, rfl⟩ := hZ10
  refine hG₀ ?_
  clear hG₀ G₀
  have hst' : St i h' := W.frame i _ _ hst hkp
  rcases Nat.lt_or_ge i n with hlt | hge
  · refine W.item i _ _ _ hlt hst' fun v h1 tk1 hP hst1 hk1 => ?_
    obtain ⟨io1, hio1⟩ := hob _ _ hst1
    have keep : ∀ p : Addr × Obj, p.1 ≠ I → h'.get? p.1 = some p.2 → h1.get? p.1 = some p.2 := fun p hp e => hk1 _ _ (fun hm => hp (List.mem_singleton.mp hm)) e
    have F1 : Fr h₀ env.locals h1 m' := LCg.fr_but F' hk1 (Ne.symm hIL) hI0
    have N1 : News h₀ env.locals h1 ((I, io1) :: nw) := fun p hp => by
      rcases List.mem_cons.mp hp with rfl | hp
      · exact ⟨hio1, hIL, hI0⟩
      · exact ⟨keep _ (ho p hp) (N' p (.tail _ hp)).1, (N' p (.tail _ hp)).2⟩
    refine wpAny_passesOwn hE (wpAny_mono (turn i v m' nw h1 tk1 io1 hlt hP hJ ⟨h1, hst1, hio1⟩ ho F1 N1) (fun _ s3 h3 => wpAny_passesOwn hE (wpAny_mono h3 (fun f s4 h4 => ?_) fun _ _ e => e)) fun _ _ e => e)
    have fin : ForEnd h₀ env.locals s₂ I io1 (J (i + 1)) Q .next s4 → ∃ m, m < n + 1 - i ∧ ∃ h' tk m' nw i io hh, s4 = { s₂ with heap := h', toks := tk } ∧ St i hh ∧ (∀ b ∈ fp, ∀ o, hh.get? b = some o → h'.get? b = some o) ∧ Fr h₀ env.locals h' m' ∧ News h₀ env.locals h' ((I, io) :: nw) ∧ (∀ p ∈ nw, p.1 ≠ I) ∧ J i m' nw ∧ i ≤ n ∧ m = n + 1 - i := by
      intro hZ20
      refine hide_goal ?_
      intro G₀ hG₀
      obtain ⟨h5, tk5, m5, nw5, rfl, F5, N5, o5, hJ5⟩ := hZ20
      refine hG₀ ?_
      clear hG₀ G₀
      refine ⟨n + 1 - (i + 1), by omega, h5, tk5, m5, nw5, i + 1, io1, h1, rfl, hst1, fun b hb o e => ?_, F5, N5, o5, hJ5, hlt, rfl⟩
      by_cases hbI : b = I
      · subst hbI
        rw [hio1] at e
        rw [← Option.some.inj e]
        exact (N5 _ (.head _)).1
      · obtain ⟨o', hfo⟩ := hfix b hb hbI
        have e1 := (N1 _ (.tail _ (hfo _ _ _ hJ))).1
        simp only at e1
        rw [e] at e1
        rw [Option.some.inj e1]
        exact (N5 _ (.tail _ (hfo _ _ _ hJ5))).1
    cases f with
    | ret v => exact h4
    | brk => exact h4
    | cont => exact fin h4
    | next => exact fin h4
  · have hin : i = n := Nat.le_antisymm hi hge
    subst hin
    refine W.done _ _ _ hst' fun h1 tk1 hk1 => wpAny_execs_nil ?_
    have keep : ∀ p : Addr × Obj, p.1 ≠ I → h'.get? p.1 = some p.2 → h1.get? p.1 = some p.2 := fun p hp e => hk1 _ _ (fun hm => hp (List.mem_singleton.mp hm)) e
    exact done m' nw h1 tk1 hJ (LCg.fr_but F' hk1 (Ne.symm hIL) hI0) (fun p hp => ⟨keep _ (ho p hp) (N' p (.tail _ hp)).1, (N' p (.tail _ hp)).2⟩)
/-- the loop behind for_walk -/
def ForGo (prog : Program) (w : World) (A : Around) (h₀ : Heap) (env : Env) (target : PySem.Expr) (body : List Stmt) (Q : Flow → Shared → Prop) (E : Value → Shared → Prop) (it : Value) (s₂ : Shared) : Prop :=
      ∃ (I : Addr) (fp : List Addr) (n : Nat) (P : Nat → Value → Prop) (St : Nat → Heap → Prop) (io₀ : Obj) (m₀ : Str → Option Value) (news : Led) (J : Nat → (Str → Option Value) → Led → Prop), it = .ref I ∧ Walks prog w A I fp [I] n P St ∧ (∀ i h, St i h → ∃ o, h.get? I = some o) ∧
        (∀ b ∈ fp, b ≠ I → ∃ o, ∀ i m nx, J i m nx → (b, o) ∈ nx) ∧ St 0 s₂.heap ∧ Fr h₀ env.locals s₂.heap m₀ ∧ News h₀ env.locals s₂.heap ((I, io₀) :: news) ∧ (∀ p ∈ news, p.1 ≠ I) ∧ J 0 m₀ news ∧
        (∀ i v m₁ nw h tk io, i < n → P i v → J i m₁ nw → (∃ hh, St (i + 1) hh ∧ hh.get? I = some io) → (∀ p ∈ nw, p.1 ≠ I) → Fr h₀ env.locals h m₁ → News h₀ env.locals h ((I, io) :: nw) →
          wpAny (model prog w) A (assign target env v) (fun _ s₃ => wpAny (model prog w) A (execs body env) (ForEnd h₀ env.locals s₂ I io (J (i + 1)) Q) E s₃) E { s₂ with heap := h, toks := tk }) ∧
        (∀ m₁ nw h tk, J n m₁ nw → Fr h₀ env.locals h m₁ → News h₀ env.locals h nw → Q .next { s₂ with heap := h, toks := tk })
theorem for_go {target iter : PySem.Expr} {body : List Stmt} {pos : Pos} {Q : Flow → Shared → Prop} (h₀ : Heap)
    (h : wpAny (model prog w) A (eval iter env) (fun xv s₁ => wpAny (model prog w) A (pyIter xv) (ForGo prog w A h₀ env target body Q E) E s₁) E s)
    (ht : ∀ it v, letOwnedTupleGo target it v = pure () := by intro _ _; rfl)
    (hs : ∀ x, foldedSetIterable iter env x = pure x := by intro _; rfl)
    (hE : PassesOwn (model prog w) A env E := by passes_own) :
    wpAny (model prog w) A (exec (.For target iter body [] pos) env) Q E s := for_walk h ht hs hE
/-- over a list of the ledger -/
theorem for_list {target : PySem.Expr} {body : List Stmt} {Q : Flow → Shared → Prop} {a : Addr} {vs : List Value} {n : Nat} {m₀ : Str → Option Value} {news : Led} (JJ : (Str → Option Value) → Nat → (Str → Option Value) → Led → Prop)
    (hh : A.handled = none) (F : Fr h₀ env.locals s.heap m₀) (N : News h₀ env.locals s.heap news) (hax : ∀ i m nx, JJ m₀ i m nx → (a, PySem.W.listOf vs.toArray n) ∈ nx) (h0 : JJ m₀ 0 m₀ news)
    (turn : ∀ i m₁ nw h tk I io s₂, i < vs.length → JJ m₀ i m₁ nw → (∀ p ∈ nw, p.1 ≠ I) → Fr h₀ env.locals h m₁ → News h₀ env.locals h ((I, io) :: nw) → (∃ h2, s₂ = { s with heap := h2 }) →
      wpAny (model prog w) A (assign target env (vs.getD i .none)) (fun _ s₃ => wpAny (model prog w) A (execs body env) (ForEnd h₀ env.locals s₂ I io (JJ m₀ (i + 1)) Q) E s₃) E { s₂ with heap := h, toks := tk })
    (done : ∀ m₁ nw h tk, JJ m₀ vs.length m₁ nw → Fr h₀ env.locals h m₁ → News h₀ env.locals h nw → Q .next { s with heap := h, toks := tk }) :
    wpAny (model prog w) A (pyIter (.ref a)) (ForGo prog w A h₀ env target body Q E) E s := by
  have ha := N _ (hax _ _ _ h0)
  have hl := PySem.IsL.isList (n := n) ha.1
  refine wpAny_pyIter_list hl ?_
  have lt1 : ∀ p ∈ news, p.1 ≠ s.heap.objs.size := fun p hp => Nat.ne_of_lt (Heap.lt_size (N p hp).1)
  have hIa : a ≠ s.heap.objs.size := lt1 _ (hax _ _ _ h0)
  have up1 : ∀ b o, s.heap.get? b = some o → (s.heap.push { cls := .type "list_iterator", data := .fields #[.ref a, .int 0 0] }).get? b = some o := fun b o e => Heap.get?_push_of_some _ e
  refine ⟨s.heap.objs.size, [s.heap.objs.size, a], vs.length, _, _, { cls := .type "list_iterator", data := .fields #[.ref a, .int 0 0] }, m₀, news, JJ m₀, rfl, Walks.list hh s.heap.objs.size a hIa vs.toArray, fun i h st => ?_, ?_, ?_, F.keeps up1, ?_, lt1, h0, ?_, fun m₁ nw h tk hJ F2 N2 => done m₁ nw h tk hJ F2 N2⟩
  · obtain ⟨o, e, _⟩ := st.1; exact ⟨o, e⟩
  · intro b hb hbI
    rcases List.mem_cons.mp hb with e | e
    · exact absurd e hbI
    · rw [List.mem_singleton.mp e]
      exact ⟨_, fun i m nx hJ => hax i m nx hJ⟩
  · exact ⟨⟨_, Heap.get?_push_size _ rfl, rfl, rfl⟩, hl.at fun o e => up1 _ _ e⟩
  · intro p hp
    rcases List.mem_cons.mp hp with rfl | hp
    · exact ⟨Heap.get?_push_size _ rfl, Ne.symm (Nat.ne_of_lt F.ns.lt), next_is_new F⟩
    · exact ⟨up1 _ _ (N p hp).1, (N p hp).2⟩
  · intro i v m₁ nw h tk io hi hP hJ _ hoff F2 N2
    have hi2 : i < vs.length := by simpa using hi
    have hv : v = vs.getD i .none := by
      have hP' : vs.toArray[i]? = some v := hP
      rw [arr_get hi2] at hP'
      exact (Option.some.inj hP').symm
    subst hv
    exact turn i m₁ nw h tk _ io _ hi2 hJ hoff F2 N2 ⟨_, rfl⟩
end
end
-- CompF
section
section
variable {prog : Program} {w : World} {A : Around} {E : Value → Shared → Prop} {s : Shared} {h₀ : Heap} {L : Addr} {m : Str → Option Value} {env : Env}
def TurnSkip (h₀ : Heap) (L : Addr) (m : Str → Option Value) (s : Shared) (D C I : Addr) (io : Obj) (ys : List Value) (JJ : List Value → Led → Prop) (s₄ : Shared) : Prop :=
  ∃ h' tk' oC' m' nw', s₄ = { s with heap := h', toks := tk' } ∧ LCg.NsObj oC' m' ∧ Fr h₀ L h' m ∧ News h₀ L h' ((C, oC') :: (D, clst ys) :: (I, io) :: nw') ∧ (∀ p ∈ nw', p.1 ≠ C ∧ p.1 ≠ D ∧ p.1 ≠ I) ∧ JJ ys nw'
theorem ts_end {D C I : Addr} {io : Obj} {ys : List Value} {JJ : List Value → Led → Prop} {h' : Heap} {tk' : Nat} {oC' : Obj} {m' : Str → Option Value} {all nw' : Led} (hoC : LCg.NsObj oC' m') (F : Fr h₀ L h' m) (N : News h₀ L h' all)
    (hC : (C, oC') ∈ all) (hD : (D, clst ys) ∈ all) (hI : (I, io) ∈ all) (hs : ∀ p ∈ nw', p ∈ all) (off : ∀ p ∈ nw', p.1 ≠ C ∧ p.1 ≠ D ∧ p.1 ≠ I) (hJ : JJ ys nw') : TurnSkip h₀ L m s D C I io ys JJ { s with heap := h', toks := tk' } :=
  ⟨h', tk', oC', m', nw', rfl, hoC, F, fun p hp => by
    rcases List.mem_cons.mp hp with rfl | hp
    · exact N _ hC
    · rcases List.mem_cons.mp hp with rfl | hp
      · exact N _ hD
      · rcases List.mem_cons.mp hp with rfl | hp
        · exact N _ hI
        · exact N p (hs p hp), off, hJ⟩
/-- one name, one test, over a list of the ledger -/
theorem comp_filterN {elt c : PySem.Expr} {x : Str} {px : Pos} {scope : Scope} {cl : List (Str × Addr)} {Fin : Shared → List Value → Led → Prop} {ax : Addr} {vs : List Value} {n : Nat} {news : Led} (JJ : Nat → List Value → Led → Prop)
    (hh : A.handled = none) (F : Fr h₀ L s.heap m) (N : News h₀ L s.heap news) (hax : ∀ i ys nw, JJ i ys nw → (ax, PySem.W.listOf vs.toArray n) ∈ nw) (h0 : JJ 0 [] news) (hv : vs.length ≤ 1000) (hlen : ∀ i ys nw, JJ i ys nw → ys.length ≤ i)
    (hx : scope.names.lookup x = some .local) (hkind : scope.kind = .function)
    (turn : ∀ i I io ys nw h tk D C oC m₂ s₂ (E' : Value → Shared → Prop), i < vs.length → JJ i ys nw → LCg.NsObj oC m₂ → m₂ x = some (vs.getD i .none) → Fr h₀ L h m → News h₀ L h ((C, oC) :: (D, clst ys) :: (I, io) :: nw) → (∀ p ∈ nw, p.1 ≠ C ∧ p.1 ≠ D ∧ p.1 ≠ I) → C ≠ D → C ≠ I → D ≠ I → (∃ h2, s₂ = { s with heap := h2 }) →
      wpAny (model prog w) A (isTrue c (compEnvC scope cl C env) (eval c (compEnvC scope cl C env))) (fun ok s₃ => if ok = true then wpAny (model prog w) A (eval elt (compEnvC scope cl C env)) (TurnEnd h₀ L m s₂ D C I io ys (JJ (i + 1))) E' s₃ else TurnSkip h₀ L m s₂ D C I io ys (JJ (i + 1)) s₃) E' { s₂ with heap := h, toks := tk })
    (fin : ∀ ys nw s₂, (∃ h2, s₂ = { s with heap := h2 }) → JJ vs.length ys nw → Fin s₂ ys nw) :
    wpAny (model prog w) A (pyIter (.ref ax)) (CompAt prog w A h₀ L m env elt (.Name x px) [c] scope cl Fin) E s := by
  refine comp_list (vs := vs) (n := n) JJ hh let_name F N (.inr hax) h0 hv hlen ?_ fin
  rintro i I io ys m' nw h tk D C s₂ E' hi hJ F' hn' N' off hoff hCD hCL hC0 hs₂
  have hCI : C ≠ I := Ne.symm (off _ (.head _)).1
  have hDI : D ≠ I := Ne.symm (off _ (.head _)).2
  have offT : ∀ p ∈ nw, p.1 ≠ C ∧ p.1 ≠ D ∧ p.1 ≠ I := fun p hp => ⟨(off p (.tail _ hp)).1, (off p (.tail _ hp)).2, hoff p hp⟩
  refine wpAny_assign_Name (wpAny_storeName_local (lookup_relabel_local hx) hn' (fun h₃ hn₃ hs₃ => ?_) (by simp [compEnvC, relabel, hkind]))
  refine wpAny_tests_one ?_
  have N₃ : News h₀ L h₃ ((D, clst ys) :: (I, io) :: nw) := fun p hp => ⟨hs₃.extBut _ _ (by
    rcases List.mem_cons.mp hp with rfl | hp
    · exact hCD.symm
    · exact (off p hp).1) (N' p hp).1, (N' p hp).2⟩
  obtain ⟨oC, hoC, N₄⟩ := ns_front hn₃ N₃ hCL hC0
  have offE : ∀ nw5 : Led, (∀ p ∈ nw5, p.1 ≠ C ∧ p.1 ≠ D ∧ p.1 ≠ I) → ∀ p ∈ ((I, io) :: nw5 : Led), p.1 ≠ C ∧ p.1 ≠ D := fun nw5 off5 p hp => by
    rcases List.mem_cons.mp hp with rfl | hp
    · exact (show I ≠ C ∧ I ≠ D from ⟨Ne.symm hCI, Ne.symm hDI⟩)
    · exact ⟨(off5 p hp).1, (off5 p hp).2.1⟩
  refine wpAny_mono (turn i I io ys nw h₃ _ D C oC _ s₂ E' hi hJ hoC (by simp) (F'.change hs₃ hCL hC0) N₄ offT hCD hCI hDI hs₂) (fun ok s3 h3 => ?_) fun _ _ e => e
  cases ok with
  | true =>
    rw [if_pos rfl] at h3
    rw [if_pos rfl]
    refine wpAny_mono h3 (fun y s₄ h₄ => ?_) fun _ _ e => e
    refine hide_goal ?_
    intro G₀ hG₀
    obtain ⟨h5, tk5, oC5, m5, nw5, rfl, hoC5, F5, N5, off5, hJ5⟩ := h₄
    refine hG₀ ?_
    clear hG₀ G₀
    exact cp_end hoC5 F5 N5 (.head _) (.tail _ (.head _)) (news' := (I, io) :: nw5) (fun p hp => .tail _ (.tail _ hp)) (offE nw5 off5) (k' := i) (Nat.lt_succ_self _) ⟨rfl, nw5, rfl, fun p hp => (off5 p hp).2.2, hJ5⟩
  | false =>
    rw [if_neg Bool.false_ne_true] at h3
    rw [if_neg Bool.false_ne_true]
    refine hide_goal ?_
    intro G₀ hG₀
    obtain ⟨h5, tk5, oC5, m5, nw5, rfl, hoC5, F5, N5, off5, hJ5⟩ := h3
    refine hG₀ ?_
    clear hG₀ G₀
    exact cp_end hoC5 F5 N5 (.head _) (.tail _ (.head _)) (news' := (I, io) :: nw5) (fun p hp => .tail _ (.tail _ hp)) (offE nw5 off5) (k' := i) (Nat.lt_succ_self _) ⟨rfl, nw5, rfl, fun p hp => (off5 p hp).2.2, hJ5⟩
end
end
-- SortR
section
open PySem.SeqAt
theorem sort_rev_eq (a : Addr) : Builtin.«list.sort» ⟨[.ref a], [(Str.ofString "reverse", .bool true)]⟩ = (do
    let items ← Builtin.List.listItems (.ref a)
    Builtin.List.listUpdate (.ref a) fun _ => #[]
    let before ← seqEpoch a
    let held ← newTuple items.toList
    let keyStore ← newList []
    holding [held, keyStore] do
      rule "list.sort.reverse"
      let kind ← if items.size < 2 then pure general' else keyKind' items
      let ((), s) ← (if items.size < 2 then pure () else sortRuns').run (SortSt.mk' kind (items.zip items).reverse #[] 7 none)
      let sorted := (arrOf s).map (·.2)
      let touched := (← seqEpoch a) != before
      Builtin.List.listUpdate (.ref a) fun _ => sorted.reverse
      if let some e := failedOf s then rule "list.sort.comparison-raised"; throw e
      if touched then rule "list.sort.modified"; raiseError "ValueError" "list modified during sort"
      ret .none) := rfl
section
variable {w : World} {A : Around} {E : Value → Shared → Prop} {s : Shared}
theorem kat_rev2 {prog : Program} {h₀ : Heap} {L a : Addr} {m : Str → Option Value} {news : Led} {x y : Value} {n : Nat} {P : PySem.Fin → Shared → Prop} (F : Fr h₀ L s.heap m) (N : News h₀ L s.heap news) (ho : s.heap.get? a = some (seqObj "list" #[x, y] n)) (haL : a ≠ L) (ha0 : h₀.get? a = none) (hna : ∀ p ∈ news, p.1 ≠ a)
    (h : ∀ e1 h', Fr h₀ L h' m → News h₀ L h' ((a, seqObj "list" #[] e1) :: news) →
      wpAny (model prog w) A (keyKind' #[x, y]) (fun κ s' => (kas_sort 2).kasWp (kas_ask prog w A κ [y, x]) (fun p s'' => KasFin h₀ L m a e1 (p.toList.map fun i => [y, x].getD i Value.none).reverse (fun s3 => P (.done (.ret .none)) s3) s'') s') (fun _ _ => False) { s with heap := h' }) :
    wpAny (model prog w) A (Builtin.«list.sort» ⟨[.ref a], [(Str.ofString "reverse", .bool true)]⟩) P E s := by
  have ha : a < s.heap.objs.size := Heap.lt_size ho
  have s1 := Heap.SameBut.update s.heap a (Obj.mapSeq fun _ => (#[] : Array Value))
  obtain ⟨e1, ho1⟩ : ∃ e1, (s.heap.update a (Obj.mapSeq fun _ => (#[] : Array Value))).get? a = some (seqObj "list" #[] e1) := ⟨_, get?_update_seq ho fun _ => #[]⟩
  have F3 : Fr h₀ L (((s.heap.update a (Obj.mapSeq fun _ => (#[] : Array Value))).push (seqObj "tuple" #[x, y] 0)).push (seqObj "list" #[] 0)) m := ((ksk_fr F s1 haL ha0).push _).push _
  have N2 : News h₀ L (((s.heap.update a (Obj.mapSeq fun _ => (#[] : Array Value))).push (seqObj "tuple" #[x, y] 0)).push (seqObj "list" #[] 0)) news :=
    (ksk_news N s1 hna).grown fun b x e => Heap.get?_push_of_some _ (Heap.get?_push_of_some _ e)
  have N3 : News h₀ L (((s.heap.update a (Obj.mapSeq fun _ => (#[] : Array Value))).push (seqObj "tuple" #[x, y] 0)).push (seqObj "list" #[] 0)) ((a, seqObj "list" #[] e1) :: news) := fun p hp => by
    rcases List.mem_cons.mp hp with rfl | hp
    · exact ⟨Heap.get?_push_of_some _ (Heap.get?_push_of_some _ ho1), haL, ha0⟩
    · exact N2 p hp
  have ask := h e1 _ F3 N3
  rw [sort_rev_eq]
  refine wpAny_bind (listItems_at ho rfl ?_)
  refine wpAny_bind (listUpdate_at ho rfl ?_ (by rw [sizeLine_eq]; show 2 ≤ _; omega) (Nat.zero_le _))
  refine wpAny_bind (seqEpoch_at ho1 rfl ?_)
  refine wpAny_bind (wpAny_newTuple ?_ (by show 2 ≤ _; rw [sizeLine_eq]; omega))
  refine wpAny_bind (wpAny_newList ?_ (Nat.zero_le _))
  refine wpAny_holding ?_
  show wpAny (model prog w) A _ P E { s with heap := ((s.heap.update a (Obj.mapSeq fun _ => (#[] : Array Value))).push (seqObj "tuple" #[x, y] 0)).push (seqObj "list" #[] 0) }
  dsimp only
  refine wpAny_bind (wpAny_rule ?_)
  have hn2 : ¬ (#[x, y] : Array Value).size < 2 := Nat.lt_irrefl 2
  rw [if_neg hn2, if_neg hn2]
  refine wpAny_bind (wpAny_mono ask (fun κ s0 hk => ?_) fun _ _ x => x.elim)
  have ez : ((#[x, y] : Array Value).zip #[x, y]).reverse = (#[y, x] : Array Value).zip #[y, x] := by first | rfl | (apply Array.toList_inj.mp; simp)
  rw [ez]
  refine wpAny_bind (wpAny_mono (kat_run (ks := [y, x]) (vs := [y, x]) (Q := fun st' s' => ∃ p : Array Nat, p.size = 2 ∧ arrOf st' = p.map (kas_item ((List.toArray [y, x]).zip (List.toArray [y, x]))) ∧ failedOf st' = none ∧ KasFin h₀ L m a e1 (p.toList.map fun i => [y, x].getD i Value.none).reverse (fun s'' => P (.done (.ret .none)) s'') s')
    rfl (Nat.le_refl 2) (Nat.le_of_ble_eq_true rfl) (fun p' st' s' a1 a2 a3 a4 => ⟨p', a1, a2, a3, a4⟩) hk) ?_ fun _ _ e => e)
  intro hZ10 s' hZ11
  refine hide_goal ?_
  intro G₀ hG₀
  obtain ⟨⟨⟩, st'⟩ := hZ10
  obtain ⟨p, hp, har, hf, news', g, F', N', U, k⟩ := hZ11
  refine hG₀ ?_
  clear hG₀ G₀
  dsimp only
  refine hide_goal ?_
  intro G₀ hG₀
  obtain ⟨pre, post, e0, hg, x1, x2⟩ := U.split
  refine hG₀ ?_
  clear hG₀ G₀
  rw [e0] at N'
  have na := N' (a, seqObj "list" #[] e1) (List.mem_append_right _ (.head _))
  have hout := kat_snds (ks := [y, x]) (vs := [y, x]) rfl har
  have hrev : ((arrOf st').map (·.2)).reverse = List.toArray (p.toList.map fun i => [y, x].getD i Value.none).reverse := by rw [hout]; simp
  have hsz : (List.toArray (p.toList.map fun i => [y, x].getD i Value.none).reverse).size = 2 := by rw [List.size_toArray, List.length_reverse, List.length_map, Array.length_toList, hp]
  rw [hrev]
  have s2 := Heap.SameBut.update s'.heap a (Obj.mapSeq fun _ => List.toArray (p.toList.map fun i => [y, x].getD i Value.none).reverse)
  obtain ⟨c2, hc2⟩ : ∃ c2, (s'.heap.update a (Obj.mapSeq fun _ => List.toArray (p.toList.map fun i => [y, x].getD i Value.none).reverse)).get? a = some (seqObj "list" (List.toArray (p.toList.map fun i => [y, x].getD i Value.none).reverse) c2) := ⟨_, get?_update_seq na.1 fun _ => List.toArray (p.toList.map fun i => [y, x].getD i Value.none).reverse⟩
  refine wpAny_bind (seqEpoch_at na.1 rfl ?_)
  refine wpAny_bind (listUpdate_at na.1 rfl ?_ (Nat.zero_le _) (Nat.le_trans (Nat.le_of_eq hsz) (by rw [sizeLine_eq]; omega)))
  rw [hf]
  simp only [bne_self_eq_false, Bool.false_eq_true, if_false]
  refine wpAny_pure (k _ c2 (ksk_fr F' s2 na.2.1 na.2.2) ?_)
  rw [hg]
  exact news_set N' x1 x2 s2 hc2
theorem sort_two_rev {h₀ : Heap} {L D P Q : Addr} {m : Str → Option Value} {base : Led} {a b : Addr} {x y : Int × Int} {ta ua tb ub : Tok} {ca cb : Nat} {ip iq : Int} {tp tq : Tok} {n : Nat} {R : Value → Shared → Prop}
    (F : Fr h₀ L s.heap m) (N : News h₀ L s.heap ((D, PySem.W.listOf [.ref P, .ref Q].toArray n) :: base)) (hne : ∀ z ∈ base, z.1 ≠ D) (m1 : (P, prO (.ref a) (.int ip tp)) ∈ base) (m2 : (Q, prO (.ref b) (.int iq tq)) ∈ base)
    (ma : (a, rowObj x ta ua ca) ∈ base) (mb : (b, rowObj y tb ub cb) ∈ base) (hk : x ≠ y) (hu : A.units + 8 < cLine)
    (K : ∀ h' c, Fr h₀ L h' m → News h₀ L h' ((D, PySem.W.listOf (if klt x y then [.ref Q, .ref P] else [.ref P, .ref Q]).toArray c) :: base) → R .none { s with heap := h' }) :
    wpAny (model PW w) A (call (.builtin "list.sort") [.ref D] [(Str.ofString "reverse", .bool true)]) R E s := by
  have N₀ : News h₀ L s.heap base := fun p hp => N p (.tail _ hp)
  have nz := N _ (.head _)
  refine wpAny_call_entry_kw slot_list_sort ⟨_, nz.1, rfl⟩ entry_list_sort (kat_rev2 (news := base) F N₀ nz.1 nz.2.1 nz.2.2 hne fun e1 h' F' N' => ?_) (args_list_sort_rev _ _)
  have gP := (N' _ (List.mem_cons_of_mem _ m1)).1
  have gQ := (N' _ (List.mem_cons_of_mem _ m2)).1
  have ga := (N' _ (List.mem_cons_of_mem _ ma)).1
  have gb := (N' _ (List.mem_cons_of_mem _ mb)).1
  refine kat_kind (vs := [.ref P, .ref Q]) (fs := [.ref a, .ref b]) (T := .type "list") (KatTups.cons gP rfl rfl rfl (KatTups.cons gQ rfl rfl rfl KatTups.nil)) (Nat.le_of_ble_eq_true rfl) (fun v hv => ?_) (by decide) ?_
  · simp only [List.mem_cons, List.not_mem_nil, or_false] at hv
    rcases hv with rfl | rfl
    · exact looks_row ga
    · exact looks_row gb
  · kat_step
    refine kat_lt gP rfl gQ rfl ?_
    refine kat_cons (p := .ref a) (q := .ref b) ?_
    refine row_eq (s := { s with heap := h' }) ga gb (by simp only [units_in1]; omega) PW w _ _ ?_
    rw [decide_eq_false hk]
    refine kat_no ?_
    refine row_one (s := { s with heap := h' }) ga gb (by simp only [units_in1]; omega) ?_
    cases hb : klt x y with
    | true =>
      unfold KasNext
      kat_step
      refine KasFin.intro F' N' (.head hne) fun h'' c F'' N'' => ⟨_, rfl, K h'' c F'' ?_⟩
      rw [hb]; exact N''
    | false =>
      unfold KasNext
      kat_step
      refine KasFin.intro F' N' (.head hne) fun h'' c F'' N'' => ⟨_, rfl, K h'' c F'' ?_⟩
      rw [hb]; exact N''
end
end
-- NlB
section
section
variable {w : World} {p : Program} {loose : List Str} {mean : ExcName → Option Value} {mg mb : Str → Option Value} {key : Addr → Int × Int} {rest base : Led} {D P Q R : Addr} {x y e : Value} {ip iq ir : Int} {tp tq tr : Tok} {n : Nat}
/-- two pairs made a heap with the last ahead -/
theorem c_min2 (hx : domR key rest x) (hy : domR key rest y) (hk : key (adr x) ≠ key (adr y)) (sub : ∀ z ∈ rest, z ∈ base) (hPQ : P ≠ Q) (m1 : (P, prO x (.int ip tp)) ∈ base) (m2 : (Q, prO y (.int iq tq)) ∈ base) (hne : ∀ z ∈ base, z.1 ≠ D) :
    CallOK w p loose mean mg mb 73 [.ref D] ((D, PySem.W.listOf [.ref P, .ref Q].toArray n) :: base) 3 48 (fun r nw => r = .none ∧ nw = (D, PySem.W.listOf (if flipB (ltR key) y x then [.ref P, .ref Q] else [.ref Q, .ref P]).toArray n) :: base) (fun _ _ => False) := by
  refine CallOK.mono (c_heapify w p loose mean mg mb D [.ref P, .ref Q] n base (ltT key (tk3 P (adr x, ip) Q (adr y, iq) 0 (0, 0))) (domT key (tk3 P (adr x, ip) Q (adr y, iq) 0 (0, 0)) base) hne cmp_tups ?_ (by simp)) ?_ (fun _ _ h => h)
  · intro v hv
    simp only [List.mem_cons, List.not_mem_nil, or_false] at hv
    rcases hv with rfl | rfl
    · exact domT_of hx sub m1 tk3_1
    · exact domT_of hy sub m2 (tk3_2 (Ne.symm hPQ))
  · rintro r nw ⟨rfl, rfl⟩
    refine ⟨rfl, ?_⟩
    rw [heapify_two]
    have e : ltT key (tk3 P (adr x, ip) Q (adr y, iq) 0 (0, 0)) (.ref P) (.ref Q) = flipB (ltR key) y x := by
      rw [ltT_pair (by rw [tk3_1, tk3_2 (Ne.symm hPQ)]; exact hk), tk3_1, tk3_2 (Ne.symm hPQ)]
      rfl
    rw [e]
theorem c_repmin2 (hx : domR key rest x) (hy : domR key rest y) (he : domR key rest e) (hk : key (adr e) ≠ key (adr y)) (sub : ∀ z ∈ rest, z ∈ base) (hPQ : P ≠ Q) (hRP : R ≠ P) (hRQ : R ≠ Q) (m1 : (P, prO x (.int ip tp)) ∈ base) (m2 : (Q, prO y (.int iq tq)) ∈ base) (m3 : (R, prO e (.int ir tr)) ∈ base) (hne : ∀ z ∈ base, z.1 ≠ D) :
    CallOK w p loose mean mg mb 66 [.ref D, .ref R] ((D, PySem.W.listOf [.ref P, .ref Q].toArray n) :: base) 3 48 (fun r nw => nw = (D, PySem.W.listOf (if flipB (ltR key) y e then [.ref R, .ref Q] else [.ref Q, .ref R]).toArray n) :: base) (fun _ _ => False) := by
  refine CallOK.mono (c_heapreplace w p loose mean mg mb D (.ref R) [.ref P, .ref Q] n base (ltT key (tk3 P (adr x, ip) Q (adr y, iq) R (adr e, ir))) (domT key (tk3 P (adr x, ip) Q (adr y, iq) R (adr e, ir)) base) hne cmp_tups ?_ ?_ (by simp) (by simp)) ?_ (fun _ _ h => h)
  · intro v hv
    simp only [List.mem_cons, List.not_mem_nil, or_false] at hv
    rcases hv with rfl | rfl
    · exact domT_of hx sub m1 tk3_1
    · exact domT_of hy sub m2 (tk3_2 (Ne.symm hPQ))
  · exact domT_of he sub m3 (tk3_3 hRP hRQ)
  · rintro r nw ⟨rfl, rfl⟩
    show _ = _
    have e0 : ([Value.ref P, .ref Q] : List Value).set 0 (.ref R) = [.ref R, .ref Q] := rfl
    rw [e0, sift_two]
    have e1 : ltT key (tk3 P (adr x, ip) Q (adr y, iq) R (adr e, ir)) (.ref R) (.ref Q) = flipB (ltR key) y e := by
      rw [ltT_pair (by rw [tk3_2 (Ne.symm hPQ), tk3_3 hRP hRQ]; exact hk), tk3_2 (Ne.symm hPQ), tk3_3 hRP hRQ]
      rfl
    rw [e1]
end
theorem spliced_nil9 {M : Model} {A : Around} {E : Value → Shared → Prop} {s : Shared} {Q : List Value → Shared → Prop} (h : Q [] s) : wpAny M A (spliced []) Q E s := wpAny_pure h
theorem callWith_m0kw {M : Model} {A : Around} {E : Value → Shared → Prop} {s : Shared} {env : Env} {pos : Pos} {id : String} {first : List Value} {name : Str} {value : PySem.Expr} {kp : Pos} {Q : Value → Shared → Prop}
    (h : wpAny M A (eval value env) (fun v s₁ => wpAny M A (call (.builtin id) (first ++ []) [(name, v)]) Q E s₁) E s) :
    wpAny M A (callWith pos (.builtin id) first (backTo pos (starEach [] env)) (backToKw pos (keywordEach [⟨some name, value, kp⟩] env))) Q E s := by
  refine callWith_builtin_kwB rfl rfl ?_
  have h2 : wpAny M A (evalAll ((backToKw pos (keywordEach [⟨some name, value, kp⟩] env)).map (·.2))) (fun kvs s₂ => wpAny M A (call (.builtin id) (first ++ []) (((backToKw pos (keywordEach [⟨some name, value, kp⟩] env)).filterMap (·.1)).zip kvs)) Q E s₂) E s :=
    kws_cons (wpAny_mono h (fun v s₁ h₁ => kws_nil h₁) fun _ _ x => x)
  rw [show backTo pos (starEach [] env) = [] from rfl]
  have hall : (backToKw pos (keywordEach [⟨some name, value, kp⟩] env)).all (·.1.isSome) = true := rfl
  generalize backToKw pos (keywordEach [⟨some name, value, kp⟩] env) = kws at h2 hall ⊢
  unfold evalArgs
  show wpAny M A (spliced [] >>= _) _ E s
  refine wpAny_bind (spliced_nil9 ?_)
  refine wpAny_bind (wpAny_pure ?_)
  refine wpAny_holding ?_
  rw [if_pos hall]
  refine wpAny_bind (wpAny_mono h2 (fun kvs s₂ h₂ => ?_) fun _ _ x => x)
  exact wpAny_bind (wpAny_pure (wpAny_pure h₂))
end
local macro_rules | `(tactic| k_all) => `(tactic| assumption)
local macro_rules | `(tactic| walk_at "call ref") => `(tactic| ((with_reducible show wpAny _ _ (call (Value.ref 28) _ _) _ _ _); refine Mark.mk ?_))
local macro_rules | `(tactic| size_fits) => `(tactic| ((simp only [Str.length_append, ll0, ll1, ll2, ll3, ll4, ll5, ll6, ll7, ll8, ll9, ll10, ll11, ll12, ll13, ll14, lle]); rw [sizeLine_eq]; omega))
local macro_rules | `(tactic| walk_at "joinParts") => `(tactic| ((with_reducible refine joinParts_nilE ?_); (with_reducible refine joinParts_nil (hsz := ?hsz) ?_); (case hsz => size_fits)))
local macro_rules | `(tactic| walk_at "call builtin:len") => `(tactic| (k_here; k_dflt (refine len_stepM (by k_asm) (by first | k_memK | (repeat (first | assumption | refine List.Mem.tail _ ?_))) (by first | omega | (simp; omega)) ?_)))
local macro_rules | `(tactic| walk_at "truthy ref") => `(tactic| (k_here; k_dflt (refine truthy_stepM (by k_asm) (by first | k_memK | (repeat (first | assumption | refine List.Mem.tail _ ?_))) (by first | omega | (simp; omega)) ?_)))
local macro_rules | `(tactic| walk_at "exec Assign cons ListComp") => `(tactic| (k_here; k_dflt (refine comp_assign (F₀ := by k_asm) (by rfl) (by with_unfolding_all rfl) (by rfl) (by decide) (by rfl) (by decide) (by rfl) (by rfl) ?_)))
local macro_rules | `(tactic| walk_at "eval ListComp") => `(tactic| (k_here; k_dflt (refine comp_value (F₀ := by k_asm) (by rfl) (by decide) (by rfl) (by decide) ?_)))
-- CRis
section
theorem lines_CRis : True := by
  k_with_none
  k_with "subscriptTail Name Name ref int" => (k_here; k_dflt (refine gi_stepM (by k_asm) (by first | k_memK | (repeat (first | assumption | refine List.Mem.tail _ ?_))) (by omega) (by first | omega | assumption | (simp; omega)) (by first | omega | (simp; omega)) ?_))
  k_with "subscriptTail Name Constant ref int" => (k_here; k_dflt (refine gi_stepM (by k_asm) (by first | k_memK | (repeat (first | assumption | refine List.Mem.tail _ ?_))) (by omega) (by first | omega | assumption | (simp; omega)) (by first | omega | (simp; omega)) ?_))
  k_with "exec Try" => (k_here; (refine wpAny_Try_except ?_))
  k_with "compareOp LtE ref ref" => (refine Mark.mk ?_)
  trivial
local macro_rules | `(tactic| walk_at "subscriptTail Name Slice ref ref") => `(tactic| (refine Mark.mk ?_))
local macro_rules | `(tactic| walk_at "binaryOp Add ref ref") => `(tactic| (refine Mark.mk ?_))
local macro_rules | `(tactic| walk_at "storeName") => `(tactic| ((with_reducible show wpAny _ _ (storeName _ (Str.ofString "row") _) _ _ _); refine Mark.mk ?_))
local macro_rules | `(tactic| walk_at "call builtin:len") => `(tactic| (refine Mark.mk ?_))
local macro_rules | `(tactic| walk_at "pyIter ref") => `(tactic| (refine Mark.mk ?_))
local macro_rules | `(tactic| walk_at "exec For Name Name cons nil") => `(tactic| (refine Mark.mk ?_))
def insR (key : Addr → Int × Int) (t : List Value) (v : Value) : List Value :=
  let p := (t.filter fun o => kle (key (adr o)) (key (adr v))).length
  t.take p ++ v :: t.drop p
def risingL (key : Addr → Int × Int) (vs : List Value) : List Value := vs.foldl (insR key) []
theorem insR_len {key : Addr → Int × Int} {t : List Value} {v : Value} : (insR key t v).length = t.length + 1 := by
  unfold insR
  have : (t.filter fun o => kle (key (adr o)) (key (adr v))).length ≤ t.length := List.length_filter_le _ _
  simp
  omega
theorem insR_mem {key : Addr → Int × Int} {t : List Value} {v x : Value} (h : x ∈ insR key t v) : x = v ∨ x ∈ t := by
  unfold insR at h
  simp only [List.mem_append, List.mem_cons] at h
  rcases h with h | h | h
  · exact .inr (List.mem_of_mem_take h)
  · exact .inl h
  · exact .inr (List.mem_of_mem_drop h)
theorem allLt_mem {d : Addr} {l : Led} (h : AllLt d l) : ∀ p ∈ l, p.1 < d := by
  induction l with
  | nil => exact fun p hp => (nomatch hp)
  | cons q r ih =>
    intro p hp
    rcases List.mem_cons.mp hp with rfl | hp
    · exact h.1
    · exact ih h.2 p hp
theorem take_snoc {tl : List Value} {k : Nat} (h : k < tl.length) : tl.take (k + 1) = tl.take k ++ [tl.getD k .none] := by
  rw [List.take_succ, List.getD_eq_getElem?_getD]
  simp [h]
theorem pick_to {tl : List Value} {p : Nat} (h : p ≤ tl.length) : kms_pick tl none (some (p : Int)) = tl.take p := by
  unfold kms_pick kms_lo kms_hi
  have h1 : ¬ ((p : Int) < 0) := by omega
  simp only [if_neg h1, List.drop_zero, Nat.sub_zero, Int.toNat_natCast, Nat.min_eq_left h]
theorem pick_from {tl : List Value} {p : Nat} (h : p ≤ tl.length) : kms_pick tl (some (p : Int)) none = tl.drop p := by
  unfold kms_pick kms_lo kms_hi
  have h1 : ¬ ((p : Int) < 0) := by omega
  simp only [if_neg h1, Int.toNat_natCast, Nat.min_eq_left h]
  exact List.take_of_length_le (by rw [List.length_drop]; exact Nat.le_refl _)
inductive RsJ (mB : Str → Option Value) (key : Addr → Int × Int) (vs : List Value) (a Lr : Addr) (n : Nat) (rest : Led) (i : Nat) (m₁ : Str → Option Value) (nw : Led) : Prop
  | mk (T : Addr) (oR : Obj) (cT : Nat) (tl : List Value) (v₀ : Option Value) (h1 : m₁ "told" = some (.ref T)) (h2 : ∀ y, y ∉ (["told", "place"] : List Str) → m₁ y = mB y) (h3 : oR.data = .cell v₀) (h4 : T ≠ Lr) (h5 : T ≠ a) (h6 : ∀ p ∈ rest, p.1 ≠ T) (h7 : tl = risingL key (vs.take i)) (h8 : tl.length = i) (h9 : ∀ v ∈ tl, domR key rest v) (h10 : nw = (T, PySem.W.listOf tl.toArray cT) :: (Lr, oR) :: (a, PySem.W.listOf vs.toArray n) :: rest)
set_option maxHeartbeats 4000000 in
theorem c_rising (w p loose mean mg mb) (a : Addr) (vs : List Value) (n : Nat) (rest : Led) (hne : ∀ p ∈ rest, p.1 ≠ a) (key : Addr → Int × Int) (hrow : ∀ v ∈ vs, domR key rest v) (hb : vs.length ≤ 900) :
    CallOK w p loose mean mg mb 151 [.ref a] ((a, listOf vs.toArray n) :: rest) 3 60 (fun r news' => ∃ R n', r = .ref R ∧ (∀ p ∈ ((a, PySem.W.listOf vs.toArray n) :: rest : Led), p.1 ≠ R) ∧ news' = (R, PySem.W.listOf (risingL key vs).toArray n') :: (a, PySem.W.listOf vs.toArray n) :: rest) (fun _ _ => False) := by
  unfold CallOK
  k_fill
  intro dp un gd cn cs a' ccd cl outer A₀ base h₀ L m s Q E B F X N T hH hC hk hd hu hret herr
  refine wpAny_call ?_
  k_dflt (refine' code_defC ?k1 ?k2 ?k3 ?k4 ?k5 ?kA ?kF ?kK ?k6 ?k7 ?k8 ?k9 ?kB ?kD ?_ ?c2 ?c3 ?c4; (case kA => exact rfl); (case kF => exact rfl); (case kK => assumption); (case k1 => k_asm); (case k2 => k_asm); (case k3 => k_asm); (case k4 => k_asm); (case k5 => k_asm); (case k6 => k_is); (case k7 => k_is); (case k8 => ktr_room); (case k9 => first | exact BindsTo.of_eq rfl | exact binds_K (by k_in) rfl (by k_is) rfl rfl rfl | fail "k_enter: no rule for these arguments"); (case kB => exact rfl); (case kD => decide +kernel); (case c2 => exact rfl); (case c3 => exact rfl); (case c4 => exact rfl); k_whole; intro g' L' h' tk' cells' FG' F' N' Y' B' X' T' l1; (try k_lt l1); k_cells Y'; (try simp only [List.cons_append, List.nil_append] at N'); (try dsimp only); (try k_lift B'); (try k_fold))
  k_steps
  unfold Mark
  rename News _ _ _ _ => N1
  rename Fr _ _ _ _ => F1
  rename_i oR d1 T _ lT h1
  refine for_go g' ?_
  k_steps
  unfold Mark
  have haT : a ≠ T := Nat.ne_of_lt lT.2.1
  have hTrest : ∀ p ∈ rest, p.1 ≠ T := fun p hp => Nat.ne_of_lt (allLt_mem lT.2.2 p hp)
  refine for_list (vs := vs) (n := n) (fun mB => RsJ mB key vs a (L' + 1) n rest) (by rfl) F1 N1 ?hax ⟨T, oR, 0, [], _, by rfl, fun _ _ => rfl, d1, Nat.ne_of_gt lT.1, Ne.symm haT, hTrest, rfl, rfl, fun _ h => (nomatch h), rfl⟩ ?turn ?done
  case hax =>
    intro i m nx hZ10
    refine hide_goal ?_
    intro G₀ hG₀
    obtain ⟨T', oR', cT, tl, v₀, _, _, _, _, _, _, _, _, _, rfl⟩ := hZ10
    refine hG₀ ?_
    clear hG₀ G₀
    exact .tail _ (.tail _ (.head _))
  case turn =>
    intro i m₁ nw h tk I io s₂ hi hZ20 hoff F2 N2 hZ21
    refine hide_goal ?_
    intro G₀ hG₀
    obtain ⟨T', oR', cT, tl, v₀, ht, hm, hoR, hTL, hTa, hTr, htl, hlen, hdom, rfl⟩ := hZ20
    obtain ⟨h2, rfl⟩ := hZ21
    refine hG₀ ?_
    clear hG₀ G₀
    clear N1 F1 hret
    have e := ov_eq [("told", some (.ref T')), ("place", m₁ "place")] (by simp [ht]) hm
    generalize m₁ "place" = u1 at e
    subst e
    refine hide_goal ?_
    intro G₀ hG₀
    obtain ⟨ra, rt, ru, rc, hvi, hmi⟩ := hrow _ (getD_mem hi)
    refine hG₀ ?_
    clear hG₀ G₀
    rw [hvi]
    k_steps
    unfold Mark
    refine storeX_C (c := L' + 1) (g := fun o' => (I, io) :: (T', PySem.W.listOf tl.toArray cT) :: (L' + 1, o') :: (a, PySem.W.listOf vs.toArray n) :: rest) F2 N2 (by rfl) (.tail (Ne.symm (hoff _ (.tail _ (.head _)))) (.tail hTL (.head ?offc))) hoR ?kont rfl rfl
    case offc =>
      intro p hp
      rcases List.mem_cons.mp hp with rfl | hp
      · exact Nat.ne_of_lt (Nat.lt_succ_of_lt l1.1)
      · exact Nat.ne_of_lt (Nat.lt_succ_of_lt (allLt_mem l1.2 p hp))
    intro h7 oR2 F7 N7 d3
    clear N2 F2
    k_steps
    unfold Mark
    refine comp_filterN (vs := tl) (n := cT) (fun i ys nw => ys = (tl.take i).filter (fun o => kle (key (adr o)) (key ra)) ∧ nw = (I, io) :: (T', PySem.W.listOf tl.toArray cT) :: (L' + 1, oR2) :: (a, PySem.W.listOf vs.toArray n) :: rest) (by rfl) F7 N7 (fun i ys nw h => h.2 ▸ .tail _ (.head _)) ⟨by simp, rfl⟩ (by omega) ?len (by rfl) (by rfl) ?turn2 ?fin2
    case len =>
      intro i ys nw hZ30
      refine hide_goal ?_
      intro G₀ hG₀
      obtain ⟨rfl, _⟩ := hZ30
      refine hG₀ ?_
      clear hG₀ G₀
      refine Nat.le_trans (List.length_filter_le _ _) ?_
      rw [List.length_take]; omega
    case turn2 =>
      intro k I2 io2 ys nw h tk D C oC m₂ s₂ E' hi2 hZ40 hoC hm₂ F2 N2 off hCD hCI hDI hZ41
      refine hide_goal ?_
      intro G₀ hG₀
      obtain ⟨rfl, rfl⟩ := hZ40
      obtain ⟨h2, rfl⟩ := hZ41
      obtain ⟨oa, ot, ou, oc, hvo, hmo⟩ := hdom _ (getD_mem hi2)
      refine hG₀ ?_
      clear hG₀ G₀
      rw [hvo] at hm₂
      k_steps
      unfold Mark
      refine row_le (N2 _ (.tail _ (.tail _ (.tail _ (.tail _ (.tail _ (.tail _ (.tail _ hmo)))))))).1 (N2 _ (.tail _ (.tail _ (.tail _ (.tail _ (.tail _ (.tail _ (.tail _ hmi)))))))).1 (by ktr_units) _ _ _ _ ?_
      have hadr : adr (tl.getD k .none) = oa := by rw [hvo]; rfl
      cases hc : kle (key oa) (key ra) with
      | true =>
        k_steps
        refine te_end hoC (by k_asm) (by k_asm) (.head _) (.tail _ (.head _)) (.tail _ (.tail _ (.head _))) (fun p hp => .tail _ (.tail _ (.tail _ hp))) off ⟨?_, rfl⟩
        rw [take_snoc hi2, List.filter_append, hvo]
        simp [adr, hc]
      | false =>
        k_steps
        refine ts_end hoC (by k_asm) (by k_asm) (.head _) (.tail _ (.head _)) (.tail _ (.tail _ (.head _))) (fun p hp => .tail _ (.tail _ (.tail _ hp))) off ⟨?_, rfl⟩
        rw [take_snoc hi2, List.filter_append, hvo]
        simp [adr, hc]
    case fin2 =>
      intro ys nw s₂ hZ50 hZ51
      refine hide_goal ?_
      intro G₀ hG₀
      obtain ⟨h2, rfl⟩ := hZ50
      obtain ⟨rfl, rfl⟩ := hZ51
      refine hG₀ ?_
      clear hG₀ G₀
      clear F7 N7
      unfold LCg.FinE
      intro D5 h6 tk6 F8 N8 o8
      rw [List.take_length] at N8
      have hfl : (tl.filter (fun o => kle (key (adr o)) (key ra))).length ≤ tl.length := List.length_filter_le _ _
      generalize hf0 : tl.filter (fun o => kle (key (adr o)) (key ra)) = fl at N8 hfl
      have N9 := News.sub N8 (l' := (I, io) :: (T', PySem.W.listOf tl.toArray cT) :: (L' + 1, oR2) :: (a, PySem.W.listOf vs.toArray n) :: rest) (fun p hp => .tail _ hp)
      have N10 : News g' L' h6 ((D5, PySem.W.listOf fl.toArray fl.length) :: (I, io) :: (T', PySem.W.listOf tl.toArray cT) :: (L' + 1, oR2) :: (a, PySem.W.listOf vs.toArray n) :: rest) := N8
      k_steps
      unfold Mark
      refine' len_step (vs := fl) (n := fl.length) ?nA ?nB ?_
      case nA => exact N10
      case nB => omega
      clear N10
      clear N8
      k_steps
      unfold Mark
      k_dflt (refine kms_slice_lit (by k_asm) (by k_asm) (by exact news_isL (by k_asm) (by k_memK)) (by kmk_part) (by kmk_part) (by exact rfl) ?_ (by with_unfolding_all rfl) (by kmk_pure) (by rw [List.size_toArray, sizeLine_eq]; omega)); intro D' h' F' N' l1; (try simp only [List.toList_toArray] at N'); (try k_lt l1); (try k_sweep)
      k_steps
      unfold Mark
      rename Fr _ _ _ _ => FA
      rename News _ _ _ _ => NA
      have hpk1 : kms_pick tl none (some ((fl.length : Nat) : Int)) = tl.take fl.length := pick_to hfl
      rw [hpk1] at NA
      refine kmk_add_lit FA NA (PySem.IsL.isList (NA _ (.tail _ (.head _))).1) (PySem.IsL.isList (NA _ (.head _)).1) rfl (fun DA hA FB NB lA => ?_) (by rw [sizeLine_eq]; simp; omega)
      have NC := News.sub NB (l' := (DA, PySem.W.listOf (tl.take fl.length ++ [Value.ref ra]).toArray 0) :: (I, io) :: (T', PySem.W.listOf tl.toArray cT) :: (L' + 1, oR2) :: (a, PySem.W.listOf vs.toArray n) :: rest) (fun p hp => by
        simp only [List.mem_cons] at hp ⊢
        rcases hp with h | h | h | h | h | h <;> simp only [h, true_or, or_true, List.toList_toArray])
      clear NB NA FA
      k_steps
      unfold Mark
      k_dflt (refine kms_slice_lit (by k_asm) (by k_asm) (by exact news_isL (by k_asm) (by k_memK)) (by kmk_part) (by kmk_part) (by exact rfl) ?_ (by with_unfolding_all rfl) (by kmk_pure) (by rw [List.size_toArray, sizeLine_eq]; omega)); intro D' h' F' N' l1; (try simp only [List.toList_toArray] at N'); (try k_lt l1); (try k_sweep)
      k_steps
      unfold Mark
      rename Fr _ _ _ _ => FA
      rename News _ _ _ _ => NA
      have hpk2 : kms_pick tl (some ((fl.length : Nat) : Int)) none = tl.drop fl.length := pick_from hfl
      rw [hpk2] at NA
      refine kmk_add_lit FA NA (PySem.IsL.isList (NA _ (.tail _ (.head _))).1) (PySem.IsL.isList (NA _ (.head _)).1) rfl (fun DE hE FE NE lE => ?_) (by rw [sizeLine_eq]; simp; omega)
      have NG := News.sub NE (l' := (I, io) :: (DE, PySem.W.listOf (tl.take fl.length ++ [Value.ref ra] ++ tl.drop fl.length).toArray 0) :: (L' + 1, oR2) :: (a, PySem.W.listOf vs.toArray n) :: rest) (fun p hp => by
        simp only [List.mem_cons] at hp ⊢
        rcases hp with h | h | h | h | h <;> simp only [h, true_or, or_true, List.toList_toArray])
      have hI := lE _ (.tail _ (.tail _ (.head _)))
      have hL2 := lE _ (.tail _ (.tail _ (.tail _ (.tail _ (.head _)))))
      have ha2 := lE _ (.tail _ (.tail _ (.tail _ (.tail _ (.tail _ (.head _))))))
      have hr2 : ∀ p ∈ rest, p.1 < DE := fun p hp => lE _ (.tail _ (.tail _ (.tail _ (.tail _ (.tail _ (.tail _ hp))))))
      have hins : insR key tl (.ref ra) = tl.take fl.length ++ [Value.ref ra] ++ tl.drop fl.length := by
        unfold insR
        rw [show (fun o => kle (key (adr o)) (key (adr (Value.ref ra)))) = (fun o => kle (key (adr o)) (key ra)) from rfl, hf0]
        simp
      clear NE NA FA
      k_steps
      refine fe_next (by k_asm) (by k_asm) (fun p hp => ?_) ⟨DE, oR2, 0, tl.take fl.length ++ [Value.ref ra] ++ tl.drop fl.length, _, by rfl, ?_, d3, Nat.ne_of_gt hL2, Nat.ne_of_gt ha2, fun p hp => Nat.ne_of_lt (hr2 p hp), ?_, ?_, ?_, rfl⟩
      · rcases List.mem_cons.mp hp with rfl | hp
        · exact Nat.ne_of_gt hI
        · rcases List.mem_cons.mp hp with rfl | hp
          · exact (show L' + 1 ≠ I from hoff (L' + 1, oR') (.tail _ (.head _)))
          · exact hoff p (.tail _ (.tail _ hp))
      · refine up_off (by k_memK) (up_off (by k_memK) fun y hy => ov_off hy)
      · rw [← hins, htl, take_snoc hi, hvi]
        unfold risingL
        rw [List.foldl_append]
        rfl
      · rw [← hins, insR_len, hlen]
      · intro v hv
        rw [← hins] at hv
        rcases insR_mem hv with rfl | hv
        · exact ⟨ra, rt, ru, rc, rfl, hmi⟩
        · exact hdom v hv
  case done =>
    intro m₁ nw h tk hZ60 F2 N2
    refine hide_goal ?_
    intro G₀ hG₀
    obtain ⟨T', oR', cT, tl, v₀, ht, hm, hoR, hTL, hTa, hTr, htl, hlen, hdom, rfl⟩ := hZ60
    refine hG₀ ?_
    clear hG₀ G₀
    clear N1 F1
    have e := ov_eq [("told", some (.ref T')), ("place", m₁ "place")] (by simp [ht]) hm
    generalize m₁ "place" = u1 at e
    subst e
    rw [List.take_length] at htl
    k_steps
    refine hret _ _ _ _ ⟨T', cT, rfl, fun p hp => ?_, rfl⟩ (by k_asm) (News.sub (by k_asm) (fun p hp => ?_))
    · rcases List.mem_cons.mp hp with rfl | hp
      · exact Ne.symm hTa
      · exact hTr p hp
    · rw [← htl] at hp
      rcases List.mem_cons.mp hp with rfl | hp
      · exact .head _
      · exact .tail _ (.tail _ hp)
end
-- Exc
section
def bmVE : List Value := [.type "ValueError", .type "Exception", .type "BaseException", .type "object"]
def excO (t : Addr) : Obj := { cls := .ref 28, data := .fields #[.ref t, .none, .none, .none, .bool false, .none] }
def txtO (text : Str) (u : Tok) : Obj := { cls := .type "tuple", data := .seq #[.str text u] }
section
variable {prog : Program} {w : World} {A : Around} {E : Value → Shared → Prop} {s : Shared} {h₀ : Heap} {L : Addr} {m : Str → Option Value} {news : Led} {mg : Str → Option Value}
theorem made_step {text : Str} {u : Tok} {x : Str} {Q : Value → Shared → Prop} (F : Fr h₀ L s.heap m) (N : News h₀ L s.heap news) (O : OwnCls x 28 bmVE "ValueError.__new__" mg h₀) {tx : Str} (htx : text = tx)
    (K : ∀ h' e t u', Fr h₀ L h' m → News h₀ L h' ((e, excO t) :: (t, txtO tx u') :: news) → e ≠ t → (∀ p ∈ news, p.1 ≠ e ∧ p.1 ≠ t) → Q (.ref e) { s with heap := h' }) :
    wpAny (model prog w) A (call (.ref 28) [.str text u]) Q E s := by
  subst htx
  refine hide_goal ?_
  intro G₀ hG₀
  obtain ⟨hp, g, d, tk, os⟩ := s
  obtain ⟨bm, NN, nm, q, bs, hdct, sn, sub, ab, col, dd, k0, k1, k2, k3, k5, mN, hC, hN, hni, T⟩ := (O.keeps F.keep).obj
  refine hG₀ ?_
  clear hG₀ G₀
  refine wpAny_call_exc_subT (rest := [.str text u]) PySem.F.excBase_ValueError T hC hN hni (fun h' e hm => ?_) (by rw [sizeLine_eq]; exact Nat.le_of_ble_eq_true rfl)
  obtain ⟨t, he, ht0, ht⟩ := hm.there
  have fresh : ∀ b, hp.get? b = none → h₀.get? b = none := fun b hb => by
    cases e9 : h₀.get? b with
    | none => rfl
    | some o => have := F.keep b o e9; simp only at this; rw [hb] at this; cases this
  have neL : ∀ b, hp.get? b = none → b ≠ L := fun b hb e9 => by
    refine hide_goal ?_
    intro G₀ hG₀
    obtain ⟨o, _, _, ho, _⟩ := F.ns
    refine hG₀ ?_
    clear hG₀ G₀
    rw [e9] at hb; simp only at ho; rw [hb] at ho; cases ho
  have net : e ≠ t := fun e9 => by
    rw [← e9] at ht; rw [ht] at he
    have := congrArg Obj.cls (Option.some.inj he)
    cases this
  refine K h' e t u (F.keeps hm.keeps) (fun p hp' => ?_) net (fun p hp' => ?_)
  · rcases List.mem_cons.mp hp' with rfl | hp'
    · exact ⟨he, neL _ hm.new, fresh _ hm.new⟩
    · rcases List.mem_cons.mp hp' with rfl | hp'
      · exact ⟨ht, neL _ ht0, fresh _ ht0⟩
      · exact ⟨hm.keeps _ _ (N p hp').1, (N p hp').2⟩
  · have h1 := (N p hp').1
    refine ⟨fun e9 => ?_, fun e9 => ?_⟩
    · rw [e9] at h1; simp only at h1; rw [hm.new] at h1; cases h1
    · rw [e9] at h1; simp only at h1; rw [ht0] at h1; cases h1
theorem raise_tail {nm q : Str} {N : Addr} {bs bm : List Value} {hdct : Bool} {sn : List Str} {sub : List Value} {ab : Bool} {col : Option Bool} {dd : Option Addr} {k0 k1 k2 k3 k5 : Option Value} {newId : String} {env : Env} {e t : Addr} {Q : Flow → Shared → Prop}
    (hbase : bm.contains (.type "BaseException") = true) (hh : A.handled = none) (hC : s.heap.get? 28 = some (excClassObj nm q 28 N bs bm hdct sn sub ab col dd k0 k1 k2 k3 k5 newId)) (he : s.heap.get? e = some (excO t)) (hE : E (.ref e) s) :
    wpAny (model prog w) A (raiseStmt env (some (pure (.ref e))) none) Q E s :=
  wpAny_raiseStmt_made_sub (C := 28) (nm := nm) (q := q) (N := N) (bs := bs) (bm := bm) (hdct := hdct) (sn := sn) (sub := sub) (ab := ab) (col := col) (dd := dd) (k0 := k0) (k1 := k1) (k2 := k2) (k3 := k3) (k5 := k5) (newId := newId) hbase hh (wpAny_pure ⟨e, t, rfl, hC, he, hE⟩)
/-- raise of a made thing -/
theorem raise_step {x : PySem.Expr} {env : Env} {pos : Pos} {nmx : Str} {Q : Flow → Shared → Prop} (hh : A.handled = none)
    (h : wpAny (model prog w) A (eval x env) (fun v s₁ => ∃ e t, v = .ref e ∧ OwnCls nmx 28 bmVE "ValueError.__new__" mg s₁.heap ∧ s₁.heap.get? e = some (excO t) ∧ E (.ref e) s₁) E s) :
    wpAny (model prog w) A (exec (.Raise (some x) none pos) env) Q E s := by
  rw [arm_exec_Raise]
  have key : wpAny (model prog w) A (do let v ← eval x env; standAt pos; pure v) (fun v s₁ => ∃ e t, v = .ref e ∧ OwnCls nmx 28 bmVE "ValueError.__new__" mg s₁.heap ∧ s₁.heap.get? e = some (excO t) ∧ E (.ref e) s₁) E s :=
    wpAny_bind (wpAny_mono h (fun v s₁ h₁ => wpAny_bind (wpAny_standAt (wpAny_pure h₁))) fun _ _ x => x)
  have main : wpAny (model prog w) A (raiseStmt env (some (do let v ← eval x env; standAt pos; pure v)) none) Q E s := by
    unfold raiseStmt
    refine wpAny_bind (wpAny_mono key (fun v s₁ h₁ => ?_) fun _ _ x => x)
    refine hide_goal ?_
    intro G₀ hG₀
    obtain ⟨e, t, rfl, O, he, hE⟩ := h₁
    obtain ⟨bm, NN, nm, q, bs, hdct, sn, sub, ab, col, dd, k0, k1, k2, k3, k5, mN, hC, hN, hni, T⟩ := O.obj
    refine hG₀ ?_
    clear hG₀ G₀
    have r := raise_tail (prog := prog) (w := w) (A := A) (E := E) (env := env) (Q := Q) (T.hasType (by decide)) hh hC he hE
    unfold raiseStmt at r
    dsimp only at r
    rw [pure_bind] at r
    exact r
  first
  | exact wpAny_bind (wpAny_standAt main)
  | (simp only [evalOpt, Option.map]; exact wpAny_bind (wpAny_standAt main))
  | (show wpAny (model prog w) A (do standAt pos; raiseStmt env (some (do let v ← eval x env; standAt pos; pure v)) none) Q E s; exact wpAny_bind (wpAny_standAt main))
end
end
-- NestA
section
/-- the code table of a def that makes one def: empty yet, or with that code -/
def TabSt (P : Addr) (ln cn : Nat) (qual : Str) (l : Led) : Prop :=
  l = [(P, tabObj #[])] ∨ ∃ c' oc vs t, l = [(P, tabObj #[rawInt ln, rawInt cn, .ref c']), (c', oc)] ∧ oc.data = .fields vs ∧ vs[1]? = some (.str qual t) ∧ P ≠ c'
theorem TabSt.fst {P ln cn qual l} (h : TabSt P ln cn qual l) : ∃ o, (P, o) ∈ l := by
  rcases h with rfl | ⟨c', oc, vs, t, rfl, _⟩
  · exact ⟨_, .head _⟩
  · exact ⟨_, .head _⟩
section
variable {prog : Program} {w : World} {A : Around} {E : Value → Shared → Prop} {s : Shared} {h₀ : Heap} {L a : Addr} {m : Str → Option Value} {rest l : Led} {mg mb : Str → Option Value} {p : Program} {loose : List Str} {mean : ExcName → Option Value}
theorem nest_any {c P : Addr} {ccd : Value} {cn : Str} {cs : Scope} {cl clos : List (Str × Addr)} {name qual : Str} {params : Arguments} {body : List Stmt} {scope : Scope} {pos : Pos} {fl : Nat} {Q : Value → Shared → Prop} (F : Fr h₀ L s.heap m) (N : News h₀ L s.heap (l ++ rest)) (T : Top p loose mean mg mb h₀) (C : CodeHd h₀ c P) (hcd : ccd = .ref c) (hl : TabSt P pos.line pos.col qual l)
    (hne : ∀ q ∈ rest, q.1 ≠ P) (hcl : closureFor scope (envX cn cs L a ccd cl) = pure clos)
    (h : ∀ f c' oc vs t ctv doc h' tk, Fr h₀ L h' m →
      News h₀ L h' ((f, fnMade name qual params body scope clos doc ((mg "__name__").getD .none) c' ctv) :: (P, tabObj #[rawInt pos.line, rawInt pos.col, .ref c']) :: (c', oc) :: rest) →
      oc.data = .fields vs → vs[1]? = some (.str qual t) → P ≠ c' → (∀ q ∈ rest, q.1 < f) → P < f → c' < f → Q (.ref f) { s with heap := h', toks := tk }) :
    wpAny (model prog w) A (makeFunction name qual params (.stmts body) scope (envX cn cs L a ccd cl) [] [] [] pos fl) Q E s := by
  rcases hl with rfl | ⟨c', oc, vs, t, rfl, hd, hv, hPc⟩
  · refine nest_K (ps := #[]) (g := fun o => (P, o) :: rest) F N T C hcd (.head hne) True.intro rfl hcl fun f c' oc vs t ctv doc h' tk F' N' hd hv hlt hcf => ?_
    have hPc : P < c' := hlt (P, tabObj #[]) (.head _)
    refine h f c' oc vs t ctv doc h' tk F' (fun q hq => N' q ?_) hd hv (Nat.ne_of_lt hPc) (fun q hq => Nat.lt_trans (hlt q (.tail _ hq)) hcf) (Nat.lt_trans hPc hcf) hcf
    simp only [List.mem_cons] at hq ⊢
    rcases hq with e | e | e | e
    · exact .inl e
    · exact .inr (.inr (.inl e))
    · exact .inr (.inl e)
    · exact .inr (.inr (.inr e))
  · refine nestHit_K (P := P) (c' := c') (ps := #[rawInt pos.line, rawInt pos.col, .ref c']) F N T C hcd (.head _) (by simp [TriplesOk, rawInt]) (by simp [codeAmong, rawInt]) hcl fun f ctv doc h' tk F' N' hlt => ?_
    exact h f c' oc vs t ctv doc h' tk F' N' hd hv hPc (fun q hq => hlt q (.tail _ (.tail _ hq))) (hlt _ (.head _)) (hlt _ (.tail _ (.head _)))
end
end
-- StrS
section
open PySem.Builtin PySem.Builtin.Str
theorem fromIx {len i : Nat} : fromIndex len (i : Int) = i := by
  unfold fromIndex
  have h : ¬ ((i : Int) < 0) := by omega
  rw [if_neg h]; omega
theorem gives_count4 (x y : Str) (i j : Nat) (t u v z : Tok) (hj : j ≤ x.length) : Gives («str.count» ⟨[.str x t, .str y u, .int i v, .int j z], []⟩) (.int (occurrences x y i j (x.length + 1)).length) := by
  show Gives (retInt (occurrences x y (fromIndex x.length (i : Int)) (min (fromIndex x.length (j : Int)) x.length) (x.length + 1)).length) _
  rw [fromIx, fromIx, Nat.min_eq_left hj]
  exact .of_eq rfl
theorem gives_rindex4 (x y : Str) (i j k : Nat) (t u v z : Tok) (hj : j ≤ x.length) (h : lastOccurrence x y i j = some k) : Gives («str.rindex» ⟨[.str x t, .str y u, .int i v, .int j z], []⟩) (.int k) := by
  show Gives (match lastOccurrence x y (fromIndex x.length (i : Int)) (min (fromIndex x.length (j : Int)) x.length) with | some i => retInt i | none => (do rule "str.rindex.not-found"; raiseError "ValueError" "substring not found")) _
  rw [fromIx, fromIx, Nat.min_eq_left hj, h]
  exact .of_eq rfl
theorem args_count4 (a b c d : Value) : argsOk "str.count" ⟨[a, b, c, d], []⟩ := by
  unfold argsOk; kernel_rfl
section
variable {prog : Program} {w : World} {A : Around} {E : Value → Shared → Prop} {s : Shared} {x y : Str} {t u v z : Tok} {i j k : Nat} {Q : Value → Shared → Prop}
theorem count4 (hj : j ≤ x.length) (hq : Q (.int ((occurrences x y i j (x.length + 1)).length : Nat) s.toks) { s with toks := s.toks + 1 }) : wpAny (model prog w) A (call (.builtin "str.count") [.str x t, .str y u, .int i v, .int j z]) Q E s :=
  call_gives F.slot_str_count (typeIs_str _ _ _) F.entry_str_count (F.args_str_count_4 _ _ _ _) (gives_count4 x y i j t u v z hj) hq
theorem rindex4 (hj : j ≤ x.length) (h : lastOccurrence x y i j = some k) (hq : Q (.int (k : Nat) s.toks) { s with toks := s.toks + 1 }) : wpAny (model prog w) A (call (.builtin "str.rindex") [.str x t, .str y u, .int i v, .int j z]) Q E s :=
  call_gives F.slot_str_rindex (typeIs_str _ _ _) F.entry_str_rindex (F.args_str_rindex_4 _ _ _ _) (gives_rindex4 x y i j k t u v z hj h) hq
end
end
-- CSuf
section
theorem szb {a b : Str} {n m : Nat} (ha : a.length ≤ n) (hb : b.length ≤ m) : (a ++ b).length ≤ n + m := by
  rw [Str.length_append]; exact Nat.add_le_add ha hb
theorem szf {a : Str} {n : Nat} (ha : a.length ≤ n) (hn : n ≤ 16777216) : a.length ≤ sizeLine := Nat.le_trans ha hn
theorem szl : Str.empty.length ≤ 0 ∧ (Str.ofString " (at ").length ≤ 5 ∧ (Str.ofString ")").length ≤ 1 ∧ (Str.ofString "line ").length ≤ 5 ∧ (Str.ofString ", column ").length ≤ 9 ∧ (Str.ofString "end of document").length ≤ 15 := ⟨Nat.le_of_eq lle, Nat.le_of_eq ll1, Nat.le_of_eq ll2, Nat.le_of_eq ll4, Nat.le_of_eq ll5, Nat.le_of_eq ll3⟩
local macro_rules | `(tactic| walk_at "call ref") => `(tactic| (refine Mark.mk ?_))
local macro_rules | `(tactic| size_fits) => `(tactic| (refine' szf ?zq ?zk; (case zq => (repeat first | assumption | apply szb | exact szl.1 | exact szl.2.1 | exact szl.2.2.1 | exact szl.2.2.2.1 | exact szl.2.2.2.2.1 | exact szl.2.2.2.2.2 | exact int_text_len_1921 (shown (N := 2 ^ 1920) (by omega) (by omega) (Int.le_refl _)))); (case zk => exact Nat.le_of_ble_eq_true rfl)))
theorem lines_CSuf : True := by
  k_with_none
  k_with "subscriptTail Name Name ref int" => (k_here; k_dflt (refine gi_stepM (by k_asm) (by first | k_memK | (repeat (first | assumption | refine List.Mem.tail _ ?_))) (by omega) (by first | omega | assumption | (simp; omega)) (by first | omega | (simp; omega)) ?_))
  k_with "subscriptTail Name Constant ref int" => (k_here; k_dflt (refine gi_stepM (by k_asm) (by first | k_memK | (repeat (first | assumption | refine List.Mem.tail _ ?_))) (by omega) (by first | omega | assumption | (simp; omega)) (by first | omega | (simp; omega)) ?_))
  k_with "exec Try" => (k_here; (refine wpAny_Try_except ?_))
  k_with "call builtin:str.rindex" => (refine Mark.mk ?_)
  trivial
local macro_rules | `(tactic| walk_at "call builtin:str.count") => `(tactic| (k_here; k_dflt (refine count4 (i := 0) (by omega) ?_)))
theorem suf_sub {f a b : Addr × Obj} {rest : Led} {p : Addr × Obj} (hp : p ∈ ([a, b] ++ rest : Led)) : p ∈ (f :: a :: b :: rest : Led) := .tail _ hp
theorem suf_sub2 {f a b e t : Addr × Obj} {rest : Led} : ∀ p ∈ (e :: t :: ([a, b] ++ rest) : Led), p ∈ (e :: t :: f :: a :: b :: rest : Led) := fun p hp => by
  simp only [List.cons_append, List.nil_append, List.mem_cons] at hp ⊢
  rcases hp with h | h | h | h | h <;> simp only [h, true_or, or_true]
def qualC : Str := "suffixed_err.<locals>.coord_repr"
def cntL (src : Str) (pos : Nat) : Nat := (Builtin.Str.occurrences src (Str.ofString "\n") 0 pos (src.length + 1)).length
def lastL (src : Str) (pos : Nat) : Option Nat := Builtin.Str.lastOccurrence src (Str.ofString "\n") 0 pos
def lineT (l c : Int) : Str := Str.empty ++ Str.ofString "line " ++ Str.ofString (toString l) ++ Str.ofString ", column " ++ Str.ofString (toString c)
def coordT (src : Str) (pos : Nat) : Str :=
  if src.length ≤ pos then Str.ofString "end of document" else if cntL src pos = 0 then lineT ((cntL src pos : Int) + 1) ((pos : Int) + 1) else lineT ((cntL src pos : Int) + 1) ((pos : Int) - ((lastL src pos).getD 0 : Nat))
def errT (msg src : Str) (pos : Nat) : Str := Str.empty ++ msg ++ Str.ofString " (at " ++ coordT src pos ++ Str.ofString ")"
local macro_rules | `(tactic| walk_at "exec FunctionDef") => `(tactic| (refine Mark.mk ?_))
set_option maxHeartbeats 4000000 in
theorem c_suff (w p loose mean mg mb rest l) (src msg : Str) (pos : Nat) (t1 t2 t3 : Tok) (hs : src.length ≤ 1000) (hm : msg.length ≤ 1000) (hpos : pos ≤ 1000) (hne : ∀ p ∈ rest, p.1 ≠ 40) (hl : TabSt 40 18 4 qualC l) (hnl : cntL src pos ≠ 0 → ∃ k, lastL src pos = some k ∧ k ≤ pos) (hcl : cntL src pos ≤ src.length + 1) :
    CallOK w p loose mean mg mb 45 [.str src t1, .int pos t2, .str msg t3] (l ++ rest) 5 60 (fun r news' => ∃ e t u l', r = .ref e ∧ TabSt 40 18 4 qualC l' ∧ e ≠ t ∧ (∀ p ∈ l' ++ rest, p.1 ≠ e ∧ p.1 ≠ t) ∧ news' = (e, excO t) :: (t, txtO (errT msg src pos) u) :: (l' ++ rest)) (fun _ _ => False) := by
  unfold CallOK
  k_fill
  intro dp un gd cn cs a' ccd cl outer A₀ base h₀ L m s Q E B F X N T hH hC hk hd hu hret herr
  refine wpAny_call ?_
  k_dflt cell_enter
  k_steps
  unfold Mark
  rename Fr _ _ _ _ => F1
  rename News _ _ _ _ => N1
  refine nestDef_K rfl rfl (by rfl) ?_
  refine nest_any F1 N1 (by k_asm) (CodeHd.keeps hC (Below.stays (by assumption))) rfl hl hne rfl ?_
  clear F1 N1
  intro f c' oc vs tq ctv doc h1 tk1 F1 N1 hd1 hv1 hPc hlt hPf hcf
  k_steps
  unfold Mark
  k_dflt (refine wpAny_call ?_; (refine code_nest (by k_asm) (by k_asm) (by k_asm) (by k_asm) (by k_asm) (by exact rfl) (by exact rfl) (by exact rfl) (by k_mem) (by exact codeRec_news (by k_asm) (by k_mem) (by assumption) (by assumption)) (by ktr_room) (by exact BindsTo.of_eq rfl) (by exact locs rfl) ?_ (by exact rfl) (by exact rfl) (by exact rfl) (by decide); intro g' L' h' FG' F' N' B' X' T'; (try dsimp only); (try k_lift B'); (try k_fold)))
  k_steps
  · unfold Mark
    refine made_step (by k_asm) (by k_asm) (own_of_in (K := KH.heap_1 w.params) (x := "TOMLDecodeError") (C := 28) (bmB := [.type "ValueError", .type "Exception", .type "BaseException", .type "object"]) (newId := "ValueError.__new__") (by k_asm) (by k_asm) (by k_is) (by k_exc)) (tx := errT msg src pos) ?_ ?_
    · unfold errT coordT
      rw [if_pos (by omega)]
    intro h9 e t u9 F9 N9 het hfr
    k_steps
    refine hret _ ((e, excO t) :: (t, txtO (errT msg src pos) u9) :: ([(40, tabObj #[rawInt 18, rawInt 4, .ref c']), (c', oc)] ++ rest)) _ _ ⟨e, t, u9, [(40, tabObj #[rawInt 18, rawInt 4, .ref c']), (c', oc)], rfl, .inr ⟨c', oc, vs, tq, rfl, hd1, hv1, hPc⟩, het, fun p hp => hfr p (suf_sub hp), rfl⟩ (by k_asm) (News.sub (by k_asm) suf_sub2)
  · unfold Mark
    refine made_step (by k_asm) (by k_asm) (own_of_in (K := KH.heap_1 w.params) (x := "TOMLDecodeError") (C := 28) (bmB := [.type "ValueError", .type "Exception", .type "BaseException", .type "object"]) (newId := "ValueError.__new__") (by k_asm) (by k_asm) (by k_is) (by k_exc)) (tx := errT msg src pos) ?_ ?_
    · unfold errT coordT
      rw [if_neg (by omega), if_pos (by unfold cntL; omega)]
      rfl
    intro h9 e t u9 F9 N9 het hfr
    k_steps
    refine hret _ ((e, excO t) :: (t, txtO (errT msg src pos) u9) :: ([(40, tabObj #[rawInt 18, rawInt 4, .ref c']), (c', oc)] ++ rest)) _ _ ⟨e, t, u9, [(40, tabObj #[rawInt 18, rawInt 4, .ref c']), (c', oc)], rfl, .inr ⟨c', oc, vs, tq, rfl, hd1, hv1, hPc⟩, het, fun p hp => hfr p (suf_sub hp), rfl⟩ (by k_asm) (News.sub (by k_asm) suf_sub2)
  · unfold Mark
    have hc0 : cntL src pos ≠ 0 := by unfold cntL; omega
    obtain ⟨kk, hkk, hkp⟩ := hnl hc0
    have hcl' : (Builtin.Str.occurrences src (Str.ofString "\n") 0 pos (src.length + 1)).length ≤ 1001 := Nat.le_trans hcl (by omega)
    refine rindex4 (i := 0) (j := pos) (k := kk) (by omega) hkk ?_
    k_steps
    unfold Mark
    refine made_step (by k_asm) (by k_asm) (own_of_in (K := KH.heap_1 w.params) (x := "TOMLDecodeError") (C := 28) (bmB := [.type "ValueError", .type "Exception", .type "BaseException", .type "object"]) (newId := "ValueError.__new__") (by k_asm) (by k_asm) (by k_is) (by k_exc)) (tx := errT msg src pos) ?_ ?_
    · unfold errT coordT
      rw [if_neg (by omega), if_neg hc0, hkk]
      rfl
    intro h9 e t u9 F9 N9 het hfr
    k_steps
    refine hret _ ((e, excO t) :: (t, txtO (errT msg src pos) u9) :: ([(40, tabObj #[rawInt 18, rawInt 4, .ref c']), (c', oc)] ++ rest)) _ _ ⟨e, t, u9, [(40, tabObj #[rawInt 18, rawInt 4, .ref c']), (c', oc)], rfl, .inr ⟨c', oc, vs, tq, rfl, hd1, hv1, hPc⟩, het, fun p hp => hfr p (suf_sub hp), rfl⟩ (by k_asm) (News.sub (by k_asm) suf_sub2)
end
-- Occ
section
open PySem.Builtin PySem.Builtin.Str
theorem forIn_if {β : Type} (c : Nat → β → Bool) (f g : Nat → β → β) : ∀ (l : List Nat) (init : β),
    (forIn (m := Id) l init fun i r => if c i r = true then pure (ForInStep.yield (f i r)) else pure (ForInStep.yield (g i r))) = (pure (l.foldl (fun r i => if c i r = true then f i r else g i r) init) : Id β)
  | [], init => rfl
  | i :: l, init => by
    rw [List.forIn_cons, List.foldl_cons, ← forIn_if c f g l]
    cases h : c i init <;> rfl
theorem occ_eq (s sub : Str) (lo hi limit : Nat) : occurrences s sub lo hi limit =
    ((List.range' lo (hi + 1 - lo)).foldl (fun (r : Array Nat × Nat) i => if (decide (r.1.size < limit) && decide (r.2 ≤ i) && decide (i + sub.length ≤ hi) && subAt s sub i) = true then (r.1.push i, i + sub.length) else (r.1, r.2)) (#[], lo)).1.toList := by
  unfold occurrences
  simp only [Id.run, Std.Legacy.Range.forIn_eq_forIn_range', Std.Legacy.Range.size, Nat.add_sub_cancel, Nat.div_one]
  rw [forIn_if (fun i (r : Array Nat × Nat) => decide (r.1.size < limit) && decide (r.2 ≤ i) && decide (i + sub.length ≤ hi) && subAt s sub i) (fun i r => (r.1.push i, i + sub.length)) (fun i r => (r.1, r.2))]
  rfl
theorem last_eq (s sub : Str) (lo hi : Nat) : lastOccurrence s sub lo hi =
    (List.range' lo (hi + 1 - lo)).foldl (fun r i => if (decide (i + sub.length ≤ hi) && subAt s sub i) = true then some i else r) none := by
  unfold lastOccurrence
  simp only [Id.run, Std.Legacy.Range.forIn_eq_forIn_range', Std.Legacy.Range.size, Nat.add_sub_cancel, Nat.div_one]
  rw [forIn_if (fun i (r : Option Nat) => decide (i + sub.length ≤ hi) && subAt s sub i) (fun i r => some i) (fun i r => r)]
  rfl
def nlIn (s : Str) (hi : Nat) (i : Nat) : Bool := decide (i + (Str.ofString "\n").length ≤ hi) && subAt s (Str.ofString "\n") i
/-- the places of the line feeds ahead of hi -/
def nls (s : Str) (hi : Nat) : List Nat := (List.range' 0 (hi + 1)).filter (nlIn s hi)
theorem occ_fold (s : Str) (hi limit : Nat) : ∀ (n a : Nat) (arr : Array Nat) (fr : Nat), fr ≤ a → arr.size + n ≤ limit →
    ((List.range' a n).foldl (fun (r : Array Nat × Nat) i => if (decide (r.1.size < limit) && decide (r.2 ≤ i) && decide (i + (Str.ofString "\n").length ≤ hi) && subAt s (Str.ofString "\n") i) = true then (r.1.push i, i + (Str.ofString "\n").length) else (r.1, r.2)) (arr, fr)).1.toList
      = arr.toList ++ (List.range' a n).filter (nlIn s hi)
  | 0, a, arr, fr, _, _ => by simp
  | n + 1, a, arr, fr, h1, h2 => by
    rw [List.range'_succ, List.foldl_cons, List.filter_cons]
    have e1 : decide (arr.size < limit) = true := by simp; omega
    have e2 : decide (fr ≤ a) = true := by simp; exact h1
    simp only [e1, e2, Bool.true_and]
    have e3 : (decide (a + (Str.ofString "\n").length ≤ hi) && subAt s (Str.ofString "\n") a) = nlIn s hi a := rfl
    rw [e3]
    cases hb : nlIn s hi a with
    | true =>
      simp only [if_true]
      rw [occ_fold s hi limit n (a + 1) (arr.push a) _ (by rw [ll11]; exact Nat.le_refl _) (by rw [Array.size_push]; omega)]
      simp
    | false =>
      simp only [Bool.false_eq_true, if_false]
      exact occ_fold s hi limit n (a + 1) arr fr (by omega) (by omega)
theorem last_fold (p : Nat → Bool) : ∀ (l : List Nat) (init : Option Nat), l.foldl (fun r i => if p i = true then some i else r) init = (l.filter p).getLast?.or init
  | [], init => by simp
  | i :: l, init => by
    rw [List.foldl_cons, last_fold p l, List.filter_cons]
    cases h : p i with
    | true =>
      simp only [if_true]
      rw [List.getLast?_cons]
      cases (l.filter p).getLast? <;> rfl
    | false => simp
theorem cntL_eq {src : Str} {pos : Nat} (h : pos ≤ src.length) : cntL src pos = (nls src pos).length := by
  unfold cntL nls
  rw [occ_eq]
  have e := occ_fold src pos (src.length + 1) (pos + 1) 0 #[] 0 (Nat.le_refl _) (by simp; omega)
  rw [Nat.sub_zero, e]
  simp
theorem lastL_eq {src : Str} {pos : Nat} : lastL src pos = (nls src pos).getLast? := by
  unfold lastL nls
  rw [last_eq]
  have e := last_fold (nlIn src pos) (List.range' 0 (pos + 1)) none
  rw [Option.or_none] at e
  rw [← e, Nat.sub_zero]
  rfl
theorem nls_lt {src : Str} {pos k : Nat} (h : k ∈ nls src pos) : k + 1 ≤ pos := by
  have h2 := (List.mem_filter.mp h).2
  unfold nlIn at h2
  rw [ll11] at h2
  simp only [Bool.and_eq_true, decide_eq_true_eq] at h2
  exact h2.1
theorem suff_nl {src : Str} {pos : Nat} (h : pos ≤ src.length) : cntL src pos ≠ 0 → ∃ k, lastL src pos = some k ∧ k ≤ pos := by
  intro hc
  rw [cntL_eq h] at hc
  rw [lastL_eq]
  have hne : nls src pos ≠ [] := by intro e; rw [e] at hc; exact hc rfl
  exact ⟨(nls src pos).getLast hne, List.getLast?_eq_some_getLast hne, by have := nls_lt (List.getLast_mem hne); omega⟩
theorem suff_cnt {src : Str} {pos : Nat} (h : pos ≤ src.length) : cntL src pos ≤ src.length + 1 := by
  rw [cntL_eq h]
  unfold nls
  refine Nat.le_trans (List.length_filter_le _ _) ?_
  rw [List.length_range']; omega
end
-- IsSup
section
theorem slot_fz_sup : Slot "frozenset" "issuperset" "frozenset.issuperset" :=
  .of (owner := "frozenset") (n := "issuperset") (by rw [typeLookup_type, builtinLookup_eq_fast]; kernel_rfl) (by decide +kernel) (by decide +kernel) (by decide +kernel)
    (by first | exact .inl (by decide +kernel) | exact .inr (by decide +kernel)) (by rw [isSubtype_type]; kernel_rfl)
theorem type_fz_sup : typeOf (.builtin "frozenset.issuperset") = pure (.type "method_descriptor") := by show builtinType _ = _; rw [builtinType_eq_fast]; kernel_rfl
theorem entry_fz_sup : entryFor table "frozenset.issuperset" = some Builtin.«frozenset.issuperset» := entryFor_of_tree (by kernel_rfl)
theorem entry_fz_loop : entryFor table "frozenset.issuperset.loop" = some Builtin.«frozenset.issuperset.loop» := entryFor_of_tree (by kernel_rfl)
theorem plain_fz_loop : plainId "frozenset.issuperset.loop" = true := by decide +kernel
theorem args_fz_sup (a b : Value) : argsOk "frozenset.issuperset" ⟨[a, b], []⟩ := by unfold argsOk; kernel_rfl
section
variable {prog : Program} {w : World} {A : Around} {E : Value → Shared → Prop} {h₀ : Heap} {L : Addr} {m : Str → Option Value} {news : Led}
theorem has_sign {S : Str → Bool} {n a : Nat} {c : Nat} {u : Tok} {s : Shared} {Q : Bool → Shared → Prop} (hS : FrozAt (strKind prog w) s.heap a S n) (hb : n < 4096) (h : Q (S ⟨#[c]⟩) { s with toks := s.toks + 1 }) :
    wpAny (model prog w) A (setContains a (.str ⟨#[c]⟩ u)) Q E s := by
  refine hide_goal ?_
  intro G₀ hG₀
  obtain ⟨es, ep, t, ho, hel, hmem, hn, hf⟩ := hS
  refine hG₀ ?_
  clear hG₀ G₀
  have hkey : (strKind prog w).is ⟨#[c]⟩ (.str ⟨#[c]⟩ u) = true := by simp [PySem.strKind, Value.isStrOf]
  unfold setContains
  refine wpAny_bind ((strKind prog w).pyHash hkey ?_)
  refine wpAny_bind (setFind_any (s := { s with toks := s.toks + 1 }) hkey rfl ho rfl hel hmem (by rw [hn]; exact hb) hf fun r hr => ?_)
  refine wpAny_pure ?_
  rw [hr]
  exact h
/-- the loop over the text's signs -/
theorem issup_loop {S : Str → Bool} {a n I : Nat} {x : Str} {St : Nat → Heap → Prop} (W : ∀ A' : Around, A'.handled = none → Walks prog w A' I [I] [I] x.cps.size (SignAt x) St) (hS : FrozAt (PySem.strKind prog w) h₀ a S n) (hb : n < 4096) (hh : A.handled = none)
    (hIL : I ≠ L) (hI0 : h₀.get? I = none) (hIn : ∀ p ∈ news, p.1 ≠ I) (k : Nat) :
    ∀ (i : Nat) (s : Shared) (R : Result → Shared → Prop), x.cps.size - i = k → i ≤ x.cps.size → St i s.heap → Fr h₀ L s.heap m → News h₀ L s.heap news →
      (∀ h' tk, Fr h₀ L h' m → News h₀ L h' news → R (.ok (.ret (.bool ((x.cps.toList.drop i).all fun c => S ⟨#[c]⟩)))) { s with heap := h', toks := tk }) →
      wpAny (model prog w) A.in1 (Builtin.«frozenset.issuperset.loop» ⟨[.ref a, .ref I], []⟩) (fun fin s' => match fin with | .done f => R (.ok f) s' | .again c' => c'.quiet = true ∧ codeAny (model prog w) A c' R s') (fun e s' => R (.error e) s') s := by
  have stay : ∀ (s : Shared) (h' : Heap), (∀ b o, b ∉ [I] → s.heap.get? b = some o → h'.get? b = some o) → Fr h₀ L s.heap m → News h₀ L s.heap news → Fr h₀ L h' m ∧ News h₀ L h' news := fun s h' hk F N =>
    ⟨LCg.fr_but F hk (Ne.symm hIL) hI0, LCg.news_but N hk hIn⟩
  induction k with
  | zero =>
    intro i s R hk hi st F N hR
    have e : i = x.cps.size := by omega
    subst e
    show wpAny _ _ (pyNext (.ref I) >>= _) _ _ s
    refine wpAny_bind ((W A.in1 hh).done s _ _ st fun h' tk hk' => ?_)
    obtain ⟨F', N'⟩ := stay s h' hk' F N
    have r := hR h' tk F' N'
    have e2 : x.cps.toList.drop x.cps.size = [] := by simp
    rw [e2] at r
    exact wpAny_pure r
  | succ k ih =>
    intro i s R hk hi st F N hR
    have hlt : i < x.cps.size := by omega
    show wpAny _ _ (pyNext (.ref I) >>= _) _ _ s
    refine wpAny_bind ((W A.in1 hh).item i s _ _ hlt st fun v h' tk hP st' hk' => ?_)
    obtain ⟨F', N'⟩ := stay s h' hk' F N
    refine hide_goal ?_
    intro G₀ hG₀
    obtain ⟨c, u, hc, rfl⟩ := hP
    refine hG₀ ?_
    clear hG₀ G₀
    have hS' : FrozAt (PySem.strKind prog w) h' a S n := by
      refine hide_goal ?_
      intro G₀ hG₀
      obtain ⟨es, ep, t, ho, r⟩ := hS
      refine hG₀ ?_
      clear hG₀ G₀
      exact ⟨es, ep, t, F'.keep _ _ ho, r⟩
    refine wpAny_bind (wpAny_holding (has_sign (s := { s with heap := h', toks := tk }) hS' hb ?_))
    have hd : x.cps.toList.drop i = c :: x.cps.toList.drop (i + 1) := by
      have e := List.drop_eq_getElem_cons (l := x.cps.toList) (i := i) (by simpa using hlt)
      rw [e]
      congr 1
      have := hc
      simp [hlt] at this
      simpa using this
    rw [hd, List.all_cons] at hR
    cases hb2 : S ⟨#[c]⟩ with
    | true =>
      rw [hb2, Bool.true_and] at hR
      refine wpAny_pure ⟨plainId_quiet plain_fz_loop _, codeAny_builtin entry_fz_loop ?_⟩
      rw [Around.under_plainId plain_fz_loop _]
      exact ih (i + 1) _ R (by omega) hlt st' F' N' fun h2 tk2 F2 N2 => hR h2 tk2 F2 N2
    | false =>
      rw [hb2, Bool.false_and] at hR
      exact wpAny_pure (hR h' _ F' N')
end
end
-- IsSup2
section
theorem plainAttrs_frozenset : PlainAttrs "frozenset" :=
  ⟨⟨"object.__getattribute__", by rw [typeLookup_type, builtinLookup_eq_fast]; kernel_rfl, by decide +kernel⟩, by rw [typeLookup_type, builtinLookup_eq_fast]; kernel_rfl⟩
section
variable {prog : Program} {w : World} {A : Around} {E : Value → Shared → Prop} {h₀ : Heap} {L : Addr} {m : Str → Option Value} {news : Led} {s : Shared}
theorem froz_there {knd : KeyKind prog w Str} {S : Str → Bool} {a n : Nat} (F : Fr h₀ L s.heap m) (hS : FrozAt knd h₀ a S n) : ∃ es ep t, s.heap.get? a = some { cls := .type "frozenset", data := .set es ep t } := by
  refine hide_goal ?_
  intro G₀ hG₀
  obtain ⟨es, ep, t, ho, _⟩ := hS
  refine hG₀ ?_
  clear hG₀ G₀
  exact ⟨es, ep, t, F.keep _ _ ho⟩
theorem froz_method {knd : KeyKind prog w Str} {S : Str → Bool} {a n : Nat} {pl : Sem Bool} {Q : Value × List Value → Shared → Prop} (F : Fr h₀ L s.heap m) (hS : FrozAt knd h₀ a S n)
    (h : Q (.builtin "frozenset.issuperset", [.ref a]) s) : wpAny (model prog w) A (getMethod (.ref a) (Str.ofString "issuperset") pl) Q E s := by
  obtain ⟨es, ep, t, ho⟩ := froz_there F hS
  exact getMethod_builtin ⟨_, ho, rfl⟩ plainAttrs_frozenset slot_fz_sup type_fz_sup (fun a e => by cases e; exact ⟨_, ho, rfl⟩) h
theorem str_not_set {x : Str} {t : Tok} {Q : Bool → Shared → Prop} (h : Q false s) : wpAny (model prog w) A (Builtin.Frozenset.isAnySet (.str x t)) Q E s := by
  unfold Builtin.Frozenset.isAnySet
  refine wpAny_bind (wpAny_isInstance (T := "str") (b := false) rfl (by rw [isSubtype_type]; kernel_rfl) ?_)
  exact wpAny_isInstance (T := "str") (b := false) rfl (by rw [isSubtype_type]; kernel_rfl) h
theorem issup_step {S : Str → Bool} {a n : Nat} {x : Str} {t : Tok} {Q : Value → Shared → Prop} (F : Fr h₀ L s.heap m) (N : News h₀ L s.heap news) (hS : FrozAt (PySem.strKind prog w) h₀ a S n) (hb : n < 4096) (hh : A.handled = none)
    (h : ∀ h' tk, Fr h₀ L h' m → News h₀ L h' news → Q (.bool (x.cps.toList.all fun c => S ⟨#[c]⟩)) { s with heap := h', toks := tk }) :
    wpAny (model prog w) A (call (.builtin "frozenset.issuperset") [.ref a, .str x t]) Q E s := by
  obtain ⟨es, ep, tb, ho⟩ := froz_there F hS
  refine wpAny_call (codeAny_call_builtin slot_fz_sup.plain entry_fz_sup (slot_fz_sup.check _ _ _ _ _ _ _ _ ⟨_, ho, rfl⟩ (args_fz_sup _ _) ?_))
  unfold Builtin.«frozenset.issuperset» Builtin.Frozenset.oneOther Builtin.Frozenset.addrOf
  refine wpAny_bind (wpAny_pure ?_)
  refine wpAny_bind (str_not_set ?_)
  rw [if_neg (by decide)]
  refine wpAny_bind (wpAny_pyIter_str fun o St W hst => ?_)
  refine wpAny_pure ⟨plainId_quiet plain_fz_loop _, codeAny_builtin entry_fz_loop ?_⟩
  rw [Around.under_plainId plain_fz_loop _]
  have hL : ∃ o, s.heap.get? L = some o := by obtain ⟨o, _, _, ho, _⟩ := F.ns; exact ⟨o, ho⟩
  obtain ⟨oL, hL⟩ := hL
  have F2 : Fr h₀ L (s.heap.push o) m := F.keeps fun _ _ e => Heap.get?_push_of_some _ e
  have N2 : News h₀ L (s.heap.push o) news := fun p hp => ⟨Heap.get?_push_of_some _ (N p hp).1, (N p hp).2⟩
  refine issup_loop (n := n) (m := m) (L := L) (news := news) (fun A' hA => W A' hA) hS hb hh (Nat.ne_of_gt (Heap.lt_size hL)) ?_ (fun p hp => Nat.ne_of_lt (Heap.lt_size (N p hp).1)) _ 0 { s with heap := s.heap.push o } (fun r s' => match r with | .ok (.ret v) => Q v s' | .ok _ => False | .error e => E e s') rfl (Nat.zero_le _) hst F2 N2 fun h' tk F' N' => ?_
  · cases e : h₀.get? s.heap.objs.size with
    | none => rfl
    | some o => exact absurd (Heap.lt_size (F.keep _ _ e)) (Nat.lt_irrefl _)
  · exact h h' tk F' N'
end
end
-- Hexx
section
section
variable {M : Model} {A : Around} {E : Value → Shared → Prop} {s' : Shared} {base g : Heap} {outer : List Env} {L a : Addr} {m : Str → Option Value} {name : Str} {scope : Scope} {cd : Value} {Q : Unit → Shared → Prop}
/-- a def's frame left by a made exception that stands in the ledger -/
theorem leave_made {e t : Addr} {txt : Str} {u : Tok} {news : Led} (K : Below A base outer g) (F : Fr g L s'.heap m) (N : News g L s'.heap ((e, excO t) :: (t, txtO txt u) :: news)) (hfr : ∀ p ∈ news, p.1 ≠ e ∧ p.1 ≠ t)
    (hQ : ∀ h' t', RaisedS base g outer e (.ref 28) t' [.str txt u] news h' → g.UpToSlots h' → Q () { s' with heap := h' }) (hk : scope.kind = .function := by rfl) :
    wpAny M (A.deeper (envOf name scope L a cd)) (leaving (envOf name scope L a cd) (.ref e)) Q E s' := by
  have h1 := N _ (.head _)
  have h2 := N _ (.tail _ (.head _))
  have sub : ∀ {b : Addr}, b ∈ [e, t] → g.get? b = none ∧ b ≠ L := fun hb => by
    simp only [List.mem_cons, List.not_mem_nil, or_false] at hb
    rcases hb with rfl | rfl
    · exact ⟨h1.2.2, h1.2.1⟩
    · exact ⟨h2.2.2, h2.2.1⟩
  have F9 : Fr g L (hideAll s'.heap [e, t]) m := by
    refine ⟨?_, fun b o hb => hideAll_get _ (F.keep b o hb) (fun hm => ?_), F.above⟩
    · obtain ⟨o, es, ep, ho, hd, hr⟩ := F.ns
      exact ⟨o, es, ep, hideAll_get _ ho (fun hm => (sub hm).2 rfl), hd, hr⟩
    · have := (sub hm).1
      rw [hb] at this; cases this
  have N9 : News g L (hideAll s'.heap [e, t]) news := fun p hp => by
    have h3 := N p (.tail _ (.tail _ hp))
    refine ⟨hideAll_get _ h3.1 fun hm => ?_, h3.2⟩
    simp only [List.mem_cons, List.not_mem_nil, or_false] at hm
    exact hm.elim (hfr p hp).1 (hfr p hp).2
  exact leave_raiseS (h := hideAll s'.heap [e, t]) (cls := .ref 28) (vs := [.str txt u]) K
    ⟨fun b o hb => of_hideAll _ hb, hideAll_none _ (.head _), t, h1.1, hideAll_none _ (.tail _ (.head _)), h2.1⟩ F9 N9 (fun h' t' R _ U => hQ h' t' R U) hk
end
end
-- Slc
section
open PySem.Builtin PySem.Builtin.Str
theorem clip_nat (a len : Nat) : max (0 : Int) (min (a : Int) (len : Int)) = ((min a len : Nat) : Int) := by
  rcases Nat.le_total a len with h | h
  · rw [Nat.min_eq_left h, Int.min_eq_left (Int.ofNat_le.mpr h)]; exact Int.max_eq_right (Int.natCast_nonneg _)
  · rw [Nat.min_eq_right h, Int.min_eq_right (Int.ofNat_le.mpr h)]; exact Int.max_eq_right (Int.natCast_nonneg _)
theorem clip_again (a len : Nat) : max (0 : Int) (min ((min a len : Nat) : Int) (len : Int)) = ((min a len : Nat) : Int) := (clip_nat _ _).trans (by rw [Nat.min_assoc, Nat.min_self])
theorem nat_not_neg (a : Nat) : ¬ ((a : Int) < 0) := Int.not_lt.mpr (Int.natCast_nonneg a)
theorem idx_min (a b len : Nat) : strSliceIndices (some (a : Int)) (some (b : Int)) 1 len = strSliceIndices (some ((min a len : Nat) : Int)) (some ((min b len : Nat) : Int)) 1 len := by
  simp only [strSliceIndices, sliceRange, nat_not_neg, if_false, clip_nat a, clip_nat b, clip_again, show ((1 : Int) > 0) = True from by simp, if_true]
theorem min_mono {a b n : Nat} (h : a ≤ b) : min a n ≤ min b n := Nat.le_min.mpr ⟨Nat.le_trans (Nat.min_le_left _ _) h, Nat.min_le_right _ _⟩
theorem sub_all {u v n : Nat} (h : v - u = n) (hv : v ≤ n) : u = 0 ∨ n = 0 :=
  (Nat.eq_zero_or_pos n).elim .inr fun hn => .inl (Nat.eq_zero_of_not_pos fun hu => absurd h (Nat.ne_of_lt (Nat.lt_of_lt_of_le (Nat.sub_lt (Nat.lt_of_lt_of_le hn (h ▸ Nat.sub_le v u)) hu) hv)))
theorem idx_eq {a b : Nat} (len : Nat) (h : a ≤ b) : strSliceIndices (some (a : Int)) (some (b : Int)) 1 len = (List.range (min b len - min a len)).map (fun k => min a len + k) := by
  rw [idx_min]
  exact StrLaws.strSliceIndices_plain (min_mono h) (Nat.min_le_right _ _)
theorem slice_list (x : Str) {a b : Nat} (h : a ≤ b) : (PySem.Txt.slice x (some (a : Int)) (some (b : Int))).cps.toList = (x.cps.toList.drop a).take (b - a) := by
  have hl : x.cps.toList.length = x.length := Array.length_toList
  have key : (x.cps.toList.drop (min a x.length)).take (min b x.length - min a x.length) = (x.cps.toList.drop a).take (b - a) := by
    by_cases ha : a ≤ x.length
    · rw [Nat.min_eq_left ha]
      by_cases hb : b ≤ x.length
      · rw [Nat.min_eq_left hb]
      · rw [Nat.min_eq_right (Nat.le_of_not_le hb), List.take_of_length_le (by rw [List.length_drop, hl]; exact Nat.le_refl _), List.take_of_length_le (by rw [List.length_drop, hl]; exact Nat.sub_le_sub_right (Nat.le_of_not_le hb) a)]
    · rw [Nat.min_eq_right (Nat.le_of_not_le ha), List.drop_of_length_le (by rw [hl]; exact Nat.le_refl _), List.drop_of_length_le (by rw [hl]; exact Nat.le_of_not_le ha)]
      simp
  unfold PySem.Txt.slice
  split
  · rename_i hc
    rw [idx_eq _ h] at hc
    simp only [beq_self_eq_true, Bool.true_and, List.length_map, List.length_range, beq_iff_eq] at hc
    rw [← key]
    have h0 : min a x.length = 0 ∨ x.length = 0 := sub_all hc (Nat.min_le_right _ _)
    rcases h0 with h0 | h0
    · rw [h0] at hc ⊢
      rw [List.drop_zero, List.take_of_length_le (by rw [hc, hl]; exact Nat.le_refl _)]
    · have : x.cps.toList = [] := List.eq_nil_of_length_eq_zero (hl.trans h0)
      rw [this]; simp
  · show ((strSliceIndices (some (a : Int)) (some (b : Int)) 1 x.length).filterMap (x.cps[·]?)) = _
    rw [idx_min, ← key]
    exact StrLaws.sliced_plain x (min_mono h) (Nat.min_le_right _ _)
theorem slice_len (x : Str) {a b : Nat} (h : a ≤ b) : (PySem.Txt.slice x (some (a : Int)) (some (b : Int))).length = min (b - a) (x.length - a) := by
  have e := congrArg List.length (slice_list x h)
  rw [Array.length_toList, List.length_take, List.length_drop, Array.length_toList] at e
  exact e
end
-- Whr
section
open PySem.Builtin PySem.Builtin.Str
def lastT (l : List Str) : Str := l.getLastD Str.empty
theorem slice_none (x : Str) (b : Nat) : PySem.Txt.slice x none (some (b : Int)) = PySem.Txt.slice x (some ((0 : Nat) : Int)) (some (b : Int)) := by
  have e : strSliceIndices none (some (b : Int)) 1 x.length = strSliceIndices (some ((0 : Nat) : Int)) (some (b : Int)) 1 x.length := by
    have e1 : max (0 : Int) (min ((0 : Nat) : Int) (x.length : Int)) = 0 := by omega
    have h3 : ¬ (((0 : Nat) : Int) < 0) := by omega
    simp only [strSliceIndices, h3, if_false, e1, show ((1 : Int) > 0) = True from by simp, if_true]
  unfold PySem.Txt.slice
  rw [e]
theorem slice_to (x : Str) (b : Nat) : (PySem.Txt.slice x none (some (b : Int))).cps.toList = x.cps.toList.take b := by
  rw [slice_none, slice_list x (Nat.zero_le b)]
  simp
theorem nlIn_take {src y : Str} {pos i : Nat} (hy : y.cps.toList = src.cps.toList.take pos) (hp : pos ≤ src.length) : nlIn y y.length i = nlIn src pos i := by
  have hl : y.length = pos := by
    have e := congrArg List.length hy
    rw [Array.length_toList, List.length_take, Array.length_toList] at e
    show y.cps.size = pos
    have : pos ≤ src.cps.size := hp
    omega
  unfold nlIn
  rw [hl]
  by_cases h : i + (Str.ofString "\n").length ≤ pos
  · congr 1
    rw [StrLaws.subAt_eq, StrLaws.subAt_eq, hy, List.drop_take, List.take_take]
    congr 2
    omega
  · rw [decide_eq_false h, Bool.false_and, Bool.false_and]
theorem nls_take {src y : Str} {pos : Nat} (hy : y.cps.toList = src.cps.toList.take pos) (hp : pos ≤ src.length) (hl : y.length = pos) : nls y y.length = nls src pos := by
  unfold nls
  rw [hl]
  refine List.filter_congr fun i _ => ?_
  rw [← hl]
  exact (nlIn_take hy hp).trans (by rw [hl])
theorem occ_nls (y : Str) : occurrences y (Str.ofString "\n") 0 y.length (y.length + 1) = nls y y.length := by
  unfold nls
  rw [occ_eq]
  have e := occ_fold y y.length (y.length + 1) (y.length + 1) 0 #[] 0 (Nat.le_refl _) (by simp)
  rw [Nat.sub_zero, e]
  simp
theorem kind_nl : PySem.Builtin.Str.strKind (Str.ofString "\n") = 1 := by decide +kernel
theorem kind_ge (x : Str) : 1 ≤ PySem.Builtin.Str.strKind x := by
  unfold PySem.Builtin.Str.strKind
  split
  · decide
  · split <;> decide
theorem split_nls (y : Str) : PySem.Txt.split y (Str.ofString "\n") = partsBetween y (nls y y.length) 1 := by
  unfold PySem.Txt.split
  have k : decide (PySem.Builtin.Str.strKind y < PySem.Builtin.Str.strKind (Str.ofString "\n")) = false := by
    have := kind_ge y
    rw [kind_nl]; simp; omega
  rw [k, Bool.or_false, occ_nls, ll11]
  have nil0 : nls y y.length = [] → [y] = partsBetween y (nls y y.length) 1 := by
    intro e
    rw [e]
    show [y] = [strSub y 0 y.length]
    rw [StrLaws.sub_whole]
  by_cases h : y.length < 1
  · rw [if_pos (by simpa using h)]
    refine nil0 ?_
    unfold nls
    rw [List.filter_eq_nil_iff]
    intro i _ hi
    unfold nlIn at hi
    rw [ll11] at hi
    simp only [Bool.and_eq_true, decide_eq_true_eq] at hi
    omega
  · rw [if_neg (by simpa using h)]
    cases e : (nls y y.length).isEmpty with
    | true => rw [if_pos rfl]; exact nil0 (List.isEmpty_iff.mp e)
    | false => rw [if_neg (by simp)]
theorem parts_len (y : Str) (cuts : List Nat) : (partsBetween y cuts 1).length = cuts.length + 1 := by
  unfold partsBetween
  simp
theorem parts_last (y : Str) (cuts : List Nat) : lastT (partsBetween y cuts 1) = strSub y ((cuts.map (· + 1)).getLastD 0) y.length := by
  unfold lastT partsBetween
  rcases List.eq_nil_or_concat cuts with rfl | ⟨cs, c, rfl⟩
  · rfl
  · rw [List.concat_eq_append]
    have e : (0 :: (cs ++ [c]).map (· + 1)).zip ((cs ++ [c]) ++ [y.length]) = ((0 :: cs.map (· + 1)).zip (cs ++ [c])) ++ [(c + 1, y.length)] := by
      rw [List.map_append, ← List.cons_append]
      rw [List.zip_append (by simp)]
      rfl
    dsimp only
    rw [e, List.map_append]
    simp only [List.map_append, List.map_cons, List.map_nil, List.getLastD_eq_getLast?, List.getLast?_append, List.getLast?_singleton]
    rfl
theorem sub_len (y : Str) (a : Nat) : (strSub y a y.length).length = y.length - a := by
  have e := congrArg List.length (StrLaws.strSub_toList y a y.length)
  rw [Array.length_toList, List.length_take, List.length_drop, Array.length_toList] at e
  show (strSub y a y.length).cps.size = y.length - a
  have : y.cps.size = y.length := rfl
  omega
theorem where_len {src : Str} {pos : Nat} (hp : pos ≤ src.length) : (PySem.Txt.split (PySem.Txt.slice src none (some (pos : Int))) (Str.ofString "\n")).length = cntL src pos + 1 := by
  have hy := slice_to src pos
  have hl : (PySem.Txt.slice src none (some (pos : Int))).length = pos := by
    have e := congrArg List.length hy
    rw [Array.length_toList, List.length_take, Array.length_toList] at e
    have : pos ≤ src.cps.size := hp
    show (PySem.Txt.slice src none (some (pos : Int))).cps.size = pos
    omega
  rw [split_nls, parts_len, nls_take hy hp hl, cntL_eq hp]
theorem where_last {src : Str} {pos : Nat} (hp : pos ≤ src.length) : ((lastT (PySem.Txt.split (PySem.Txt.slice src none (some (pos : Int))) (Str.ofString "\n"))).length : Int) + 1 = if cntL src pos = 0 then (pos : Int) + 1 else (pos : Int) - ((lastL src pos).getD 0 : Nat) := by
  have hy := slice_to src pos
  have hl : (PySem.Txt.slice src none (some (pos : Int))).length = pos := by
    have e := congrArg List.length hy
    rw [Array.length_toList, List.length_take, Array.length_toList] at e
    have : pos ≤ src.cps.size := hp
    show (PySem.Txt.slice src none (some (pos : Int))).cps.size = pos
    omega
  rw [split_nls, parts_last, sub_len, nls_take hy hp hl, hl, cntL_eq hp, lastL_eq]
  rcases List.eq_nil_or_concat (nls src pos) with e | ⟨cs, c, e⟩
  · rw [e]; rfl
  · rw [List.concat_eq_append] at e
    have hc : c ∈ nls src pos := by rw [e]; simp
    have := nls_lt hc
    rw [e]
    have h1 : (cs ++ [c]).length ≠ 0 := by simp
    rw [if_neg h1]
    simp
    omega
/-- what _law_where tells, and what the error's text says -/
def whereT (src : Str) (pos : Nat) : Str := Str.ofString " (at " ++ coordT src pos ++ Str.ofString ")"
theorem errT_where (msg src : Str) (pos : Nat) : errT msg src pos = msg ++ whereT src pos := by
  unfold errT whereT
  rw [Str.empty_append, Str.append_assoc, Str.append_assoc, Str.append_assoc]
theorem where_end {src : Str} {pos : Nat} (h : pos = src.length) : Str.ofString " (at end of document)" = whereT src pos := by
  unfold whereT coordT
  rw [if_pos (by omega)]
  decide +kernel
theorem w1 : Str.ofString " (at line " = Str.ofString " (at " ++ Str.ofString "line " := by decide +kernel
theorem where_in {src : Str} {pos : Nat} {n : Nat} (hp : pos ≤ src.length) (h : pos ≠ src.length) (hn : n = (PySem.Txt.split (PySem.Txt.slice src none (some (pos : Int))) (Str.ofString "\n")).length) :
    Str.ofString " (at line " ++ Str.ofString (toString (n : Int)) ++ Str.ofString ", column " ++ Str.ofString (toString (((lastT (PySem.Txt.split (PySem.Txt.slice src none (some (pos : Int))) (Str.ofString "\n"))).length : Int) + 1)) ++ Str.ofString ")" = whereT src pos := by
  unfold whereT coordT
  rw [if_neg (by omega), where_last hp, hn, where_len hp]
  have e : ((cntL src pos + 1 : Nat) : Int) = (cntL src pos : Int) + 1 := by push_cast; rfl
  rw [e, w1]
  by_cases hc : cntL src pos = 0
  · rw [if_pos hc, if_pos hc]
    unfold lineT
    simp only [Str.empty_append, Str.append_assoc]
  · rw [if_neg hc, if_neg hc]
    unfold lineT
    simp only [Str.empty_append, Str.append_assoc]
end
-- CWhr
section
theorem whr_len {l : List (Str × Tok)} {x y : Str} (h : l.map (·.1) = PySem.Txt.split x y) {n : Nat} (hx : x.length ≤ n) : l.length ≤ n + 2 := by
  have := PyProof.Rows.split_le x y
  rw [← h, List.length_map] at this
  omega
theorem whr_val {src : Str} {pos : Nat} {l : List (Str × Tok)} {t : Tok} (hp : pos ≤ src.length) (h : pos ≠ src.length) (hl : l.map (·.1) = PySem.Txt.split (PySem.Txt.slice src none (some (pos : Int))) (Str.ofString "\n")) :
    Value.str (Str.ofString " (at line " ++ Str.ofString (toString (l.length : Int)) ++ Str.ofString ", column " ++ Str.ofString (toString (((lastT (PySem.Txt.split (PySem.Txt.slice src none (some (pos : Int))) (Str.ofString "\n"))).length : Int) + 1)) ++ Str.ofString ")") t = .str (whereT src pos) t := by
  rw [where_in hp h (by rw [← hl, List.length_map])]
section
variable {prog : Program} {w : World} {A : Around} {E : Value → Shared → Prop} {s : Shared} {Q : Value → Shared → Prop}
theorem last_step {value slice : PySem.Expr} {a : Addr} {l : List (Str × Tok)} {x y : Str} {t : Tok} {n k : Nat} (hl : s.heap.IsList a (strValues l).toArray) (he : l.map (·.1) = PySem.Txt.split x y) (hle : ∀ z ∈ l.map (·.1), z.length ≤ n) (hx : x.length ≤ k) (hk : k ≤ 10000)
    (h : ∀ u, (lastT (PySem.Txt.split x y)).length ≤ n → Q (.str (lastT (PySem.Txt.split x y)) u) s)
    (hs : subscripted slice false (.ref a) (.int (-1) t) = operate [.ref a, .int (-1) t] (getItem (.ref a) (.int (-1) t)) := by with_unfolding_all rfl) :
    wpAny (model prog w) A (subscriptTail value slice (.ref a) (.int (-1) t)) Q E s := by
  have h2 := whr_len he hx
  have h1 : 1 ≤ l.length := by
    have := PyProof.Rows.split_pos x y
    rw [← he, List.length_map] at this
    exact this
  have hz : (strValues l).toArray.size = l.length := by simp [strValues]
  have hne : l ≠ [] := by intro e; rw [e] at h1; exact absurd h1 (by decide)
  have hlast : lastT (PySem.Txt.split x y) = (l.getLast hne).1 := by
    rw [← he]
    unfold lastT
    rw [List.getLastD_eq_getLast?, List.getLast?_map, List.getLast?_eq_some_getLast hne]
    rfl
  refine tail_any hl.typeIs slot_list_getitem.lookup (wpAny_getItem_list_neg (x := .str (l.getLast hne).1 (l.getLast hne).2) hl (by decide) (by rw [hz]; omega) (by decide) ?_ ?_) hs
  · rw [hz]
    have e : ((-1 : Int) + (l.length : Int)).toNat = l.length - 1 := by omega
    rw [e]
    have e2 : l[l.length - 1]? = some (l.getLast hne) := by rw [← List.getLast?_eq_getElem?, List.getLast?_eq_some_getLast hne]
    simp [strValues, e2]
  · rw [← hlast]
    refine h _ ?_
    rw [hlast]
    exact hle _ (List.mem_map_of_mem (List.getLast_mem hne))
end
local macro_rules | `(tactic| walk_at "call type:str") => `(tactic| (k_here; (have hq9 := whr_len (by assumption) (by assumption)); kt_str))
theorem lines_CWhr : True := by
  k_with_none
  trivial
local macro_rules | `(tactic| walk_at "subscriptTail Name UnaryOp ref int") => `(tactic| (k_here; k_dflt (refine last_step (k := 1000) (PySem.IsL.isList ((by k_asm : News _ _ _ _) _ (.head _)).1) (by assumption) (by assumption) (by omega) (by decide) ?_); intro u9 hq8; (try k_sweep)))
set_option maxHeartbeats 4000000 in
theorem c_where (w p loose mean mg mb news) (src : Str) (pos : Nat) (t1 t2 : Tok) (hs : src.length ≤ 900) (hp : pos ≤ src.length) :
    CallOK w p loose mean mg mb 146 [.str src t1, .int pos t2] news 3 60 (fun r news' => ∃ u, r = .str (whereT src pos) u ∧ news' = news) (fun _ _ => False) := by
  unfold CallOK
  k_fill
  intro dp un gd cn cs a' ccd cl outer A₀ base h₀ L m s Q E B F X N T hH hC hk hd hu hret herr
  refine wpAny_call ?_
  k_dflt cell_enter
  k_steps
  · exact hret _ _ _ _ ⟨_, by rw [← where_end (by omega)], rfl⟩ (by k_asm) (by k_asm)
  · exact hret _ _ _ _ ⟨_, whr_val hp (by omega) (by assumption), rfl⟩ (by k_asm) (News.sub (by k_asm) (fun p hp => .tail _ hp))
end
-- CGrp
section
local macro_rules | `(tactic| walk_at "none 1") => `(tactic| skip)
theorem lines_CGrp : True := by
  k_with_none
  k_with "subscriptTail Name Name ref int" => (k_here; k_dflt (refine gi_stepM (by k_asm) (by first | k_memK | (repeat (first | assumption | refine List.Mem.tail _ ?_))) (by omega) (by first | omega | assumption | (simp; omega)) (by first | omega | (simp; omega)) ?_))
  k_with "subscriptTail Name Constant ref int" => (k_here; k_dflt (refine gi_stepM (by k_asm) (by first | k_memK | (repeat (first | assumption | refine List.Mem.tail _ ?_))) (by omega) (by first | omega | assumption | (simp; omega)) (by first | omega | (simp; omega)) ?_))
  k_with "exec Try" => (k_here; (refine wpAny_Try_except ?_))
  k_with "subscriptTail Name Name ref int" => (refine Mark.mk ?_)
  trivial
local macro_rules | `(tactic| walk_at "pyIter ref") => `(tactic| (refine Mark.mk ?_))
local macro_rules | `(tactic| walk_at "storeName") => `(tactic| ((with_reducible show wpAny _ _ (storeName _ (Str.ofString "row") _) _ _ _); refine Mark.mk ?_))
def figN (x : Int) (j : Nat) : Int := ((x.fmod 65536).fdiv (16 ^ (3 - j))).fmod 16
def rowS (x : Int) : Str := if x.fmod 2 = 0 then Str.ofString "0123456789abcdef" else Str.ofString "0123456789ABCDEF"
theorem row_even {x n : Int} {t : Tok} (h : x.fmod 2 = 0) : ∃ t', Value.str (PySem.Txt.item (Str.ofString "0123456789abcdef") n) t = Value.str (PySem.Txt.item (rowS x) n) t' := ⟨t, by rw [rowS, if_pos h]⟩
theorem row_odd {x n : Int} {t : Tok} (h : ¬ x.fmod 2 = 0) : ∃ t', Value.str (PySem.Txt.item (Str.ofString "0123456789ABCDEF") n) t = Value.str (PySem.Txt.item (rowS x) n) t' := ⟨t, by rw [rowS, if_neg h]⟩
def partS (x : Int) (j : Nat) : Str := if x.fmod 6 = 5 ∧ (j : Int) = (x.fdiv 6).fmod 4 then Str.ofString "g" else PySem.Txt.item (rowS x) (figN x j)
theorem part_g {x : Int} {j : Nat} {t : Tok} (h1 : x.fmod 6 = 5) (h2 : (0 : Int) + (j : Int) * 1 = (x.fdiv 6).fmod 4) : ∃ t', Value.str (Str.ofString "g") t = Value.str (partS x j) t' := ⟨t, by rw [partS, if_pos ⟨h1, by omega⟩]⟩
theorem part_i (i : Nat) : ((0 : Int) + (i : Int) * 1).toNat = i := by omega
theorem part_n {x : Int} {j : Nat} {vs : List Value} {t : Tok} (hv : vs.getD j .none = .str (PySem.Txt.item (rowS x) (figN x j)) t) (h1 : x.fmod 6 = 5) (h2 : (0 : Int) + (j : Int) * 1 ≠ (x.fdiv 6).fmod 4) : ∃ t', vs.getD ((0 : Int) + (j : Int) * 1).toNat .none = Value.str (partS x j) t' := ⟨t, by rw [part_i, hv, partS, if_neg (fun h => h2 (by omega))]⟩
theorem part_m {x : Int} {j : Nat} {vs : List Value} {t : Tok} (hv : vs.getD j .none = .str (PySem.Txt.item (rowS x) (figN x j)) t) (h1 : x.fmod 6 ≠ 5) : ∃ t', vs.getD ((0 : Int) + (j : Int) * 1).toNat .none = Value.str (partS x j) t' := ⟨t, by rw [part_i, hv, partS, if_neg (fun h => h1 h.1)]⟩
theorem partS_len (x : Int) (j : Nat) : (partS x j).length = 1 := by
  unfold partS
  split
  · exact ll12
  · rfl
def groupT (x : Int) : Str := PySem.Txt.join (Str.ofString "") [partS x 0, partS x 1, partS x 2, partS x 3]
theorem figN_range (x : Int) (j : Nat) : 0 ≤ figN x j ∧ figN x j < 16 := by
  unfold figN
  exact ⟨Int.fmod_nonneg_of_pos _ (by decide), Int.fmod_lt_of_pos _ (by decide)⟩
theorem four_str {x : Int} {u0 u1 u2 u3 : Tok} {i : Nat} (hi : i < 4) : ∃ t, ([.str (PySem.Txt.item (rowS x) (figN x 0)) u0, .str (PySem.Txt.item (rowS x) (figN x 1)) u1, .str (PySem.Txt.item (rowS x) (figN x 2)) u2, .str (PySem.Txt.item (rowS x) (figN x 3)) u3] : List Value).getD i .none = .str (PySem.Txt.item (rowS x) (figN x i)) t := by
  obtain _ | _ | _ | _ | i := i
  · exact ⟨_, rfl⟩
  · exact ⟨_, rfl⟩
  · exact ⟨_, rfl⟩
  · exact ⟨_, rfl⟩
  · omega
theorem four_at {x : Int} {t0 t1 t2 t3 : Tok} {i : Nat} (hi : i < 4) : ∃ t, ([.int (figN x 0) t0, .int (figN x 1) t1, .int (figN x 2) t2, .int (figN x 3) t3] : List Value).getD i .none = .int (figN x i) t := by
  obtain _ | _ | _ | _ | i := i
  · exact ⟨_, rfl⟩
  · exact ⟨_, rfl⟩
  · exact ⟨_, rfl⟩
  · exact ⟨_, rfl⟩
  · omega
set_option maxHeartbeats 4000000 in
theorem c_group (w p loose mean mg mb news) (x : Int) (t : Tok) :
    CallOK w p loose mean mg mb 132 [.int x t] news 3 60 (fun r news' => ∃ u, r = .str (groupT x) u ∧ news' = news) (fun _ _ => False) := by
  unfold CallOK
  k_fill
  intro dp un gd cn cs a' ccd cl outer A₀ base h₀ L m s Q E B F X N T hH hC hk hd hu hret herr
  refine wpAny_call ?_
  k_dflt (refine' code_defC ?k1 ?k2 ?k3 ?k4 ?k5 ?kA ?kF ?kK ?k6 ?k7 ?k8 ?k9 ?kB ?kD ?_ ?c2 ?c3 ?c4; (case kA => exact rfl); (case kF => exact rfl); (case kK => assumption); (case k1 => k_asm); (case k2 => k_asm); (case k3 => k_asm); (case k4 => k_asm); (case k5 => k_asm); (case k6 => k_is); (case k7 => k_is); (case k8 => ktr_room); (case k9 => first | exact BindsTo.of_eq rfl | exact binds_K (by k_in) rfl (by k_is) rfl rfl rfl | fail "k_enter: no rule for these arguments"); (case kB => exact rfl); (case kD => decide +kernel); (case c2 => exact rfl); (case c3 => exact rfl); (case c4 => exact rfl); k_whole; intro g' L' h' tk' cells' FG' F' N' Y' B' X' T' l1; (try k_lt l1); k_cells Y'; (try simp only [List.cons_append, List.nil_append] at N'); (try dsimp only); (try k_lift B'); (try k_fold))
  k_steps
  unfold Mark
  rename Fr _ _ _ _ => F1
  rename News _ _ _ _ => N1
  rename IsRange _ _ _ _ _ _ _ _ => hr
  rename_i oR oX d1 d2 N0 h1 tk1 _ _ _ _
  refine comp_range (n := 4) (fun i ys nw => Vals (fun j v => ∃ t, v = .int (figN x j) t) i ys ∧ nw = (L' + 1 + 1, oR) :: (L' + 1, oX) :: news) (by rfl) hr (by decide) (by decide) (by k_asm) (by k_asm) ⟨Vals.nil, rfl⟩ (by rintro i ys nw ⟨h, _⟩; exact Nat.le_of_eq h.1) (by decide) (by rfl) (by rfl) ?turn ?fin
  case turn =>
    intro i I io ys nw h tk D C oC m₂ tv s₂ E' hi hZ10 hoC hm₂ F2 N2 off hCD hCI hDI hZ11
    refine hide_goal ?_
    intro G₀ hG₀
    obtain ⟨hV, rfl⟩ := hZ10
    obtain ⟨h2, rfl⟩ := hZ11
    refine hG₀ ?_
    clear hG₀ G₀
    clear hret
    have hi4 : i = 0 ∨ i = 1 ∨ i = 2 ∨ i = 3 := by omega
    rcases hi4 with rfl | rfl | rfl | rfl
    all_goals k_steps
    all_goals (refine te_end hoC (by k_asm) (by k_asm) (.head _) (.tail _ (.head _)) (.tail _ (.tail _ (.head _))) (fun p hp => .tail _ (.tail _ (.tail _ hp))) off ⟨hV.snoc ?_, rfl⟩)
    all_goals exact ⟨_, rfl⟩
  case fin =>
    intro ys nw s₂ hZ20 hZ21
    refine hide_goal ?_
    intro G₀ hG₀
    obtain ⟨h2, rfl⟩ := hZ20
    obtain ⟨hV, rfl⟩ := hZ21
    obtain ⟨f0, f1, f2, f3, rfl, ⟨t0, rfl⟩, ⟨t1, rfl⟩, ⟨t2, rfl⟩, ⟨t3, rfl⟩⟩ := hV.four
    refine hG₀ ?_
    clear hG₀ G₀
    clear N1 F1 N0
    unfold LCg.FinA
    intro D2 h5 tk5 F5 N5 o5
    k_steps
    unfold Mark
    have g0 := figN_range x 0
    have g1 := figN_range x 1
    have g2 := figN_range x 2
    have g3 := figN_range x 3
    refine comp_listN (vs := [.int (figN x 0) t0, .int (figN x 1) t1, .int (figN x 2) t2, .int (figN x 3) t3]) (n := 4) (fun i ys nw => Vals (fun j v => ∃ t, v = .str (PySem.Txt.item (rowS x) (figN x j)) t) i ys ∧ nw = (D2, clst [.int (figN x 0) t0, .int (figN x 1) t1, .int (figN x 2) t2, .int (figN x 3) t3]) :: (L' + 1 + 1, oR) :: (L' + 1, oX) :: news) (by rfl) (by k_asm) (by k_asm) (fun i ys nw h => h.2 ▸ .head _) ⟨Vals.nil, rfl⟩ (by simp) (by rintro i ys nw ⟨h, _⟩; exact Nat.le_of_eq h.1) (by rfl) (by rfl) ?turn2 ?fin2
    case turn2 =>
      intro i I io ys nw h tk D C oC m₂ s₂ E' hi hZ30 hoC hm₂ F2 N2 off hCD hCI hDI hZ31
      refine hide_goal ?_
      intro G₀ hG₀
      obtain ⟨hV, rfl⟩ := hZ30
      obtain ⟨h2, rfl⟩ := hZ31
      refine hG₀ ?_
      clear hG₀ G₀
      clear hret
      obtain ⟨ti, hti⟩ := four_at (x := x) (t0 := t0) (t1 := t1) (t2 := t2) (t3 := t3) (by simpa using hi : i < 4)
      replace hm₂ : m₂ (Str.ofString "figure") = some (.int (figN x i) ti) := hm₂.trans (congrArg some hti)
      have gi := figN_range x i
      k_steps
      all_goals (refine te_end hoC (by k_asm) (by k_asm) (.head _) (.tail _ (.head _)) (.tail _ (.tail _ (.head _))) (fun p hp => .tail _ (.tail _ (.tail _ hp))) off ⟨hV.snoc ?_, rfl⟩)
      all_goals (first | exact row_even (by assumption) | exact row_odd (by assumption))
    case fin2 =>
      intro ys nw s₂ hZ40 hZ41
      refine hide_goal ?_
      intro G₀ hG₀
      obtain ⟨h2, rfl⟩ := hZ40
      obtain ⟨hV, rfl⟩ := hZ41
      obtain ⟨f0, f1, f2, f3, rfl, ⟨u0, rfl⟩, ⟨u1, rfl⟩, ⟨u2, rfl⟩, ⟨u3, rfl⟩⟩ := hV.four
      refine hG₀ ?_
      clear hG₀ G₀
      clear F5 N5
      unfold LCg.FinE
      intro D3 h6 tk6 F6 N6 o6
      k_steps
      unfold Mark
      have hof6 := off1_ne o6
      refine storeX_C (c := L' + 1 + 1) (g := fun o' => (D3, clst [.str (PySem.Txt.item (rowS x) (figN x 0)) u0, .str (PySem.Txt.item (rowS x) (figN x 1)) u1, .str (PySem.Txt.item (rowS x) (figN x 2)) u2, .str (PySem.Txt.item (rowS x) (figN x 3)) u3]) :: (D2, clst [.int (figN x 0) t0, .int (figN x 1) t1, .int (figN x 2) t2, .int (figN x 3) t3]) :: (L' + 1 + 1, o') :: (L' + 1, oX) :: news) F6 N6 (by rfl) (.tail (Ne.symm (hof6 _ (.tail _ (.head _)))) (.tail (Ne.symm (off1_ne o5 _ (.head _))) (.head ?offc))) d1 ?kont rfl rfl
      case offc =>
        intro p hp
        rcases List.mem_cons.mp hp with rfl | hp
        · exact Nat.ne_of_lt (Nat.lt_succ_self _)
        · exact Nat.ne_of_lt (Nat.lt_of_lt_of_le (l1 p hp) (Nat.le_add_right L' 2))
      intro h7 oR2 F7 N7 d3
      clear N6 F6 d1
      k_steps
      unfold Mark
      rename Fr _ _ _ _ => F8
      rename News _ _ _ _ => N8
      rename IsRange _ _ _ _ _ _ _ _ => hr8
      refine comp_range (n := 4) (fun i ys nw => Vals (fun j v => ∃ t, v = .str (partS x j) t) i ys ∧ nw = (D3, clst [.str (PySem.Txt.item (rowS x) (figN x 0)) u0, .str (PySem.Txt.item (rowS x) (figN x 1)) u1, .str (PySem.Txt.item (rowS x) (figN x 2)) u2, .str (PySem.Txt.item (rowS x) (figN x 3)) u3]) :: (D2, clst [.int (figN x 0) t0, .int (figN x 1) t1, .int (figN x 2) t2, .int (figN x 3) t3]) :: (L' + 1 + 1, oR2) :: (L' + 1, oX) :: news) (by rfl) hr8 (by decide) (by decide) (by k_asm) (by k_asm) ⟨Vals.nil, rfl⟩ (by rintro i ys nw ⟨h, _⟩; exact Nat.le_of_eq h.1) (by decide) (by rfl) (by rfl) ?turn3 ?fin3
      case turn3 =>
        intro i I io ys nw h tk D C oC m₂ tv s₂ E' hi hZ50 hoC hm₂ F9 N9 off hCD hCI hDI hZ51
        refine hide_goal ?_
        intro G₀ hG₀
        obtain ⟨hV, rfl⟩ := hZ50
        obtain ⟨h2, rfl⟩ := hZ51
        refine hG₀ ?_
        clear hG₀ G₀
        clear hret
        have hi4 : i < 4 := by omega
        obtain ⟨ui, hui⟩ := four_str (x := x) (u0 := u0) (u1 := u1) (u2 := u2) (u3 := u3) hi4
        k_steps
        · refine te_end hoC (by k_asm) (by k_asm) (.head _) (.tail _ (.head _)) (.tail _ (.tail _ (.head _))) (fun p hp => .tail _ (.tail _ (.tail _ hp))) off ⟨hV.snoc ?_, rfl⟩
          exact part_g (by assumption) (by assumption)
        all_goals unfold Mark
        all_goals (refine gi_stepM (n := 4) (vs := [.str (PySem.Txt.item (rowS x) (figN x 0)) u0, .str (PySem.Txt.item (rowS x) (figN x 1)) u1, .str (PySem.Txt.item (rowS x) (figN x 2)) u2, .str (PySem.Txt.item (rowS x) (figN x 3)) u3]) (by k_asm) (by k_memK) (by omega) (show ((0 : Int) + (i : Int) * 1) < ((4 : Nat) : Int) by omega) (show 4 < 2 ^ 62 by decide) ?_)
        all_goals k_steps
        all_goals (refine te_end hoC (by k_asm) (by k_asm) (.head _) (.tail _ (.head _)) (.tail _ (.tail _ (.head _))) (fun p hp => .tail _ (.tail _ (.tail _ hp))) off ⟨hV.snoc ?_, rfl⟩)
        all_goals first | exact part_n hui (by assumption) (by assumption) | exact part_m hui (by assumption)
      case fin3 =>
        intro ys nw s₂ hZ60 hZ61
        refine hide_goal ?_
        intro G₀ hG₀
        obtain ⟨h2, rfl⟩ := hZ60
        obtain ⟨hV, rfl⟩ := hZ61
        obtain ⟨f0, f1, f2, f3, rfl, ⟨p0, rfl⟩, ⟨p1, rfl⟩, ⟨p2, rfl⟩, ⟨p3, rfl⟩⟩ := hV.four
        refine hG₀ ?_
        clear hG₀ G₀
        clear F8 N8
        unfold LCg.FinE
        intro D4 h9 tk9 F9 N9 o9
        k_steps
        refine join_listW (ys := [partS x 0, partS x 1, partS x 2, partS x 3]) (PySem.IsL.isList (n := 4) (N9 _ (.head _)).1) (.cons _ _ (.cons _ _ (.cons _ _ (.cons _ _ .nil)))) (by decide) (by simp only [List.map_cons, List.map_nil, List.sum_cons, List.sum_nil, partS_len, List.length_cons, List.length_nil]; decide) ?_
        intro t' k'
        k_steps
        exact hret _ _ _ _ ⟨_, rfl, rfl⟩ (by k_asm) (News.sub (by k_asm) (fun p hp => .tail _ (.tail _ (.tail _ (.tail _ (.tail _ hp))))))
end
-- IntHex
section
open PySem.NumText
def hexB (c : Nat) : Bool := decide ((48 ≤ c ∧ c ≤ 57) ∨ (97 ≤ c ∧ c ≤ 102) ∨ (65 ≤ c ∧ c ≤ 70))
def hexD (c : Nat) : Nat := if c ≤ 57 then c - 48 else if 97 ≤ c then c - 87 else c - 55
def hexVal (cs : List Nat) : Nat := cs.foldl (fun a c => a * 16 + hexD c) 0
def hexCs : List Nat := [48,49,50,51,52,53,54,55,56,57,97,98,99,100,101,102,65,66,67,68,69,70]
theorem hexSigns_eq : hexSigns = hexCs.map fun c => (⟨#[c]⟩ : Str) := by decide +kernel
theorem hexCs_small : ∀ c < 128, decide (c ∈ hexCs) = hexB c := by decide +kernel
theorem hexCs_lt : ∀ c ∈ hexCs, c < 128 := by decide +kernel
theorem hexSign (c : Nat) : decide ((⟨#[c]⟩ : Str) ∈ hexSigns) = hexB c := by
  rw [hexSigns_eq]
  have e : ((⟨#[c]⟩ : Str) ∈ hexCs.map fun c => (⟨#[c]⟩ : Str)) ↔ c ∈ hexCs := by
    rw [List.mem_map]
    constructor
    · rintro ⟨d, hd, he⟩
      have : d = c := by
        have := congrArg Str.cps he
        simpa using this
      exact this ▸ hd
    · exact fun h => ⟨c, h, rfl⟩
  have e2 : decide (c ∈ hexCs) = hexB c := by
    by_cases h : c < 128
    · exact hexCs_small c h
    · unfold hexB
      rw [decide_eq_false fun q => h (hexCs_lt c q), decide_eq_false fun q => h (by omega)]
  rw [← e2]
  simp only [e]
theorem hexB_iff {c : Nat} : hexB c = true ↔ ((48 ≤ c ∧ c ≤ 57) ∨ (97 ≤ c ∧ c ≤ 102) ∨ (65 ≤ c ∧ c ≤ 70)) := by unfold hexB; exact decide_eq_true_iff
theorem hex_lt {c : Nat} (h : hexB c = true) : c < 128 := by
  have := hexB_iff.mp h
  omega
theorem hex_small : ∀ c < 128, hexB c = true → (digit? c = some (hexD c) ∧ hexD c < 16) ∧ blank c = false ∧ (c == 95) = false ∧ (c == 120 || c == 88) = false ∧ (c == 111 || c == 79) = false ∧ c ≠ 43 ∧ c ≠ 45 := by decide +kernel
theorem hex_facts {c : Nat} (h : hexB c = true) : (digit? c = some (hexD c) ∧ hexD c < 16) ∧ blank c = false ∧ (c == 95) = false ∧ (c == 120 || c == 88) = false ∧ (c == 111 || c == 79) = false ∧ c ≠ 43 ∧ c ≠ 45 := hex_small c (hex_lt h) h
theorem hex_digit {c : Nat} (h : hexB c = true) : digit? c = some (hexD c) ∧ hexD c < 16 := (hex_facts h).1
theorem hex_blank {c : Nat} (h : hexB c = true) : blank c = false := (hex_facts h).2.1
theorem hex_fold : ∀ (cs : List Nat) (arr : Array Nat) (b : Bool), (∀ c ∈ cs, hexB c = true) → cs.foldlM (NumText.step 16) (arr, b) = some (arr ++ (cs.map hexD).toArray, if cs = [] then b else true)
  | [], arr, b, _ => by simp
  | c :: cs, arr, b, h => by
    have hc := h c (.head _)
    obtain ⟨h1, h2⟩ := hex_digit hc
    have hb := hexB_iff.mp hc
    have e : NumText.step 16 (arr, b) c = some (arr.push (hexD c), true) := by
      unfold NumText.step
      have e5 : (c == 95) = false := (hex_facts hc).2.2.1
      rw [e5, h1]
      simp [h2]
    rw [List.foldlM_cons, e]
    show cs.foldlM (NumText.step 16) (arr.push (hexD c), true) = _
    rw [hex_fold cs _ true (fun d hd => h d (.tail _ hd))]
    simp
theorem hex_digits {cs : List Nat} (h : ∀ c ∈ cs, hexB c = true) (hne : cs ≠ []) : digits? 16 cs = some (cs.map hexD).toArray := by
  unfold digits?
  rw [hex_fold cs #[] false h]
  simp [hne]
theorem read_hex {cs : List Nat} (h : ∀ c ∈ cs, hexB c = true) (hne : cs ≠ []) : (int_private% "readNumeral") 0 16 cs = (int_private% "Numeral.value") (hexVal cs : Int) := by
  rw [readNumeral_eq]
  have e1 : cs.dropWhile blank = cs := by
    cases cs with
    | nil => rfl
    | cons c r => rw [List.dropWhile_cons, hex_blank (h c (.head _))]; rfl
  have e2 : NumText.sign cs = (false, cs) := by
    cases cs with
    | nil => rfl
    | cons c r =>
      have hb := hexB_iff.mp (h c (.head _))
      unfold NumText.sign
      split
      · rename_i q; injection q with q _; subst q; exact absurd rfl (by first | exact (hex_facts (h _ (.head _))).2.2.2.2.2.2 | exact (hex_facts (h _ (.head _))).2.2.2.2.2.1)
      · rename_i q; injection q with q _; subst q; exact absurd rfl (by first | exact (hex_facts (h _ (.head _))).2.2.2.2.2.1 | exact (hex_facts (h _ (.head _))).2.2.2.2.2.2)
      · rfl
  have e3 : NumText.based 16 cs = (16, false, cs) := by
    unfold NumText.based
    cases e : prefix? cs with
    | none => rfl
    | some p =>
      have hp : p = 2 := by
        unfold prefix? at e
        split at e
        · rename_i c r
          have hb := hexB_iff.mp (h c (.tail _ (.head _)))
          have a1 : (c == 120 || c == 88) = false := (hex_facts (h c (.tail _ (.head _)))).2.2.2.1
          have a2 : (c == 111 || c == 79) = false := (hex_facts (h c (.tail _ (.head _)))).2.2.2.2.1
          rw [a1, a2] at e
          simp only [Bool.false_eq_true, if_false] at e
          split at e
          · injection e with e; exact e.symm
          · cases e
        · cases e
      subst hp
      rfl
  rw [e1, e2]
  dsimp only
  rw [e3]
  dsimp only
  have e4 : (cs.reverse.dropWhile blank).reverse = cs := by
    have e5 : cs.reverse.dropWhile blank = cs.reverse := by
      cases er : cs.reverse with
      | nil => rfl
      | cons c r =>
        have hm : c ∈ cs := by rw [← List.mem_reverse, er]; exact .head _
        rw [List.dropWhile_cons, hex_blank (h c hm)]; rfl
    rw [e5, List.reverse_reverse]
  rw [e4, hex_digits h hne]
  unfold NumText.judge
  dsimp only
  have e6 : hexVal cs = (cs.map hexD).toArray.foldl (fun acc d => acc * 16 + d) 0 := by
    unfold hexVal
    rw [List.foldl_toArray, List.foldl_map]
  rw [← e6]
  rfl
theorem hex_ascii {x : Str} (h : ∀ c ∈ x.cps.toList, hexB c = true) : x.cps.all (· < 128) = true := by
  rw [← Array.all_toList, List.all_eq_true]
  intro c hc
  have hb := hexB_iff.mp (h c hc)
  simp; omega
theorem hex_seen {cs : List Nat} (h : ∀ c ∈ cs, hexB c = true) : cs.takeWhile (· != 0) = cs := by
  induction cs with
  | nil => rfl
  | cons c r ih =>
    have hb := hexB_iff.mp (h c (.head _))
    have e : (c != 0) = true := by simp; omega
    rw [List.takeWhile_cons, e]
    simp only [if_true]
    rw [ih fun d hd => h d (.tail _ hd)]
theorem wp_hex {M : Model} {A : Around} {E : Value → Shared → Prop} {s : Shared} {Q : Value → Shared → Prop} {v : Value} {text : List Nat} {n : Int}
    (hs : (text.takeWhile (· != 0)).length ≤ 640) (hr : (int_private% "readNumeral") 0 16 (text.takeWhile (· != 0)) = (int_private% "Numeral.value") n)
    (ha : ((text.takeWhile (· != 0)).length == text.length) = true) (h : Q (.int n s.toks) { s with toks := s.toks + 1 }) :
    wpAny M A ((int_private% "intFromText") v text 16) Q E s := by
  obtain ⟨hp, g, d, tk, os⟩ := s
  repeat (any_goals (first
    | assumption
    | (with_reducible refine wpAny_ite_true (decide_eq_true hs) ?_)
    | (with_reducible refine wpAny_ite_true (decide_eq_true ha) ?_)
    | wp_step))
  all_goals (try rw [hr])
  all_goals (try dsimp only)
  repeat (any_goals (first
    | assumption
    | (with_reducible refine wpAny_ite_true (decide_eq_true hs) ?_)
    | (with_reducible refine wpAny_ite_true (decide_eq_true ha) ?_)
    | wp_step))
structure HidH (p : Prop) : Prop where
  out : p
theorem typeCall_int_2 (a b : Value) : checkTypeCall "int" ⟨[a, b], []⟩ = pure () := by kernel_rfl
theorem newCall_int_2 (a b : Value) : checkBuiltinCall "int.__new__" ⟨[.type "int", a, b], []⟩ = pure () := by kernel_rfl
set_option maxHeartbeats 4000000 in
theorem gives_hex {x : PySem.Str} {u v : Tok} (h : ∀ c ∈ x.cps.toList, hexB c = true) (hne : x.cps.toList ≠ []) (hl : x.length ≤ 640) : Gives (Builtin.«int.__new__» ⟨[.type "int", .str x u, .int 16 v], []⟩) (.int (hexVal x.cps.toList)) :=
  .of_wp fun M A E s Q hq => by
    obtain ⟨hp, g, d, tk, os⟩ := s
    have f1 := F.conv_sub_int
    have f2 := F.madeHere_int
    have f6 : typeOf (.str x u) = pure (.type "str") := rfl
    have key : ∀ (s' : Shared) (Q' : Value → Shared → Prop), Q' (.int (hexVal x.cps.toList) s'.toks) { s' with toks := s'.toks + 1 } → wpAny M A ((int_private% "intFromText") (.str x u) (if x.cps.all (· < 128) then x.cps.toList else Unicode.numberText x.cps.toList) (Int.toNat 16)) Q' E s' := by
      intro s' Q' h'
      rw [if_pos (hex_ascii h)]
      have e := hex_seen h
      refine wp_hex (n := hexVal x.cps.toList) ?_ ?_ ?_ h'
      · rw [e]; exact hl
      · rw [e]; exact read_hex h hne
      · rw [e]; simp
    have hk := HidH.mk key
    clear key h hne hl
    repeat (any_goals (first
      | assumption
      | ((with_reducible show wpAny _ _ ((int_private% "intFromText") _ _ _) _ _ _); refine hk.out _ _ ?_)
      | wp_step))
    all_goals first | exact ⟨_, rfl, hq⟩ | trace_state
section
variable {prog : Program} {w : World} {A : Around} {E : Value → Shared → Prop} {s : Shared} {Q : Value → Shared → Prop} {x : PySem.Str} {t v : Tok}
theorem call_hex (h : ∀ c ∈ x.cps.toList, hexB c = true) (hne : x.cps.toList ≠ []) (hl : x.length ≤ 640) (hq : Q (.int (hexVal x.cps.toList) s.toks) { s with toks := s.toks + 1 }) : wpAny (model prog w) A (call (.type "int") [.str x t, .int 16 v]) Q E s :=
  callType_new F.called_int F.newNe_int (typeCall_int_2 _ _) (newCall_int_2 _ _) (fun obj => F.args_object_init_3 obj _ _) F.entry_int_new (gives_hex h hne hl).meets (show (Made.int _).post _ s from ⟨rfl, hq⟩)
end
end
-- CScal
section
theorem lines_CScal : True := by
  k_with_none
  k_with "subscriptTail Name Name ref int" => (k_here; k_dflt (refine gi_stepM (by k_asm) (by first | k_memK | (repeat (first | assumption | refine List.Mem.tail _ ?_))) (by omega) (by first | omega | assumption | (simp; omega)) (by first | omega | (simp; omega)) ?_))
  k_with "subscriptTail Name Constant ref int" => (k_here; k_dflt (refine gi_stepM (by k_asm) (by first | k_memK | (repeat (first | assumption | refine List.Mem.tail _ ?_))) (by omega) (by first | omega | assumption | (simp; omega)) (by first | omega | (simp; omega)) ?_))
  k_with "exec Try" => (k_here; (refine wpAny_Try_except ?_))
  trivial
def scalarB (n : Int) : Bool := (decide (0 ≤ n) && decide (n ≤ 55295)) || (decide (57344 ≤ n) && decide (n ≤ 1114111))
set_option maxHeartbeats 4000000 in
theorem c_scalar (w p loose mean mg mb news) (n : Int) (t : Tok) : CallOK w p loose mean mg mb 52 [.int n t] news 1 8 (fun r news' => r = .bool (scalarB n) ∧ news' = news) (fun _ _ => False) := by
  unfold CallOK
  k_fill
  intro dp un gd cn cs a' ccd cl outer A₀ base h₀ L m s Q E B F X N T hH hC hk hd hu hret herr
  refine wpAny_call ?_
  k_dflt cell_enter
  k_steps
  all_goals (refine hret _ _ _ _ ⟨?_, rfl⟩ (by k_asm) (by k_asm))
  all_goals (congr 1; unfold scalarB)
  all_goals (clear hret herr)
  all_goals (rw [Bool.eq_iff_iff]; simp only [Bool.or_eq_true, Bool.and_eq_true, decide_eq_true_eq]; first | omega | trace_state)
end
-- CHex
section
theorem lines_CHex : True := by
  k_with_none
  trivial
local macro_rules | `(tactic| walk_at "subscriptTail Name Name ref int") => `(tactic| (k_here; k_dflt (refine gi_stepM (by k_asm) (by first | k_memK | (repeat (first | assumption | refine List.Mem.tail _ ?_))) (by omega) (by first | omega | assumption | (simp; omega)) (by first | omega | (simp; omega)) ?_)))
local macro_rules | `(tactic| walk_at "subscriptTail Name Constant ref int") => `(tactic| (k_here; k_dflt (refine gi_stepM (by k_asm) (by first | k_memK | (repeat (first | assumption | refine List.Mem.tail _ ?_))) (by omega) (by first | omega | assumption | (simp; omega)) (by first | omega | (simp; omega)) ?_)))
local macro_rules | `(tactic| walk_at "exec Try") => `(tactic| (k_here; (refine wpAny_Try_except ?_)))
def RaiseOK (w : World) (p : Program) (loose : List Str) (mean : ExcName → Option Value) (mg mb : Str → Option Value) (f : Addr) (vs : List Value) (news : Led) (d u : Nat) (Out : Value → Led → Prop) (Err : Str → Led → Prop) : Prop :=
  ∀ (dp un : Nat) (gd : Option (List Code)) (cn : Str) (cs : Scope) (a : Addr) (ccd : Value) (cl : List (Str × Addr)) (outer : List Env) (A₀ : Around) (base h₀ : Heap) (L : Addr) (m : Str → Option Value) (s : Shared) (Q E : Value → Shared → Prop),
    Below A₀ base outer h₀ → Fr h₀ L s.heap m → (KH.heap_1 w.params).In h₀ → News h₀ L s.heap news → Top p loose mean mg mb h₀ → HexIn w base → CodeHd base 44 40 → cs.kind = .function → dp + d < recursionLimit → un + u < cLine →
    (∀ r news' h' tk', Out r news' → Fr h₀ L h' m → News h₀ L h' news' → Q r { s with heap := h', toks := tk' }) →
    (∀ g e t txt u news' h' tk', Err txt news' → Fr h₀ L g m → RaisedS base g (envX cn cs L a ccd cl :: outer) e (.ref 28) t [.str txt u] news' h' → g.UpToSlots h' → E (.ref e) { s with heap := h', toks := tk' }) →
    wpAny (model PySem.Challenge.rw_ik0044_01.row.prog w) (ktrTop dp un gd cn cs L a ccd cl outer) (call (.ref f) vs) Q E s
def hexS (src : Str) (pos many : Nat) : Str := PySem.Txt.slice src (some (pos : Int)) (some ((pos : Int) + (many : Int)))
def hexOk (src : Str) (pos many : Nat) : Prop := ((hexS src pos many).length : Int) = (many : Int) ∧ ((hexS src pos many).cps.toList.all fun c => decide ((⟨#[c]⟩ : Str) ∈ hexSigns)) = true
def hexN (src : Str) (pos many : Nat) : Nat := hexVal (hexS src pos many).cps.toList
theorem hex_keeps {w : World} {base h : Heap} (hH : HexIn w base) (B : base.StaysIn h) : HexIn w h := by
  obtain ⟨es, ep, t, ho, r⟩ := hH
  exact ⟨es, ep, t, B _ _ ho, r⟩
section
variable {prog : Program} {w : World} {A : Around} {E : Value → Shared → Prop} {s : Shared} {Q : Value → Shared → Prop} {x : PySem.Str} {t v : Tok} {many : Nat}
theorem call_hexW (h : (x.cps.toList.all fun c => decide ((⟨#[c]⟩ : Str) ∈ hexSigns)) = true) (hn : (x.length : Int) = (many : Int)) (h1 : 1 ≤ many) (h2 : many ≤ 10) (hq : Q (.int (hexVal x.cps.toList) s.toks) { s with toks := s.toks + 1 }) : wpAny (model prog w) A (call (.type "int") [.str x t, .int 16 v]) Q E s := by
  have hx : x.length = many := Int.ofNat_inj.mp hn
  have hx2 : x.cps.toList.length = x.length := Array.length_toList
  refine call_hex (fun c hc => ?_) (fun e => ?_) (by omega) hq
  · have := List.all_eq_true.mp h c hc
    rwa [hexSign] at this
  · rw [e] at hx2
    simp only [List.length_nil] at hx2
    omega
end
theorem scalarB_range {n : Int} (h : scalarB n = true) : (decide (n < 0) || decide (n > 0x10FFFF)) = false := by
  unfold scalarB at h
  simp only [Bool.or_eq_true, Bool.and_eq_true, decide_eq_true_eq] at h
  simp only [Bool.or_eq_false_iff, decide_eq_false_iff_not]
  omega
def outHex (src : Str) (pos many : Nat) (led : Led) (r : Value) (news' : Led) : Prop :=
  hexOk src pos many ∧ scalarB (hexN src pos many) = true ∧ ∃ T u v, r = .ref T ∧ (∀ p ∈ led, p.1 < T) ∧ news' = (T, { cls := .type "tuple", data := .seq #[.int ((pos : Int) + (many : Int)) u, .str ⟨#[hexN src pos many]⟩ v] }) :: led
def errHex (src : Str) (pos many : Nat) (rest : Led) (txt : Str) (news' : Led) : Prop :=
  ((¬ hexOk src pos many ∧ txt = errT (Str.ofString "Invalid hex value") src pos) ∨ (hexOk src pos many ∧ scalarB (hexN src pos many) = false ∧ txt = errT (Str.ofString "Escaped character is not a Unicode scalar value") src (pos + many))) ∧
    ∃ l', TabSt 40 18 4 qualC l' ∧ news' = l' ++ rest
local macro_rules | `(tactic| walk_at "exec Raise some none") => `(tactic| (refine Mark.mk ?_))
local macro_rules | `(tactic| walk_at "getMethod ref") => `(tactic| (k_here; k_dflt (refine froz_method (by k_asm) (hex_keeps (by assumption) (Below.stays (by assumption))) ?_)))
local macro_rules | `(tactic| walk_at "call builtin:frozenset.issuperset") => `(tactic| (k_here; k_dflt (refine issup_step (by k_asm) (by k_asm) (hex_keeps (by assumption) (Below.stays (by assumption))) (by decide) (by rfl) ?_); intro h9 tk9 F9 N9; (try k_sweep)))
local macro_rules | `(tactic| walk_at "call type:int") => `(tactic| (k_here; k_dflt (refine call_hexW (by assumption) (by assumption) (by omega) (by omega) ?_)))
local macro_rules | `(tactic| walk_at "call builtin:chr") => `(tactic| (k_here; k_dflt (refine PySem.P.chr_of_int (scalarB_range (by assumption)) ?_)))
local macro_rules | `(tactic| walk_at "call ref") => `(tactic| ((with_reducible show wpAny _ _ (call (Value.ref 52) _) _ _ _); k_here; k_dflt (refine CallOK.use (c_scalar _ _ _ _ _ _ _ _ _) (by k_asm) (by k_asm) (by k_asm) (by k_asm) (by k_asm) (by assumption) (by assumption) (by first | exact rfl | assumption) (by ktr_room) (by ktr_units) ?ret (fun _ _ _ _ h => h.elim)); (case' ret => (intro r9 n9 h9 tk9 hO9 F9 N9; refine hide_goal ?_; intro G9 hG9; obtain ⟨e91, e92⟩ := hO9; subst e91; subst e92; refine hG9 ?_; clear hG9 G9; (try dsimp only); (try k_sweep))); (all_goals (try (first | assumption | omega)))))
local macro_rules | `(tactic| walk_at "call ref") => `(tactic| ((with_reducible show wpAny _ _ (call (Value.ref 45) _) _ _ _); k_here; k_dflt (refine CallOK.use (c_suff _ _ _ _ _ _ _ _ _ _ _ _ _ _ ?sh ?sm ?sp ?hne ?hl ?snl ?scl) (by k_asm) (by k_asm) (by k_asm) (by k_asm) (by k_asm) (by assumption) (by assumption) (by first | exact rfl | assumption) (by ktr_room) (by ktr_units) ?ret (fun _ _ _ _ h => h.elim)); (case' ret => (intro r9 n9 h9 tk9 hO9 F9 N9; refine hide_goal ?_; intro G9 hG9; obtain ⟨e91, t91, u91, l91, e92, hT91, het91, hfr91, e93⟩ := hO9; subst e92; subst e93; refine hG9 ?_; clear hG9 G9; (try dsimp only); (try k_sweep))); (all_goals (try (first | assumption | omega | (show (Str.ofString _).length ≤ 1000; decide +kernel) | exact suff_nl (by omega) | exact suff_cnt (by omega))))))
set_option maxHeartbeats 4000000 in
theorem c_hex (w p loose mean mg mb rest l) (src : Str) (pos many : Nat) (t1 t2 t3 : Tok) (hs : src.length ≤ 900) (hpos : pos ≤ src.length) (h1 : 1 ≤ many) (hmany : many ≤ 10) (hne : ∀ p ∈ rest, p.1 ≠ 40) (hl : TabSt 40 18 4 qualC l) :
    RaiseOK w p loose mean mg mb 38 [.str src t1, .int pos t2, .int many t3] (l ++ rest) 7 80 (outHex src pos many (l ++ rest)) (errHex src pos many rest) := by
  unfold RaiseOK
  k_fill
  intro dp un gd cn cs a' ccd cl outer A₀ base h₀ L m s Q E B F X N T hH hC hk hd hu hret herr
  refine wpAny_call ?_
  k_dflt cell_enter
  k_steps
  · unfold Mark
    refine raise_step (nmx := "TOMLDecodeError") (mg := mg) (by rfl) ?_
    k_steps
    k_here
    refine' CallOK.use (c_suff _ _ _ _ _ _ rest l _ _ _ _ _ _ ?shz0 ?smz0 ?spz0 hne hl ?snlz0 ?sclz0) ?k1z0 ?k2z0 ?k3z0 ?k4z0 ?k5z0 hH hC ?kKz0 ?kdz0 ?kuz0 ?retz0 ?errz0
    case k1z0 => k_asm
    case k2z0 => k_asm
    case k3z0 => k_asm
    case k4z0 => k_asm
    case k5z0 => k_asm
    case kKz0 => exact rfl
    case kdz0 => ktr_room
    case kuz0 => ktr_units
    case errz0 => (intro e9 n9 h9 tk9 hO9; exact hO9.elim)
    case shz0 => omega
    case smz0 => (show (Str.ofString _).length ≤ 1000; decide +kernel)
    case spz0 => omega
    case snlz0 => exact suff_nl (by omega)
    case sclz0 => exact suff_cnt (by omega)
    intro r9 n9 h9 tk9 hO9 F9 N9
    refine hide_goal ?_
    intro G₀ hG₀
    obtain ⟨e91, t91, u91, l91, e92, hT91, het91, hfr91, e93⟩ := hO9
    subst e92
    subst e93
    refine hG₀ ?_
    clear hG₀ G₀
    refine ⟨e91, t91, rfl, OwnCls.keeps (own_of_in (K := KH.heap_1 w.params) (x := "TOMLDecodeError") (C := 28) (bmB := [.type "ValueError", .type "Exception", .type "BaseException", .type "object"]) (newId := "ValueError.__new__") (by k_asm) (by k_asm) (by k_is) (by k_exc)) F9.keep, (N9 _ (.head _)).1, ?_⟩
    show wpAny _ _ (leaving _ _) _ _ _
    refine leave_made (by assumption) F9 N9 hfr91 ?_
    intro h8 t8 R8 U8
    exact herr _ _ _ _ _ _ _ _ ⟨.inl ⟨fun hb => (by assumption : ¬ ((hexS src pos many).length : Int) = (many : Int)) hb.1, rfl⟩, l91, hT91, rfl⟩ (by assumption) R8 U8
  · exact hret _ _ _ _ ⟨⟨by assumption, by assumption⟩, by assumption, _, _, _, rfl, by assumption, rfl⟩ (by k_asm) (by k_asm)
  · unfold Mark
    refine raise_step (nmx := "TOMLDecodeError") (mg := mg) (by rfl) ?_
    have hlen := slice_len src (show pos ≤ pos + many by omega)
    have hx : ((hexS src pos many).length : Int) = (many : Int) := by assumption
    have hlen2 : (hexS src pos many).length = min (pos + many - pos) (src.length - pos) := hlen
    have hpm : pos + many ≤ src.length := by omega
    k_steps
    k_here
    refine' CallOK.use (c_suff _ _ _ _ _ _ rest l _ _ _ _ _ _ ?shz1 ?smz1 ?spz1 hne hl ?snlz1 ?sclz1) ?k1z1 ?k2z1 ?k3z1 ?k4z1 ?k5z1 hH hC ?kKz1 ?kdz1 ?kuz1 ?retz1 ?errz1
    case k1z1 => k_asm
    case k2z1 => k_asm
    case k3z1 => k_asm
    case k4z1 => k_asm
    case k5z1 => k_asm
    case kKz1 => exact rfl
    case kdz1 => ktr_room
    case kuz1 => ktr_units
    case errz1 => (intro e9 n9 h9 tk9 hO9; exact hO9.elim)
    case shz1 => omega
    case smz1 => (show (Str.ofString _).length ≤ 1000; decide +kernel)
    case spz1 => omega
    case snlz1 => exact suff_nl (by omega)
    case sclz1 => exact suff_cnt (by omega)
    intro r9 n9 h9 tk9 hO9 F9 N9
    refine hide_goal ?_
    intro G₀ hG₀
    obtain ⟨e91, t91, u91, l91, e92, hT91, het91, hfr91, e93⟩ := hO9
    subst e92
    subst e93
    refine hG₀ ?_
    clear hG₀ G₀
    refine ⟨e91, t91, rfl, OwnCls.keeps (own_of_in (K := KH.heap_1 w.params) (x := "TOMLDecodeError") (C := 28) (bmB := [.type "ValueError", .type "Exception", .type "BaseException", .type "object"]) (newId := "ValueError.__new__") (by k_asm) (by k_asm) (by k_is) (by k_exc)) F9.keep, (N9 _ (.head _)).1, ?_⟩
    show wpAny _ _ (leaving _ _) _ _ _
    refine leave_made (by assumption) F9 N9 hfr91 ?_
    intro h8 t8 R8 U8
    exact herr _ _ _ _ _ _ _ _ ⟨.inr ⟨⟨by assumption, by assumption⟩, by assumption, rfl⟩, l91, hT91, rfl⟩ (by assumption) R8 U8
  · unfold Mark
    refine raise_step (nmx := "TOMLDecodeError") (mg := mg) (by rfl) ?_
    k_steps
    k_here
    refine' CallOK.use (c_suff _ _ _ _ _ _ rest l _ _ _ _ _ _ ?shz2 ?smz2 ?spz2 hne hl ?snlz2 ?sclz2) ?k1z2 ?k2z2 ?k3z2 ?k4z2 ?k5z2 hH hC ?kKz2 ?kdz2 ?kuz2 ?retz2 ?errz2
    case k1z2 => k_asm
    case k2z2 => k_asm
    case k3z2 => k_asm
    case k4z2 => k_asm
    case k5z2 => k_asm
    case kKz2 => exact rfl
    case kdz2 => ktr_room
    case kuz2 => ktr_units
    case errz2 => (intro e9 n9 h9 tk9 hO9; exact hO9.elim)
    case shz2 => omega
    case smz2 => (show (Str.ofString _).length ≤ 1000; decide +kernel)
    case spz2 => omega
    case snlz2 => exact suff_nl (by omega)
    case sclz2 => exact suff_cnt (by omega)
    intro r9 n9 h9 tk9 hO9 F9 N9
    refine hide_goal ?_
    intro G₀ hG₀
    obtain ⟨e91, t91, u91, l91, e92, hT91, het91, hfr91, e93⟩ := hO9
    subst e92
    subst e93
    refine hG₀ ?_
    clear hG₀ G₀
    refine ⟨e91, t91, rfl, OwnCls.keeps (own_of_in (K := KH.heap_1 w.params) (x := "TOMLDecodeError") (C := 28) (bmB := [.type "ValueError", .type "Exception", .type "BaseException", .type "object"]) (newId := "ValueError.__new__") (by k_asm) (by k_asm) (by k_is) (by k_exc)) F9.keep, (N9 _ (.head _)).1, ?_⟩
    show wpAny _ _ (leaving _ _) _ _ _
    refine leave_made (by assumption) F9 N9 hfr91 ?_
    intro h8 t8 R8 U8
    exact herr _ _ _ _ _ _ _ _ ⟨.inl ⟨fun hb => absurd hb.2 (by rw [show ((hexS src pos many).cps.toList.all fun c => decide ((⟨#[c]⟩ : Str) ∈ hexSigns)) = false from by assumption]; exact Bool.false_ne_true), rfl⟩, l91, hT91, rfl⟩ (by assumption) R8 U8
end
-- StrExc
section
section
variable {prog : Program} {w : World} {M : Model} {A : Around} {E : Value → Shared → Prop} {s : Shared} {K : Frag} {e t C : Addr} {oe : Obj} {vs : Array Value} {text : Str} {u : Tok} {Q : Value → Shared → Prop}
theorem looks_cls {h : Heap} (he : h.get? e = some oe) (hc : oe.cls = .ref C) : Looks M h (typeOf (.ref e)) (.ref C) := hc ▸ (Looks.ld he).andThen .now
theorem bexc_args {Q : Value × List Value → Shared → Prop} {items : List Value} (he : s.heap.get? e = some oe) (hd : oe.data = .fields vs) (h0 : vs[0]? = some (.ref t)) (ht : s.heap.TupAt t items) (hq : Q (.ref t, items) s) :
    wpAny M A (Builtin.BaseException.bexcArgs (.ref e)) Q E s := by
  refine hide_goal ?_
  intro G₀ hG₀
  obtain ⟨ot, k, hto, _, htd⟩ := ht
  refine hG₀ ?_
  clear hG₀ G₀
  unfold Builtin.BaseException.bexcArgs
  refine wpAny_bind (wpAny_field he hd h0 (wpAny_bind (wpAny_seqItems hto htd ?_)))
  have : items.toArray.toList = items := by simp
  show wpAny M A (pure (Value.ref t, items.toArray.toList)) Q E s
  rw [this]; exact wpAny_pure hq
theorem bexc_one {Q : Fin → Shared → Prop} (he : s.heap.get? e = some oe) (hd : oe.data = .fields vs) (h0 : vs[0]? = some (.ref t)) (ht : s.heap.TupAt t [.str text u]) (hq : Q (.done (.ret (.str text u))) s) :
    wpAny (model prog w) A (Builtin.«BaseException.__str__» ⟨[.ref e], []⟩) Q E s := by
  unfold Builtin.«BaseException.__str__»
  repeat (first | with_reducible refine bexc_args he hd h0 ht ?_ | wp_step)
  exact hq
theorem bexc_call (X : K.In s.heap) (he : s.heap.get? e = some oe) (hc : oe.cls = .ref C) (hd : oe.data = .fields vs) (h0 : vs[0]? = some (.ref t)) (ht : s.heap.TupAt t [.str text u]) (hm : mroIn K C (.type "BaseException") = some true) (hq : Q (.str text u) s) :
    wpAny (model prog w) A (call (.builtin "BaseException.__str__") [.ref e]) Q E s := by
  have L := looks_cls (M := model prog w) he hc
  refine wpAny_call (codeAny_call_builtin PySem.F.excStr_ValueError.str.plain PySem.F.entry_bexc_str (check_slot (i := "BaseException.__str__") (owner := "BaseException") (n := "__str__") (by decide +kernel) (by decide +kernel) (L.andThen (looks_mroIn X hm)) (PySem.F.args_bexc_str _) ?_))
  exact bexc_one he hd h0 ht hq
theorem str_made (X : K.In s.heap) (he : s.heap.get? e = some oe) (hc : oe.cls = .ref C) (hd : oe.data = .fields vs) (h0 : vs[0]? = some (.ref t)) (ht : s.heap.TupAt t [.str text u]) (hm : mroIn K C (.type "BaseException") = some true)
    (hs : findIn K (.ref C) "__str__" = some (some (.builtin "BaseException.__str__"))) (hu : A.in1.in1.units < cLine) (hq : Q (.str text u) s) : wpAny (model prog w) A (call (.type "str") [.ref e]) Q E s := by
  refine callType_codes (T := "str") (Bi := Builtin.«object.__init__») (Q₁ := fun r s₁ => ∃ y u, r = .str y u ∧ Q r s₁) PySem.F.called_str (PySem.F.typeCall_str_1 _) PySem.F.entry_object_init ?_ ?_
  · refine codeAny_of_tree ?_
    show wpAny _ A.in1.in1 (do checkBuiltinCall "str.__new__" ⟨[.type "str", .ref e], []⟩; again (.builtin "str.__new__" ⟨[.type "str", .ref e], []⟩)) _ _ s
    refine wpAny_bind (wpAny_of_eq (PySem.F.newCall_str_1 _) (wpAny_pure ⟨plainId_quiet (by decide +kernel) _, codeAny_builtin PySem.F.entry_str_new ?_⟩))
    rw [Around.under_plainId (by decide +kernel) _]
    rw [str_new_tree]
    refine wpAny_bind (wpAny_pure ?_)
    refine wpAny_bind (wpAny_of_eq isSubtype_str_str ?_)
    have key : wpAny (model prog w) A.in1.in1 (Builtin.Str.strOf (.ref e)) (fun r s₁ => ∃ y u, r = .str y u ∧ Q r s₁) E s := by
      unfold Builtin.Str.strOf
      rw [show Builtin.Str.isExactStr (.ref e) = false from rfl]
      refine wpAny_bind (m := cRoomFor _ _) (wpAny_cRoomFor hu ?_)
      have L := looks_cls (M := model prog w) he hc
      refine wpAny_bind (m := callSpecial? (.ref e) (Str.ofString "__str__")) ?_
      refine wpAny_bind (wpAny_bind (L.here ((looks_findIn X hs).here (wpAny_holding (wpAny_bind ((Looks.of_pure (PySem.F.excStr_ValueError.str.bind _)).here (wpAny_bind ?_)))))))
      refine bexc_call (K := K) X he hc hd h0 ht hm ?_
      exact wpAny_pure (wpAny_pure ⟨_, _, rfl, hq⟩)
    exact wpAny_bind (wpAny_mono key (fun r s₁ hr => wpAny_pure hr) fun _ _ y => y)
  · intro obj s₁ hZ10
    refine hide_goal ?_
    intro G₀ hG₀
    obtain ⟨y, u, rfl, hq⟩ := hZ10
    refine hG₀ ?_
    clear hG₀ G₀
    exact ⟨typeIs_str _ _ _, PySem.F.args_object_init_2 _ _, object_init_meets PySem.F.called_str.init.lookup PySem.F.called_str.made (by decide) prog w A.in1 _ s₁ ⟨typeIs_str _ _ _, rfl, hq⟩⟩
end
theorem got_at {h₀ h : Heap} {L e t : Addr} {news : Led} {C : Addr} {vs : List Value} (N : News h₀ L h news) (G : Got news e t (.ref C) vs) : ∃ oe ws, h.get? e = some oe ∧ oe.cls = .ref C ∧ oe.data = .fields ws ∧ ws[0]? = some (.ref t) ∧ h.TupAt t vs := by
  obtain ⟨oe, ot, ws, nt, h1, h2, hc, hd, h0, htc, htd⟩ := G
  exact ⟨oe, ws, (N _ h1).1, hc, hd, h0, ot, nt, (N _ h2).1, htc, htd⟩
end
-- EntS
section
section
variable {prog : Program} {w : World} {A₀ A : Around} {s : Shared} {base h₀ : Heap} {L : Addr} {m : Str → Option Value} {env : Env} {news : Led} {K : Frag} {p : Program} {loose : List Str} {mean : ExcName → Option Value} {mg mb : Str → Option Value}
    {R : Result → Shared → Prop} {name qual : Str} {params : Arguments} {body : List Stmt} {scope : Scope} {dV kV doc pm cdv ct oc : Value} {an od : Option Addr} {osl : Array (Option Value)} {f : Addr} {args : Args} {binds : List (Str × Value)}
/-- a def that catches, called from the law's own frame, which may have cells -/
theorem enter_catcher (B : Below A₀ base [] h₀) (F : Fr h₀ L s.heap m) (X₀ : K.In h₀) (N : News h₀ L s.heap news) (T : Top p loose mean mg mb h₀) (hA : A.frames = some [env]) (hf : env.frame = some L) (hke : env.scope.kind = .function)
    (ho : K.lookup f = some ⟨oc, od, .func (fnOf name qual params body scope dV kV doc pm an cdv ct), osl⟩) (hcd : codeIn K cdv qual = true) (hroom : A.depth < recursionLimit)
    (hbind : BindsTo s (fnOf name qual params body scope dV kV doc pm an cdv ct) args binds) (hloc : ∀ y ∈ binds, scope.names.lookup y.1 = some .local)
    (h : ∀ g L' h₁, Fr h₀ L g m → Fr g L' h₁ (fun y => binds.reverse.lookup y) → News g L' h₁ news → Below A base [env] g → K.In g → Top p loose mean mg mb g → KtsDicts ([env].filterMap (·.frame)) g →
      wpAny (model prog w) (A.deeper (envOf qual scope L' f cdv)) (execs body (envOf qual scope L' f cdv))
        (fun fl s' => LeaveS0 ([env].filterMap (·.frame)) h₀ L m g R (match fl with | .ret v => v | _ => .none) s')
        (fun e s' => wpAny (model prog w) (A.deeper (envOf qual scope L' f cdv)) (leaving (envOf qual scope L' f cdv) e) (fun _ s'' => R (.error e) s'') (fun e' s'' => R (.error e') s'') s')
        { s with heap := h₁, toks := s.toks + binds.length })
    (hco : scope.isCoroutine = false) (hgen : scope.isGenerator = false) (hk : scope.kind = .function) (hcell : ∀ x ∈ scope.names, x.2 ≠ .cell) : codeAny (model prog w) A (.call (.ref f) args) R s := by
  obtain ⟨FG, BG, st, _⟩ := groundX (R := R) B F N hA hf hke
  have X := X₀.keeps F.keep
  have fs : [env].filterMap (·.frame) = [L] := by simp [hf]
  refine hide_goal ?_
  intro G₀ hG₀
  obtain ⟨oL, es, ep, hL, hLd, hLk, hLf⟩ := FG.ns
  refine hG₀ ?_
  clear hG₀ G₀
  refine codeAny_call_def (fd := fnOf name qual params body scope dV kV doc pm an cdv ct) (body := body) (binds := binds) hroom (X _ _ ho) rfl (T.nolimit.keeps F.keep) (codeRec_of X hcd) rfl hbind hcell hloc (fun h₁ hns hk₁ => ?_) hco hgen hk
  have F1 : Fr (hideAll s.heap (news.map (·.1))) s.heap.objs.size h₁ (fun y => binds.reverse.lookup y) := ⟨hns, fun b o e => hk₁ b o (of_hideAll _ e), Nat.le_of_eq (hideAll_size _ _)⟩
  have N1 : News (hideAll s.heap (news.map (·.1))) s.heap.objs.size h₁ news := fun q hq => ⟨hk₁ _ _ (N q hq).1, Nat.ne_of_lt (Heap.lt_size (N q hq).1), hideAll_none _ (List.mem_map_of_mem hq)⟩
  have D1 : KtsDicts ([env].filterMap (·.frame)) (hideAll s.heap (news.map (·.1))) := fun b hb => by
    rw [fs, List.mem_singleton] at hb
    subst hb
    exact ⟨oL, es, ep, hL, hLd⟩
  refine wpAny_mono (h _ _ h₁ FG F1 N1 BG (X₀.keeps st) (T.keeps st) D1) (fun fl s' hl => ?_) fun _ _ y => y
  refine hide_goal ?_
  intro G₀ hG₀
  obtain ⟨g', L', m', news', T', F', N', k⟩ := hl
  refine hG₀ ?_
  clear hG₀ G₀
  rw [fs] at T'
  have hL0 : h₀.get? L = none := kts_self F
  have up : ∀ b o, h₀.get? b = some o → g'.get? b = some o := fun b o e => T'.other b o (st b o e) (fun q => by
    rw [List.mem_singleton.mp q, hL0] at e; cases e)
  obtain ⟨sl, hs⟩ := T'.up hL
  refine k ⟨⟨_, es, ep, F'.keep _ _ hs, hLd, hLk, hLf⟩, fun b o e => F'.keep b o (up b o e), F.above⟩ fun q hq => ⟨(N' q hq).1, fun e => ?_, ?_⟩
  · have := (N' q hq).2.2
    rw [e, hs] at this; cases this
  · cases e : h₀.get? q.1 with
    | none => rfl
    | some o => have := (N' q hq).2.2; rw [up _ _ e] at this; cases this
end
end
-- CTold
section
theorem lines_CTold : True := by
  k_with_none
  k_with "subscriptTail Name Name ref int" => (k_here; k_dflt (refine gi_stepM (by k_asm) (by first | k_memK | (repeat (first | assumption | refine List.Mem.tail _ ?_))) (by omega) (by first | omega | assumption | (simp; omega)) (by first | omega | (simp; omega)) ?_))
  k_with "subscriptTail Name Constant ref int" => (k_here; k_dflt (refine gi_stepM (by k_asm) (by first | k_memK | (repeat (first | assumption | refine List.Mem.tail _ ?_))) (by omega) (by first | omega | assumption | (simp; omega)) (by first | omega | (simp; omega)) ?_))
  k_with "exec Try" => (k_here; (refine wpAny_Try_except ?_))
  k_with "exec Try" => (refine Mark.mk ?_)
  trivial
def CallOK0 (w : World) (p : Program) (loose : List Str) (mean : ExcName → Option Value) (mg mb : Str → Option Value) (f : Addr) (vs : List Value) (news : Led) (d u : Nat) (Out : Value → Led → Prop) : Prop :=
  ∀ (dp un : Nat) (gd : Option (List Code)) (cn : Str) (cs : Scope) (a : Addr) (ccd : Value) (cl : List (Str × Addr)) (A₀ : Around) (base h₀ : Heap) (L : Addr) (m : Str → Option Value) (s : Shared) (Q E : Value → Shared → Prop),
    Below A₀ base [] h₀ → Fr h₀ L s.heap m → (KH.heap_1 w.params).In h₀ → News h₀ L s.heap news → Top p loose mean mg mb h₀ → (KH.heap_1 w.params).In base → Top p loose mean mg mb base → HexIn w base → CodeHd base 44 40 → cs.kind = .function → dp + d < recursionLimit → un + u < cLine →
    (∀ r news' h' tk', Out r news' → Fr h₀ L h' m → News h₀ L h' news' → Q r { s with heap := h', toks := tk' }) →
    wpAny (model PySem.Challenge.rw_ik0044_01.row.prog w) (ktrTop dp un gd cn cs L a ccd cl []) (call (.ref f) vs) Q E s
theorem RaiseOK.use {w p loose mean mg mb f vs news d u Out Err} (C : RaiseOK w p loose mean mg mb f vs news d u Out Err)
  {dp un : Nat} {gd : Option (List Code)} {cn : Str} {cs : Scope} {a : Addr} {ccd : Value} {cl : List (Str × Addr)} {outer : List Env} {A₀ : Around} {base h₀ : Heap} {L : Addr} {m : Str → Option Value} {s : Shared} {Q E : Value → Shared → Prop}
  (B : Below A₀ base outer h₀) (F : Fr h₀ L s.heap m) (X : (KH.heap_1 w.params).In h₀) (N : News h₀ L s.heap news) (T : Top p loose mean mg mb h₀) (hH : HexIn w base) (hC : CodeHd base 44 40) (hk : cs.kind = .function) (hd : dp + d < recursionLimit) (hu : un + u < cLine)
  (ret : ∀ r news' h' tk', Out r news' → Fr h₀ L h' m → News h₀ L h' news' → Q r { s with heap := h', toks := tk' })
  (err : ∀ g e t txt u news' h' tk', Err txt news' → Fr h₀ L g m → RaisedS base g (envX cn cs L a ccd cl :: outer) e (.ref 28) t [.str txt u] news' h' → g.UpToSlots h' → E (.ref e) { s with heap := h', toks := tk' }) :
    wpAny (model PW w) (ktrTop dp un gd cn cs L a ccd cl outer) (call (.ref f) vs) Q E s := C dp un gd cn cs a ccd cl outer A₀ base h₀ L m s Q E B F X N T hH hC hk hd hu ret err
local macro_rules | `(tactic| walk_at "call ref") => `(tactic| (refine Mark.mk ?_))
local macro_rules | `(tactic| walk_at "call type:str") => `(tactic| (refine Mark.mk ?_))
set_option maxHeartbeats 4000000 in
theorem c_told (w p loose mean mg mb rest l) (src : Str) (pos many : Nat) (t1 t2 t3 : Tok) (hs : src.length ≤ 900) (hpos : pos ≤ src.length) (h1 : 1 ≤ many) (hmany : many ≤ 10) (hne : ∀ p ∈ rest, p.1 ≠ 40) (hl : TabSt 40 18 4 qualC l) :
    CallOK0 w p loose mean mg mb 139 [.str src t1, .int pos t2, .int many t3] (l ++ rest) 8 100 (fun r news' => outHex src pos many (l ++ rest) r news' ∨ ∃ txt u, r = .str txt u ∧ errHex src pos many rest txt news') := by
  unfold CallOK0
  k_fill
  intro dp un gd cn cs a' ccd cl A₀ base h₀ L m s Q E B F X N T XB TB hH hC hk hd hu hret
  refine wpAny_call ?_
  k_dflt (refine' enter_catcher ?k1 ?k2 ?k3 ?k4 ?k5 ?kA ?kF ?kE ?k6 ?k7 ?k8 ?k9 ?kB ?_ ?c2 ?c3 ?c4 ?c5; (case kA => exact rfl); (case kF => exact rfl); (case kE => assumption); (case k2 => k_asm); (case k1 => k_asm); (case k3 => k_asm); (case k4 => k_asm); (case k5 => k_asm); (case k6 => k_is); (case k7 => k_is); (case k8 => ktr_room); (case k9 => exact BindsTo.of_eq rfl); (case kB => exact locs rfl); (case c2 => exact rfl); (case c3 => exact rfl); (case c4 => exact rfl); (case c5 => decide); k_whole; intro g' L' h' FG' F' N' B' X' T' D'; (try dsimp only); (try k_lift B'); (try k_fold))
  k_steps
  unfold Mark
  refine wpAny_Try_except ?_
  k_steps
  unfold Mark
  k_here
  refine' RaiseOK.use (c_hex _ _ _ _ _ _ rest l _ _ _ _ _ _ ?sh ?sp ?s1 ?sm hne hl) ?k1 ?k2 ?k3 ?k4 ?k5 hH hC ?kK ?kd ?ku ?ret ?err
  case k1 => k_asm
  case k2 => k_asm
  case k3 => k_asm
  case k4 => k_asm
  case k5 => k_asm
  case kK => exact rfl
  case kd => ktr_room
  case ku => ktr_units
  case sh => omega
  case sp => omega
  case s1 => omega
  case sm => omega
  case ret =>
    intro r9 n9 h9 tk9 hO9 F9 N9
    k_steps
    exact hret _ _ _ _ (.inl hO9) (by k_asm) (by k_asm)
  intro g9 e9 t9 txt9 u9 n9 h9 tk9 hE9 FG9 R9 U9
  k_steps
  unfold Mark
  k_here
  rename Got _ _ _ _ _ => G1
  rename News _ _ _ n9 => N1
  rename Fr _ _ _ _ => F1
  rename Frag.In _ _ => X1
  refine hide_goal ?_
  intro G₀ hG₀
  obtain ⟨oe, ws, q1, q2, q3, q4, q5⟩ := got_at (by assumption) G1
  refine hG₀ ?_
  clear hG₀ G₀
  refine str_made (K := KH.heap_1 w.params) (Frag.In.keeps X1 F1.keep) q1 q2 q3 q4 q5 (by k_is) (by k_is) (by ktr_units) ?_
  k_steps
  exact hret _ _ _ _ (.inr ⟨_, _, rfl, hE9⟩) (by assumption) (by assumption)
end
-- CNl
section
theorem lines_CNl : True := by
  k_with_none
  k_with "subscriptTail Name Name ref int" => (k_here; k_dflt (refine gi_stepM (by k_asm) (by first | k_memK | (repeat (first | assumption | refine List.Mem.tail _ ?_))) (by omega) (by first | omega | assumption | (simp; omega)) (by first | omega | (simp; omega)) ?_))
  k_with "subscriptTail Name Constant ref int" => (k_here; k_dflt (refine gi_stepM (by k_asm) (by first | k_memK | (repeat (first | assumption | refine List.Mem.tail _ ?_))) (by omega) (by first | omega | assumption | (simp; omega)) (by first | omega | (simp; omega)) ?_))
  k_with "exec Try" => (k_here; (refine wpAny_Try_except ?_))
  k_with "compareOp Lt" => (k_here; k_dflt (refine row_step (by assumption) (by assumption) (by k_asm) (by intro p hp; repeat (first | assumption | exact List.mem_append_left _ hp | refine List.Mem.tail _ ?_)) (by ktr_units) ?_))
  k_with "callWith" => (k_here; k_dflt (refine callWith_m0kw ?_))
  k_with "subscriptTail Name Constant ref int" => (k_here; (with_unfolding_all refine item_litK (by is_list) (by decide) (by decide) (by rfl) ?_ (by with_unfolding_all rfl)))
  trivial
local macro_rules | `(tactic| walk_at "call builtin:iter") => `(tactic| (refine Mark.mk ?_))
local macro_rules | `(tactic| walk_at "call type:zip") => `(tactic| (refine Mark.mk ?_))
local macro_rules | `(tactic| walk_at "pyIter ref") => `(tactic| (refine Mark.mk ?_))
local macro_rules | `(tactic| walk_at "exec For Name Name cons nil") => `(tactic| (refine Mark.mk ?_))
local macro_rules | `(tactic| walk_at "callWith ref") => `(tactic| (k_here; k_dflt (refine callWith_K (by k_asm) (by k_is) ?_)))
set_option maxHeartbeats 4000000 in
theorem c_nlargest (w p loose mean mg mb) (a : Addr) (vs : List Value) (n : Nat) (rest : Led) (t : Tok) (hne : ∀ p ∈ rest, p.1 ≠ a) (key : Addr → Int × Int) (hrow : ∀ v ∈ vs, domR key rest v) (hkey : ∀ i j, i < j → j < vs.length → key (adr (vs.getD i .none)) ≠ key (adr (vs.getD j .none)))
    (h2 : 3 ≤ vs.length) (hb : vs.length ≤ 1000) :
    CallOK w p loose mean mg mb 127 [.int 2 t, .ref a] ((a, listOf vs.toArray n) :: rest) 5 100 (fun r news' => ∃ R n', r = .ref R ∧ (∀ p ∈ ((a, PySem.W.listOf vs.toArray n) :: rest : Led), p.1 ≠ R) ∧ news' = (R, PySem.W.listOf (ns2 (flipB (ltR key)) vs).toArray n') :: (a, PySem.W.listOf vs.toArray n) :: rest) (fun _ _ => False) := by
  unfold CallOK
  k_fill
  intro dp un gd cn cs a' ccd cl outer A₀ base h₀ L m s Q E B F X N T hH hC hk hd hu hret herr
  refine wpAny_call ?_
  k_dflt (refine' code_defC ?k1 ?k2 ?k3 ?k4 ?k5 ?kA ?kF ?kK ?k6 ?k7 ?k8 ?k9 ?kB ?kD ?_ ?c2 ?c3 ?c4; (case kA => exact rfl); (case kF => exact rfl); (case kK => assumption); (case k1 => k_asm); (case k2 => k_asm); (case k3 => k_asm); (case k4 => k_asm); (case k5 => k_asm); (case k6 => k_is); (case k7 => k_is); (case k8 => ktr_room); (case k9 => first | exact BindsTo.of_eq rfl | exact binds_K (by k_in) rfl (by k_is) rfl rfl rfl | fail "k_enter: no rule for these arguments"); (case kB => exact rfl); (case kD => decide +kernel); (case c2 => exact rfl); (case c3 => exact rfl); (case c4 => exact rfl); k_whole; intro g' L' h' tk' cells' FG' F' N' Y' B' X' T' l1; (try k_lt l1); k_cells Y'; (try simp only [List.cons_append, List.nil_append] at N'); (try dsimp only); (try k_lift B'); (try k_fold))
  k_steps
  unfold Mark
  rename Fr _ _ _ _ => F1
  rename News _ _ _ _ => N1
  rename Obj => oc
  refine iter_step F1 N1 (.tail _ (.head _)) ?_
  clear F1 N1
  intro I h1 io F1 N1 lI hio
  k_steps
  unfold Mark
  rename Fr _ _ _ _ => F1
  rename News _ _ _ _ => N1
  refine zip_step (n := 2) F1 N1 (by assumption) (by decide) (by decide) (.head _) hio ?_
  clear F1 N1
  intro z TI TO ri h2 F1 N1 l0 o2 o3 o4
  k_steps
  unfold Mark
  refine wpAny_pyIter_zip (N1 _ (.head _)).1 ?_
  have o1 := l0 _ (.head _)
  refine ⟨NsJ z TI TO ri I a (vs.getD 0 .none) (vs.getD 1 .none) (-1) _, 2, _, F1, N1, .s2 _ hio, ?_, ?_, ?_⟩
  · exact NsJ_len
  · exact fun s Q E N hq => wpAny_pyIter_zip (N _ (.head _)).1 hq
  · have hr : ∀ p ∈ ((_, _) :: (a, PySem.W.listOf vs.toArray n) :: rest : Led), p.1 < I := lI
    have hr4 := hr4_of hr o1 o2 o3 o4
    clear hio N1 F1
    intro k ys m' news' h tk D C E' hJ
    obtain ⟨io0, T0, t0, T1, t1, x, hio0, b1, b2, b3, b4, b5, b6, b7, b8, b9⟩ | ⟨io0, T0, t0, x, hio0, b1, b2, b3, b4⟩ | ⟨io0, hio0⟩ := hJ
    · intro F2 hn N2 off hCD hCL hC0
      refine ns_fin (by rfl) F2 hn N2 off hCL hC0 (hr4_cons ⟨b8, b7, b6, Nat.ne_of_gt b5⟩ (hr4_cons ⟨b4, b3, b2, Nat.ne_of_gt b1⟩ hr4)) o1 o2 o3 o4 (by decide) ?_
      intro h' F3 hn3 N3
      refine ⟨h', _, m', _, rfl, F3, hn3, N3, ?_, ?_⟩
      · exact fun p hp => off p (.tail _ (.tail _ (.tail _ (.tail _ hp))))
      · unfold LCg.FinA
        intro D2 h5 tk5 F5 N5 o5
        clear N2 N3 F2 F3
        k_steps
        have hx0 := hrow _ (getD_mem (vs := vs) (i := 0) (by omega))
        have hx1 := hrow _ (getD_mem (vs := vs) (i := 1) (by omega))
        have hD := off1_ne o5
        refine' CallOK.use (c_min2 (P := T0) (Q := T1) hx0 hx1 (hkey 0 1 (by decide) (by omega)) ?hsub (Ne.symm b9) ?m1 ?m2 hD) ?k1 ?k2 ?k3 ?k4 ?k5 ?kH ?kC ?kK ?kd ?ku ?ret ?err
        case k1 => k_asm
        case k2 => k_asm
        case k3 => k_asm
        case k4 => k_asm
        case k5 => k_asm
        case kH => assumption
        case kC => assumption
        case kK => first | exact rfl | assumption
        case kd => ktr_room
        case ku => ktr_units
        case err => exact fun _ _ _ _ h => h.elim
        case hsub => exact fun p hp => .tail _ (.tail _ (.tail _ (.tail _ (.tail _ hp))))
        case m1 => exact .tail _ (.tail _ (.head _))
        case m2 => exact .tail _ (.head _)
        case ret =>
          intro r news' h6 tk6 hZ10 F6 N6
          obtain ⟨rfl, rfl⟩ := hZ10
          obtain ⟨P, Q, ip, iq, tp, tq, n7, c1, c2, c3, c4, c5, N7⟩ := ns_ini (flipB (ltR key)) N6 (hD _ (.tail _ (.tail _ (.head _)))) (hD _ (.tail _ (.head _))) (Ne.symm b9) (Nat.ne_of_gt b1) (Nat.ne_of_gt b5)
          simp only [List.cons_append] at N7
          clear N6 N5 F5
          k_steps
          unfold Mark
          rename Fr _ _ _ _ => F8
          rename News _ _ _ _ => N8
          with_unfolding_all refine' For_invVF F8 ?_ ?_ ?_
          · exact rfl
          · exact rfl
          k_steps
          unfold Mark
          have hIx := N8 (I, io0) (by simp)
          refine wpAny_pyIter_listiter (hio0.at hIx.1) ?_
          have haI : a ≠ I := Nat.ne_of_lt (lI _ (.tail _ (.head _)))
          have hax := (N8 (a, PySem.W.listOf vs.toArray n) (by simp))
          have hav := PySem.IsL.isList (n := n) hax.1
          refine iter_walk (NsL _ (flipB (ltR key)) vs D2 I ((L' + 1, oc) :: (a, PySem.W.listOf vs.toArray n) :: rest)) rfl (walks_shift (Walks.list (by rfl) I a haI vs.toArray) 2 (by simp; omega)) (fun i h st => by obtain ⟨o, e, _⟩ := st.1; exact ⟨o, e⟩) (.head _) hIx.2.2 ?hL ?hfix ⟨hio0.at hIx.1, hav⟩ F8 ?hN ?hn ⟨_, _, _, by rfl, by rfl, fun _ _ => rfl, P, Q, ip, iq, tp, tq, n7, c1, c2, c3, c4, c5, NsP.ini, rfl⟩ ?turn ?done
          case hL =>
            show L' ∉ [I, a]
            intro hmm
            rcases List.mem_cons.mp hmm with e9 | e9
            · exact hIx.2.1 e9.symm
            · exact hax.2.1 (List.mem_singleton.mp e9).symm
          case hfix =>
            intro b hb hbI
            rcases List.mem_cons.mp hb with e9 | e9
            · exact absurd e9 hbI
            · rw [List.mem_singleton.mp e9]
              refine .inr ⟨PySem.W.listOf vs.toArray n, ?_⟩
              intro i m nx hZ20
              cases hZ20
              exact .tail _ (.tail _ (.tail _ (.tail _ (.head _))))
          case hN =>
            intro p hp
            refine N8 p ?_
            simp only [List.mem_cons, List.mem_append] at hp ⊢
            rcases hp with h | h | h | h | h | h <;> simp only [h, true_or, or_true]
          case hn =>
            intro p hp
            rcases List.mem_cons.mp hp with rfl | hp
            · exact fun e9 => hD (I, io0) (.head _) e9.symm
            · rcases List.mem_cons.mp hp with rfl | hp
              · exact c4
              · rcases List.mem_cons.mp hp with rfl | hp
                · exact c5
                · exact Nat.ne_of_lt (lI p hp)
          case turn =>
            intro i v m₁ news₁ h tk io hi hP hZ30
            obtain ⟨st, o, tt, ht, ho, hm, P, Q, ip, iq, tp, tq, n7, c1, c2, c3, c4, c5, hNP, hfo⟩ := hZ30
            intro hoff F9 N9
            have hi2 : i + 2 < vs.length := by simp at hi; omega
            have hv : v = vs.getD (i + 2) .none := by
              have hP' : vs.toArray[i + 2]? = some v := hP
              rw [arr_get hi2] at hP'
              exact (Option.some.inj hP').symm
            subst hv
            have e := ov_eq [("elem", m₁ "elem"), ("top", some st.1), ("order", some (.int o tt)), ("_order", m₁ "_order")] (by simp [ht, ho]) hm
            generalize m₁ "elem" = u1 at e
            generalize m₁ "_order" = u2 at e
            subst e
            simp only [List.cons_append] at N9
            have hve := hrow _ (getD_mem hi2)
            obtain ⟨j1, j2, k1, k2, k3, q1, q2⟩ := hNP
            have hs1 : domR key rest st.1 := q1 ▸ hrow _ (getD_mem (by omega))
            have hs2 : domR key rest st.2 := q2 ▸ hrow _ (getD_mem (by omega))
            clear N8 F8 ht ho hm
            k_steps
            · rename_i R h9 F10 N10 l9
              have hcond : flipB (ltR key) (vs.getD (i + 2) .none) st.1 = true := (show ltR key st.1 (vs.getD (i + 2) .none) = true by assumption)
              have hk9 : key (adr (vs.getD (i + 2) .none)) ≠ key (adr st.2) := by rw [q2]; exact keys_ne hkey hi2 (by omega) (by omega)
              refine' CallOK.use (c_repmin2 (P := P) (Q := Q) (R := R) hs1 hs2 hve hk9 ?hsub c3 (Nat.ne_of_gt l9.2.1) (Nat.ne_of_gt l9.2.2.1) ?m1 ?m2 ?m3 ?hne) ?k1 ?k2 ?k3 ?k4 ?k5 ?kH ?kC ?kK ?kd ?ku ?ret ?err
              case k1 => k_asm
              case k2 => k_asm
              case k3 => k_asm
              case k4 => exact News.swap (by k_asm)
              case k5 => k_asm
              case kH => assumption
              case kC => assumption
              case kK => first | exact rfl | assumption
              case kd => ktr_room
              case ku => ktr_units
              case err => exact fun _ _ _ _ h => h.elim
              case hsub => exact fun p hp => .tail _ (.tail _ (.tail _ (.tail _ (.tail _ (List.mem_append_left _ hp)))))
              case m1 => exact .tail _ (.head _)
              case m2 => exact .tail _ (.tail _ (.head _))
              case m3 => exact .head _
              case hne =>
                intro p hp
                rcases List.mem_cons.mp hp with rfl | hp
                · exact Nat.ne_of_gt l9.1
                · exact ns_hne c1 c2 hD hp
              case ret =>
                rintro r news' h11 tk11 rfl F11 N11
                have hI9 : I < R := allLt_at l9.2.2.2.2.2 (I, io) (List.mem_append_right _ (.head _))
                obtain ⟨P', Q', ip', iq', tp', tq', n', c1', c2', c3', c4', c5', N12⟩ := ns_rep (base := (L' + 1, oc) :: (a, PySem.W.listOf vs.toArray n) :: rest) (flipB (ltR key)) hcond N11 (Nat.ne_of_gt l9.1) c2 (Nat.ne_of_gt l9.2.2.1) (Nat.ne_of_gt hI9) c5
                have g1 := ns_fold hfo hi2
                have g2 := NsP.step (lt := flipB (ltR key)) ⟨j1, j2, k1, k2, k3, q1, q2⟩
                simp only [List.cons_append] at N12
                clear N11 N10 F10
                generalize nsStep (flipB (ltR key)) st (vs.getD (i + 2) .none) = st' at N12 g1 g2
                k_steps
                refine wk_next (by k_asm) (nx := (D2, PySem.W.listOf [.ref P', .ref Q'].toArray n') :: (P', prO st'.1 (.int ip' tp')) :: (Q', prO st'.2 (.int iq' tq')) :: (L' + 1, oc) :: (a, PySem.W.listOf vs.toArray n) :: rest) (by k_asm) (ns_off (Ne.symm (hD (I, io0) (.head _))) c4' c5' lI) ⟨st', _, _, by rfl, by rfl, ?_, P', Q', ip', iq', tp', tq', n', c1', c2', c3', c4', c5', g2, g1⟩
                exact up_off (by k_memK) (up_off (by k_memK) (up_off (by k_memK) (up_off (by k_memK) fun y hy => ov_off hy)))
            · have hcond : flipB (ltR key) (vs.getD (i + 2) .none) st.1 = false := (show ltR key st.1 (vs.getD (i + 2) .none) = false by assumption)
              have est : nsStep (flipB (ltR key)) st (vs.getD (i + 2) .none) = st := by unfold nsStep; rw [if_neg (by rw [hcond]; exact Bool.false_ne_true)]
              have g1 := ns_fold hfo hi2
              have g2 := NsP.step (lt := flipB (ltR key)) ⟨j1, j2, k1, k2, k3, q1, q2⟩
              rw [est] at g1 g2
              refine wk_next (by k_asm) (nx := (D2, PySem.W.listOf [.ref P, .ref Q].toArray n7) :: (P, prO st.1 (.int ip tp)) :: (Q, prO st.2 (.int iq tq)) :: (L' + 1, oc) :: (a, PySem.W.listOf vs.toArray n) :: rest) (by k_asm) (ns_off (Ne.symm (hD (I, io0) (.head _))) c4 c5 lI) ⟨st, _, _, by rfl, by rfl, ?_, P, Q, ip, iq, tp, tq, n7, c1, c2, c3, c4, c5, g2, g1⟩
              exact up_off (by k_memK) fun y hy => ov_off hy
          case done =>
            intro m₁ news₁ h tk hZ40
            obtain ⟨st, o, tt, ht, ho, hm, P, Q, ip, iq, tp, tq, n7, c1, c2, c3, c4, c5, hNP, hfo⟩ := hZ40
            intro hoff F9 N9
            have e := ov_eq [("elem", m₁ "elem"), ("top", some st.1), ("order", some (.int o tt)), ("_order", m₁ "_order")] (by simp [ht, ho]) hm
            generalize m₁ "elem" = u1 at e
            generalize m₁ "_order" = u2 at e
            subst e
            obtain ⟨j1, j2, k1, k2, k3, q1, q2⟩ := hNP
            have z1 : j1 < vs.length := by simp at k1; omega
            have z2 : j2 < vs.length := by simp at k2; omega
            have hs1 : domR key rest st.1 := q1 ▸ hrow _ (getD_mem z1)
            have hs2 : domR key rest st.2 := q2 ▸ hrow _ (getD_mem z2)
            have hkk : key (adr st.1) ≠ key (adr st.2) := by rw [q1, q2]; exact keys_ne hkey z1 z2 k3
            have hfo2 : ns2 (flipB (ltR key)) vs = nsFin (flipB (ltR key)) st := by
              unfold ns2
              rw [← hfo, List.drop_of_length_le (by simp; omega)]
              rfl
            clear N8 F8 ht ho hm hfo q1 q2
            obtain ⟨s1, s2⟩ := st
            refine hide_goal ?_
            intro G₀ hG₀
            obtain ⟨r1, ta, ua, ca, er1, hr1⟩ := hs1
            obtain ⟨r2, tb, ub, cb, er2, hr2⟩ := hs2
            refine hG₀ ?_
            clear hG₀ G₀
            simp only at er1 er2 hkk
            subst er1
            subst er2
            show wpAny _ _ _ _ _ _
            k_steps
            have hDb : ∀ p ∈ ((P, prO (.ref r1) (.int ip tp)) :: (Q, prO (.ref r2) (.int iq tq)) :: (L' + 1, oc) :: (a, PySem.W.listOf vs.toArray n) :: rest : Led), p.1 ≠ D2 := fun p hp => ns_hne (I := I) (io := io0) (oP := prO (.ref r1) (.int ip tp)) (oQ := prO (.ref r2) (.int iq tq)) c1 c2 hD (by
              simp only [List.mem_cons, List.mem_append] at hp ⊢
              rcases hp with h | h | h | h | h <;> simp only [h, true_or, or_true])
            refine sort_two_rev (by k_asm) (by k_asm) hDb (.head _) (.tail _ (.head _)) (.tail _ (.tail _ (.tail _ (.tail _ hr1)))) (.tail _ (.tail _ (.tail _ (.tail _ hr2)))) hkk (by ktr_units) fun h12 c12 F12 N12 => ?_
            obtain ⟨P', Q', x', y', ip', iq', tp', tq', hfin, N13⟩ := ns_endE (st := (.ref r1, .ref r2)) (flipB (ltR key)) N12
            clear N12 N9 F9
            k_steps
            unfold Mark
            refine comp_list (vs := [.ref P', .ref Q']) (n := c12) (fun i ys nw => ys = [x', y'].take i ∧ nw = (D2, PySem.W.listOf [.ref P', .ref Q'].toArray c12) :: (P', prO x' (.int ip' tp')) :: (Q', prO y' (.int iq' tq')) :: (L' + 1, oc) :: (a, PySem.W.listOf vs.toArray n) :: rest) (by rfl) let_tuple (by k_asm) (by k_asm) (.inr (fun i ys nw h => h.2 ▸ .head _)) ⟨rfl, rfl⟩ (by simp) (by rintro i ys nw ⟨rfl, _⟩; simp; omega) ?turn2 ?fin2
            case turn2 =>
              intro i I5 io5 ys m5 nw h5 tk5 D5 C5 s5 E5 hi hZ50 F14 hn14 N14 off14 hoff14 hCD5 hCL5 hC05 hZ51
              refine hide_goal ?_
              intro G₀ hG₀
              obtain ⟨rfl, rfl⟩ := hZ50
              obtain ⟨h55, rfl⟩ := hZ51
              refine hG₀ ?_
              clear hG₀ G₀
              have hi' : i = 0 ∨ i = 1 := by simp at hi; omega
              rcases hi' with rfl | rfl
              · refine turn_pair (T := P') (a := x') (b := .int ip' tp') (by rfl) (by rfl) (by rfl) (by decide) (by rfl) F14 hn14 N14 off14 hCD5 hCL5 hC05 ⟨_, (N14 (P', prO x' (.int ip' tp')) (by simp)).1, rfl, _, rfl⟩ ?_
                intro h6 tk6 oC m₂ hoC hm1 hm2 F15 N15
                clear N14 F14
                k_steps
                exact cp_end hoC (by k_asm) (by k_asm) (.head _) (.tail _ (.head _)) (fun p hp => .tail _ (.tail _ hp)) off14 (Nat.lt_succ_self 0) ⟨rfl, _, rfl, hoff14, rfl, rfl⟩
              · refine turn_pair (T := Q') (a := y') (b := .int iq' tq') (by rfl) (by rfl) (by rfl) (by decide) (by rfl) F14 hn14 N14 off14 hCD5 hCL5 hC05 ⟨_, (N14 (Q', prO y' (.int iq' tq')) (by simp)).1, rfl, _, rfl⟩ ?_
                intro h6 tk6 oC m₂ hoC hm1 hm2 F15 N15
                clear N14 F14
                k_steps
                exact cp_end hoC (by k_asm) (by k_asm) (.head _) (.tail _ (.head _)) (fun p hp => .tail _ (.tail _ hp)) off14 (Nat.lt_succ_self 1) ⟨rfl, _, rfl, hoff14, rfl, rfl⟩
            case fin2 =>
              intro ys nw s5 hZ60 hZ61
              refine hide_goal ?_
              intro G₀ hG₀
              obtain ⟨h55, rfl⟩ := hZ60
              obtain ⟨rfl, rfl⟩ := hZ61
              refine hG₀ ?_
              clear hG₀ G₀
              unfold LCg.FinE
              intro D5 h6 tk6 F15 N15 o15
              clear N13
              k_steps
              have e5 : ns2 (flipB (ltR key)) vs = [x', y'] := hfo2.trans hfin
              refine hret _ ((D5, PySem.W.listOf [x', y'].toArray 2) :: (a, PySem.W.listOf vs.toArray n) :: rest) _ _ ⟨D5, 2, rfl, fun p hp => off1_ne o15 p (.tail _ (.tail _ (.tail _ (.tail _ hp)))), by rw [e5]⟩ (by k_asm) (News.sub (by k_asm) ?_)
              intro p hp
              rcases List.mem_cons.mp hp with rfl | hp
              · exact .head _
              · exact .tail _ (.tail _ (.tail _ (.tail _ (.tail _ hp))))
    · intro F2 hn N2 off hCD hCL hC0
      refine ns_turn hio0 F2 hn N2 off hCL hC0 (hr4_cons ⟨b4, b3, b2, Nat.ne_of_gt b1⟩ hr4) (.tail _ (.tail _ (.head _))) o1 o2 o3 o4 (by decide) (arr_get (vs := vs) (k := 1) (by omega)) ?_
      intro T h' io' F3 hn3 N3 hio3 hT
      refine turn_pair (by rfl) (by rfl) (by rfl) (by decide) (by rfl) F3 hn3 N3 (off_same off rfl) hCD hCL hC0 hT ?_
      intro h4 tk4 oC m₂ hoC hm1 hm2 F4 N4
      clear N2 N3 F2 F3
      k_steps
      rename_i T1 _ _ _ l9
      refine cp_end hoC (by k_asm) (by k_asm) (.tail _ (.head _)) (.tail _ (.tail _ (.head _))) ?sub ?off9 (k' := 0) (by decide) (.s0 io' T0 t0 T1 tk (.int (-1) tk) hio3 b1 b2 b3 b4 (l9.2.2.2.2.2.2.1) (Nat.ne_of_gt l9.2.2.2.2.2.1) (Nat.ne_of_gt l9.2.2.2.2.1) (Nat.ne_of_gt l9.2.2.1) (Nat.ne_of_gt l9.2.2.2.2.2.2.2.1))
      case sub => exact sub_ins
      case off9 => exact off_ins (off_same off rfl) ⟨Nat.ne_of_gt l9.1, Nat.ne_of_gt l9.2.1⟩
    · intro F2 hn N2 off hCD hCL hC0
      refine ns_turn hio0 F2 hn N2 off hCL hC0 hr4 (.tail _ (.head _)) o1 o2 o3 o4 (by decide) (arr_get (vs := vs) (k := 0) (by omega)) ?_
      intro T h' io' F3 hn3 N3 hio3 hT
      refine turn_pair (by rfl) (by rfl) (by rfl) (by decide) (by rfl) F3 hn3 N3 (off_same off rfl) hCD hCL hC0 hT ?_
      intro h4 tk4 oC m₂ hoC hm1 hm2 F4 N4
      clear N2 N3 F2 F3
      k_steps
      rename_i T0 _ _ _ l9
      refine cp_end hoC (by k_asm) (by k_asm) (.tail _ (.head _)) (.tail _ (.tail _ (.head _))) ?sub2 ?off92 (k' := 1) (by decide) (.s1 io' T0 tk (.int 0 tk) hio3 (l9.2.2.2.2.2.2.1) (Nat.ne_of_gt l9.2.2.2.2.2.1) (Nat.ne_of_gt l9.2.2.2.2.1) (Nat.ne_of_gt l9.2.2.1))
      case sub2 => exact sub_ins
      case off92 => exact off_ins (off_same off rfl) ⟨Nat.ne_of_gt l9.1, Nat.ne_of_gt l9.2.1⟩
end
-- LawD
def qv : Program := view pw [25]
def looseV : List Str := ["digits", "hexdigits", "__name__", "HEXDIGIT_CHARS", "TOMLDecodeError", "parse_hex_char", "suffixed_err", "is_unicode_scalar_value", "heappop", "heapreplace", "heapify", "_heapreplace_max", "_heapify_max", "_siftdown", "_siftup", "_siftdown_max", "_siftup_max", "nsmallest", "nlargest", "_law_group", "_law_told", "_law_where", "_law_rising"]
def YPv (w : World) (h : Heap) : Prop := (KH.heap_1 w.params).In h ∧ HexIn w h ∧ TabsAt [(44, 40)] h
abbrev lawEnv (d : DefRec) (L a : Addr) (cd : Value) : Env := envOfC d.name d.scope L a cd
/-- the numbers that the law reads -/
def numsT (ns : List Int) : List Int := ns.take 4 ++ [97, 65, 32762, 55298, 97, 60, 57343]
def sepT (x : Int) : Str := if (x.fdiv 3).fmod 2 = 0 then Str.ofString " " else Str.ofString "\n"
def srcT (l : List Int) : Str := l.foldl (fun s x => s ++ sepT x ++ groupT x) (Str.ofString "")
theorem srcT_snoc (l : List Int) (x : Int) : srcT (l ++ [x]) = srcT l ++ sepT x ++ groupT x := by unfold srcT; rw [List.foldl_append]; rfl
theorem sepT_len (x : Int) : (sepT x).length = 1 := by
  unfold sepT
  split
  · exact ll10
  · exact ll11
theorem groupT_len (x : Int) : (groupT x).length = 4 := by
  unfold groupT PySem.Txt.join
  rw [StrLaws.glued_eq_join]
  have e : ∀ a b c d : Str, PySem.Str.join (Str.ofString "") [a, b, c, d] = a ++ Str.ofString "" ++ (b ++ Str.ofString "" ++ (c ++ Str.ofString "" ++ d)) := fun a b c d => rfl
  rw [e]
  simp only [Str.length_append, partS_len, ll0]
theorem srcGo_len : ∀ (l : List Int) (s : Str), (l.foldl (fun s x => s ++ sepT x ++ groupT x) s).length = s.length + 5 * l.length
  | [], s => rfl
  | x :: r, s => by
    rw [List.foldl_cons, srcGo_len r]
    simp only [Str.length_append, sepT_len, groupT_len, List.length_cons]
    omega
theorem srcT_len (l : List Int) : (srcT l).length = 5 * l.length := by
  unfold srcT
  rw [srcGo_len, ll0]
  omega
-- LawP
section
open PySem.Builtin PySem.Builtin.Str
/-- the sign codes of a group -/
def cOf (x : Int) (j : Nat) : Nat := (partS x j).cps.toList.headD 0
theorem partS_cps (x : Int) (j : Nat) : (partS x j).cps.toList = [cOf x j] := by
  have h : (partS x j).cps.toList.length = 1 := by rw [Array.length_toList]; exact partS_len x j
  unfold cOf
  match hh : (partS x j).cps.toList, h with
  | [c], _ => rfl
theorem toList_append (a b : Str) : (a ++ b).cps.toList = a.cps.toList ++ b.cps.toList := by rw [Str.cps_append, Array.toList_append]
theorem group_cps (x : Int) : (groupT x).cps.toList = [cOf x 0, cOf x 1, cOf x 2, cOf x 3] := by
  unfold groupT PySem.Txt.join
  rw [StrLaws.glued_eq_join]
  have e : ∀ a b c d : Str, PySem.Str.join (Str.ofString "") [a, b, c, d] = a ++ Str.ofString "" ++ (b ++ Str.ofString "" ++ (c ++ Str.ofString "" ++ d)) := fun a b c d => rfl
  have e0 : (Str.ofString "").cps.toList = [] := by decide +kernel
  rw [e]
  simp only [toList_append, partS_cps, e0, List.append_nil, List.cons_append, List.nil_append]
theorem src_at : ∀ (l : List Int) (s : Str) (k : Nat), k < l.length → ∃ rest, ((l.foldl (fun s x => s ++ sepT x ++ groupT x) s).cps.toList.drop (s.length + 5 * k + 1)) = (groupT (l.getD k 0)).cps.toList ++ rest ∧ (rest = [] ∨ ∃ y rr, rest = (sepT y).cps.toList ++ rr)
  | [], s, k, h => absurd h (Nat.not_lt_zero _)
  | x :: r, s, k, h => by
    rw [List.foldl_cons]
    have hs : s.cps.toList.length = s.length := Array.length_toList
    have hx : (sepT x).cps.toList.length = 1 := by rw [Array.length_toList]; exact sepT_len x
    cases k with
    | zero =>
      have gen : ∀ (r : List Int) (t : Str), ∃ rest, (r.foldl (fun s x => s ++ sepT x ++ groupT x) t).cps.toList = t.cps.toList ++ rest ∧ (rest = [] ∨ ∃ y rr, rest = (sepT y).cps.toList ++ rr) := by
        intro r
        induction r with
        | nil => exact fun t => ⟨[], by simp, .inl rfl⟩
        | cons y r ih =>
          intro t
          rw [List.foldl_cons]
          obtain ⟨rest, h1, _⟩ := ih (t ++ sepT y ++ groupT y)
          refine ⟨(sepT y).cps.toList ++ ((groupT y).cps.toList ++ rest), ?_, .inr ⟨y, _, rfl⟩⟩
          rw [h1, toList_append, toList_append]
          simp only [List.append_assoc]
      obtain ⟨rest, h1, h2⟩ := gen r (s ++ sepT x ++ groupT x)
      refine ⟨rest, ?_, h2⟩
      rw [h1, toList_append, toList_append]
      have e : s.length + 5 * 0 + 1 = (s.cps.toList ++ (sepT x).cps.toList).length := by rw [List.length_append, hs, hx]
      rw [e, List.append_assoc, List.drop_left]
      rfl
    | succ k =>
      obtain ⟨rest, h1, h2⟩ := src_at r (s ++ sepT x ++ groupT x) k (Nat.lt_of_succ_lt_succ h)
      refine ⟨rest, ?_, h2⟩
      have e : s.length + 5 * (k + 1) + 1 = (s ++ sepT x ++ groupT x).length + 5 * k + 1 := by
        simp only [Str.length_append, sepT_len, groupT_len]; omega
      rw [e, h1]
      rfl
theorem item_low : ∀ f : Nat, f < 16 → hexB ((PySem.Txt.item (Str.ofString "0123456789abcdef") (f : Int)).cps.toList.headD 0) = true ∧ hexD ((PySem.Txt.item (Str.ofString "0123456789abcdef") (f : Int)).cps.toList.headD 0) = f := by decide +kernel
theorem item_up : ∀ f : Nat, f < 16 → hexB ((PySem.Txt.item (Str.ofString "0123456789ABCDEF") (f : Int)).cps.toList.headD 0) = true ∧ hexD ((PySem.Txt.item (Str.ofString "0123456789ABCDEF") (f : Int)).cps.toList.headD 0) = f := by decide +kernel
theorem cOf_hex {x : Int} {j : Nat} (h : x.fmod 6 ≠ 5) : hexB (cOf x j) = true ∧ hexD (cOf x j) = (figN x j).toNat := by
  have hf := figN_range x j
  have hn : (((figN x j).toNat : Nat) : Int) = figN x j := Int.toNat_of_nonneg hf.1
  have hl : (figN x j).toNat < 16 := by omega
  unfold cOf partS
  rw [if_neg (fun q => h q.1)]
  have e : PySem.Txt.item (rowS x) (figN x j) = PySem.Txt.item (rowS x) (((figN x j).toNat : Nat) : Int) := by rw [hn]
  rw [e]
  unfold rowS
  split
  · exact item_low _ hl
  · exact item_up _ hl
theorem g_code : (Str.ofString "g").cps.toList.headD 0 = 103 := by decide +kernel
theorem cOf_g {x : Int} (h : x.fmod 6 = 5) : ∃ j, j < 4 ∧ cOf x j = 103 := by
  have h1 : 0 ≤ (x.fdiv 6).fmod 4 := Int.fmod_nonneg_of_pos _ (by decide)
  have h2 : (x.fdiv 6).fmod 4 < 4 := Int.fmod_lt_of_pos _ (by decide)
  refine ⟨((x.fdiv 6).fmod 4).toNat, by omega, ?_⟩
  unfold cOf partS
  rw [if_pos ⟨h, Int.toNat_of_nonneg h1⟩]
  exact g_code
theorem sep_code (x : Int) : ∃ c, (sepT x).cps.toList = [c] ∧ hexB c = false := by
  unfold sepT
  split
  · exact ⟨32, by decide +kernel, by decide⟩
  · exact ⟨10, by decide +kernel, by decide⟩
theorem src_drop {nums : List Int} {k : Nat} (h : k < nums.length) : ∃ rest, (srcT nums).cps.toList.drop (5 * k + 1) = [cOf (nums.getD k 0) 0, cOf (nums.getD k 0) 1, cOf (nums.getD k 0) 2, cOf (nums.getD k 0) 3] ++ rest ∧ (rest = [] ∨ ∃ c rr, rest = c :: rr ∧ hexB c = false) := by
  obtain ⟨rest, h1, h2⟩ := src_at nums (Str.ofString "") k h
  refine ⟨rest, ?_, ?_⟩
  · rw [← group_cps, ← h1]
    unfold srcT
    rw [ll0]
    simp
  · rcases h2 with h2 | ⟨y, rr, rfl⟩
    · exact .inl h2
    · obtain ⟨c, hc, hb⟩ := sep_code y
      exact .inr ⟨c, rr, by rw [hc]; rfl, hb⟩
theorem hexS_list (src : Str) (pos many : Nat) : (hexS src pos many).cps.toList = (src.cps.toList.drop pos).take many := by
  have e : (pos : Int) + (many : Int) = ((pos + many : Nat) : Int) := by push_cast; rfl
  unfold hexS
  rw [e, slice_list src (Nat.le_add_right _ _)]
  congr 1
  omega
theorem hexS_len (src : Str) (pos many : Nat) : (hexS src pos many).length = ((src.cps.toList.drop pos).take many).length := by
  rw [← hexS_list]
  exact Array.length_toList.symm
theorem all_hex {l : List Nat} : (l.all fun c => decide ((⟨#[c]⟩ : Str) ∈ hexSigns)) = true ↔ ∀ c ∈ l, hexB c = true := by
  rw [List.all_eq_true]
  exact ⟨fun h c hc => by rw [← hexSign]; exact h c hc, fun h c hc => by rw [hexSign]; exact h c hc⟩
def numT (x : Int) : Int := x.fmod 65536
theorem numT_range (x : Int) : 0 ≤ numT x ∧ numT x < 65536 := ⟨Int.fmod_nonneg_of_pos _ (by decide), Int.fmod_lt_of_pos _ (by decide)⟩
theorem fig_nat (x : Int) (j : Nat) : (figN x j).toNat = (numT x).toNat / 16 ^ (3 - j) % 16 := by
  obtain ⟨n, hn⟩ := Int.eq_ofNat_of_zero_le (numT_range x).1
  have e2 : figN x j = ((n / 16 ^ (3 - j) % 16 : Nat) : Int) := by
    unfold figN
    show ((numT x).fdiv (16 ^ (3 - j))).fmod 16 = _
    rw [hn]
    have p : (0 : Int) ≤ 16 ^ (3 - j) := Int.pow_nonneg (by decide)
    rw [Int.fdiv_eq_ediv_of_nonneg _ p, Int.fmod_eq_emod_of_nonneg _ (by decide)]
    push_cast
    rfl
  rw [e2, hn, Int.toNat_natCast, Int.toNat_natCast]
theorem dig4 {n : Nat} (h : n < 65536) : (((0 * 16 + n / 4096 % 16) * 16 + n / 256 % 16) * 16 + n / 16 % 16) * 16 + n / 1 % 16 = n := by
  have e2 : n / 256 = n / 16 / 16 := (Nat.div_div_eq_div_mul n 16 16).symm
  have e3 : n / 4096 = n / 16 / 16 / 16 := by rw [Nat.div_div_eq_div_mul, Nat.div_div_eq_div_mul]
  have hl : n / 16 / 16 / 16 < 16 := by rw [← e3]; exact Nat.div_lt_of_lt_mul h
  rw [e3, e2, Nat.mod_eq_of_lt hl, Nat.div_one, Nat.zero_mul, Nat.zero_add, Nat.div_add_mod', Nat.div_add_mod', Nat.div_add_mod']
theorem dig3 {n : Nat} (h : n < 65536) : ((0 * 16 + n / 4096 % 16) * 16 + n / 256 % 16) * 16 + n / 16 % 16 = n / 16 := by
  have e2 : n / 256 = n / 16 / 16 := (Nat.div_div_eq_div_mul n 16 16).symm
  have e3 : n / 4096 = n / 16 / 16 / 16 := by rw [Nat.div_div_eq_div_mul, Nat.div_div_eq_div_mul]
  have hl : n / 16 / 16 / 16 < 16 := by rw [← e3]; exact Nat.div_lt_of_lt_mul h
  rw [e3, e2, Nat.mod_eq_of_lt hl, Nat.zero_mul, Nat.zero_add, Nat.div_add_mod', Nat.div_add_mod']
theorem ok4 {nums : List Int} {k : Nat} (h : k < nums.length) (hx : (nums.getD k 0).fmod 6 ≠ 5) : hexOk (srcT nums) (5 * k + 1) 4 ∧ hexN (srcT nums) (5 * k + 1) 4 = (numT (nums.getD k 0)).toNat := by
  obtain ⟨rest, e, _⟩ := src_drop h
  generalize nums.getD k 0 = x at e hx ⊢
  have hl : (hexS (srcT nums) (5 * k + 1) 4).cps.toList = [cOf x 0, cOf x 1, cOf x 2, cOf x 3] := by rw [hexS_list, e]; rfl
  refine ⟨⟨?_, ?_⟩, ?_⟩
  · rw [hexS_len, e]; rfl
  · rw [hl, all_hex]
    intro c hc
    simp only [List.mem_cons, List.not_mem_nil, or_false] at hc
    rcases hc with rfl | rfl | rfl | rfl <;> exact (cOf_hex hx).1
  · unfold hexN
    rw [hl]
    unfold hexVal
    simp only [List.foldl_cons, List.foldl_nil, (cOf_hex hx).2, fig_nat]
    have := (numT_range x).2
    have h2 := (numT_range x).1
    have e1 : 16 ^ (3 - 0) = 4096 := rfl
    have e2 : 16 ^ (3 - 1) = 256 := rfl
    have e3 : 16 ^ (3 - 2) = 16 := rfl
    have e4 : 16 ^ (3 - 3) = 1 := rfl
    rw [e1, e2, e3, e4]
    exact dig4 (by omega)
theorem bad4 {nums : List Int} {k : Nat} (h : k < nums.length) (hx : (nums.getD k 0).fmod 6 = 5) : ¬ hexOk (srcT nums) (5 * k + 1) 4 := by
  obtain ⟨rest, e, _⟩ := src_drop h
  generalize nums.getD k 0 = x at e hx
  rintro ⟨_, h2⟩
  have hl : (hexS (srcT nums) (5 * k + 1) 4).cps.toList = [cOf x 0, cOf x 1, cOf x 2, cOf x 3] := by rw [hexS_list, e]; rfl
  rw [hl, all_hex] at h2
  obtain ⟨j, hj, hg⟩ := cOf_g hx
  have hm : cOf x j ∈ [cOf x 0, cOf x 1, cOf x 2, cOf x 3] := by
    have : j = 0 ∨ j = 1 ∨ j = 2 ∨ j = 3 := by omega
    rcases this with rfl | rfl | rfl | rfl <;> simp
  have := h2 _ hm
  rw [hg] at this
  exact absurd this (by decide)
theorem bad5 {nums : List Int} {k : Nat} (h : k < nums.length) : ¬ hexOk (srcT nums) (5 * k + 1) 5 := by
  obtain ⟨rest, e, h2⟩ := src_drop h
  generalize nums.getD k 0 = x at e
  rintro ⟨h1, h3⟩
  rw [hexS_len, e] at h1
  rcases h2 with rfl | ⟨c, rr, rfl, hb⟩
  · exact absurd h1 (by simp)
  · have hl : (hexS (srcT nums) (5 * k + 1) 5).cps.toList = [cOf x 0, cOf x 1, cOf x 2, cOf x 3, c] := by rw [hexS_list, e]; rfl
    rw [hl, all_hex] at h3
    have := h3 c (by simp)
    rw [hb] at this
    cases this
theorem ok3 {nums : List Int} {k : Nat} (h : k < nums.length) (hx : (nums.getD k 0).fmod 6 ≠ 5) : hexOk (srcT nums) (5 * k + 1) 3 ∧ hexN (srcT nums) (5 * k + 1) 3 = (numT (nums.getD k 0)).toNat / 16 := by
  obtain ⟨rest, e, _⟩ := src_drop h
  generalize nums.getD k 0 = x at e hx ⊢
  have hl : (hexS (srcT nums) (5 * k + 1) 3).cps.toList = [cOf x 0, cOf x 1, cOf x 2] := by rw [hexS_list, e]; rfl
  refine ⟨⟨?_, ?_⟩, ?_⟩
  · rw [hexS_len, e]; rfl
  · rw [hl, all_hex]
    intro c hc
    simp only [List.mem_cons, List.not_mem_nil, or_false] at hc
    rcases hc with rfl | rfl | rfl <;> exact (cOf_hex hx).1
  · unfold hexN
    rw [hl]
    unfold hexVal
    simp only [List.foldl_cons, List.foldl_nil, (cOf_hex hx).2, fig_nat]
    have := (numT_range x).2
    have h2 := (numT_range x).1
    have e1 : 16 ^ (3 - 0) = 4096 := rfl
    have e2 : 16 ^ (3 - 1) = 256 := rfl
    have e3 : 16 ^ (3 - 2) = 16 := rfl
    rw [e1, e2, e3]
    exact dig3 (by omega)
end
-- ForR
section
section
variable {prog : Program} {w : World} {A : Around} {E : Value → Shared → Prop} {s : Shared} {h₀ : Heap} {env : Env}
/-- over range(n) -/
theorem for_range {target : PySem.Expr} {body : List Stmt} {Q : Flow → Shared → Prop} {r : Addr} {n : Nat} {t u v : Tok} {m₀ : Str → Option Value} {news : Led} (JJ : (Str → Option Value) → Nat → (Str → Option Value) → Led → Prop)
    (hh : A.handled = none) (hr : IsRange s.heap r 0 (n : Int) 1 t u v) (hn : n ≤ 1000) (F : Fr h₀ env.locals s.heap m₀) (N : News h₀ env.locals s.heap news) (h0 : JJ m₀ 0 m₀ news)
    (turn : ∀ i m₁ nw h tk I io tv s₂, i < n → JJ m₀ i m₁ nw → (∃ x y z, io.data = .fields #[rawInt x, rawInt y, rawInt z]) → (∀ p ∈ nw, p.1 ≠ I) → Fr h₀ env.locals h m₁ → News h₀ env.locals h ((I, io) :: nw) → (∃ h2, s₂ = { s with heap := h2 }) →
      wpAny (model prog w) A (assign target env (.int (i : Int) tv)) (fun _ s₃ => wpAny (model prog w) A (execs body env) (ForEnd h₀ env.locals s₂ I io (JJ m₀ (i + 1)) Q) E s₃) E { s₂ with heap := h, toks := tk })
    (done : ∀ m₁ nw h tk, JJ m₀ n m₁ nw → Fr h₀ env.locals h m₁ → News h₀ env.locals h nw → Q .next { s with heap := h, toks := tk }) :
    wpAny (model prog w) A (pyIter (.ref r)) (ForGo prog w A h₀ env target body Q E) E s := by
  have hsz := rangeSize_up n
  have hsmall : Builtin.Range.small 0 (n : Int) 1 = true := small_one (by decide) (by decide) (by omega) (by omega)
  refine wpAny_pyIter_range hr hsmall ?_
  rw [hsz]
  generalize hio : ({ cls := .type "range_iterator", data := .fields #[rawInt 0, rawInt (n : Int), rawInt 1] } : Obj) = io
  have hIL : s.heap.objs.size ≠ env.locals := Ne.symm (Nat.ne_of_lt F.ns.lt)
  have up : ∀ b o, s.heap.get? b = some o → (s.heap.push io).get? b = some o := fun b o e => Heap.get?_push_of_some _ e
  have hg : (s.heap.push io).get? s.heap.objs.size = some io := Heap.get?_push_size _ (by rw [← hio]; rfl)
  refine ⟨s.heap.objs.size, [s.heap.objs.size], n, _, _, io, m₀, news, JJ m₀, rfl, Walks.range hh s.heap.objs.size 0 1 n, fun i h e => ⟨_, e⟩, ?_, ?_, F.keeps up, ?_, fun p hp => Nat.ne_of_lt (Heap.lt_size (N p hp).1), h0, ?_, fun m₁ nw h tk hJ F2 N2 => done m₁ nw h tk hJ F2 N2⟩
  · intro b hb hbI
    exact absurd (List.mem_singleton.mp hb) hbI
  · show (s.heap.push io).get? s.heap.objs.size = _
    rw [hg, ← hio]
    simp
  · intro p hp
    rcases List.mem_cons.mp hp with rfl | hp
    · exact ⟨hg, hIL, next_is_new F⟩
    · exact ⟨up _ _ (N p hp).1, (N p hp).2⟩
  · intro i v' m₁ nw h tk io' hi hZ10 hJ hZ11 hoff F2 N2
    refine hide_goal ?_
    intro G₀ hG₀
    obtain ⟨tv, rfl⟩ := hZ10
    obtain ⟨hh2, hst2, hgi⟩ := hZ11
    refine hG₀ ?_
    clear hG₀ G₀
    have hio' : ∃ x y z, io'.data = .fields #[rawInt x, rawInt y, rawInt z] := by
      have e := (show hh2.get? s.heap.objs.size = some _ from hst2)
      rw [hgi] at e
      exact ⟨_, _, _, congrArg Obj.data (Option.some.inj e)⟩
    have e : (0 : Int) + (i : Nat) * 1 = (i : Int) := by omega
    rw [e]
    exact turn i m₁ nw h tk _ io' tv _ hi hJ hio' hoff F2 N2 ⟨_, rfl⟩
theorem gi_stepV {value slice : PySem.Expr} {Q : Value → Shared → Prop} {L a : Addr} {vs : List Value} {news : Led} {n : Nat} {k : Int} {u : Tok} {x : Value} {w : World} (N : News h₀ L s.heap news) (hm : (a, listOf vs.toArray n) ∈ news) (hx : vs.getD k.toNat .none = x) (h0 : 0 ≤ k) (hk : k < vs.length) (hb : vs.length < 2 ^ 62) (h : Q x s)
    (hs : subscripted slice false (.ref a) (.int k u) = operate [.ref a, .int k u] (getItem (.ref a) (.int k u)) := by with_unfolding_all rfl) :
    wpAny (model PW w) A (subscriptTail value slice (.ref a) (.int k u)) Q E s := gi_stepM N hm h0 hk hb (by rw [hx]; exact h) hs
end
end
-- LawT
section
theorem CallOK0.mono {w p loose mean mg mb f vs news d u Out Out'} (C : CallOK0 w p loose mean mg mb f vs news d u Out) (h : ∀ r nw, Out r nw → Out' r nw) : CallOK0 w p loose mean mg mb f vs news d u Out' :=
  fun dp un gd cn cs a ccd cl A₀ base h₀ L m s Q E B F X N T XB TB hH hC hk hd hu ret => C dp un gd cn cs a ccd cl A₀ base h₀ L m s Q E B F X N T XB TB hH hC hk hd hu (fun r nw h' tk' ho F' N' => ret r nw h' tk' (h _ _ ho) F' N')
section
variable {w : World} {p : Program} {loose : List Str} {mean : ExcName → Option Value} {mg mb : Str → Option Value} {rest l : Led} {src : Str} {pos many : Nat} {t1 t2 t3 : Tok}
theorem told_bad (hs : src.length ≤ 900) (hpos : pos ≤ src.length) (h1 : 1 ≤ many) (hmany : many ≤ 10) (hne : ∀ p ∈ rest, p.1 ≠ 40) (hl : TabSt 40 18 4 qualC l) (hb : ¬ hexOk src pos many) :
    CallOK0 w p loose mean mg mb 139 [.str src t1, .int pos t2, .int many t3] (l ++ rest) 8 100 (fun r news' => ∃ u l', r = .str (Str.ofString "Invalid hex value" ++ whereT src pos) u ∧ TabSt 40 18 4 qualC l' ∧ news' = l' ++ rest) := by
  refine CallOK0.mono (c_told w p loose mean mg mb rest l src pos many t1 t2 t3 hs hpos h1 hmany hne hl) ?_
  rintro r nw (⟨ho, _⟩ | ⟨txt, u, rfl, ⟨hh, l', hl', rfl⟩⟩)
  · exact absurd ho hb
  · rcases hh with ⟨_, rfl⟩ | ⟨ho, _⟩
    · exact ⟨u, l', by rw [errT_where], hl', rfl⟩
    · exact absurd ho hb
theorem told_esc (hs : src.length ≤ 900) (hpos : pos ≤ src.length) (h1 : 1 ≤ many) (hmany : many ≤ 10) (hne : ∀ p ∈ rest, p.1 ≠ 40) (hl : TabSt 40 18 4 qualC l) (hb : hexOk src pos many) (hsc : scalarB (hexN src pos many) = false) :
    CallOK0 w p loose mean mg mb 139 [.str src t1, .int pos t2, .int many t3] (l ++ rest) 8 100 (fun r news' => ∃ u l', r = .str (Str.ofString "Escaped character is not a Unicode scalar value" ++ whereT src (pos + many)) u ∧ TabSt 40 18 4 qualC l' ∧ news' = l' ++ rest) := by
  refine CallOK0.mono (c_told w p loose mean mg mb rest l src pos many t1 t2 t3 hs hpos h1 hmany hne hl) ?_
  rintro r nw (⟨_, ho, _⟩ | ⟨txt, u, rfl, ⟨hh, l', hl', rfl⟩⟩)
  · rw [hsc] at ho; cases ho
  · rcases hh with ⟨ho, _⟩ | ⟨_, _, rfl⟩
    · exact absurd hb ho
    · exact ⟨u, l', by rw [errT_where], hl', rfl⟩
theorem told_ok (hs : src.length ≤ 900) (hpos : pos ≤ src.length) (h1 : 1 ≤ many) (hmany : many ≤ 10) (hne : ∀ p ∈ rest, p.1 ≠ 40) (hl : TabSt 40 18 4 qualC l) (hb : hexOk src pos many) (hsc : scalarB (hexN src pos many) = true) :
    CallOK0 w p loose mean mg mb 139 [.str src t1, .int pos t2, .int many t3] (l ++ rest) 8 100 (fun r news' => ∃ T u v, r = .ref T ∧ (∀ p ∈ l ++ rest, p.1 < T) ∧ news' = (T, { cls := .type "tuple", data := .seq #[.int ((pos : Int) + (many : Int)) u, .str ⟨#[hexN src pos many]⟩ v] }) :: (l ++ rest)) := by
  refine CallOK0.mono (c_told w p loose mean mg mb rest l src pos many t1 t2 t3 hs hpos h1 hmany hne hl) ?_
  rintro r nw (⟨_, _, h⟩ | ⟨txt, u, rfl, ⟨hh, _⟩⟩)
  · exact h
  · rcases hh with ⟨ho, _⟩ | ⟨_, ho, _⟩
    · exact absurd hb ho
    · rw [hsc] at ho; cases ho
end
theorem ov_cons {x : Str} {v : Option Value} {l : List (Str × Option Value)} {m : Str → Option Value} : (fun y => if y = x then v else ov l m y) = ov ((x, v) :: l) m := by
  funext y
  unfold ov
  rw [List.lookup_cons]
  by_cases h : y = x
  · subst h; simp
  · have : (y == x) = false := by simpa using h
    rw [if_neg h, this]
theorem ov_nil {m : Str → Option Value} : ov [] m = m := rfl
theorem ov_app {l l' : List (Str × Option Value)} {m : Str → Option Value} : ov l (ov l' m) = ov (l ++ l') m := by
  induction l with
  | nil => rfl
  | cons p r ih => rw [List.cons_append, ← ov_cons, ← ov_cons, ih]
theorem ov_over {m₁ m : Str → Option Value} (l : List Str) (h : ∀ y, y ∉ l → m₁ y = m y) : m₁ = ov (l.map fun x => (x, m₁ x)) m := by
  refine ov_eq _ (fun p hp => ?_) (fun y hy => h y (fun hm => hy ?_))
  · obtain ⟨x, _, rfl⟩ := List.mem_map.mp hp
    rfl
  · rw [List.map_map]
    exact List.mem_map.mpr ⟨y, hm, rfl⟩
theorem ov_names {l l' : List (Str × Option Value)} {m : Str → Option Value} {names : List Str} (h : ∀ p ∈ l, p.1 ∈ names) : ∀ y, y ∉ names → ov (l ++ l') m y = ov l' m y := fun y hy => by
  rw [← ov_app]
  exact ov_off fun hm => by
    obtain ⟨p, hp, rfl⟩ := List.mem_map.mp hm
    exact hy (h p hp)
/-- the contract at a call, from a frame that stands on the ground -/
theorem CallOK0.use {w p loose mean mg mb f vs news d u Out} (C : CallOK0 w p loose mean mg mb f vs news d u Out)
  {dp un : Nat} {gd : Option (List Code)} {cn : Str} {cs : Scope} {a : Addr} {ccd : Value} {cl : List (Str × Addr)} {A₀ : Around} {base h₀ : Heap} {L : Addr} {m : Str → Option Value} {s : Shared} {Q E : Value → Shared → Prop}
  (B : Below A₀ base [] h₀) (F : Fr h₀ L s.heap m) (X : (KH.heap_1 w.params).In h₀) (N : News h₀ L s.heap news) (T : Top p loose mean mg mb h₀) (XB : (KH.heap_1 w.params).In base) (TB : Top p loose mean mg mb base) (hH : HexIn w base) (hC : CodeHd base 44 40) (hk : cs.kind = .function) (hd : dp + d < recursionLimit) (hu : un + u < cLine)
  (ret : ∀ r news' h' tk', Out r news' → Fr h₀ L h' m → News h₀ L h' news' → Q r { s with heap := h', toks := tk' }) :
    wpAny (model PW w) (ktrTop dp un gd cn cs L a ccd cl []) (call (.ref f) vs) Q E s := C dp un gd cn cs a ccd cl A₀ base h₀ L m s Q E B F X N T XB TB hH hC hk hd hu ret
/-- the rows made so far -/
inductive RowsR : List Value → List (Int × Int) → Led → Prop
  | nil : RowsR [] [] []
  | snoc {rs ks rl a k t u c} : RowsR rs ks rl → (∀ p ∈ rl, p.1 ≠ a) → RowsR (rs ++ [.ref a]) (ks ++ [k]) ((a, rowObj k t u c) :: rl)
def goodB (x : Int) : Bool := decide (x.fmod 6 ≠ 5) && !(decide (55295 < numT x) && decide (numT x < 57344))
def keysT (nums : List Int) (i : Nat) : List (Int × Int) := ((List.range i).filter fun k => goodB (nums.getD k 0)).map fun k => (numT (nums.getD k 0), ((5 * k + 1 : Nat) : Int))
theorem keys_good {nums : List Int} {i : Nat} (h : goodB (nums.getD i 0) = true) : keysT nums (i + 1) = keysT nums i ++ [(numT (nums.getD i 0), ((5 * i + 1 : Nat) : Int))] := by
  unfold keysT
  rw [List.range_succ, List.filter_append, List.map_append]
  have e : [i].filter (fun k => goodB (nums.getD k 0)) = [i] := by rw [List.filter_cons, h]; rfl
  rw [e]
  rfl
theorem keys_bad {nums : List Int} {i : Nat} (h : goodB (nums.getD i 0) = false) : keysT nums (i + 1) = keysT nums i := by
  unfold keysT
  rw [List.range_succ, List.filter_append, List.map_append]
  have e : [i].filter (fun k => goodB (nums.getD k 0)) = [] := by rw [List.filter_cons, h]; rfl
  rw [e]
  simp
theorem scalar_num {x : Int} : scalarB ((numT x).toNat : Int) = !(decide (55295 < numT x) && decide (numT x < 57344)) := by
  have h := numT_range x
  rw [Int.toNat_of_nonneg h.1]
  unfold scalarB
  by_cases h1 : 55295 < numT x
  · by_cases h2 : numT x < 57344
    · have a : ¬ (numT x ≤ 55295) := by omega
      have b : ¬ (57344 ≤ numT x) := by omega
      simp [h1, h2, a, b]
    · have b : 57344 ≤ numT x := by omega
      have c : numT x ≤ 1114111 := by omega
      simp [h1, h2, b, c]
  · have a : numT x ≤ 55295 := by omega
    simp [h1, a, h.1]
theorem scalar_div (x : Int) : scalarB (((numT x).toNat / 16 : Nat) : Int) = true := by
  have h := numT_range x
  unfold scalarB
  have a : (0 : Int) ≤ (((numT x).toNat / 16 : Nat) : Int) := by omega
  have b : (((numT x).toNat / 16 : Nat) : Int) ≤ 55295 := by omega
  simp only [decide_eq_true a, decide_eq_true b, Bool.and_self, Bool.true_or]
end
-- Law2
section
theorem lines_Law2 : True := by
  k_with_none
  k_with "subscriptTail Name Name ref int" => (k_here; k_dflt (refine gi_stepM (by k_asm) (by first | k_memK | (repeat (first | assumption | refine List.Mem.tail _ ?_))) (by omega) (by first | omega | assumption | (simp; omega)) (by first | omega | (simp; omega)) ?_))
  k_with "subscriptTail Name Constant ref int" => (k_here; k_dflt (refine gi_stepM (by k_asm) (by first | k_memK | (repeat (first | assumption | refine List.Mem.tail _ ?_))) (by omega) (by first | omega | assumption | (simp; omega)) (by first | omega | (simp; omega)) ?_))
  k_with "exec Try" => (k_here; (refine wpAny_Try_except ?_))
  trivial
local macro_rules | `(tactic| walk_at "call ref") => `(tactic| (k_here; k_dflt (refine CallOK.use (c_group _ _ _ _ _ _ _ _ _) (by k_asm) (by k_asm) (by k_asm) (by k_asm) (by k_asm) (by assumption) (by assumption) (by first | exact rfl | assumption) (by ktr_room) (by ktr_units) ?_ (fun _ _ _ _ h => h.elim)); (intro r9 n9 h9 tk9 hO9 F9 N9; refine hide_goal ?_; intro G9 hG9; obtain ⟨u91, e91, e92⟩ := hO9; subst e91; subst e92; refine hG9 ?_; clear hG9 G9; (try dsimp only); (try k_sweep))))
local macro_rules | `(tactic| walk_at "pyIter ref") => `(tactic| (refine Mark.mk ?_))
local macro_rules | `(tactic| walk_at "exec For Name Name cons nil") => `(tactic| (refine Mark.mk ?_))
local macro_rules | `(tactic| walk_at "eval IfExp") => `(tactic| (refine Mark.mk ?_))
theorem ints_at {ws : List Value} {nums : List Int} (h : IntsAre ws nums) : ∀ {i : Nat}, i < ws.length → ∃ t, ws.getD i .none = .int (nums.getD i 0) t := by
  induction h with
  | nil => intro i hi; exact absurd hi (Nat.not_lt_zero _)
  | cons a u h ih =>
    intro i hi
    cases i with
    | zero => exact ⟨u, rfl⟩
    | succ i => exact ih (Nat.lt_of_succ_lt_succ hi)
theorem ov_skip {x y : Str} {v : Option Value} {l : List (Str × Option Value)} {m : Str → Option Value} (h : y ≠ x) : ov ((x, v) :: l) m y = ov l m y := by
  unfold ov
  rw [List.lookup_cons]
  have : (y == x) = false := by simpa using h
  rw [this]
theorem src_next {nums : List Int} {i : Nat} (h : i < nums.length) : srcT (nums.take (i + 1)) = srcT (nums.take i) ++ sepT (nums.getD i 0) ++ groupT (nums.getD i 0) := by
  have e : nums.take (i + 1) = nums.take i ++ [nums.getD i 0] := by
    rw [List.take_succ, List.getD_eq_getElem?_getD]
    simp [h]
  rw [e, srcT_snoc]
theorem src_sep {ws : List Value} {nums : List Int} {i : Nat} {o : Obj} {t : Tok} (hi : i < ws.length) (hl : ws.length = nums.length) (hd : o.data = .cell (some (.str (srcT (nums.take i) ++ sepT (nums.getD i 0) ++ groupT (nums.getD i 0)) t))) : o.data = .cell (some (.str (srcT (nums.take (i + 1))) t)) := by
  rw [hd, src_next (by omega)]
/-- a value that comes in more than one way: what follows is walked once -/
def OneVal (f : Tok → Value) (s : Shared) (v : Value) (s' : Shared) : Prop := ∃ u tk, v = f u ∧ s' = { s with toks := tk }
theorem value_once {w : World} {A : Around} {t : Sem Value} {Q : Value → Shared → Prop} {E : Value → Shared → Prop} {s : Shared} {f : Tok → Value}
    (ht : wpAny (model PW w) A t (OneVal f s) E s) (hq : ∀ u tk, Q (f u) { s with toks := tk }) : wpAny (model PW w) A t Q E s :=
  wpAny_mono ht (fun v s' h => by
    obtain ⟨u, tk, rfl, rfl⟩ := h
    exact hq u tk) fun _ _ x => x
theorem pl_val {ws : List Value} {nums : List Int} {i : Nat} {z : Str} {t : Tok} (hz : z.length = 1) (hi : i < ws.length) (hl : ws.length = nums.length) : Value.int ((((srcT (nums.take i)).length + z.length : Nat)) : Int) t = .int (5 * (i : Int) + 1) t := by
  rw [srcT_len, hz, List.length_take, Nat.min_eq_left (by omega)]
  push_cast
  rfl
theorem pl_sep {ws : List Value} {nums : List Int} {i : Nat} {t : Tok} (hi : i < ws.length) (hl : ws.length = nums.length) : Value.int (((srcT (nums.take i) ++ sepT (nums.getD i 0)).length : Nat) : Int) t = .int (5 * (i : Int) + 1) t := by
  rw [Str.length_append]
  exact pl_val (sepT_len _) hi hl
inductive L1J (NUM PL L : Addr) (ws : List Value) (nums : List Int) (oH : Obj) (mB : Str → Option Value) (i : Nat) (m₁ : Str → Option Value) (nw : Led) : Prop
  | mk (oS : Obj) (cP : Nat) (ps : List Value) (u : Tok) (h1 : ∀ y, y ∉ (["x"] : List Str) → m₁ y = mB y) (h2 : oS.data = .cell (some (.str (srcT (nums.take i)) u))) (h3 : Vals (fun j v => ∃ t, v = .int (5 * (j : Int) + 1) t) i ps)
    (h4 : nw = (NUM, PySem.W.listOf ws.toArray 0) :: (PL, PySem.W.listOf ps.toArray cP) :: (L + 1 + 1, oH) :: (L + 1, oS) :: (40, tabObj #[]) :: [])
set_option maxHeartbeats 4000000 in
theorem law2 (w : World) (d : DefRec) (kwd) (hd : defOf qv (Str.ofString "law") = some (d, kwd)) (p loose mean mg mb) (h₀ : Heap) (L fa : Addr) (cd : Value) (m : Str → Option Value) (s : Shared) (Q : Flow → Shared → Prop) (E : Value → Shared → Prop)
    (B : Below callerA h₀ [] h₀) (X : (KH.heap_1 w.params).In h₀) (T : Top p loose mean mg mb h₀) (hH : HexIn w h₀) (hC : CodeHd h₀ 44 40) (l0 : @LT.lt Nat instLTNat 40 L) (hE : PassesOwn (model PySem.Challenge.rw_ik0044_01.row.prog w) (callerA.deeper (lawEnv d L fa cd)) (lawEnv d L fa cd) E) (NUM PL : Addr) (ws : List Value) (nums : List Int) (oH oS : Obj) (u : Tok) (sc : Option Value)
    (hI : IntsAre ws nums) (hl1 : 7 ≤ nums.length) (hl2 : nums.length ≤ 11) (l1 : @LT.lt Nat instLTNat (L + 1 + 1) PL) (l2 : @LT.lt Nat instLTNat PL NUM)
    (F : Fr h₀ L s.heap (ov [("numbers", some (.ref NUM)), ("places", some (.ref PL)), ("script", sc)] m))
    (N : News h₀ L s.heap [(NUM, PySem.W.listOf ws.toArray 0), (PL, PySem.W.listOf #[] 0), (L + 1 + 1, oH), (L + 1, oS), (40, tabObj #[])]) (dS : oS.data = .cell (some (.str (Str.ofString "") u))) (dH : oH.data = .cell none)
    (done : ∀ oS' ps cP u' x s', Vals (fun j v => ∃ t, v = .int (5 * (j : Int) + 1) t) nums.length ps → oS'.data = .cell (some (.str (srcT nums) u')) → Fr h₀ L s'.heap (ov [("x", x), ("numbers", some (.ref NUM)), ("places", some (.ref PL)), ("script", sc)] m) →
      News h₀ L s'.heap [(NUM, PySem.W.listOf ws.toArray 0), (PL, PySem.W.listOf ps.toArray cP), (L + 1 + 1, oH), (L + 1, oS'), (40, tabObj #[])] → (∃ h' tk', s' = { s with heap := h', toks := tk' }) →
      wpAny (model PySem.Challenge.rw_ik0044_01.row.prog w) (callerA.deeper (lawEnv d L fa cd)) (execs (d.body.drop 2) (lawEnv d L fa cd)) Q E s') :
    wpAny (model PySem.Challenge.rw_ik0044_01.row.prog w) (callerA.deeper (lawEnv d L fa cd)) (execs (d.body.drop 1) (lawEnv d L fa cd)) Q E s := by
  revert X
  k_fill
  intro X
  obtain ⟨e1, e2⟩ := Prod.mk.inj (Option.some.inj ((rfl : defOf qv (Str.ofString "law") = some (_, _)).symm.trans hd))
  subst e1
  clear hd
  dsimp only [lawEnv] at hE ⊢
  try dsimp only [lawEnv] at done
  show wpAny _ _ (execs (_ :: _) _) _ _ _
  k_steps
  unfold Mark
  refine for_go h₀ ?_ (hE := hE)
  k_steps
  unfold Mark
  refine for_list (vs := ws) (n := 0) (fun mB => L1J NUM PL L ws nums oH mB) (by rfl) F N ?hax ⟨oS, 0, [], u, fun _ _ => rfl, dS, Vals.nil, rfl⟩ ?turn ?done
  case hax =>
    intro i m nx hZ10
    refine hide_goal ?_
    intro G₀ hG₀
    obtain ⟨oS', cP, ps, u', _, _, _, rfl⟩ := hZ10
    refine hG₀ ?_
    clear hG₀ G₀
    exact .head _
  case turn =>
    intro i m₁ nw h tk I io s₂ hi hZ20 hoff F2 N2 hZ21
    refine hide_goal ?_
    intro G₀ hG₀
    obtain ⟨oS', cP, ps, u', hm, dS', hV, rfl⟩ := hZ20
    obtain ⟨h2, rfl⟩ := hZ21
    refine hG₀ ?_
    clear hG₀ G₀
    have e := ov_eq [("x", m₁ "x"), ("numbers", some (.ref NUM)), ("places", some (.ref PL)), ("script", sc)] (m1 := m₁) (m := m) ?me1 ?me2
    case me1 =>
      intro p hp
      simp only [List.mem_cons, List.not_mem_nil, or_false] at hp
      rcases hp with rfl | rfl | rfl | rfl
      · rfl
      · exact (hm _ (by simp only [List.mem_cons, List.not_mem_nil, or_false]; decide)).trans rfl
      · exact (hm _ (by simp only [List.mem_cons, List.not_mem_nil, or_false]; decide)).trans rfl
      · exact (hm _ (by simp only [List.mem_cons, List.not_mem_nil, or_false]; decide)).trans rfl
    case me2 =>
      intro y hy
      simp only [List.map_cons, List.map_nil, List.mem_cons, List.not_mem_nil, or_false, not_or] at hy
      exact (hm y (by simp only [List.mem_cons, List.not_mem_nil, or_false]; exact hy.1)).trans (ov_off (by simp only [List.map_cons, List.map_nil, List.mem_cons, List.not_mem_nil, or_false, not_or]; exact hy.2))
    generalize m₁ "x" = x1 at e
    subst e
    clear F N
    have q1 : @Ne Nat I (L + 1) := Ne.symm (hoff _ (.tail _ (.tail _ (.tail _ (.head _)))))
    have q2 : @Ne Nat I (L + 1 + 1) := Ne.symm (hoff _ (.tail _ (.tail _ (.head _))))
    have q3 : @Ne Nat I PL := Ne.symm (hoff _ (.tail _ (.head _)))
    have q4 : @Ne Nat I NUM := Ne.symm (hoff _ (.head _))
    have q5 : @Ne Nat I 40 := Ne.symm (hoff _ (.tail _ (.tail _ (.tail _ (.tail _ (.head _))))))
    obtain ⟨ti, hvi⟩ := ints_at hI hi
    rw [hvi]
    have hIl : ws.length = nums.length := IntsAre.length hI
    have hsl : (srcT (nums.take i)).length ≤ 55 := by rw [srcT_len, List.length_take]; omega
    have hgl : (groupT (nums.getD i 0)).length = 4 := groupT_len _
    have hpl : ps.length = i := hV.1
    have hsp1 : (sepT (nums.getD i 0)).length = 1 := sepT_len _
    k_steps
    unfold Mark
    refine value_once (f := fun u => .str (sepT (nums.getD i 0)) u) ?_ ?_
    · refine IfExp_ ?_
      k_steps
      · exact ⟨_, _, by rw [sepT, if_pos (by assumption)], rfl⟩
      · exact ⟨_, _, by rw [sepT, if_neg (by assumption)], rfl⟩
    · intro u9 tk9
      k_steps
      rename News _ _ _ _ => NZ
      simp only [List.push_toArray] at NZ
      refine fe_next (by k_asm) NZ ?_ ⟨_, _, _, _, ?_, src_sep hi hIl (by assumption), hV.snoc ⟨_, pl_sep hi hIl⟩, rfl⟩
      · intro p hp
        simp only [List.mem_cons, List.not_mem_nil, or_false] at hp
        rcases hp with rfl | rfl | rfl | rfl | rfl <;> first | exact Ne.symm q1 | exact Ne.symm q2 | exact Ne.symm q3 | exact Ne.symm q4 | exact Ne.symm q5
      · intro y hy
        have hy' : y ≠ Str.ofString "x" := by simpa only [List.mem_cons, List.not_mem_nil, or_false] using hy
        rw [if_neg hy']
        exact ov_skip hy'
  case done =>
    intro m₁ nw h tk hZ30 F2 N2
    refine hide_goal ?_
    intro G₀ hG₀
    obtain ⟨oS', cP, ps, u', hm, dS', hV, rfl⟩ := hZ30
    refine hG₀ ?_
    clear hG₀ G₀
    have hIl : ws.length = nums.length := IntsAre.length hI
    rw [hIl] at hV dS'
    rw [List.take_length] at dS'
    have e := ov_eq [("x", m₁ "x"), ("numbers", some (.ref NUM)), ("places", some (.ref PL)), ("script", sc)] (m1 := m₁) (m := m) ?me3 ?me4
    case me3 =>
      intro p hp
      simp only [List.mem_cons, List.not_mem_nil, or_false] at hp
      rcases hp with rfl | rfl | rfl | rfl
      · rfl
      · exact (hm _ (by simp only [List.mem_cons, List.not_mem_nil, or_false]; decide)).trans rfl
      · exact (hm _ (by simp only [List.mem_cons, List.not_mem_nil, or_false]; decide)).trans rfl
      · exact (hm _ (by simp only [List.mem_cons, List.not_mem_nil, or_false]; decide)).trans rfl
    case me4 =>
      intro y hy
      simp only [List.map_cons, List.map_nil, List.mem_cons, List.not_mem_nil, or_false, not_or] at hy
      exact (hm y (by simp only [List.mem_cons, List.not_mem_nil, or_false]; exact hy.1)).trans (ov_off (by simp only [List.map_cons, List.map_nil, List.mem_cons, List.not_mem_nil, or_false, not_or]; exact hy.2))
    rw [e] at F2
    exact done oS' ps cP u' (m₁ "x") _ hV dS' F2 N2 ⟨_, _, rfl⟩
end
-- LawU
section
theorem lineT_len {l c : Int} (h1 : 0 ≤ l) (h2 : l < 10 ^ 10) (h3 : 0 ≤ c) (h4 : c < 10 ^ 10) : (lineT l c).length ≤ 34 := by
  unfold lineT
  have a := KT.len_num h1 h2
  have b := KT.len_num h3 h4
  simp only [Str.length_append, ll4, ll5, lle]
  omega
theorem whereT_len {src : Str} {pos : Nat} (hp : pos ≤ src.length) (hs : src.length ≤ 900) : (whereT src pos).length ≤ 60 := by
  have hc := suff_cnt hp
  have hco : (coordT src pos).length ≤ 34 := by
    unfold coordT
    split
    · rw [ll3]; decide
    · split
      · exact lineT_len (by omega) (by omega) (by omega) (by omega)
      · rename_i h1 h2
        obtain ⟨k, hk, hkp⟩ := suff_nl hp h2
        rw [hk]
        exact lineT_len (by omega) (by omega) (by show (0 : Int) ≤ (pos : Int) - (k : Nat); omega) (by show (pos : Int) - (k : Nat) < _; omega)
  unfold whereT
  simp only [Str.length_append, ll1, ll2]
  omega
section
variable {h₀ h : Heap} {L : Addr} {l X : Led} {a b c : Addr × Obj}
theorem News.in1 (N : News h₀ L h (a :: (l ++ X))) : News h₀ L h (l ++ (a :: X)) := News.sub N fun p hp => by
  simp only [List.mem_append, List.mem_cons] at hp ⊢
  rcases hp with h | h | h <;> simp only [h, true_or, or_true]
theorem News.in2 (N : News h₀ L h (a :: b :: (l ++ X))) : News h₀ L h (l ++ (a :: b :: X)) := News.sub N fun p hp => by
  simp only [List.mem_append, List.mem_cons] at hp ⊢
  rcases hp with h | h | h | h <;> simp only [h, true_or, or_true]
theorem News.in3 (N : News h₀ L h (a :: b :: c :: (l ++ X))) : News h₀ L h (l ++ (a :: b :: c :: X)) := News.sub N fun p hp => by
  simp only [List.mem_append, List.mem_cons] at hp ⊢
  rcases hp with h | h | h | h | h <;> simp only [h, true_or, or_true]
theorem mem_front {p : Addr × Obj} (hp : p ∈ (a :: (l ++ X) : Led)) : p ∈ (l ++ (a :: X) : Led) := by
  simp only [List.mem_append, List.mem_cons] at hp ⊢
  rcases hp with h | h | h <;> simp only [h, true_or, or_true]
theorem ov_skipN {names : List Str} {lc l' : List (Str × Option Value)} {m : Str → Option Value} {y : Str} (hc : (lc.map (·.1)).all (fun x => names.contains x) = true) (hy : y ∉ names) : ov (lc ++ l') m y = ov l' m y := by
  refine ov_names (names := names) (fun p hp => ?_) y hy
  have := List.all_eq_true.mp hc p.1 (List.mem_map_of_mem hp)
  simpa using this
theorem mem_front2 {p : Addr × Obj} (hp : p ∈ (a :: (l ++ X) : Led)) : p ∈ (l ++ (a :: X) : Led) := mem_front hp
theorem ne_names {y : Str} (h : y ∉ (["k", "place", "number", "due"] : List Str)) : y ≠ "k" ∧ y ≠ "place" ∧ y ≠ "number" ∧ y ≠ "due" := by
  simpa only [List.mem_cons, List.not_mem_nil, or_false, not_or] using h
theorem TabSt.in40 (hT : TabSt 40 18 4 qualC l) : ∃ o, (40, o) ∈ l := hT.fst
theorem tab_apart {nw : Led} {d : Addr} {o : Obj} (N : News h₀ L h nw) (hT : TabSt 40 18 4 qualC l) (sub : ∀ p ∈ l, p ∈ nw) (ha : (d, o) ∈ nw) (h40 : d ≠ 40) (hd : ∀ vs t, o.data = .fields vs → vs[1]? ≠ some (.str qualC t)) : ∀ p ∈ l, p.1 ≠ d := by
  intro p hp e
  have h1 := (N p (sub p hp)).1
  have h2 := (N _ ha).1
  rcases hT with rfl | ⟨c', oc, vs, t, rfl, hdd, hv1, _⟩
  · rw [List.mem_singleton.mp hp] at e
    exact h40 e.symm
  · rcases List.mem_cons.mp hp with rfl | hp
    · exact h40 e.symm
    · rw [List.mem_singleton.mp hp] at h1 e
      simp only at h1 h2 e
      rw [e, h2] at h1
      rw [Option.some.inj h1] at hd
      exact hd _ _ hdd hv1
end
section
variable {prog : Program} {w : World} {A : Around} {E : Value → Shared → Prop} {s : Shared} {h₀ : Heap} {L : Addr} {m : Str → Option Value}
theorem append_stepM {a : Addr} {vs : List Value} {n : Nat} {x : Value} {nw : Led} {Q : Value → Shared → Prop} (F : Fr h₀ L s.heap m) (N : News h₀ L s.heap nw) (hm : (a, listOf vs.toArray n) ∈ nw) (hb : vs.length ≤ 1000)
    (h : ∀ h', Fr h₀ L h' m → (∀ nw' : Led, (∀ p ∈ nw', p = (a, listOf (vs ++ [x]).toArray (n + 1)) ∨ (p ∈ nw ∧ p.1 ≠ a)) → News h₀ L h' nw') → Q .none { s with heap := h' }) :
    wpAny (model prog w) A (call (.builtin "list.append") [.ref a, x]) Q E s := by
  have z := N _ hm
  refine append_at z.1 (fun h' hs hD => ?_) (by rw [List.size_toArray, sizeLine_eq]; omega)
  refine h h' (F.change hs z.2.1 z.2.2) fun nw' hw p hp => ?_
  rcases hw p hp with rfl | ⟨hp, hne⟩
  · refine ⟨?_, z.2⟩
    rw [hD]
    simp only [List.push_toArray]
  · exact ⟨hs.extBut _ _ hne (N p hp).1, (N p hp).2⟩
end
end
-- LawV
section
open PySem.Spec
section
variable {prog : Program} {w : World} {A : Around} {E : Value → Shared → Prop} {s : Shared}
def pairO (a : Int) (t : Tok) (x : Str) (u : Tok) : Obj := { cls := .type "tuple", data := .seq #[.int a t, .str x u] }
theorem ne_pair {T1 T2 : Addr} {a b : Int} {x y : Str} {t1 t2 u1 u2 : Tok} {Q : Value → Shared → Prop} (h1 : s.heap.get? T1 = some (pairO a t1 x u1)) (h2 : s.heap.get? T2 = some (pairO b t2 y u2)) (ha : a = b) (hx : x = y) (hok : PyData.strOk x = true) (hu : A.units + 64 < cLine) (h : Q (.bool false) s) :
    wpAny (model prog w) A (compareOp .NotEq (.ref T1) (.ref T2)) Q E s := by
  subst ha hx
  refine ne_dataH (da := .tuple [.int a, .str x]) (db := .tuple [.int a, .str x]) (reads_tuple_at h1 rfl rfl (ReadsAll.cons (Reads.int _ _) (ReadsAll.cons (Reads.str _ _) ReadsAll.nil))) (reads_tuple_at h2 rfl rfl (ReadsAll.cons (Reads.int _ _) (ReadsAll.cons (Reads.str _ _) ReadsAll.nil))) ?_ ?_ (by omega) ?_
  · simp [SeqAt.shaped, PyData.canLay0, PyData.canLayAll0, PyData.depth, PyData.depthAll, hok]
  · simp [SeqAt.shaped, PyData.canLay0, PyData.canLayAll0, PyData.depth, PyData.depthAll, hok]
  · simpa [PyData.eqv, PyData.eqvAll] using h
end
theorem div_num (x : Int) : ((x.fmod 65536).fdiv 16).toNat = (numT x).toNat / 16 := by
  obtain ⟨n, hn⟩ := Int.eq_ofNat_of_zero_le (numT_range x).1
  have e : x.fmod 65536 = (n : Int) := hn
  rw [hn, e, Int.fdiv_eq_ediv_of_nonneg _ (by decide)]
  rfl
theorem num_small (x : Int) : (numT x).toNat < 1114112 := by
  have := numT_range x
  omega
theorem good_of {x : Int} (hx : x.fmod 6 ≠ 5) (h : ¬ (55295 < x.fmod 65536 ∧ x.fmod 65536 < 57344)) : goodB x = true := by
  unfold goodB
  rw [decide_eq_true hx, Bool.true_and]
  have h' : ¬ (55295 < numT x ∧ numT x < 57344) := h
  by_cases a : 55295 < numT x
  · have b : ¬ numT x < 57344 := fun b => h' ⟨a, b⟩
    simp [a, b]
  · simp [a]
theorem good_scalar {x : Int} (h : goodB x = true) : scalarB ((numT x).toNat : Int) = true := by
  rw [scalar_num]
  unfold goodB at h
  exact (Bool.and_eq_true_iff.mp h).2
theorem rows_len {rs ks rl} (h : RowsR rs ks rl) : rs.length = ks.length := by
  induction h with
  | nil => rfl
  | snoc _ _ ih => simp [ih]
theorem keys_len (nums : List Int) (i : Nat) : (keysT nums i).length ≤ i := by
  unfold keysT
  rw [List.length_map]
  exact Nat.le_trans (List.length_filter_le _ _) (by rw [List.length_range]; exact Nat.le_refl _)
theorem mem_front3 {l X : Led} {a b p : Addr × Obj} (hp : p ∈ (a :: (l ++ X) : Led)) : p ∈ (l ++ (b :: a :: X) : Led) := by
  simp only [List.mem_append, List.mem_cons] at hp ⊢
  rcases hp with h | h | h <;> simp only [h, true_or, or_true]
theorem strOk_one {n : Nat} (h : n < 1114112) : PyData.strOk ⟨#[n]⟩ = true := by
  unfold PyData.strOk
  simp
  omega
end
-- Law3
section
theorem lines_Law3 : True := by
  k_with_none
  k_with "subscriptTail Name Name ref int" => (k_here; k_dflt (refine gi_stepM (by k_asm) (by first | k_memK | (repeat (first | assumption | refine List.Mem.tail _ ?_))) (by omega) (by first | omega | assumption | (simp; omega)) (by first | omega | (simp; omega)) ?_))
  k_with "subscriptTail Name Constant ref int" => (k_here; k_dflt (refine gi_stepM (by k_asm) (by first | k_memK | (repeat (first | assumption | refine List.Mem.tail _ ?_))) (by omega) (by first | omega | assumption | (simp; omega)) (by first | omega | (simp; omega)) ?_))
  k_with "exec Try" => (k_here; (refine wpAny_Try_except ?_))
  k_with "subscriptTail Name Name ref int" => (k_here; k_dflt (refine gi_stepV (by k_asm) (by k_mem) (by assumption) (by omega) (by omega) (by omega) ?_))
  trivial
local macro_rules | `(tactic| k_mem) => `(tactic| (refine List.mem_append_right _ ?_; k_mem))
local macro_rules | `(tactic| walk_at "call builtin:list.append") => `(tactic| (refine Mark.mk ?_))
local macro_rules | `(tactic| walk_at "pyIter ref") => `(tactic| (refine Mark.mk ?_))
local macro_rules | `(tactic| walk_at "exec For Name Name cons nil") => `(tactic| (refine Mark.mk ?_))
local macro_rules | `(tactic| walk_at "exec For Name Call cons nil") => `(tactic| (refine Mark.mk ?_))
local macro_rules | `(tactic| walk_at "call ref") => `(tactic| (refine Mark.mk ?_))
local macro_rules | `(tactic| walk_at "compareOp NotEq ref ref") => `(tactic| (refine Mark.mk ?_))
local macro_rules | `(tactic| walk_at "call ref") => `(tactic| (k_here; k_dflt (refine CallOK.use (c_where _ _ _ _ _ _ _ _ _ _ _ (by assumption) (by assumption)) (by k_asm) (by k_asm) (by k_asm) (by k_asm) (by k_asm) (by assumption) (by assumption) (by first | exact rfl | assumption) (by ktr_room) (by ktr_units) ?_ (fun _ _ _ _ h => h.elim)); (intro r9 n9 h9 tk9 hO9 F9 N9; refine hide_goal ?_; intro G9 hG9; obtain ⟨u91, e91, e92⟩ := hO9; subst e91; subst e92; refine hG9 ?_; clear hG9 G9; (try dsimp only); (try k_sweep))))
local macro_rules | `(tactic| walk_at "callWith ref") => `(tactic| (k_here; k_dflt (refine callWith_K (by k_asm) (by k_is) ?_)))
inductive L3J (ROWS NUM PL L : Addr) (ws ps : List Value) (cP : Nat) (nums : List Int) (oH oS : Obj) (mB : Str → Option Value) (i : Nat) (m₁ : Str → Option Value) (nw : Led) : Prop
  | mk (rs : List Value) (cR : Nat) (rl l : Led) (h1 : ∀ y, y ∉ (["k", "place", "number", "due"] : List Str) → m₁ y = mB y) (h2 : RowsR rs (keysT nums i) rl) (h3 : TabSt 40 18 4 qualC l) (h4 : ∀ p ∈ rl, p.1 ≠ ROWS ∧ p.1 ≠ 40 ∧ p.1 ≠ NUM ∧ p.1 ≠ PL ∧ p.1 ≠ L + 1 ∧ p.1 ≠ L + 1 + 1)
    (h5 : nw = l ++ ((ROWS, PySem.W.listOf rs.toArray cR) :: (NUM, PySem.W.listOf ws.toArray 0) :: (PL, PySem.W.listOf ps.toArray cP) :: (L + 1 + 1, oH) :: (L + 1, oS) :: rl))
local macro_rules | `(tactic| walk_at "isTrue Compare") => `(tactic| ((with_reducible show wpAny _ _ (isTrue (PySem.Expr.Compare _ [_, _] _ _) _ _) _ _ _); refine Mark.mk ?_))
set_option maxHeartbeats 8000000 in
theorem law3 (w : World) (d : DefRec) (kwd) (hd : defOf qv (Str.ofString "law") = some (d, kwd)) (p loose mean mg mb) (h₀ : Heap) (L fa : Addr) (cd : Value) (m : Str → Option Value) (s : Shared) (Q : Flow → Shared → Prop) (E : Value → Shared → Prop)
    (B : Below callerA h₀ [] h₀) (X : (KH.heap_1 w.params).In h₀) (T : Top p loose mean mg mb h₀) (hH : HexIn w h₀) (hC : CodeHd h₀ 44 40) (l0 : @LT.lt Nat instLTNat 40 L) (hE : PassesOwn (model PySem.Challenge.rw_ik0044_01.row.prog w) (callerA.deeper (lawEnv d L fa cd)) (lawEnv d L fa cd) E) (NUM PL : Addr) (ws ps : List Value) (cP : Nat) (nums : List Int) (oH oS : Obj) (u : Tok) (xv sc : Option Value)
    (hI : IntsAre ws nums) (hl1 : 7 ≤ nums.length) (hl2 : nums.length ≤ 11) (l1 : @LT.lt Nat instLTNat (L + 1 + 1) PL) (l2 : @LT.lt Nat instLTNat PL NUM) (hV : Vals (fun j v => ∃ t, v = .int (5 * (j : Int) + 1) t) nums.length ps)
    (F : Fr h₀ L s.heap (ov [("x", xv), ("numbers", some (.ref NUM)), ("places", some (.ref PL)), ("script", sc)] m))
    (N : News h₀ L s.heap [(NUM, PySem.W.listOf ws.toArray 0), (PL, PySem.W.listOf ps.toArray cP), (L + 1 + 1, oH), (L + 1, oS), (40, tabObj #[])]) (dS : oS.data = .cell (some (.str (srcT nums) u))) (dH : oH.data = .cell none)
    (done : ∀ ROWS rs cR rl l z1 z2 z3 z4 s', RowsR rs (keysT nums nums.length) rl → TabSt 40 18 4 qualC l → (∀ p ∈ rl, p.1 ≠ ROWS ∧ p.1 ≠ 40 ∧ p.1 ≠ NUM ∧ p.1 ≠ PL ∧ p.1 ≠ L + 1 ∧ p.1 ≠ L + 1 + 1) → @LT.lt Nat instLTNat NUM ROWS →
      Fr h₀ L s'.heap (ov [("k", z1), ("place", z2), ("number", z3), ("due", z4), ("rows", some (.ref ROWS)), ("x", xv), ("numbers", some (.ref NUM)), ("places", some (.ref PL)), ("script", sc)] m) →
      News h₀ L s'.heap (l ++ ((ROWS, PySem.W.listOf rs.toArray cR) :: (NUM, PySem.W.listOf ws.toArray 0) :: (PL, PySem.W.listOf ps.toArray cP) :: (L + 1 + 1, oH) :: (L + 1, oS) :: rl)) → (∃ h' tk', s' = { s with heap := h', toks := tk' }) →
      wpAny (model PySem.Challenge.rw_ik0044_01.row.prog w) (callerA.deeper (lawEnv d L fa cd)) (execs (d.body.drop 4) (lawEnv d L fa cd)) Q E s') :
    wpAny (model PySem.Challenge.rw_ik0044_01.row.prog w) (callerA.deeper (lawEnv d L fa cd)) (execs (d.body.drop 2) (lawEnv d L fa cd)) Q E s := by
  revert X
  k_fill
  intro X
  obtain ⟨e1, e2⟩ := Prod.mk.inj (Option.some.inj ((rfl : defOf qv (Str.ofString "law") = some (_, _)).symm.trans hd))
  subst e1
  clear hd
  dsimp only [lawEnv] at hE ⊢
  try dsimp only [lawEnv] at done
  show wpAny _ _ (execs (_ :: _) _) _ _ _
  k_steps
  unfold Mark
  rename News _ _ _ _ => N1
  rename Fr _ _ _ _ => F1
  rename_i ROWS _ lR _
  refine for_go h₀ ?_ (hE := hE)
  k_steps
  unfold Mark
  rename IsRange _ _ _ _ _ _ _ _ => hr
  rename News _ _ _ _ => N2
  rename Fr _ _ _ _ => F2
  rw [ov_cons] at F2
  refine for_range (n := nums.length) (fun mB => L3J ROWS NUM PL L ws ps cP nums oH oS mB) (by rfl) hr (by omega) F2 (News.sub N2 (l' := [(40, tabObj #[])] ++ ((ROWS, PySem.W.listOf #[] 0) :: (NUM, PySem.W.listOf ws.toArray 0) :: (PL, PySem.W.listOf ps.toArray cP) :: (L + 1 + 1, oH) :: (L + 1, oS) :: [])) (fun p hp => by
    simp only [List.mem_append, List.mem_cons, List.not_mem_nil, or_false] at hp ⊢
    rcases hp with h | h | h | h | h | h <;> simp only [h, true_or, or_true])) ⟨[], 0, [], [(40, tabObj #[])], fun _ _ => rfl, .nil, .inl rfl, fun _ h => (nomatch h), rfl⟩ ?turn ?done
  case turn =>
    intro i m₁ nw h tk I io tv s₂ hi hZ10 hio hoff F3 N3 hZ11
    refine hide_goal ?_
    intro G₀ hG₀
    obtain ⟨rs, cR, rl, l, hm, hR, hT, hrl, rfl⟩ := hZ10
    obtain ⟨h2, rfl⟩ := hZ11
    refine hG₀ ?_
    clear hG₀ G₀
    have e := ov_over _ hm
    rw [ov_app] at e
    simp only [List.map_cons, List.map_nil, List.cons_append, List.nil_append] at e
    generalize m₁ "k" = z1 at e
    generalize m₁ "place" = z2 at e
    generalize m₁ "number" = z3 at e
    generalize m₁ "due" = z4 at e
    subst e
    clear N2 F2
    obtain ⟨tp, hvp⟩ := hV.2 i hi
    have hIl : ws.length = nums.length := IntsAre.length hI
    have hpl : ps.length = nums.length := hV.1
    obtain ⟨tn, hvn⟩ := ints_at hI (show i < ws.length by omega)
    have hvp' : ps.getD i .none = .int ((5 * i + 1 : Nat) : Int) tp := by rw [hvp]; push_cast; rfl
    have hsl : (srcT nums).length ≤ 900 := by rw [srcT_len]; omega
    have hpo : 5 * i + 1 ≤ (srcT nums).length := by rw [srcT_len]; omega
    have hsp : 5 * i + 5 ≤ (srcT nums).length := by rw [srcT_len]; omega
    obtain ⟨o40, ho40⟩ := hT.in40
    have hI40 : I ≠ 40 := Ne.symm (hoff _ (List.mem_append_left _ ho40))
    have hX40 : ∀ p ∈ ((ROWS, PySem.W.listOf rs.toArray cR) :: (NUM, PySem.W.listOf ws.toArray 0) :: (PL, PySem.W.listOf ps.toArray cP) :: (L + 1 + 1, oH) :: (L + 1, oS) :: rl : Led), p.1 ≠ 40 := by
      intro p hp
      simp only [List.mem_cons] at hp
      rcases hp with rfl | rfl | rfl | rfl | rfl | hp
      · exact Nat.ne_of_gt lR.2.2.2.2
      · exact Nat.ne_of_gt (Nat.lt_trans (Nat.lt_trans (Nat.lt_trans l0 (Nat.lt_add_of_pos_right (by decide : 0 < 2))) l1) l2)
      · exact Nat.ne_of_gt (Nat.lt_trans (Nat.lt_trans l0 (Nat.lt_add_of_pos_right (by decide : 0 < 2))) l1)
      · exact Nat.ne_of_gt (Nat.lt_trans l0 (Nat.lt_add_of_pos_right (by decide : 0 < 2)))
      · exact Nat.ne_of_gt (Nat.lt_succ_of_lt l0)
      · exact (hrl p hp).2.1
    generalize hX0 : ((ROWS, PySem.W.listOf rs.toArray cR) :: (NUM, PySem.W.listOf ws.toArray 0) :: (PL, PySem.W.listOf ps.toArray cP) :: (L + 1 + 1, oH) :: (L + 1, oS) :: rl : Led) = X0 at hX40
    have hne40 : ∀ p ∈ ((I, io) :: X0 : Led), p.1 ≠ 40 := fun p hp => (List.mem_cons.mp hp).elim (fun e => e ▸ hI40) (hX40 p)
    subst hX0
    have hIf : ∀ fs t, io.data = .fields fs → fs[1]? ≠ some (.str qualC t) := by
      intro fs t e1 e2
      obtain ⟨xa, xb, xc, hio⟩ := hio
      rw [hio] at e1
      cases e1
      cases e2
    have hw1 := whereT_len hpo hsl
    have hw2 := whereT_len hsp hsl
    k_steps
    · -- a group with a g
      have hx : (nums.getD i 0).fmod 6 = 5 := by assumption
      unfold Mark
      rename News _ _ _ _ => N4
      rename Fr _ _ _ _ => F4
      k_dflt (refine CallOK0.use (told_bad (rest := (I, io) :: _) (many := 4) hsl hpo (by decide) (by decide) hne40 hT (bad4 hi hx)) B F4 X (News.in1 (News.tl N4)) T X T hH hC rfl (by ktr_room) (by ktr_units) ?_)
      intro r5 nw5 h5 tk5 hZ20 F5 N5
      refine hide_goal ?_
      intro G₀ hG₀
      obtain ⟨u5, l5, rfl, hT5, rfl⟩ := hZ20
      refine hG₀ ?_
      clear hG₀ G₀
      clear N4 F4
      k_steps
      · exact absurd (show (_ != _) = true from by assumption) (by simp)
      unfold Mark
      rename News _ _ _ _ => N4
      rename Fr _ _ _ _ => F4
      k_dflt (refine CallOK0.use (told_bad (l := l5) (rest := (I, io) :: _) (many := 5) hsl hpo (by decide) (by decide) hne40 hT5 (bad5 hi)) B F4 X N4 T X T hH hC rfl (by ktr_room) (by ktr_units) ?_)
      intro r6 nw6 h6 tk6 hZ30 F6 N6
      refine hide_goal ?_
      intro G₀ hG₀
      obtain ⟨u6, l6, rfl, hT6, rfl⟩ := hZ30
      refine hG₀ ?_
      clear hG₀ G₀
      clear N4 F4
      k_steps
      · exact absurd hx (by assumption)
      rename Fr _ _ _ _ => FZ
      rename News _ _ _ _ => NZ
      refine fe_next FZ (nw' := l6 ++ ((ROWS, PySem.W.listOf rs.toArray cR) :: (NUM, PySem.W.listOf ws.toArray 0) :: (PL, PySem.W.listOf ps.toArray cP) :: (L + 1 + 1, oH) :: (L + 1, oS) :: rl)) (News.sub NZ (fun p hp => mem_front2 hp)) ?offZ1 ?hJZ1
      case' offZ1 =>
        intro p hp
        rcases List.mem_append.mp hp with hp | hp
        · exact tab_apart NZ hT6 (fun q hq => List.mem_append_left _ hq) (List.mem_append_right _ (.head _)) hI40 hIf p hp
        · exact hoff p (List.mem_append_right _ hp)
      case' hJZ1 =>
        refine ⟨rs, cR, rl, l6, fun y hy => ?_, by rw [keys_bad (by unfold goodB; rw [decide_eq_false (fun h => h hx)]; rfl)]; exact hR, hT6, hrl, rfl⟩
        obtain ⟨y1, y2, y3, y4⟩ := ne_names hy
        simp only [if_neg y1, if_neg y2, if_neg y3, if_neg y4]
        exact ov_skipN (lc := [("k", _), ("place", _), ("number", _), ("due", _)]) (by simp only [List.map_cons, List.map_nil]; decide +kernel) hy
    · unfold Mark
      refine false_once (C := ¬ (55295 < (nums.getD i 0).fmod 65536 ∧ (nums.getD i 0).fmod 65536 < 57344)) ?_ ?_
      · refine isTrue_chain ?_
        k_steps
        · -- no sign has the number
          have hx : (nums.getD i 0).fmod 6 ≠ 5 := by assumption
          have hs1 : 55295 < (nums.getD i 0).fmod 65536 := by assumption
          have hs2 : (nums.getD i 0).fmod 65536 < 57344 := by assumption
          obtain ⟨hok4, hn4⟩ := ok4 hi hx
          have hsc4 : scalarB (hexN (srcT nums) (5 * i + 1) 4) = false := by
            rw [hn4, scalar_num, decide_eq_true (show 55295 < numT (nums.getD i 0) from hs1), decide_eq_true (show numT (nums.getD i 0) < 57344 from hs2)]; rfl
          unfold Mark
          rename News _ _ _ _ => N4
          rename Fr _ _ _ _ => F4
          k_dflt (refine CallOK0.use (told_esc (rest := (I, io) :: _) (many := 4) hsl hpo (by decide) (by decide) hne40 hT hok4 hsc4) B F4 X (News.in1 (News.tl N4)) T X T hH hC rfl (by ktr_room) (by ktr_units) ?_)
          intro r5 nw5 h5 tk5 hZ40 F5 N5
          refine hide_goal ?_
          intro G₀ hG₀
          obtain ⟨u5, l5, rfl, hT5, rfl⟩ := hZ40
          refine hG₀ ?_
          clear hG₀ G₀
          clear N4 F4
          k_steps
          · exact absurd (show (_ != _) = true from by assumption) (by simp)
          unfold Mark
          rename News _ _ _ _ => N4
          rename Fr _ _ _ _ => F4
          k_dflt (refine CallOK0.use (told_bad (l := l5) (rest := (I, io) :: _) (many := 5) hsl hpo (by decide) (by decide) hne40 hT5 (bad5 hi)) B F4 X N4 T X T hH hC rfl (by ktr_room) (by ktr_units) ?_)
          intro r6 nw6 h6 tk6 hZ50 F6 N6
          refine hide_goal ?_
          intro G₀ hG₀
          obtain ⟨u6, l6, rfl, hT6, rfl⟩ := hZ50
          refine hG₀ ?_
          clear hG₀ G₀
          clear N4 F4
          k_steps
          · exact absurd (show (_ != _) = true from by assumption) (by simp)
          rotate_left
          · exact absurd (show (nums.getD i 0).fmod 6 = 5 from by assumption) hx
          obtain ⟨hok3, hn3⟩ := ok3 hi hx
          have hsc3 : scalarB (hexN (srcT nums) (5 * i + 1) 3) = true := by rw [hn3]; exact scalar_div _
          unfold Mark
          rename News _ _ _ _ => N4
          rename Fr _ _ _ _ => F4
          k_dflt (refine CallOK0.use (told_ok (l := l6) (rest := (I, io) :: _) (many := 3) hsl hpo (by decide) (by decide) hne40 hT6 hok3 hsc3) B F4 X N4 T X T hH hC rfl (by ktr_room) (by ktr_units) ?_)
          intro r7 nw7 h7 tk7 hZ60 F7 N7
          refine hide_goal ?_
          intro G₀ hG₀
          obtain ⟨T7, u7, v7, rfl, hT7, rfl⟩ := hZ60
          refine hG₀ ?_
          clear hG₀ G₀
          clear N4 F4
          k_steps
          unfold Mark
          rename News _ _ _ _ => N4
          refine ne_pair (N4 _ (.tail _ (.head _))).1 (N4 _ (.head _)).1 rfl (by rw [hn3, div_num]) (by rw [hn3]; exact strOk_one (Nat.lt_of_le_of_lt (Nat.div_le_self _ _) (num_small _))) (by ktr_units) ?_
          k_steps
          have N5z := News.tl (News.tl N4)
          clear N4
          rename Fr _ _ _ _ => FZ
          rename News _ _ _ _ => NZ
          refine fe_next FZ (nw' := l6 ++ ((ROWS, PySem.W.listOf rs.toArray cR) :: (NUM, PySem.W.listOf ws.toArray 0) :: (PL, PySem.W.listOf ps.toArray cP) :: (L + 1 + 1, oH) :: (L + 1, oS) :: rl)) (News.sub NZ (fun p hp => mem_front2 hp)) ?offZ2 ?hJZ2
          case' offZ2 =>
            intro p hp
            rcases List.mem_append.mp hp with hp | hp
            · exact tab_apart NZ hT6 (fun q hq => List.mem_append_left _ hq) (List.mem_append_right _ (.head _)) hI40 hIf p hp
            · exact hoff p (List.mem_append_right _ hp)
          case' hJZ2 =>
            refine ⟨rs, cR, rl, l6, fun y hy => ?_, by rw [keys_bad (by unfold goodB; rw [decide_eq_true (show 55295 < numT (nums.getD i 0) from hs1), decide_eq_true (show numT (nums.getD i 0) < 57344 from hs2)]; simp)]; exact hR, hT6, hrl, rfl⟩
            obtain ⟨y1, y2, y3, y4⟩ := ne_names hy
            simp only [if_neg y1, if_neg y2, if_neg y3, if_neg y4]
            exact ov_skipN (lc := [("k", _), ("place", _), ("number", _), ("due", _)]) (by simp only [List.map_cons, List.map_nil]; decide +kernel) hy
        · exact fun hh => absurd hh.2 (by assumption)
        · exact fun hh => absurd hh.1 (by assumption)
      · -- a number that stays
        intro hC9 tk9
        k_steps
        have hx : (nums.getD i 0).fmod 6 ≠ 5 := by assumption
        have hgood : goodB (nums.getD i 0) = true := good_of hx hC9
        obtain ⟨hok4, hn4⟩ := ok4 hi hx
        have hsc4 : scalarB (hexN (srcT nums) (5 * i + 1) 4) = true := by rw [hn4]; exact good_scalar hgood
        unfold Mark
        rename News _ _ _ _ => N4
        rename Fr _ _ _ _ => F4
        rename_i D9 _ lD _ RW _ lW
        have hr1 := rows_len hR
        have hr2 := keys_len nums i
        have aW : ∀ p ∈ (l ++ ((ROWS, PySem.W.listOf rs.toArray cR) :: (NUM, PySem.W.listOf ws.toArray 0) :: (PL, PySem.W.listOf ps.toArray cP) :: (L + 1 + 1, oH) :: (L + 1, oS) :: rl) : Led), @LT.lt Nat instLTNat p.1 RW := fun p hp => allLt_mem lW.2.2.2 p hp
        have aD : ∀ p ∈ (l ++ ((ROWS, PySem.W.listOf rs.toArray cR) :: (NUM, PySem.W.listOf ws.toArray 0) :: (PL, PySem.W.listOf ps.toArray cP) :: (L + 1 + 1, oH) :: (L + 1, oS) :: rl) : Led), @LT.lt Nat instLTNat p.1 D9 := fun p hp => allLt_mem lD.2.2 p hp
        have rR : ROWS ≠ RW := Nat.ne_of_lt (aW _ (List.mem_append_right _ (.head _)))
        have rN : NUM ≠ RW := Nat.ne_of_lt (aW _ (List.mem_append_right _ (.tail _ (.head _))))
        have rP : PL ≠ RW := Nat.ne_of_lt (aW _ (List.mem_append_right _ (.tail _ (.tail _ (.head _)))))
        have r2 : L + 1 + 1 ≠ RW := Nat.ne_of_lt (aW _ (List.mem_append_right _ (.tail _ (.tail _ (.tail _ (.head _))))))
        have r1 : L + 1 ≠ RW := Nat.ne_of_lt (aW _ (List.mem_append_right _ (.tail _ (.tail _ (.tail _ (.tail _ (.head _)))))))
        have r0 : RW ≠ 40 := Nat.ne_of_gt (aW _ (List.mem_append_left _ ho40))
        have d0 : D9 ≠ 40 := Nat.ne_of_gt (aD _ (List.mem_append_left _ ho40))
        have dR : D9 ≠ ROWS := Nat.ne_of_gt (aD _ (List.mem_append_right _ (.head _)))
        have rl0 : ∀ p ∈ rl, p.1 ≠ RW := fun p hp => Nat.ne_of_lt (aW _ (List.mem_append_right _ (.tail _ (.tail _ (.tail _ (.tail _ (.tail _ hp)))))))
        have lRw : ∀ p ∈ l, p.1 ≠ ROWS := tab_apart N4 hT (fun q hq => .tail _ (.tail _ (.tail _ (.tail _ (List.mem_append_left _ hq))))) (.tail _ (.tail _ (.tail _ (.tail _ (List.mem_append_right _ (.head _)))))) (Nat.ne_of_gt lR.2.2.2.2) (fun vs t e => nomatch e)
        have hR' : ∀ t u c, RowsR (rs ++ [.ref RW]) (keysT nums (i + 1)) ((RW, rowObj (numT (nums.getD i 0), ((5 * i + 1 : Nat) : Int)) t u c) :: rl) := fun t u c => by rw [keys_good hgood]; exact .snoc hR rl0
        refine append_stepM F4 N4 (.tail _ (.tail _ (.tail _ (.tail _ (List.mem_append_right _ (.head _)))))) (by omega) ?_
        intro h5 F5 NN5
        have N5 := NN5 ((D9, _) :: (I, io) :: (l ++ ((ROWS, PySem.W.listOf (rs ++ [Value.ref RW]).toArray (cR + 1)) :: (NUM, PySem.W.listOf ws.toArray 0) :: (PL, PySem.W.listOf ps.toArray cP) :: (L + 1 + 1, oH) :: (L + 1, oS) :: (RW, _) :: rl))) (fun p hp => by
          simp only [List.mem_cons, List.mem_append] at hp
          rcases hp with rfl | rfl | hp | rfl | rfl | rfl | rfl | rfl | rfl | hp
          · exact .inr ⟨.tail _ (.head _), dR⟩
          · exact .inr ⟨.tail _ (.tail _ (.tail _ (.head _))), Ne.symm (hoff _ (List.mem_append_right _ (.head _)))⟩
          · exact .inr ⟨.tail _ (.tail _ (.tail _ (.tail _ (List.mem_append_left _ hp)))), lRw p hp⟩
          · exact .inl rfl
          · exact .inr ⟨.tail _ (.tail _ (.tail _ (.tail _ (List.mem_append_right _ (.tail _ (.head _)))))), Nat.ne_of_lt lR.1⟩
          · exact .inr ⟨.tail _ (.tail _ (.tail _ (.tail _ (List.mem_append_right _ (.tail _ (.tail _ (.head _))))))), Nat.ne_of_lt lR.2.1⟩
          · exact .inr ⟨.tail _ (.tail _ (.tail _ (.tail _ (List.mem_append_right _ (.tail _ (.tail _ (.tail _ (.head _)))))))), Nat.ne_of_lt lR.2.2.1⟩
          · exact .inr ⟨.tail _ (.tail _ (.tail _ (.tail _ (List.mem_append_right _ (.tail _ (.tail _ (.tail _ (.tail _ (.head _))))))))), Nat.ne_of_lt lR.2.2.2.1⟩
          · exact .inr ⟨.head _, Ne.symm rR⟩
          · exact .inr ⟨.tail _ (.tail _ (.tail _ (.tail _ (List.mem_append_right _ (.tail _ (.tail _ (.tail _ (.tail _ (.tail _ hp))))))))), (hrl p hp).1⟩)
        have hrl' : ∀ (o : Obj), ∀ p ∈ ((RW, o) :: rl : Led), p.1 ≠ ROWS ∧ p.1 ≠ 40 ∧ p.1 ≠ NUM ∧ p.1 ≠ PL ∧ p.1 ≠ L + 1 ∧ p.1 ≠ L + 1 + 1 := by
          intro o p hp
          rcases List.mem_cons.mp hp with rfl | hp
          · exact ⟨Ne.symm rR, r0, Ne.symm rN, Ne.symm rP, Ne.symm r1, Ne.symm r2⟩
          · exact hrl p hp
        have offx : ∀ {oR : Obj}, ∀ p ∈ ((ROWS, PySem.W.listOf (rs ++ [Value.ref RW]).toArray (cR + 1)) :: (NUM, PySem.W.listOf ws.toArray 0) :: (PL, PySem.W.listOf ps.toArray cP) :: (L + 1 + 1, oH) :: (L + 1, oS) :: (RW, oR) :: rl : Led), p.1 ≠ I := by
          intro oR p hp
          rcases List.mem_cons.mp hp with rfl | hp
          · exact hoff (ROWS, PySem.W.listOf rs.toArray cR) (List.mem_append_right _ (.head _))
          rcases List.mem_cons.mp hp with rfl | hp
          · exact hoff _ (List.mem_append_right _ (.tail _ (.head _)))
          rcases List.mem_cons.mp hp with rfl | hp
          · exact hoff _ (List.mem_append_right _ (.tail _ (.tail _ (.head _))))
          rcases List.mem_cons.mp hp with rfl | hp
          · exact hoff _ (List.mem_append_right _ (.tail _ (.tail _ (.tail _ (.head _)))))
          rcases List.mem_cons.mp hp with rfl | hp
          · exact hoff _ (List.mem_append_right _ (.tail _ (.tail _ (.tail _ (.tail _ (.head _))))))
          rcases List.mem_cons.mp hp with rfl | hp
          · exact Nat.ne_of_gt lW.2.2.1
          · exact hoff _ (List.mem_append_right _ (.tail _ (.tail _ (.tail _ (.tail _ (.tail _ hp))))))
        clear N4 F4 NN5
        k_steps
        unfold Mark
        rename News _ _ _ _ => N4
        rename Fr _ _ _ _ => F4
        have hne40' : ∀ {oD oR : Obj}, ∀ p ∈ ((D9, oD) :: (I, io) :: ((ROWS, PySem.W.listOf (rs ++ [Value.ref RW]).toArray (cR + 1)) :: (NUM, PySem.W.listOf ws.toArray 0) :: (PL, PySem.W.listOf ps.toArray cP) :: (L + 1 + 1, oH) :: (L + 1, oS) :: (RW, oR) :: rl) : Led), p.1 ≠ 40 := by
          intro oD oR p hp
          rcases List.mem_cons.mp hp with rfl | hp
          · exact d0
          rcases List.mem_cons.mp hp with rfl | hp
          · exact hI40
          rcases List.mem_cons.mp hp with rfl | hp
          · exact hX40 (ROWS, PySem.W.listOf rs.toArray cR) (.head _)
          rcases List.mem_cons.mp hp with rfl | hp
          · exact hX40 _ (.tail _ (.head _))
          rcases List.mem_cons.mp hp with rfl | hp
          · exact hX40 _ (.tail _ (.tail _ (.head _)))
          rcases List.mem_cons.mp hp with rfl | hp
          · exact hX40 _ (.tail _ (.tail _ (.tail _ (.head _))))
          rcases List.mem_cons.mp hp with rfl | hp
          · exact hX40 _ (.tail _ (.tail _ (.tail _ (.tail _ (.head _)))))
          rcases List.mem_cons.mp hp with rfl | hp
          · exact r0
          · exact hX40 _ (.tail _ (.tail _ (.tail _ (.tail _ (.tail _ hp)))))
        k_dflt (refine CallOK0.use (told_ok (rest := (D9, _) :: (I, io) :: _) (many := 4) hsl hpo (by decide) (by decide) hne40' hT hok4 hsc4) B F4 X (News.in2 N4) T X T hH hC rfl (by ktr_room) (by ktr_units) ?_)
        intro r5 nw5 h5 tk5 hZ70 F5 N5
        refine hide_goal ?_
        intro G₀ hG₀
        obtain ⟨T5, u5, v5, rfl, hT5', rfl⟩ := hZ70
        refine hG₀ ?_
        clear hG₀ G₀
        clear N4 F4
        k_steps
        unfold Mark
        rename News _ _ _ _ => N4
        refine ne_pair (N4 _ (.head _)).1 (N4 _ (.tail _ (List.mem_append_right _ (.head _)))).1 rfl (by rw [hn4]; rfl) (by rw [hn4]; exact strOk_one (num_small _)) (by ktr_units) ?_
        k_steps
        unfold Mark
        rename Fr _ _ _ _ => F4
        k_dflt (refine CallOK0.use (told_bad (l := l) (rest := (D9, _) :: (I, io) :: _) (many := 5) hsl hpo (by decide) (by decide) hne40' hT (bad5 hi)) B F4 X (News.tl N4) T X T hH hC rfl (by ktr_room) (by ktr_units) ?_)
        intro r6 nw6 h6 tk6 hZ80 F6 N6
        refine hide_goal ?_
        intro G₀ hG₀
        obtain ⟨u6, l6, rfl, hT6, rfl⟩ := hZ80
        refine hG₀ ?_
        clear hG₀ G₀
        clear N4 F4
        k_steps
        · exact absurd (show (_ != _) = true from by assumption) (by simp)
        rotate_left
        · exact absurd (show (nums.getD i 0).fmod 6 = 5 from by assumption) hx
        obtain ⟨hok3, hn3⟩ := ok3 hi hx
        have hsc3 : scalarB (hexN (srcT nums) (5 * i + 1) 3) = true := by rw [hn3]; exact scalar_div _
        unfold Mark
        rename News _ _ _ _ => N4
        rename Fr _ _ _ _ => F4
        k_dflt (refine CallOK0.use (told_ok (l := l6) (rest := (D9, _) :: (I, io) :: _) (many := 3) hsl hpo (by decide) (by decide) hne40' hT6 hok3 hsc3) B F4 X N4 T X T hH hC rfl (by ktr_room) (by ktr_units) ?_)
        intro r7 nw7 h7 tk7 hZ90 F7 N7
        refine hide_goal ?_
        intro G₀ hG₀
        obtain ⟨T7, u7, v7, rfl, hT7, rfl⟩ := hZ90
        refine hG₀ ?_
        clear hG₀ G₀
        clear N4 F4
        k_steps
        unfold Mark
        rename News _ _ _ _ => N4
        refine ne_pair (N4 _ (.tail _ (.head _))).1 (N4 _ (.head _)).1 rfl (by rw [hn3, div_num]) (by rw [hn3]; exact strOk_one (Nat.lt_of_le_of_lt (Nat.div_le_self _ _) (num_small _))) (by ktr_units) ?_
        k_steps
        have N5z := News.tl (News.tl N4)
        clear N4
        rename Fr _ _ _ _ => FZ
        rename News _ _ _ _ => NZ
        refine fe_next FZ (nw' := l6 ++ ((ROWS, PySem.W.listOf (rs ++ [Value.ref RW]).toArray (cR + 1)) :: (NUM, PySem.W.listOf ws.toArray 0) :: (PL, PySem.W.listOf ps.toArray cP) :: (L + 1 + 1, oH) :: (L + 1, oS) :: ((RW, _) :: rl))) (News.sub NZ (fun p hp => mem_front3 hp)) ?offZ3 ?hJZ3
        case' offZ3 =>
          intro p hp
          rcases List.mem_append.mp hp with hp | hp
          · exact tab_apart NZ hT6 (fun q hq => List.mem_append_left _ hq) (List.mem_append_right _ (.tail _ (.head _))) hI40 hIf p hp
          · exact offx p hp
        case' hJZ3 =>
          refine ⟨(rs ++ [Value.ref RW]), (cR + 1), ((RW, _) :: rl), l6, fun y hy => ?_, hR' _ _ _, hT6, hrl' _, rfl⟩
          obtain ⟨y1, y2, y3, y4⟩ := ne_names hy
          simp only [if_neg y1, if_neg y2, if_neg y3, if_neg y4]
          exact ov_skipN (lc := [("k", _), ("place", _), ("number", _), ("due", _)]) (by simp only [List.map_cons, List.map_nil]; decide +kernel) hy
  case done =>
    intro m₁ nw h tk hZ130 F2 N2
    refine hide_goal ?_
    intro G₀ hG₀
    obtain ⟨rs, cR, rl, l, hm, hR, hT, hrl, rfl⟩ := hZ130
    refine hG₀ ?_
    clear hG₀ G₀
    have e := ov_over _ hm
    rw [ov_app] at e
    simp only [List.map_cons, List.map_nil, List.cons_append, List.nil_append] at e
    rw [e] at F2
    exact done ROWS rs cR rl l _ _ _ _ _ hR hT hrl lR.1 F2 N2 ⟨_, _, rfl⟩
end
-- LawW
section
open PySem.Spec
section
variable {prog : Program} {w : World} {A : Around} {E : Value → Shared → Prop} {s : Shared}
theorem assign_Tuple_list {env : Env} {elts : List PySem.Expr} {x1} {pos : Pos} {t : Addr} {items : Array Value} {Q : Unit → Shared → Prop} (hh : A.handled = none) (hl : s.heap.IsList t items)
    (hn : (assignEach elts env).length = items.size) (hstar : (assignEach elts env).findIdx? (·.1) = none)
    (h : ∀ h', Heap.ExtBut s.heap.objs.size s.heap h' → wpAny (model prog w) A (assignInOrder ((assignEach elts env).map (·.2)) items.toList) Q E { s with heap := h' }) :
    wpAny (model prog w) A (assign (.Tuple elts x1 pos) env (.ref t)) Q E s := by
  rw [PyProof.Rows.assign_Tuple]
  refine wpAny_bind (wpAny_standAt ?_)
  unfold unpack
  rw [hn, hstar]
  exact wpAny_bind (wpAny_holding (kun_itemsOf hh hl h))
variable {h₀ : Heap} {L : Addr} {m : Str → Option Value} {env : Env}
theorem turn_pairL {elt : PySem.Expr} {x y : Str} {px py pt : Pos} {kt : Nat} {scope : Scope} {cl : List (Str × Addr)} {C D T : Addr} {ys : List Value} {m' : Str → Option Value} {news : Led} {a b : Value} {Q1 : Value → Shared → Prop} {Q2 : Shared → Prop}
    (hh : A.handled = none) (hx : scope.names.lookup x = some .local) (hy : scope.names.lookup y = some .local) (hxy : x ≠ y) (hkind : scope.kind = .function) (F : Fr h₀ L s.heap m) (hn : s.heap.Ns C m') (N : News h₀ L s.heap ((D, clst ys) :: news)) (off : ∀ p ∈ news, p.1 ≠ C ∧ p.1 ≠ D) (hCD : C ≠ D) (hCL : C ≠ L) (hC₀ : h₀.get? C = none)
    (hT : s.heap.IsList T #[a, b])
    (K : ∀ h' tk oC m₂, LCg.NsObj oC m₂ → m₂ x = some a → m₂ y = some b → Fr h₀ L h' m → News h₀ L h' ((C, oC) :: (D, clst ys) :: news) → wpAny (model prog w) A (eval elt (compEnvC scope cl C env)) Q1 E { s with heap := h', toks := tk }) :
    wpAny (model prog w) A (assign (.Tuple [.Name x px, .Name y py] kt pt) (compEnvC scope cl C env) (.ref T)) (fun _ s₂' =>
          wpAny (model prog w) A (forIn ([] : List PySem.Expr) true fun c r => if r = true then do let ok ← isTrue c (compEnvC scope cl C env) (eval c (compEnvC scope cl C env)); pure (ForInStep.yield ok) else pure (ForInStep.yield r)) (fun ok s₃ =>
            if ok = true then wpAny (model prog w) A (eval elt (compEnvC scope cl C env)) Q1 E s₃
            else Q2 s₃) E s₂') E s := by
  refine assign_Tuple_list hh hT rfl rfl fun h₁ he₁ => ?_
  have hn₁ : h₁.Ns C m' := hn.extBut he₁ (Nat.ne_of_lt hn.lt)
  have F₁ : Fr h₀ L h₁ m := F.extBut he₁ (Nat.le_refl _)
  have N₁ : News h₀ L h₁ ((D, clst ys) :: news) := N.extBut he₁ (Nat.le_refl _)
  refine assignInOrder_cons ?_
  show wpAny _ _ (assign (.Name x px) (compEnvC scope cl C env) a) _ _ _
  refine wpAny_assign_Name (wpAny_storeName_local (lookup_relabel_local hx) hn₁ (fun h₂ hn₂ hs₂ => ?_) (by simp [compEnvC, relabel, hkind]))
  refine assignInOrder_cons ?_
  show wpAny _ _ (assign (.Name y py) (compEnvC scope cl C env) b) _ _ _
  refine wpAny_assign_Name (wpAny_storeName_local (lookup_relabel_local hy) hn₂ (fun h₃ hn₃ hs₃ => ?_) (by simp [compEnvC, relabel, hkind]))
  refine assignInOrder_nil ?_
  refine wpAny_tests_nil ?_
  simp only [if_true]
  have F₂ : Fr h₀ L h₂ m := F₁.change hs₂ hCL hC₀
  have F₃ : Fr h₀ L h₃ m := F₂.change hs₃ hCL hC₀
  have N₃ : News h₀ L h₃ ((D, clst ys) :: news) := fun p hp => by
    have hne : p.1 ≠ C := by
      rcases List.mem_cons.mp hp with rfl | hp
      · exact hCD.symm
      · exact (off p hp).1
    exact ⟨hs₃.extBut _ _ hne (hs₂.extBut _ _ hne (N₁ p hp).1), (N₁ p hp).2⟩
  obtain ⟨oC, hoC, N₄⟩ := ns_front hn₃ N₃ hCL hC₀
  exact K h₃ _ oC _ hoC (by simp [hxy]) (by simp) F₃ N₄
/-- over a list of rows, each row spread over two names -/
theorem comp_pairL {elt : PySem.Expr} {x y : Str} {px py pt : Pos} {kt : Nat} {scope : Scope} {cl : List (Str × Addr)} {Fin : Shared → List Value → Led → Prop} {ax : Addr} {vs : List Value} {n : Nat} {news : Led} (JJ : Nat → List Value → Led → Prop)
    (hh : A.handled = none) (F : Fr h₀ L s.heap m) (N : News h₀ L s.heap news) (hax : ∀ i ys nw, JJ i ys nw → (ax, PySem.W.listOf vs.toArray n) ∈ nw) (h0 : JJ 0 [] news) (hv : vs.length ≤ 1000) (hlen : ∀ i ys nw, JJ i ys nw → ys.length ≤ i)
    (hx : scope.names.lookup x = some .local) (hy : scope.names.lookup y = some .local) (hxy : x ≠ y) (hkind : scope.kind = .function)
    (kf : Nat → Int × Int) (row : ∀ i ys nw, i < vs.length → JJ i ys nw → ∃ a t u c, vs.getD i .none = .ref a ∧ (a, rowObj (kf i) t u c) ∈ nw)
    (turn : ∀ i I io ys nw h tk D C oC m₂ s₂ t u (E' : Value → Shared → Prop), i < vs.length → JJ i ys nw → LCg.NsObj oC m₂ → m₂ x = some (.int (kf i).1 t) → m₂ y = some (.int (kf i).2 u) → Fr h₀ L h m → News h₀ L h ((C, oC) :: (D, clst ys) :: (I, io) :: nw) → (∀ p ∈ nw, p.1 ≠ C ∧ p.1 ≠ D ∧ p.1 ≠ I) → C ≠ D → C ≠ I → D ≠ I → (∃ h2, s₂ = { s with heap := h2 }) →
      wpAny (model prog w) A (eval elt (compEnvC scope cl C env)) (TurnEnd h₀ L m s₂ D C I io ys (JJ (i + 1))) E' { s₂ with heap := h, toks := tk })
    (fin : ∀ ys nw s₂, (∃ h2, s₂ = { s with heap := h2 }) → JJ vs.length ys nw → Fin s₂ ys nw) :
    wpAny (model prog w) A (pyIter (.ref ax)) (CompAt prog w A h₀ L m env elt (.Tuple [.Name x px, .Name y py] kt pt) [] scope cl Fin) E s := by
  refine comp_list (vs := vs) (n := n) JJ hh let_tuple F N (.inr hax) h0 hv hlen ?_ fin
  rintro i I io ys m' nw h tk D C s₂ E' hi hJ F' hn N' off hoff hCD hCL hC0 hs₂
  have hCI : C ≠ I := Ne.symm (off _ (.head _)).1
  have hDI : D ≠ I := Ne.symm (off _ (.head _)).2
  refine hide_goal ?_
  intro G₀ hG₀
  obtain ⟨a, t, u, c, hva, hma⟩ := row i ys nw hi hJ
  refine hG₀ ?_
  clear hG₀ G₀
  rw [hva]
  refine turn_pairL (s := { s₂ with heap := h, toks := tk }) hh hx hy hxy hkind F' hn N' off hCD hCL hC0 (PySem.IsL.isList (N' _ (.tail _ (.tail _ hma))).1) fun h3 tk3 oC m₂ hoC hm₁ hm₂ F3 N3 => ?_
  have offT : ∀ p ∈ nw, p.1 ≠ C ∧ p.1 ≠ D ∧ p.1 ≠ I := fun p hp => ⟨(off p (.tail _ hp)).1, (off p (.tail _ hp)).2, hoff p hp⟩
  refine wpAny_mono (turn i I io ys nw h3 tk3 D C oC m₂ s₂ t u E' hi hJ hoC hm₁ hm₂ F3 N3 offT hCD hCI hDI hs₂) (fun y s₄ h₄ => ?_) fun _ _ e => e
  refine hide_goal ?_
  intro G₀ hG₀
  obtain ⟨h5, tk5, oC5, m5, nw5, rfl, hoC5, F5, N5, off5, hJ5⟩ := h₄
  refine hG₀ ?_
  clear hG₀ G₀
  refine cp_end hoC5 F5 N5 (.head _) (.tail _ (.head _)) (news' := (I, io) :: nw5) (fun p hp => .tail _ (.tail _ hp)) ?_ (k' := i) (Nat.lt_succ_self _) ⟨rfl, nw5, rfl, fun p hp => (off5 p hp).2.2, hJ5⟩
  intro p hp
  rcases List.mem_cons.mp hp with rfl | hp
  · exact (show I ≠ C ∧ I ≠ D from ⟨Ne.symm hCI, Ne.symm hDI⟩)
  · exact ⟨(off5 p hp).1, (off5 p hp).2.1⟩
end
section
variable {prog : Program} {w : World} {A : Around} {E : Value → Shared → Prop} {s : Shared} {h₀ : Heap} {L : Addr}
def rowD (k : Int × Int) : PyData := .list [.int k.1, .int k.2]
theorem reads_rows {key : Addr → Int × Int} {led : Led} (N : News h₀ L s.heap led) : ∀ {xs : List Value}, (∀ v ∈ xs, domR key led v) → ∃ as, ReadsAll s.heap xs (xs.map fun v => rowD (key (adr v))) as
  | [], _ => ⟨_, .nil⟩
  | v :: xs, h => by
    obtain ⟨as, r⟩ := reads_rows N (xs := xs) fun v hv => h v (.tail _ hv)
    obtain ⟨a, t, u, c, rfl, hm⟩ := h v (.head _)
    exact ⟨_, .cons (reads_list_at (xs := [.int (key a).1, .int (key a).2]) (N _ hm).1 rfl rfl (ReadsAll.cons (Reads.int _ _) (ReadsAll.cons (Reads.int _ _) ReadsAll.nil))) r⟩
theorem lay_rows : ∀ (l : List (Int × Int)), PyData.canLayAll0 (l.map rowD) = true ∧ PyData.depthAll (l.map rowD) ≤ 5
  | [] => ⟨rfl, by simp [PyData.depthAll]⟩
  | k :: l => by
    obtain ⟨h1, h2⟩ := lay_rows l
    refine ⟨?_, ?_⟩
    · rw [List.map_cons]
      simp only [PyData.canLayAll0, h1, Bool.and_true]
      simp [rowD, PyData.canLay0, PyData.canLayAll0]
    · rw [List.map_cons]
      simp only [PyData.depthAll]
      have : PyData.depth (rowD k) ≤ 5 := by simp [rowD, PyData.depth, PyData.depthAll]
      omega
theorem shaped_rows (l : List (Int × Int)) : PySem.SeqAt.shaped (.list (l.map rowD)) = true := by
  obtain ⟨h1, h2⟩ := lay_rows l
  unfold SeqAt.shaped
  rw [Bool.and_eq_true_iff]
  refine ⟨by simpa only [PyData.canLay0] using h1, decide_eq_true ?_⟩
  simp only [PyData.depth]
  omega
theorem rows_cmp {X Y : Addr} {xs ys : List Value} {n1 n2 : Nat} {k1 k2 : Addr → Int × Int} {led : Led} (N : News h₀ L s.heap led) (hX : (X, PySem.W.listOf xs.toArray n1) ∈ led) (hY : (Y, PySem.W.listOf ys.toArray n2) ∈ led)
    (dx : ∀ v ∈ xs, domR k1 led v) (dy : ∀ v ∈ ys, domR k2 led v) (he : xs.map (fun v => k1 (adr v)) = ys.map (fun v => k2 (adr v))) (hu : A.units + 64 < cLine) :
    (∀ Q : Value → Shared → Prop, Q (.bool false) s → wpAny (model prog w) A (compareOp .NotEq (.ref X) (.ref Y)) Q E s) ∧ (∀ Q : Value → Shared → Prop, Q (.bool true) s → wpAny (model prog w) A (compareOp .Eq (.ref X) (.ref Y)) Q E s) := by
  obtain ⟨as1, r1⟩ := reads_rows N dx
  obtain ⟨as2, r2⟩ := reads_rows N dy
  have e : (ys.map fun v => rowD (k2 (adr v))) = xs.map fun v => rowD (k1 (adr v)) := by
    have := congrArg (List.map rowD) he
    rw [List.map_map, List.map_map] at this
    exact this.symm
  rw [e] at r2
  have em : (xs.map fun v => rowD (k1 (adr v))) = (xs.map fun v => k1 (adr v)).map rowD := by rw [List.map_map]; rfl
  have sh : PySem.SeqAt.shaped (.list (xs.map fun v => rowD (k1 (adr v)))) = true := by rw [em]; exact shaped_rows _
  have ra := reads_list_at (N _ hX).1 rfl rfl (vs := xs.toArray) (by simpa using r1)
  have rb := reads_list_at (N _ hY).1 rfl rfl (vs := ys.toArray) (by simpa using r2)
  have hl : PyData.canLay0 (.list (xs.map fun v => rowD (k1 (adr v)))) = true := by
    unfold SeqAt.shaped at sh
    exact (Bool.and_eq_true_iff.mp sh).1
  have ev := PySem.SeqAt.eqv_refl _ hl
  exact ⟨fun Q h => ne_dataH (a := .ref X) (b := .ref Y) ra rb sh sh hu (by rw [ev]; exact h), fun Q h => eq_dataH (a := .ref X) (b := .ref Y) ra rb sh sh hu (by rw [ev]; exact h)⟩
end
section
variable {w : World} {p : Program} {loose : List Str} {mean : ExcName → Option Value} {mg mb : Str → Option Value} {rest l : Led} {src : Str} {pos many : Nat} {t1 t2 t3 : Tok}
theorem hex_good (hs : src.length ≤ 900) (hpos : pos ≤ src.length) (h1 : 1 ≤ many) (hmany : many ≤ 10) (hne : ∀ p ∈ rest, p.1 ≠ 40) (hl : TabSt 40 18 4 qualC l) (hb : hexOk src pos many) (hsc : scalarB (hexN src pos many) = true) :
    CallOK0 w p loose mean mg mb 38 [.str src t1, .int pos t2, .int many t3] (l ++ rest) 8 100 (fun r news' => ∃ T u v, r = .ref T ∧ (∀ p ∈ l ++ rest, p.1 < T) ∧ news' = (T, { cls := .type "tuple", data := .seq #[.int ((pos : Int) + (many : Int)) u, .str ⟨#[hexN src pos many]⟩ v] }) :: (l ++ rest)) := by
  intro dp un gd cn cs a ccd cl A₀ base h₀ L m s Q E B F X N T XB TB hH hC hk hd hu ret
  refine RaiseOK.use (c_hex _ _ _ _ _ _ rest l _ _ _ _ _ _ hs hpos h1 hmany hne hl) B F X N T hH hC hk (by omega) (by omega) ?_ ?_
  · rintro r nw h' tk' ⟨_, _, ho⟩ F' N'
    exact ret r nw h' tk' ho F' N'
  · rintro g e t txt u nw h' tk' ⟨(⟨ho, _⟩ | ⟨_, ho, _⟩), _⟩
    · exact absurd hb ho
    · rw [hsc] at ho; cases ho
end
end
-- HeapO
/-- no child is ahead of its parent, for parents from s on -/
def OkAt (lt : Value → Value → Bool) (vs : List Value) (i : Nat) : Prop := lt (vs.getD i .none) (vs.getD ((i - 1) / 2) .none) = false
def Hp (lt : Value → Value → Bool) (s : Nat) (vs : List Value) : Prop := ∀ i, 0 < i → i < vs.length → s ≤ (i - 1) / 2 → OkAt lt vs i
theorem getD_set {vs : List Value} {i j : Nat} {x : Value} (hi : i < vs.length) : (vs.set i x).getD j .none = if j = i then x else vs.getD j .none := by
  by_cases h : j = i
  · subst h; simp [List.getD_eq_getElem?_getD, hi]
  · simp [List.getD_eq_getElem?_getD, h, List.getElem?_set_ne (Ne.symm h)]
theorem cdiv {k c : Nat} (hc : c = 2 * k + 1 ∨ c = 2 * k + 2) : (c - 1) / 2 = k ∧ 0 < c ∧ k < c := by
  have h : k ≤ 2 * k := Nat.le_mul_of_pos_left k (by decide)
  rcases hc with rfl | rfl
  · exact ⟨Nat.mul_add_div (by decide) k 0, Nat.succ_pos _, Nat.lt_succ_of_le h⟩
  · exact ⟨Nat.mul_add_div (by decide) k 1, Nat.succ_pos _, Nat.lt_succ_of_lt (Nat.lt_succ_of_le h)⟩
/-- the place is p or below it -/
inductive Sub (p : Nat) : Nat → Prop
  | top : Sub p p
  | kid {k c : Nat} : Sub p k → c = 2 * k + 1 ∨ c = 2 * k + 2 → Sub p c
theorem Sub.le {p k : Nat} (h : Sub p k) : p ≤ k := by
  induction h with
  | top => exact Nat.le_refl _
  | kid _ hc ih => exact Nat.le_trans ih (Nat.le_of_lt (cdiv hc).2.2)
theorem Sub.up {p k : Nat} (h : Sub p k) (hne : k ≠ p) : Sub p ((k - 1) / 2) ∧ 0 < k := by
  cases h with
  | top => exact absurd rfl hne
  | kid h' hc =>
    rw [(cdiv hc).1]; exact ⟨h', (cdiv hc).2.1⟩
structure LtOK (lt : Value → Value → Bool) (dom : Value → Prop) : Prop where
  tr : ∀ x y z, dom x → dom y → dom z → lt x y = false → lt y z = false → lt x z = false
  as : ∀ x y, dom x → dom y → lt x y = true → lt y x = false
theorem sibs {k i : Nat} (h0 : 0 < i) (h1 : (i - 1) / 2 = k) : (i ≠ 2 * k + 2 → i = 2 * k + 1) ∧ (i ≠ 2 * k + 1 → i = 2 * k + 2) := by
  have e := Nat.div_add_mod (i - 1) 2
  rw [h1] at e
  have h : i = 2 * k + 1 ∨ i = 2 * k + 2 := (Nat.mod_two_eq_zero_or_one (i - 1)).imp (fun h => by rw [← Nat.sub_add_cancel h0, ← e, h]) (fun h => by rw [← Nat.sub_add_cancel h0, ← e, h])
  exact ⟨h.resolve_right, h.resolve_left⟩
theorem leafF {c k N : Nat} (h0 : 0 < c) (hc : c < N) (hl : N ≤ 2 * k + 1) (h1 : (c - 1) / 2 = k) : False :=
  Nat.not_lt_of_le hl (Nat.lt_of_le_of_lt (Nat.lt_of_le_of_lt (h1 ▸ Nat.mul_div_le (c - 1) 2) (Nat.sub_lt h0 Nat.one_pos)) hc)
theorem sdGo_heap {lt : Value → Value → Bool} {dom : Value → Prop} (O : LtOK lt dom) {new : Value} (hn : dom new) {p : Nat} : ∀ (k : Nat) (vs : List Value), Sub p k → k < vs.length → (∀ v ∈ vs, dom v) →
    (∀ i, 0 < i → i < vs.length → p ≤ (i - 1) / 2 → i ≠ k → (i - 1) / 2 ≠ k → OkAt lt vs i) →
    (∀ c, 0 < c → c < vs.length → (c - 1) / 2 = k → lt (vs.getD c .none) new = false) →
    (k ≠ p → ∀ c, 0 < c → c < vs.length → (c - 1) / 2 = k → lt (vs.getD c .none) (vs.getD ((k - 1) / 2) .none) = false) →
    Hp lt p (sdGo lt new p k vs) := by
  intro k
  induction k using Nat.strongRecOn with
  | ind k ih =>
    intro vs hS hk hd J1 J2 J3
    have fin : (k ≠ p → lt new (vs.getD ((k - 1) / 2) .none) = false) → Hp lt p (vs.set k new) := by
      intro hf i h0 hi hp
      rw [List.length_set] at hi
      unfold OkAt
      rw [getD_set hk, getD_set hk]
      by_cases h1 : i = k
      · subst h1
        rw [if_pos rfl, if_neg (Nat.ne_of_lt (half_lt h0))]
        exact hf (Nat.ne_of_gt (Nat.lt_of_le_of_lt hp (half_lt h0)))
      · rw [if_neg h1]
        by_cases h2 : (i - 1) / 2 = k
        · rw [if_pos h2]; exact J2 i h0 hi h2
        · rw [if_neg h2]; exact J1 i h0 hi hp h1 h2
    rw [sdGo.eq_def]
    split
    · rename_i hpk
      obtain ⟨hS', hk0⟩ := hS.up (Nat.ne_of_gt hpk)
      have hlt : (k - 1) / 2 < k := half_lt hk0
      have hkv : (k - 1) / 2 < vs.length := Nat.lt_trans hlt hk
      have dk := dom_getD hd hkv
      split
      · rename_i hl
        refine ih _ hlt _ hS' (by rw [List.length_set]; exact hkv) (dom_set hd dk) ?_ ?_ ?_
        · intro i h0 hi hp h1 h2
          rw [List.length_set] at hi
          unfold OkAt
          rw [getD_set hk, getD_set hk]
          have h3 : i ≠ k := fun e => h2 (by rw [e])
          rw [if_neg h3]
          by_cases h4 : (i - 1) / 2 = k
          · rw [if_pos h4]; exact J3 (Nat.ne_of_gt hpk) i h0 hi h4
          · rw [if_neg h4]; exact J1 i h0 hi hp h3 h4
        · intro c h0 hc h1
          rw [List.length_set] at hc
          rw [getD_set hk]
          have a1 := O.as _ _ hn dk hl
          by_cases h2 : c = k
          · rw [if_pos h2]; exact a1
          · rw [if_neg h2]
            have o := J1 c h0 hc (h1 ▸ hS'.le) h2 (h1 ▸ Nat.ne_of_lt hlt)
            unfold OkAt at o
            rw [h1] at o
            exact O.tr _ _ _ (dom_getD hd hc) dk hn o a1
        · intro hne c h0 hc h1
          rw [List.length_set] at hc
          obtain ⟨hS2, hk2⟩ := hS'.up hne
          have hl2 := Nat.lt_trans (half_lt hk2) hlt
          rw [getD_set hk, getD_set hk, if_neg (Nat.ne_of_lt hl2)]
          have o2 := J1 ((k - 1) / 2) hk2 hkv hS2.le (Nat.ne_of_lt hlt) (Nat.ne_of_lt hl2)
          unfold OkAt at o2
          by_cases h2 : c = k
          · rw [if_pos h2]; exact o2
          · rw [if_neg h2]
            have o := J1 c h0 hc (h1 ▸ hS'.le) h2 (h1 ▸ Nat.ne_of_lt hlt)
            unfold OkAt at o
            rw [h1] at o
            exact O.tr _ _ _ (dom_getD hd hc) dk (dom_getD hd (Nat.lt_trans hl2 hk)) o o2
      · rename_i hl
        exact fin fun _ => by simpa using hl
    · rename_i hpk; exact fin fun hne => absurd (Nat.lt_of_le_of_ne hS.le (Ne.symm hne)) hpk
/-- the way down: the hole goes to a leaf, the rest stays in order -/
theorem suGo_heap {lt : Value → Value → Bool} {dom : Value → Prop} (O : LtOK lt dom) {p N : Nat} : ∀ (k : Nat) (vs : List Value), vs.length = N → Sub p k → k < N → (∀ v ∈ vs, dom v) →
    (∀ i, 0 < i → i < N → p ≤ (i - 1) / 2 → i ≠ k → (i - 1) / 2 ≠ k → OkAt lt vs i) →
    (k ≠ p → ∀ c, 0 < c → c < N → (c - 1) / 2 = k → lt (vs.getD c .none) (vs.getD ((k - 1) / 2) .none) = false) →
    Sub p (suGo lt N k vs).1 ∧ N ≤ 2 * (suGo lt N k vs).1 + 1 ∧ (∀ v ∈ (suGo lt N k vs).2, dom v) ∧
      (∀ i, 0 < i → i < N → p ≤ (i - 1) / 2 → i ≠ (suGo lt N k vs).1 → (i - 1) / 2 ≠ (suGo lt N k vs).1 → OkAt lt (suGo lt N k vs).2 i) := by
  intro k vs
  fun_induction suGo lt N k vs with
  | case2 k vs h => exact fun hN hS hk hd I1 I2 => ⟨hS, Nat.le_of_not_lt h, hd, I1⟩
  | case1 k vs h c ih =>
    intro hN hS hk hd I1 I2
    have hc : c = 2 * k + 1 ∨ c = 2 * k + 2 := by
      simp only [c]
      split
      · exact .inr rfl
      · exact .inl rfl
    have hcN : c < N := by
      simp only [c]
      split
      · rename_i hh; exact hh.1
      · exact h
    have hkl : k < vs.length := by rw [hN]; exact hk
    -- the other child is no smaller
    have sib : ∀ i, 0 < i → i < N → (i - 1) / 2 = k → i ≠ c → lt (vs.getD i .none) (vs.getD c .none) = false := by
      intro i h0 hi h1 h2
      simp only [c] at h2 ⊢
      clear ih
      split at h2
      · rename_i hh
        rw [dif_pos hh]
        rw [(sibs h0 h1).1 h2]; exact hh.2
      · rename_i hh
        rw [dif_neg hh]
        have e := (sibs h0 h1).2 h2
        subst e
        have hl : lt (vs.getD (2 * k + 1) .none) (vs.getD (2 * k + 2) .none) = true := by
          cases hb : lt (vs.getD (2 * k + 1) .none) (vs.getD (2 * k + 2) .none) with
          | true => rfl
          | false => exact absurd ⟨hi, hb⟩ hh
        exact O.as _ _ (dom_getD hd (by rw [hN]; exact h)) (dom_getD hd (by rw [hN]; exact hi)) hl
    clear_value c
    have dc := dom_getD hd (show c < vs.length by rw [hN]; exact hcN)
    obtain ⟨hck, hc0, hkc⟩ := cdiv hc
    refine ih (by rw [List.length_set]; exact hN) (.kid hS hc) hcN (dom_set hd dc) ?_ ?_
    · intro i h0 hi hp h1 h2
      unfold OkAt
      rw [getD_set hkl, getD_set hkl]
      by_cases h3 : i = k
      · subst h3
        rw [if_pos rfl, if_neg (Nat.ne_of_lt (half_lt h0))]
        exact I2 (Nat.ne_of_gt (Nat.lt_of_le_of_lt hp (half_lt h0))) c hc0 hcN hck
      · rw [if_neg h3]
        by_cases h4 : (i - 1) / 2 = k
        · rw [if_pos h4]; exact sib i h0 hi h4 h1
        · rw [if_neg h4]; exact I1 i h0 hi hp h3 h4
    · intro hne d h0 hd2 h1
      have hcd : c < d := h1 ▸ half_lt h0
      rw [getD_set hkl, getD_set hkl, if_neg (Nat.ne_of_gt (Nat.lt_trans hkc hcd)), hck, if_pos rfl]
      have o := I1 d h0 hd2 (by rw [h1]; exact Nat.le_trans hS.le (Nat.le_of_lt hkc)) (Nat.ne_of_gt (Nat.lt_trans hkc hcd)) (by rw [h1]; exact Nat.ne_of_gt hkc)
      unfold OkAt at o
      rw [h1] at o
      exact o
theorem siftup_heap {lt : Value → Value → Bool} {dom : Value → Prop} (O : LtOK lt dom) {p : Nat} {vs : List Value} (hp : p < vs.length) (hd : ∀ v ∈ vs, dom v) (H : Hp lt (p + 1) vs) : Hp lt p (siftup lt vs p) := by
  have r := suGo_heap O (N := vs.length) p vs rfl .top hp hd (fun i h0 hi h1 h2 h3 => H i h0 hi (Nat.lt_of_le_of_ne h1 (Ne.symm h3))) (fun h => absurd rfl h)
  obtain ⟨hS, hl, hd2, I1⟩ := r
  have hlen : (suGo lt vs.length p vs).2.length = vs.length := suGo_len
  have hk := suGo_lt (lt := lt) (vs := vs) hp
  have dn := dom_getD hd hp
  unfold siftup siftdown
  show Hp lt p (sdGo lt (((suGo lt vs.length p vs).2.set (suGo lt vs.length p vs).1 (vs.getD p .none)).getD (suGo lt vs.length p vs).1 .none) p (suGo lt vs.length p vs).1 ((suGo lt vs.length p vs).2.set (suGo lt vs.length p vs).1 (vs.getD p .none)))
  generalize hk1 : (suGo lt vs.length p vs).1 = k1 at *
  generalize hv1 : (suGo lt vs.length p vs).2 = v1 at *
  have hk' : k1 < v1.length := hlen.symm ▸ hk
  rw [getD_set hk', if_pos rfl]
  refine sdGo_heap O dn k1 _ hS (by rw [List.length_set]; exact hk') (dom_set hd2 dn) ?_ ?_ ?_
  · intro i h0 hi h1 h2 h3
    rw [List.length_set] at hi
    unfold OkAt
    rw [getD_set hk', getD_set hk', if_neg h2, if_neg h3]
    exact I1 i h0 (hlen ▸ hi) h1 h2 h3
  · intro c h0 hc h1
    rw [List.length_set] at hc
    exact (leafF h0 (hlen ▸ hc) hl h1).elim
  · intro _ c h0 hc h1
    rw [List.length_set] at hc
    exact (leafF h0 (hlen ▸ hc) hl h1).elim
-- HeapS
theorem hyGo_perm {lt : Value → Value → Bool} : ∀ (k : Nat) (vs : List Value), k ≤ vs.length → (hyGo lt k vs).Perm vs
  | 0, vs, _ => .refl _
  | k + 1, vs, h => by
    have e := siftup_perm (lt := lt) (show k < vs.length from h)
    exact (hyGo_perm k _ (by rw [e.length_eq]; omega)).trans e
theorem hyGo_heap {lt : Value → Value → Bool} {dom : Value → Prop} (O : LtOK lt dom) : ∀ (k : Nat) (vs : List Value), k ≤ vs.length → (∀ v ∈ vs, dom v) → Hp lt k vs → Hp lt 0 (hyGo lt k vs)
  | 0, vs, _, _, H => H
  | k + 1, vs, h, hd, H => by
    have e := siftup_perm (lt := lt) (show k < vs.length from h)
    exact hyGo_heap O k _ (by rw [e.length_eq]; omega) (fun v hv => hd v (e.mem_iff.mp hv)) (siftup_heap O h hd H)
theorem heapify_heap {lt : Value → Value → Bool} {dom : Value → Prop} (O : LtOK lt dom) {vs : List Value} (hd : ∀ v ∈ vs, dom v) : Hp lt 0 (heapifyL lt vs) ∧ (heapifyL lt vs).Perm vs :=
  ⟨hyGo_heap O _ _ (by omega) hd fun i h0 hi h1 => by omega, hyGo_perm _ _ (by omega)⟩
theorem root_min {lt : Value → Value → Bool} {dom : Value → Prop} (O : LtOK lt dom) {vs : List Value} (hd : ∀ v ∈ vs, dom v) (H : Hp lt 0 vs) (hirr : ∀ x, dom x → lt x x = false) : ∀ i, i < vs.length → lt (vs.getD i .none) (vs.getD 0 .none) = false := by
  intro i
  induction i using Nat.strongRecOn with
  | ind i ih =>
    intro hi
    by_cases h0 : i = 0
    · subst h0; exact hirr _ (dom_getD hd hi)
    · have h1 := ih ((i - 1) / 2) (by omega) (by omega)
      exact O.tr _ _ _ (dom_getD hd hi) (dom_getD hd (by omega)) (dom_getD hd (by omega)) (H i (by omega) hi (Nat.zero_le _)) h1
theorem getD_dropLast {vs : List Value} {i : Nat} (h : i < vs.length - 1) : vs.dropLast.getD i .none = vs.getD i .none := by
  have h2 : i < vs.dropLast.length := by rw [List.length_dropLast]; exact h
  rw [List.getD_eq_getElem?_getD, List.getD_eq_getElem?_getD, List.getElem?_eq_getElem h2, List.getElem?_eq_getElem (by omega), List.getElem_dropLast]
theorem popL_perm {lt : Value → Value → Bool} {vs : List Value} (h : 0 < vs.length) : ((popL lt vs).1 :: (popL lt vs).2).Perm vs := by
  have e := dropLast_last h
  unfold popL
  by_cases h1 : 0 < vs.dropLast.length
  · simp only [if_pos h1]
    have p1 := siftup_perm (lt := lt) (p := 0) (vs := vs.dropLast.set 0 (vs.getLastD .none)) (by rw [List.length_set]; exact h1)
    refine (List.Perm.cons _ p1).trans ?_
    cases hv : vs.dropLast with
    | nil => rw [hv] at h1; cases h1
    | cons a r =>
      rw [hv] at e
      show (a :: vs.getLastD .none :: r).Perm vs
      refine List.Perm.trans ?_ (List.Perm.of_eq e)
      exact .cons _ (List.perm_append_singleton _ _).symm
  · simp only [if_neg h1]
    have hv : vs.dropLast = [] := List.length_eq_zero_iff.mp (by omega)
    rw [hv] at e ⊢
    exact List.Perm.of_eq e
theorem popL_heap {lt : Value → Value → Bool} {dom : Value → Prop} (O : LtOK lt dom) {vs : List Value} (h : 0 < vs.length) (hd : ∀ v ∈ vs, dom v) (H : Hp lt 0 vs) : Hp lt 0 (popL lt vs).2 ∧ (popL lt vs).1 = vs.getD 0 .none := by
  have hl : vs.dropLast.length = vs.length - 1 := List.length_dropLast
  unfold popL
  by_cases h1 : 0 < vs.dropLast.length
  · simp only [if_pos h1]
    refine ⟨siftup_heap O (by rw [List.length_set]; exact h1) (dom_set (dom_drop hd) (dom_last hd h)) ?_, getD_dropLast (by omega)⟩
    intro i h0 hi hp
    rw [List.length_set] at hi
    unfold OkAt
    rw [getD_set h1, getD_set h1, if_neg (by omega), if_neg (by omega), getD_dropLast (by omega), getD_dropLast (by omega)]
    exact H i h0 (by omega) (by omega)
  · simp only [if_neg h1]
    refine ⟨fun i h0 hi => by omega, ?_⟩
    have hv : vs.dropLast = [] := List.length_eq_zero_iff.mp (by omega)
    have e := dropLast_last h
    rw [hv] at e
    have e2 : vs.getD 0 .none = ([] ++ [vs.getLastD .none] : List Value).getD 0 .none := by rw [e]
    rw [e2]
    rfl
-- HeapD
/-- heappop again and again -/
def drain (lt : Value → Value → Bool) : Nat → List Value → List Value × List Value
  | 0, vs => ([], vs)
  | n + 1, vs => ((popL lt vs).1 :: (drain lt n (popL lt vs).2).1, (drain lt n (popL lt vs).2).2)
theorem drain_ok {lt : Value → Value → Bool} {dom : Value → Prop} (O : LtOK lt dom) (hirr : ∀ x, dom x → lt x x = false) : ∀ (n : Nat) (vs : List Value), vs.length = n → (∀ v ∈ vs, dom v) → Hp lt 0 vs →
    (drain lt n vs).2 = [] ∧ (drain lt n vs).1.Perm vs ∧ (drain lt n vs).1.Pairwise fun x y => lt y x = false
  | 0, vs, hl, _, _ => ⟨List.length_eq_zero_iff.mp hl, by rw [List.length_eq_zero_iff.mp hl]; exact .refl _, .nil⟩
  | n + 1, vs, hl, hd, H => by
    have hpos : 0 < vs.length := by omega
    have p := popL_perm (lt := lt) hpos
    have hh := popL_heap O hpos hd H
    have hl2 : (popL lt vs).2.length = n := by
      have := p.length_eq
      rw [List.length_cons] at this; omega
    have hd2 : ∀ v ∈ (popL lt vs).2, dom v := fun v hv => hd v (p.mem_iff.mp (.tail _ hv))
    obtain ⟨r1, r2, r3⟩ := drain_ok O hirr n (popL lt vs).2 hl2 hd2 hh.1
    refine ⟨r1, (List.Perm.cons _ r2).trans p, .cons (fun y hy => ?_) r3⟩
    have hy' : y ∈ vs := p.mem_iff.mp (.tail _ (r2.mem_iff.mp hy))
    obtain ⟨i, hi, e⟩ := List.getElem_of_mem hy'
    have m := root_min O hd H hirr i hi
    rw [hh.2]
    have e2 : vs.getD i .none = y := by rw [← e]; simp [List.getD_eq_getElem?_getD, hi]
    rw [← e2]; exact m
-- HeapU
/-- a sorted list is settled by its members -/
theorem sorted_uniq {lt : Value → Value → Bool} {dom : Value → Prop} (tot : ∀ x y, dom x → dom y → lt x y = false → lt y x = false → x = y) {l l' : List Value} (hd : ∀ v ∈ l, dom v) (hp : l.Perm l') (h1 : l.Pairwise fun x y => lt y x = false) (h2 : l'.Pairwise fun x y => lt y x = false) : l = l' :=
  List.Perm.eq_of_pairwise (fun a b ha hb r1 r2 => tot a b (hd a ha) (hd b (hp.mem_iff.mpr hb)) r2 r1) h1 h2 hp
theorem klt_tr {x y z : Int × Int} (h1 : klt x y = false) (h2 : klt y z = false) : klt x z = false := by
  unfold klt at *
  simp only [decide_eq_false_iff_not, not_or, not_and] at *
  omega
theorem klt_as {x y : Int × Int} (h : klt x y = true) : klt y x = false := by
  unfold klt at *
  simp only [decide_eq_false_iff_not, decide_eq_true_eq, not_or, not_and] at *
  omega
theorem klt_irr (x : Int × Int) : klt x x = false := by
  unfold klt
  simp only [decide_eq_false_iff_not, not_or, not_and]
  omega
theorem klt_tot {x y : Int × Int} (h1 : klt x y = false) (h2 : klt y x = false) : x = y := by
  unfold klt at *
  simp only [decide_eq_false_iff_not, not_or, not_and] at *
  exact Prod.ext (by omega) (by omega)
theorem ltR_ok (key : Addr → Int × Int) (dom : Value → Prop) : LtOK (ltR key) dom := ⟨fun x y z _ _ _ h1 h2 => klt_tr h1 h2, fun x y _ _ h => klt_as h⟩
theorem ltR_flip (key : Addr → Int × Int) (dom : Value → Prop) : LtOK (flipB (ltR key)) dom := ⟨fun x y z _ _ _ h1 h2 => klt_tr h2 h1, fun x y _ _ h => klt_as h⟩
-- HeapN
theorem ns_inv {lt : Value → Value → Bool} {dom : Value → Prop} (O : LtOK lt dom) : ∀ (l done : List Value) (st : Value × Value) (r : List Value), (∀ v ∈ done ++ l, dom v) → (st.2 :: st.1 :: r).Perm done → lt st.1 st.2 = false → (∀ v ∈ r, lt v st.1 = false) →
    ∃ r', ((l.foldl (nsStep lt) st).2 :: (l.foldl (nsStep lt) st).1 :: r').Perm (done ++ l) ∧ lt (l.foldl (nsStep lt) st).1 (l.foldl (nsStep lt) st).2 = false ∧ ∀ v ∈ r', lt v (l.foldl (nsStep lt) st).1 = false
  | [], done, st, r, hd, hp, h1, h2 => ⟨r, by rw [List.append_nil]; exact hp, h1, h2⟩
  | e :: l, done, st, r, hd, hp, h1, h2 => by
    obtain ⟨p, q⟩ := st
    simp only at hp h1 h2
    have dm : ∀ v, v ∈ done → dom v := fun v hv => hd v (List.mem_append_left _ hv)
    have de : dom e := hd e (List.mem_append_right _ (.head _))
    have dp : dom p := dm p (hp.mem_iff.mp (.tail _ (.head _)))
    have dq : dom q := dm q (hp.mem_iff.mp (.head _))
    have dr : ∀ v ∈ r, dom v := fun v hv => dm v (hp.mem_iff.mp (.tail _ (.tail _ hv)))
    have hd' : ∀ v ∈ (done ++ [e]) ++ l, dom v := fun v hv => hd v (by simpa using hv)
    have pe : ∀ x : List Value, x.Perm (e :: done) → x.Perm (done ++ [e]) := fun x hx => hx.trans (List.perm_append_singleton e done).symm
    have fin : ∀ (st' : Value × Value) (r' : List Value), nsStep lt (p, q) e = st' → (st'.2 :: st'.1 :: r').Perm (done ++ [e]) → lt st'.1 st'.2 = false → (∀ v ∈ r', lt v st'.1 = false) →
        ∃ r', (((e :: l).foldl (nsStep lt) (p, q)).2 :: ((e :: l).foldl (nsStep lt) (p, q)).1 :: r').Perm (done ++ e :: l) ∧ lt ((e :: l).foldl (nsStep lt) (p, q)).1 ((e :: l).foldl (nsStep lt) (p, q)).2 = false ∧ ∀ v ∈ r', lt v ((e :: l).foldl (nsStep lt) (p, q)).1 = false := by
      intro st' r' hs h3 h4 h5
      rw [List.foldl_cons, hs]
      have := ns_inv O l (done ++ [e]) st' r' hd' h3 h4 h5
      rw [List.append_assoc] at this
      exact this
    cases hep : lt e p with
    | true =>
      have hpe := O.as _ _ de dp hep
      cases hqe : lt q e with
      | true =>
        refine fin (e, q) (p :: r) (by unfold nsStep; simp only [hep, hqe, if_true]) (pe _ ?_) (O.as _ _ dq de hqe) ?_
        · exact (List.Perm.swap e q (p :: r)).trans (List.Perm.cons e hp)
        · intro v hv
          rcases List.mem_cons.mp hv with rfl | hv
          · exact hpe
          · exact O.tr _ _ _ (dr v hv) dp de (h2 v hv) hpe
      | false =>
        refine fin (q, e) (p :: r) (by unfold nsStep; simp only [hep, hqe, if_true, Bool.false_eq_true, if_false]) (pe _ (List.Perm.cons e hp)) hqe ?_
        intro v hv
        rcases List.mem_cons.mp hv with rfl | hv
        · exact h1
        · exact O.tr _ _ _ (dr v hv) dp dq (h2 v hv) h1
    | false =>
      refine fin (p, q) (e :: r) (by unfold nsStep; simp only [hep, Bool.false_eq_true, if_false]) (pe _ ?_) h1 ?_
      · exact ((List.Perm.cons q (List.Perm.swap e p r)).trans (List.Perm.swap e q (p :: r))).trans (List.Perm.cons e hp)
      · intro v hv
        rcases List.mem_cons.mp hv with rfl | hv
        · exact hep
        · exact h2 v hv
theorem ns2_eq {lt : Value → Value → Bool} {dom : Value → Prop} (O : LtOK lt dom) (hirr : ∀ x, dom x → lt x x = false) (tot : ∀ x y, dom x → dom y → lt x y = false → lt y x = false → x = y) {vs S : List Value} (hd : ∀ v ∈ vs, dom v) (h2 : 2 ≤ vs.length) (hp : S.Perm vs)
    (hs : S.Pairwise fun x y => lt y x = false) : ns2 lt vs = S.take 2 := by
  obtain ⟨v0, v1, l, rfl⟩ : ∃ v0 v1 l, vs = v0 :: v1 :: l := by
    match vs, h2 with
    | v0 :: v1 :: l, _ => exact ⟨v0, v1, l, rfl⟩
  have d0 := hd v0 (.head _)
  have d1 := hd v1 (.tail _ (.head _))
  have ini : ∃ p q, nsIni lt v0 v1 = (p, q) ∧ [q, p].Perm [v0, v1] ∧ lt p q = false := by
    unfold nsIni
    cases h : lt v1 v0 with
    | true => exact ⟨v0, v1, rfl, List.Perm.swap _ _ _, O.as _ _ d1 d0 h⟩
    | false => exact ⟨v1, v0, rfl, .refl _, h⟩
  obtain ⟨p, q, e1, e2, e3⟩ := ini
  obtain ⟨r, g1, g2, g3⟩ := ns_inv O l [v0, v1] (p, q) [] hd e2 e3 (fun v hv => nomatch hv)
  unfold ns2
  simp only [List.drop_succ_cons, List.drop_zero, List.getD_cons_zero, List.getD_cons_succ, e1]
  generalize l.foldl (nsStep lt) (p, q) = st at g1 g2 g3
  obtain ⟨P, Q⟩ := st
  simp only at g1 g2 g3
  have dall : ∀ v ∈ Q :: P :: r, dom v := fun v hv => hd v (g1.mem_iff.mp hv)
  have dQ := dall Q (.head _)
  have dP := dall P (.tail _ (.head _))
  have fin : nsFin lt (P, Q) = [Q, P] := by
    unfold nsFin
    cases h : lt Q P with
    | true => simp only [h, if_true]
    | false =>
      have := tot _ _ dP dQ g2 h
      subst this
      simp only [h, Bool.false_eq_true, if_false]
  rw [fin]
  have hq : S.Perm (Q :: P :: r) := hp.trans g1.symm
  match S, hs, hq with
  | [], _, hq => exact absurd hq.length_eq (by simp)
  | [a], _, hq => exact absurd hq.length_eq (by simp)
  | a :: b :: t, hs, hq =>
    cases hs with
    | cons ha hs =>
      cases hs with
      | cons hb hs =>
        have da := dall a (hq.mem_iff.mp (.head _))
        have minQ : lt a Q = false := by
          rcases List.mem_cons.mp (hq.mem_iff.mp (List.Mem.head _)) with e | hm
          · rw [e]; exact hirr _ dQ
          · rcases List.mem_cons.mp hm with e | hm
            · rw [e]; exact g2
            · exact O.tr _ _ _ da dP dQ (g3 a hm) g2
        have minA : lt Q a = false := by
          rcases List.mem_cons.mp (hq.mem_iff.mpr (List.Mem.head _)) with e | hm
          · rw [← e]; exact hirr _ dQ
          · exact ha Q hm
        have ea : a = Q := tot _ _ da dQ minQ minA
        subst ea
        have hq2 : (b :: t).Perm (P :: r) := List.Perm.cons_inv hq
        have db := dall b (.tail _ (hq2.mem_iff.mp (.head _)))
        have m1 : lt b P = false := by
          rcases List.mem_cons.mp (hq2.mem_iff.mp (List.Mem.head _)) with e | hm
          · rw [e]; exact hirr _ dP
          · exact g3 b hm
        have m2 : lt P b = false := by
          rcases List.mem_cons.mp (hq2.mem_iff.mpr (List.Mem.head _)) with e | hm
          · rw [← e]; exact hirr _ dP
          · exact hb P hm
        have eb : b = P := tot _ _ db dP m1 m2
        subst eb
        rfl
-- LawX
section
theorem RowsR.key {rs : List Value} {ks : List (Int × Int)} {rl : Led} (h : RowsR rs ks rl) : ∃ key : Addr → Int × Int, (∀ v ∈ rs, domR key rl v) ∧ rs.map (fun v => key (adr v)) = ks := by
  induction h with
  | nil => exact ⟨fun _ => (0, 0), fun _ h => (nomatch h), rfl⟩
  | @snoc rs ks rl a k t u c h off ih =>
    obtain ⟨key, hd, hm⟩ := ih
    have ne : ∀ v ∈ rs, adr v ≠ a := fun v hv => by
      obtain ⟨b, _, _, _, rfl, hb⟩ := hd v hv
      exact off _ hb
    refine ⟨fun b => if b = a then k else key b, fun v hv => ?_, ?_⟩
    · rcases List.mem_append.mp hv with hv | hv
      · obtain ⟨b, t', u', c', rfl, hb⟩ := hd v hv
        refine ⟨b, t', u', c', rfl, .tail _ ?_⟩
        have e : (if b = a then k else key b) = key b := if_neg (show b ≠ a from off _ hb)
        show (b, rowObj (if b = a then k else key b) t' u' c') ∈ rl
        rw [e]
        exact hb
      · rw [List.mem_singleton.mp hv]
        refine ⟨a, t, u, c, rfl, ?_⟩
        show (a, rowObj (if a = a then k else key a) t u c) ∈ (a, rowObj k t u c) :: rl
        rw [if_pos rfl]
        exact .head _
    · rw [List.map_append, ← hm]
      congr 1
      · refine List.map_congr_left fun v hv => ?_
        exact if_neg (ne v hv)
      · show [if a = a then k else key a] = [k]
        rw [if_pos rfl]
theorem domR.mono {key : Addr → Int × Int} {l l' : Led} {v : Value} (h : domR key l v) (s : ∀ p ∈ l, p ∈ l') : domR key l' v := by
  obtain ⟨a, t, u, c, e, hm⟩ := h
  exact ⟨a, t, u, c, e, s _ hm⟩
theorem RowsR.at {rs : List Value} {ks : List (Int × Int)} {rl : Led} (h : RowsR rs ks rl) : ∀ i, i < rs.length → ∃ a t u c, rs.getD i .none = .ref a ∧ (a, rowObj (ks.getD i (0, 0)) t u c) ∈ rl := by
  induction h with
  | nil => intro i hi; exact absurd hi (Nat.not_lt_zero _)
  | @snoc rs ks rl a k t u c h off ih =>
    intro i hi
    have hl := rows_len h
    rcases Nat.lt_or_ge i rs.length with h2 | h2
    · obtain ⟨b, t', u', c', e1, e2⟩ := ih i h2
      have g1 : (rs ++ [Value.ref a]).getD i .none = rs.getD i .none := by
        simp only [List.getD_eq_getElem?_getD]
        rw [List.getElem?_append_left h2]
      have g2 : (ks ++ [k]).getD i (0, 0) = ks.getD i (0, 0) := by
        simp only [List.getD_eq_getElem?_getD]
        rw [List.getElem?_append_left (by omega)]
      rw [g1, g2]
      exact ⟨b, t', u', c', e1, .tail _ e2⟩
    · have hi' : i = rs.length := by rw [List.length_append, List.length_singleton] at hi; omega
      subst hi'
      have g1 : (rs ++ [Value.ref a]).getD rs.length .none = .ref a := by simp [List.getD_eq_getElem?_getD]
      have g2 : (ks ++ [k]).getD rs.length (0, 0) = k := by rw [hl]; simp [List.getD_eq_getElem?_getD]
      rw [g1, g2]
      exact ⟨a, t, u, c, rfl, .head _⟩
theorem keys_at {nums : List Int} {n i : Nat} (hi : i < (keysT nums n).length) : ∃ k, k < n ∧ goodB (nums.getD k 0) = true ∧ (keysT nums n).getD i (0, 0) = (numT (nums.getD k 0), ((5 * k + 1 : Nat) : Int)) := by
  have hm : (keysT nums n).getD i (0, 0) ∈ keysT nums n := by
    rw [List.getD_eq_getElem?_getD, List.getElem?_eq_getElem hi]
    exact List.getElem_mem hi
  obtain ⟨k, hk, e⟩ := List.mem_map.mp (show (keysT nums n).getD i (0, 0) ∈ List.map _ _ from hm)
  obtain ⟨h1, h2⟩ := List.mem_filter.mp hk
  exact ⟨k, List.mem_range.mp h1, h2, e.symm⟩
theorem good_ne {x : Int} (h : goodB x = true) : x.fmod 6 ≠ 5 := by
  unfold goodB at h
  exact of_decide_eq_true (Bool.and_eq_true_iff.mp h).1
/-- sorted, as keys -/
abbrev SK (l : List (Int × Int)) : Prop := l.Pairwise fun x y => klt y x = false
theorem sk_uniq {l l' : List (Int × Int)} (hp : l.Perm l') (h1 : SK l) (h2 : SK l') : l = l' :=
  List.Perm.eq_of_pairwise (fun a b _ _ r1 r2 => klt_tot r2 r1) h1 h2 hp
theorem kle_klt (x y : Int × Int) : kle x y = !klt y x := by
  unfold kle klt
  by_cases h : x.1 < y.1 ∨ x.1 = y.1 ∧ x.2 ≤ y.2
  · have : ¬ (y.1 < x.1 ∨ y.1 = x.1 ∧ y.2 < x.2) := by omega
    simp only [h, this, decide_true, decide_false, Bool.not_false]
  · have : (y.1 < x.1 ∨ y.1 = x.1 ∧ y.2 < x.2) := by omega
    simp only [h, this, decide_true, decide_false, Bool.not_true]
theorem klt_asF {x y : Int × Int} (h : klt x y = true) : klt y x = false := klt_as h
/-- where a row goes: those not greater stand in front -/
theorem part_sorted (key : Addr → Int × Int) (v : Value) : ∀ (t : List Value), (t.Pairwise fun x y => klt (key (adr y)) (key (adr x)) = false) →
    (∀ x ∈ t.take (t.filter fun o => kle (key (adr o)) (key (adr v))).length, klt (key (adr v)) (key (adr x)) = false) ∧ (∀ x ∈ t.drop (t.filter fun o => kle (key (adr o)) (key (adr v))).length, klt (key (adr x)) (key (adr v)) = false)
  | [], _ => ⟨fun _ h => by simp at h, fun _ h => by simp at h⟩
  | a :: t, hp => by
    obtain ⟨h1, h2⟩ := List.pairwise_cons.mp hp
    obtain ⟨i1, i2⟩ := part_sorted key v t h2
    cases hk : kle (key (adr a)) (key (adr v)) with
    | true =>
      have hk' : klt (key (adr v)) (key (adr a)) = false := by rw [kle_klt] at hk; simpa using hk
      rw [List.filter_cons, hk]
      simp only [if_true, List.length_cons, List.take_succ_cons, List.drop_succ_cons]
      refine ⟨fun x hx => ?_, i2⟩
      rcases List.mem_cons.mp hx with rfl | hx
      · exact hk'
      · exact i1 x hx
    | false =>
      have hk' : klt (key (adr v)) (key (adr a)) = true := by rw [kle_klt] at hk; simpa using hk
      have e : t.filter (fun o => kle (key (adr o)) (key (adr v))) = [] := by
        rw [List.filter_eq_nil_iff]
        intro x hx hc
        rw [kle_klt] at hc
        have hc' : klt (key (adr v)) (key (adr x)) = false := by simpa using hc
        exact absurd (klt_tr hc' (h1 x hx)) (by rw [hk']; decide)
      rw [List.filter_cons, hk]
      simp only [Bool.false_eq_true, if_false, e, List.length_nil, List.take_zero, List.drop_zero]
      refine ⟨fun x hx => (nomatch hx), fun x hx => ?_⟩
      rcases List.mem_cons.mp hx with rfl | hx
      · exact klt_as hk'
      · exact klt_as (by
          cases hh : klt (key (adr v)) (key (adr x)) with
          | true => rfl
          | false => exact absurd (klt_tr hh (h1 x hx)) (by rw [hk']; decide))
theorem insR_ok {key : Addr → Int × Int} {t : List Value} {v : Value} (hp : t.Pairwise fun x y => klt (key (adr y)) (key (adr x)) = false) : (insR key t v).Perm (v :: t) ∧ (insR key t v).Pairwise fun x y => klt (key (adr y)) (key (adr x)) = false := by
  obtain ⟨h1, h2⟩ := part_sorted key v t hp
  unfold insR
  generalize (t.filter fun o => kle (key (adr o)) (key (adr v))).length = p at h1 h2
  have e : t.take p ++ t.drop p = t := List.take_append_drop p t
  refine ⟨?_, ?_⟩
  · have := (List.perm_middle (l₁ := t.take p) (a := v) (l₂ := t.drop p))
    rw [e] at this
    exact this
  · have hp2 := hp
    rw [← e] at hp2
    obtain ⟨p1, p2, p3⟩ := List.pairwise_append.mp hp2
    refine List.pairwise_append.mpr ⟨p1, List.pairwise_cons.mpr ⟨fun y hy => h2 y hy, p2⟩, fun x hx y hy => ?_⟩
    rcases List.mem_cons.mp hy with rfl | hy
    · exact h1 x hx
    · exact p3 x hx y hy
theorem rising_ok {key : Addr → Int × Int} (vs : List Value) : (risingL key vs).Perm vs ∧ (risingL key vs).Pairwise fun x y => klt (key (adr y)) (key (adr x)) = false := by
  have gen : ∀ (l acc : List Value), (acc.Pairwise fun x y => klt (key (adr y)) (key (adr x)) = false) → (l.foldl (insR key) acc).Perm (acc ++ l) ∧ (l.foldl (insR key) acc).Pairwise fun x y => klt (key (adr y)) (key (adr x)) = false := by
    intro l
    induction l with
    | nil => exact fun acc h => ⟨by rw [List.append_nil]; exact .refl _, h⟩
    | cons v l ih =>
      intro acc h
      obtain ⟨a1, a2⟩ := insR_ok (v := v) h
      obtain ⟨b1, b2⟩ := ih (insR key acc v) a2
      refine ⟨b1.trans ?_, b2⟩
      exact (a1.append_right l).trans (List.perm_middle (l₁ := acc) (a := v) (l₂ := l)).symm
  have := gen vs [] .nil
  exact this
theorem pw_map {key : Addr → Int × Int} {l : List Value} (h : l.Pairwise fun x y => klt (key (adr y)) (key (adr x)) = false) : SK (l.map fun v => key (adr v)) := List.pairwise_map.mpr h
theorem drain_snoc {lt : Value → Value → Bool} : ∀ (n : Nat) (vs : List Value), drain lt (n + 1) vs = ((drain lt n vs).1 ++ [(popL lt (drain lt n vs).2).1], (popL lt (drain lt n vs).2).2)
  | 0, vs => rfl
  | n + 1, vs => by
    show ((popL lt vs).1 :: (drain lt (n + 1) (popL lt vs).2).1, (drain lt (n + 1) (popL lt vs).2).2) = _
    rw [drain_snoc n (popL lt vs).2]
    rfl
theorem drain_len {lt : Value → Value → Bool} : ∀ (n : Nat) (vs : List Value), n ≤ vs.length → (drain lt n vs).2.length = vs.length - n ∧ (∀ v ∈ (drain lt n vs).2, v ∈ vs) ∧ (∀ v ∈ (drain lt n vs).1, v ∈ vs) ∧ (drain lt n vs).1.length = n
  | 0, vs, _ => ⟨rfl, fun v h => h, fun v h => (nomatch h), rfl⟩
  | n + 1, vs, h => by
    have p := popL_perm (lt := lt) (show 0 < vs.length by omega)
    have hl : (popL lt vs).2.length = vs.length - 1 := by
      have := p.length_eq
      rw [List.length_cons] at this; omega
    obtain ⟨h1, h2, h3, h4⟩ := drain_len n (popL lt vs).2 (by omega)
    refine ⟨by show (drain lt n (popL lt vs).2).2.length = _; omega, fun v hv => p.mem_iff.mp (.tail _ (h2 v hv)), fun v hv => ?_, by show (_ :: (drain lt n (popL lt vs).2).1).length = _; rw [List.length_cons, h4]⟩
    rcases List.mem_cons.mp hv with rfl | hv
    · exact p.mem_iff.mp (.head _)
    · exact p.mem_iff.mp (.tail _ (h3 v hv))
section
variable {key1 key2 : Addr → Int × Int} {rs ys : List Value} {ks : List (Int × Int)}
theorem nodup_keys (h2 : ys.map (fun v => key2 (adr v)) = ks) (hn : ks.Nodup) : ∀ i j, i < j → j < ys.length → key2 (adr (ys.getD i .none)) ≠ key2 (adr (ys.getD j .none)) := by
  intro i j hij hj e
  subst h2
  have hi : i < ys.length := by omega
  have hl : (ys.map fun v => key2 (adr v)).length = ys.length := List.length_map _
  have gi : ys.getD i .none = ys[i] := by simp [List.getD_eq_getElem?_getD, hi]
  have gj : ys.getD j .none = ys[j] := by simp [List.getD_eq_getElem?_getD, hj]
  rw [gi, gj] at e
  exact List.pairwise_iff_getElem.mp hn i j (by omega) (by omega) hij (by simpa using e)
theorem key_inj (h2 : ys.map (fun v => key2 (adr v)) = ks) (hn : ks.Nodup) : ∀ x y, x ∈ ys → y ∈ ys → key2 (adr x) = key2 (adr y) → x = y := by
  intro x y hx hy e
  obtain ⟨i, hi, rfl⟩ := List.getElem_of_mem hx
  obtain ⟨j, hj, rfl⟩ := List.getElem_of_mem hy
  have gi : ys.getD i .none = ys[i] := by simp [List.getD_eq_getElem?_getD, hi]
  have gj : ys.getD j .none = ys[j] := by simp [List.getD_eq_getElem?_getD, hj]
  have nk := nodup_keys h2 hn
  rcases Nat.lt_trichotomy i j with h | h | h
  · exact absurd (by rw [gi, gj]; exact e) (nk i j h hj)
  · subst h; rfl
  · exact absurd (by rw [gi, gj]; exact e.symm) (nk j i h hi)
theorem tot_on (h2 : ys.map (fun v => key2 (adr v)) = ks) (hn : ks.Nodup) : ∀ x y, x ∈ ys → y ∈ ys → ltR key2 x y = false → ltR key2 y x = false → x = y := fun x y hx hy a b => key_inj h2 hn x y hx hy (klt_tot a b)
theorem rise_keys (h1 : rs.map (fun v => key1 (adr v)) = ks) (h2 : ys.map (fun v => key2 (adr v)) = ks) : ((risingL key1 rs).map fun v => key1 (adr v)) = (risingL key2 ys).map fun v => key2 (adr v) := by
  obtain ⟨a1, a2⟩ := rising_ok (key := key1) rs
  obtain ⟨b1, b2⟩ := rising_ok (key := key2) ys
  refine sk_uniq ?_ (pw_map a2) (pw_map b2)
  have c1 := a1.map fun v => key1 (adr v)
  have c2 := b1.map fun v => key2 (adr v)
  rw [h1] at c1
  rw [h2] at c2
  exact c1.trans c2.symm
theorem small_keys (h1 : rs.map (fun v => key1 (adr v)) = ks) (h2 : ys.map (fun v => key2 (adr v)) = ks) (hn : ks.Nodup) (hl : 2 ≤ ys.length) : ((ns2 (ltR key2) ys).map fun v => key2 (adr v)) = (((risingL key1 rs).take 2).map fun v => key1 (adr v)) := by
  obtain ⟨b1, b2⟩ := rising_ok (key := key2) ys
  rw [ns2_eq (ltR_ok key2 (fun v => v ∈ ys)) (fun x _ => klt_irr _) (tot_on h2 hn) (fun v hv => hv) hl b1 b2]
  rw [List.map_take, List.map_take, rise_keys h1 h2]
theorem large_keys (h1 : rs.map (fun v => key1 (adr v)) = ks) (h2 : ys.map (fun v => key2 (adr v)) = ks) (hn : ks.Nodup) (hl : 2 ≤ ys.length) : ((ns2 (flipB (ltR key2)) ys).map fun v => key2 (adr v)) = ((((risingL key1 rs).reverse).take 2).map fun v => key1 (adr v)) := by
  obtain ⟨b1, b2⟩ := rising_ok (key := key2) ys
  have tot := tot_on h2 hn
  rw [ns2_eq (ltR_flip key2 (fun v => v ∈ ys)) (fun x _ => klt_irr _) (fun x y hx hy a b => tot x y hx hy b a) (fun v hv => hv) hl ((List.reverse_perm _).trans b1) (List.pairwise_reverse.mpr b2)]
  rw [List.map_take, List.map_take, List.map_reverse, List.map_reverse, rise_keys h1 h2]
theorem drain_keys (h1 : rs.map (fun v => key1 (adr v)) = ks) (h2 : ys.map (fun v => key2 (adr v)) = ks) : (drain (ltR key2) ys.length (heapifyL (ltR key2) ys)).2 = [] ∧ ((drain (ltR key2) ys.length (heapifyL (ltR key2) ys)).1.map fun v => key2 (adr v)) = (risingL key1 rs).map fun v => key1 (adr v) := by
  obtain ⟨g1, g2⟩ := heapify_heap (ltR_ok key2 (fun v => v ∈ ys)) (vs := ys) (fun v hv => hv)
  obtain ⟨d1, d2, d3⟩ := drain_ok (ltR_ok key2 (fun v => v ∈ ys)) (fun x _ => klt_irr _) ys.length (heapifyL (ltR key2) ys) g2.length_eq (fun v hv => g2.mem_iff.mp hv) g1
  refine ⟨d1, ?_⟩
  rw [rise_keys h1 h2]
  obtain ⟨b1, b2⟩ := rising_ok (key := key2) ys
  exact sk_uniq ((d2.trans (g2.trans b1.symm)).map _) (pw_map d3) (pw_map b2)
end
theorem small_mem {key2 : Addr → Int × Int} {ys : List Value} {ks : List (Int × Int)} (h2 : ys.map (fun v => key2 (adr v)) = ks) (hn : ks.Nodup) (hl : 2 ≤ ys.length) : ∀ v ∈ ns2 (ltR key2) ys, v ∈ ys := by
  obtain ⟨b1, b2⟩ := rising_ok (key := key2) ys
  rw [ns2_eq (ltR_ok key2 (fun v => v ∈ ys)) (fun x _ => klt_irr _) (tot_on h2 hn) (fun v hv => hv) hl b1 b2]
  exact fun v hv => b1.mem_iff.mp (List.mem_of_mem_take hv)
theorem large_mem {key2 : Addr → Int × Int} {ys : List Value} {ks : List (Int × Int)} (h2 : ys.map (fun v => key2 (adr v)) = ks) (hn : ks.Nodup) (hl : 2 ≤ ys.length) : ∀ v ∈ ns2 (flipB (ltR key2)) ys, v ∈ ys := by
  obtain ⟨b1, b2⟩ := rising_ok (key := key2) ys
  have tot := tot_on h2 hn
  rw [ns2_eq (ltR_flip key2 (fun v => v ∈ ys)) (fun x _ => klt_irr _) (fun x y hx hy a b => tot x y hx hy b a) (fun v hv => hv) hl ((List.reverse_perm _).trans b1) (List.pairwise_reverse.mpr b2)]
  exact fun v hv => b1.mem_iff.mp (List.mem_reverse.mp (List.mem_of_mem_take hv))
/-- the rows' keys -/
theorem keys_nodup (nums : List Int) (n : Nat) : (keysT nums n).Nodup := by
  unfold keysT
  refine List.pairwise_map.mpr (((List.nodup_range (n := n)).sublist List.filter_sublist).imp fun {a b} hne e => ?_)
  have := congrArg Prod.snd e
  simp only at this
  omega
theorem nums_len (ns : List Int) : (numsT ns).length = (ns.take 4).length + 7 := by unfold numsT; rw [List.length_append]; rfl
theorem keys_three (ns : List Int) : 3 ≤ (keysT (numsT ns) (numsT ns).length).length := by
  unfold keysT
  rw [List.length_map, nums_len]
  generalize ha : (ns.take 4).length = a
  have g : ∀ j, (numsT ns).getD (a + j) 0 = ([97, 65, 32762, 55298, 97, 60, 57343] : List Int).getD j 0 := by
    intro j
    unfold numsT
    simp only [List.getD_eq_getElem?_getD]
    rw [List.getElem?_append_right (by omega), show a + j - (ns.take 4).length = j by omega]
  have g0 : goodB (([97, 65, 32762, 55298, 97, 60, 57343] : List Int).getD 0 0) = true := by decide +kernel
  have g1 : goodB (([97, 65, 32762, 55298, 97, 60, 57343] : List Int).getD 1 0) = false := by decide +kernel
  have g2 : goodB (([97, 65, 32762, 55298, 97, 60, 57343] : List Int).getD 2 0) = true := by decide +kernel
  have g3 : goodB (([97, 65, 32762, 55298, 97, 60, 57343] : List Int).getD 3 0) = false := by decide +kernel
  have g4 : goodB (([97, 65, 32762, 55298, 97, 60, 57343] : List Int).getD 4 0) = true := by decide +kernel
  have g5 : goodB (([97, 65, 32762, 55298, 97, 60, 57343] : List Int).getD 5 0) = true := by decide +kernel
  have g6 : goodB (([97, 65, 32762, 55298, 97, 60, 57343] : List Int).getD 6 0) = false := by decide +kernel
  rw [List.range_add, List.filter_append, List.length_append]
  have e : (List.range 7).map (fun x => a + x) = [a + 0, a + 1, a + 2, a + 3, a + 4, a + 5, a + 6] := rfl
  rw [e]
  have h7 : ([a + 0, a + 1, a + 2, a + 3, a + 4, a + 5, a + 6] : List Nat).filter (fun k => goodB ((numsT ns).getD k 0)) = [a + 0, a + 2, a + 4, a + 5] := by
    simp only [List.filter_cons, List.filter_nil, g, g0, g1, g2, g3, g4, g5, g6, if_true, Bool.false_eq_true, if_false]
  rw [h7]
  simp only [List.length_cons, List.length_nil]
  omega
end
-- CNs
section
theorem lines_CNs : True := by
  k_with_none
  k_with "subscriptTail Name Name ref int" => (k_here; k_dflt (refine gi_stepM (by k_asm) (by first | k_memK | (repeat (first | assumption | refine List.Mem.tail _ ?_))) (by omega) (by first | omega | assumption | (simp; omega)) (by first | omega | (simp; omega)) ?_))
  k_with "subscriptTail Name Constant ref int" => (k_here; k_dflt (refine gi_stepM (by k_asm) (by first | k_memK | (repeat (first | assumption | refine List.Mem.tail _ ?_))) (by omega) (by first | omega | assumption | (simp; omega)) (by first | omega | (simp; omega)) ?_))
  k_with "exec Try" => (k_here; (refine wpAny_Try_except ?_))
  k_with "compareOp Lt" => (k_here; k_dflt (refine row_step (by assumption) (by assumption) (by k_asm) (by intro p hp; repeat (first | assumption | exact List.mem_append_left _ hp | refine List.Mem.tail _ ?_)) (by ktr_units) ?_))
  k_with "subscriptTail Name Constant ref int" => (k_here; (with_unfolding_all refine item_litK (by is_list) (by decide) (by decide) (by rfl) ?_ (by with_unfolding_all rfl)))
  trivial
local macro_rules | `(tactic| walk_at "call builtin:iter") => `(tactic| (refine Mark.mk ?_))
local macro_rules | `(tactic| walk_at "call type:zip") => `(tactic| (refine Mark.mk ?_))
local macro_rules | `(tactic| walk_at "pyIter ref") => `(tactic| (refine Mark.mk ?_))
local macro_rules | `(tactic| walk_at "exec For Name Name cons nil") => `(tactic| (refine Mark.mk ?_))
local macro_rules | `(tactic| walk_at "callWith ref") => `(tactic| (k_here; k_dflt (refine callWith_K (by k_asm) (by k_is) ?_)))
set_option maxHeartbeats 4000000 in
theorem c_nsmallest (w p loose mean mg mb) (a : Addr) (vs : List Value) (n : Nat) (rest : Led) (t : Tok) (hne : ∀ p ∈ rest, p.1 ≠ a) (key : Addr → Int × Int) (hrow : ∀ v ∈ vs, domR key rest v) (hkey : ∀ i j, i < j → j < vs.length → key (adr (vs.getD i .none)) ≠ key (adr (vs.getD j .none)))
    (h2 : 3 ≤ vs.length) (hb : vs.length ≤ 1000) :
    CallOK w p loose mean mg mb 121 [.int 2 t, .ref a] ((a, listOf vs.toArray n) :: rest) 5 100 (fun r news' => ∃ R n', r = .ref R ∧ (∀ p ∈ ((a, PySem.W.listOf vs.toArray n) :: rest : Led), p.1 ≠ R) ∧ news' = (R, PySem.W.listOf (ns2 (ltR key) vs).toArray n') :: (a, PySem.W.listOf vs.toArray n) :: rest) (fun _ _ => False) := by
  unfold CallOK
  k_fill
  intro dp un gd cn cs a' ccd cl outer A₀ base h₀ L m s Q E B F X N T hH hC hk hd hu hret herr
  refine wpAny_call ?_
  k_dflt (refine' code_defC ?k1 ?k2 ?k3 ?k4 ?k5 ?kA ?kF ?kK ?k6 ?k7 ?k8 ?k9 ?kB ?kD ?_ ?c2 ?c3 ?c4; (case kA => exact rfl); (case kF => exact rfl); (case kK => assumption); (case k1 => k_asm); (case k2 => k_asm); (case k3 => k_asm); (case k4 => k_asm); (case k5 => k_asm); (case k6 => k_is); (case k7 => k_is); (case k8 => ktr_room); (case k9 => first | exact BindsTo.of_eq rfl | exact binds_K (by k_in) rfl (by k_is) rfl rfl rfl | fail "k_enter: no rule for these arguments"); (case kB => exact rfl); (case kD => decide +kernel); (case c2 => exact rfl); (case c3 => exact rfl); (case c4 => exact rfl); k_whole; intro g' L' h' tk' cells' FG' F' N' Y' B' X' T' l1; (try k_lt l1); k_cells Y'; (try simp only [List.cons_append, List.nil_append] at N'); (try dsimp only); (try k_lift B'); (try k_fold))
  k_steps
  unfold Mark
  rename Fr _ _ _ _ => F1
  rename News _ _ _ _ => N1
  rename Obj => oc
  refine iter_step F1 N1 (.tail _ (.head _)) ?_
  clear F1 N1
  intro I h1 io F1 N1 lI hio
  k_steps
  unfold Mark
  rename Fr _ _ _ _ => F1
  rename News _ _ _ _ => N1
  refine zip_step (n := 2) F1 N1 (by assumption) (by decide) rfl (.head _) hio ?_
  clear F1 N1
  intro z TI TO ri h2 F1 N1 l0 o2 o3 o4
  k_steps
  unfold Mark
  refine wpAny_pyIter_zip (N1 _ (.head _)).1 ?_
  have o1 := l0 _ (.head _)
  refine ⟨NsJ z TI TO ri I a (vs.getD 0 .none) (vs.getD 1 .none) 1 _, 2, _, F1, N1, .s2 _ hio, ?_, ?_, ?_⟩
  · exact NsJ_len
  · exact fun s Q E N hq => wpAny_pyIter_zip (N _ (.head _)).1 hq
  · have hr : ∀ p ∈ ((_, _) :: (a, PySem.W.listOf vs.toArray n) :: rest : Led), p.1 < I := lI
    have hr4 := hr4_of hr o1 o2 o3 o4
    clear hio N1 F1
    intro k ys m' news' h tk D C E' hJ
    obtain ⟨io0, T0, t0, T1, t1, x, hio0, b1, b2, b3, b4, b5, b6, b7, b8, b9⟩ | ⟨io0, T0, t0, x, hio0, b1, b2, b3, b4⟩ | ⟨io0, hio0⟩ := hJ
    · intro F2 hn N2 off hCD hCL hC0
      refine ns_fin (by rfl) F2 hn N2 off hCL hC0 (hr4_cons ⟨b8, b7, b6, Nat.ne_of_gt b5⟩ (hr4_cons ⟨b4, b3, b2, Nat.ne_of_gt b1⟩ hr4)) o1 o2 o3 o4 (by decide) ?_
      intro h' F3 hn3 N3
      refine ⟨h', _, m', _, rfl, F3, hn3, N3, ?_, ?_⟩
      · exact fun p hp => off p (.tail _ (.tail _ (.tail _ (.tail _ hp))))
      · unfold LCg.FinA
        intro D2 h5 tk5 F5 N5 o5
        clear N2 N3 F2 F3
        k_steps
        have hx0 := hrow _ (getD_mem (vs := vs) (i := 0) (by omega))
        have hx1 := hrow _ (getD_mem (vs := vs) (i := 1) (by omega))
        have hD := off1_ne o5
        refine' CallOK.use (c_max2 (P := T0) (Q := T1) hx0 hx1 (hkey 0 1 (by decide) (by omega)) ?hsub (Ne.symm b9) ?m1 ?m2 hD) ?k1 ?k2 ?k3 ?k4 ?k5 ?kH ?kC ?kK ?kd ?ku ?ret ?err
        case k1 => k_asm
        case k2 => k_asm
        case k3 => k_asm
        case k4 => k_asm
        case k5 => k_asm
        case kH => assumption
        case kC => assumption
        case kK => first | exact rfl | assumption
        case kd => ktr_room
        case ku => ktr_units
        case err => exact fun _ _ _ _ h => h.elim
        case hsub => exact fun p hp => .tail _ (.tail _ (.tail _ (.tail _ (.tail _ hp))))
        case m1 => exact .tail _ (.tail _ (.head _))
        case m2 => exact .tail _ (.head _)
        case ret =>
          intro r news' h6 tk6 hZ10 F6 N6
          obtain ⟨rfl, rfl⟩ := hZ10
          obtain ⟨P, Q, ip, iq, tp, tq, n7, c1, c2, c3, c4, c5, N7⟩ := ns_ini (ltR key) N6 (hD _ (.tail _ (.tail _ (.head _)))) (hD _ (.tail _ (.head _))) (Ne.symm b9) (Nat.ne_of_gt b1) (Nat.ne_of_gt b5)
          simp only [List.cons_append] at N7
          clear N6 N5 F5
          k_steps
          unfold Mark
          rename Fr _ _ _ _ => F8
          rename News _ _ _ _ => N8
          with_unfolding_all refine' For_invVF F8 ?_ ?_ ?_
          · exact rfl
          · exact rfl
          k_steps
          unfold Mark
          have hIx := N8 (I, io0) (by simp)
          refine wpAny_pyIter_listiter (hio0.at hIx.1) ?_
          have haI : a ≠ I := Nat.ne_of_lt (lI _ (.tail _ (.head _)))
          have hax := (N8 (a, PySem.W.listOf vs.toArray n) (by simp))
          have hav := PySem.IsL.isList (n := n) hax.1
          refine iter_walk (NsL _ (ltR key) vs D2 I ((L' + 1, oc) :: (a, PySem.W.listOf vs.toArray n) :: rest)) rfl (walks_shift (Walks.list (by rfl) I a haI vs.toArray) 2 (by simp; omega)) (fun i h st => by obtain ⟨o, e, _⟩ := st.1; exact ⟨o, e⟩) (.head _) hIx.2.2 ?hL ?hfix ⟨hio0.at hIx.1, hav⟩ F8 ?hN ?hn ⟨_, _, _, by rfl, by rfl, fun _ _ => rfl, P, Q, ip, iq, tp, tq, n7, c1, c2, c3, c4, c5, NsP.ini, rfl⟩ ?turn ?done
          case hL =>
            show L' ∉ [I, a]
            intro hmm
            rcases List.mem_cons.mp hmm with e9 | e9
            · exact hIx.2.1 e9.symm
            · exact hax.2.1 (List.mem_singleton.mp e9).symm
          case hfix =>
            intro b hb hbI
            rcases List.mem_cons.mp hb with e9 | e9
            · exact absurd e9 hbI
            · rw [List.mem_singleton.mp e9]
              refine .inr ⟨PySem.W.listOf vs.toArray n, ?_⟩
              intro i m nx hZ20
              cases hZ20
              exact .tail _ (.tail _ (.tail _ (.tail _ (.head _))))
          case hN =>
            intro p hp
            refine N8 p ?_
            simp only [List.mem_cons, List.mem_append] at hp ⊢
            rcases hp with h | h | h | h | h | h <;> simp only [h, true_or, or_true]
          case hn =>
            intro p hp
            rcases List.mem_cons.mp hp with rfl | hp
            · exact fun e9 => hD (I, io0) (.head _) e9.symm
            · rcases List.mem_cons.mp hp with rfl | hp
              · exact c4
              · rcases List.mem_cons.mp hp with rfl | hp
                · exact c5
                · exact Nat.ne_of_lt (lI p hp)
          case turn =>
            intro i v m₁ news₁ h tk io hi hP hZ30
            obtain ⟨st, o, tt, ht, ho, hm, P, Q, ip, iq, tp, tq, n7, c1, c2, c3, c4, c5, hNP, hfo⟩ := hZ30
            intro hoff F9 N9
            have hi2 : i + 2 < vs.length := by simp at hi; omega
            have hv : v = vs.getD (i + 2) .none := by
              have hP' : vs.toArray[i + 2]? = some v := hP
              rw [arr_get hi2] at hP'
              exact (Option.some.inj hP').symm
            subst hv
            have e := ov_eq [("elem", m₁ "elem"), ("top", some st.1), ("order", some (.int o tt)), ("_order", m₁ "_order")] (by simp [ht, ho]) hm
            generalize m₁ "elem" = u1 at e
            generalize m₁ "_order" = u2 at e
            subst e
            simp only [List.cons_append] at N9
            have hve := hrow _ (getD_mem hi2)
            obtain ⟨j1, j2, k1, k2, k3, q1, q2⟩ := hNP
            have hs1 : domR key rest st.1 := q1 ▸ hrow _ (getD_mem (by omega))
            have hs2 : domR key rest st.2 := q2 ▸ hrow _ (getD_mem (by omega))
            clear N8 F8 ht ho hm
            k_steps
            · rename_i R h9 F10 N10 l9
              have hcond : ltR key (vs.getD (i + 2) .none) st.1 = true := by assumption
              have hk9 : key (adr (vs.getD (i + 2) .none)) ≠ key (adr st.2) := by rw [q2]; exact keys_ne hkey hi2 (by omega) (by omega)
              refine' CallOK.use (c_rep2 (P := P) (Q := Q) (R := R) hs1 hs2 hve hk9 ?hsub c3 (Nat.ne_of_gt l9.2.1) (Nat.ne_of_gt l9.2.2.1) ?m1 ?m2 ?m3 ?hne) ?k1 ?k2 ?k3 ?k4 ?k5 ?kH ?kC ?kK ?kd ?ku ?ret ?err
              case k1 => k_asm
              case k2 => k_asm
              case k3 => k_asm
              case k4 => exact News.swap (by k_asm)
              case k5 => k_asm
              case kH => assumption
              case kC => assumption
              case kK => first | exact rfl | assumption
              case kd => ktr_room
              case ku => ktr_units
              case err => exact fun _ _ _ _ h => h.elim
              case hsub => exact fun p hp => .tail _ (.tail _ (.tail _ (.tail _ (.tail _ (List.mem_append_left _ hp)))))
              case m1 => exact .tail _ (.head _)
              case m2 => exact .tail _ (.tail _ (.head _))
              case m3 => exact .head _
              case hne =>
                intro p hp
                rcases List.mem_cons.mp hp with rfl | hp
                · exact Nat.ne_of_gt l9.1
                · exact ns_hne c1 c2 hD hp
              case ret =>
                rintro r news' h11 tk11 rfl F11 N11
                have hI9 : I < R := allLt_at l9.2.2.2.2.2 (I, io) (List.mem_append_right _ (.head _))
                obtain ⟨P', Q', ip', iq', tp', tq', n', c1', c2', c3', c4', c5', N12⟩ := ns_rep (base := (L' + 1, oc) :: (a, PySem.W.listOf vs.toArray n) :: rest) (ltR key) hcond N11 (Nat.ne_of_gt l9.1) c2 (Nat.ne_of_gt l9.2.2.1) (Nat.ne_of_gt hI9) c5
                have g1 := ns_fold hfo hi2
                have g2 := NsP.step (lt := ltR key) ⟨j1, j2, k1, k2, k3, q1, q2⟩
                simp only [List.cons_append] at N12
                clear N11 N10 F10
                generalize nsStep (ltR key) st (vs.getD (i + 2) .none) = st' at N12 g1 g2
                k_steps
                refine wk_next (by k_asm) (nx := (D2, PySem.W.listOf [.ref P', .ref Q'].toArray n') :: (P', prO st'.1 (.int ip' tp')) :: (Q', prO st'.2 (.int iq' tq')) :: (L' + 1, oc) :: (a, PySem.W.listOf vs.toArray n) :: rest) (by k_asm) (ns_off (Ne.symm (hD (I, io0) (.head _))) c4' c5' lI) ⟨st', _, _, by rfl, by rfl, ?_, P', Q', ip', iq', tp', tq', n', c1', c2', c3', c4', c5', g2, g1⟩
                exact up_off (by k_memK) (up_off (by k_memK) (up_off (by k_memK) (up_off (by k_memK) fun y hy => ov_off hy)))
            · have hcond : ltR key (vs.getD (i + 2) .none) st.1 = false := by assumption
              have est : nsStep (ltR key) st (vs.getD (i + 2) .none) = st := by unfold nsStep; rw [if_neg (by rw [hcond]; exact Bool.false_ne_true)]
              have g1 := ns_fold hfo hi2
              have g2 := NsP.step (lt := ltR key) ⟨j1, j2, k1, k2, k3, q1, q2⟩
              rw [est] at g1 g2
              refine wk_next (by k_asm) (nx := (D2, PySem.W.listOf [.ref P, .ref Q].toArray n7) :: (P, prO st.1 (.int ip tp)) :: (Q, prO st.2 (.int iq tq)) :: (L' + 1, oc) :: (a, PySem.W.listOf vs.toArray n) :: rest) (by k_asm) (ns_off (Ne.symm (hD (I, io0) (.head _))) c4 c5 lI) ⟨st, _, _, by rfl, by rfl, ?_, P, Q, ip, iq, tp, tq, n7, c1, c2, c3, c4, c5, g2, g1⟩
              exact up_off (by k_memK) fun y hy => ov_off hy
          case done =>
            intro m₁ news₁ h tk hZ40
            obtain ⟨st, o, tt, ht, ho, hm, P, Q, ip, iq, tp, tq, n7, c1, c2, c3, c4, c5, hNP, hfo⟩ := hZ40
            intro hoff F9 N9
            have e := ov_eq [("elem", m₁ "elem"), ("top", some st.1), ("order", some (.int o tt)), ("_order", m₁ "_order")] (by simp [ht, ho]) hm
            generalize m₁ "elem" = u1 at e
            generalize m₁ "_order" = u2 at e
            subst e
            obtain ⟨j1, j2, k1, k2, k3, q1, q2⟩ := hNP
            have z1 : j1 < vs.length := by simp at k1; omega
            have z2 : j2 < vs.length := by simp at k2; omega
            have hs1 : domR key rest st.1 := q1 ▸ hrow _ (getD_mem z1)
            have hs2 : domR key rest st.2 := q2 ▸ hrow _ (getD_mem z2)
            have hkk : key (adr st.1) ≠ key (adr st.2) := by rw [q1, q2]; exact keys_ne hkey z1 z2 k3
            have hfo2 : ns2 (ltR key) vs = nsFin (ltR key) st := by
              unfold ns2
              rw [← hfo, List.drop_of_length_le (by simp; omega)]
              rfl
            clear N8 F8 ht ho hm hfo q1 q2
            obtain ⟨s1, s2⟩ := st
            refine hide_goal ?_
            intro G₀ hG₀
            obtain ⟨r1, ta, ua, ca, er1, hr1⟩ := hs1
            obtain ⟨r2, tb, ub, cb, er2, hr2⟩ := hs2
            refine hG₀ ?_
            clear hG₀ G₀
            simp only at er1 er2 hkk
            subst er1
            subst er2
            show wpAny _ _ _ _ _ _
            k_steps
            have hDb : ∀ p ∈ ((P, prO (.ref r1) (.int ip tp)) :: (Q, prO (.ref r2) (.int iq tq)) :: (L' + 1, oc) :: (a, PySem.W.listOf vs.toArray n) :: rest : Led), p.1 ≠ D2 := fun p hp => ns_hne (I := I) (io := io0) (oP := prO (.ref r1) (.int ip tp)) (oQ := prO (.ref r2) (.int iq tq)) c1 c2 hD (by
              simp only [List.mem_cons, List.mem_append] at hp ⊢
              rcases hp with h | h | h | h | h <;> simp only [h, true_or, or_true])
            refine sort_two (by k_asm) (by k_asm) hDb (.head _) (.tail _ (.head _)) (.tail _ (.tail _ (.tail _ (.tail _ hr1)))) (.tail _ (.tail _ (.tail _ (.tail _ hr2)))) hkk (by ktr_units) fun h12 c12 F12 N12 => ?_
            obtain ⟨P', Q', x', y', ip', iq', tp', tq', hfin, N13⟩ := ns_endE (st := (.ref r1, .ref r2)) (ltR key) N12
            clear N12 N9 F9
            k_steps
            unfold Mark
            refine comp_list (vs := [.ref P', .ref Q']) (n := c12) (fun i ys nw => ys = [x', y'].take i ∧ nw = (D2, PySem.W.listOf [.ref P', .ref Q'].toArray c12) :: (P', prO x' (.int ip' tp')) :: (Q', prO y' (.int iq' tq')) :: (L' + 1, oc) :: (a, PySem.W.listOf vs.toArray n) :: rest) (by rfl) let_tuple (by k_asm) (by k_asm) (.inr (fun i ys nw h => h.2 ▸ .head _)) ⟨rfl, rfl⟩ (by simp) (by rintro i ys nw ⟨rfl, _⟩; simp; omega) ?turn2 ?fin2
            case turn2 =>
              intro i I5 io5 ys m5 nw h5 tk5 D5 C5 s5 E5 hi hZ50 F14 hn14 N14 off14 hoff14 hCD5 hCL5 hC05 hZ51
              refine hide_goal ?_
              intro G₀ hG₀
              obtain ⟨rfl, rfl⟩ := hZ50
              obtain ⟨h55, rfl⟩ := hZ51
              refine hG₀ ?_
              clear hG₀ G₀
              have hi' : i = 0 ∨ i = 1 := by simp at hi; omega
              rcases hi' with rfl | rfl
              · refine turn_pair (T := P') (a := x') (b := .int ip' tp') (by rfl) (by rfl) (by rfl) (by decide) (by rfl) F14 hn14 N14 off14 hCD5 hCL5 hC05 ⟨_, (N14 (P', prO x' (.int ip' tp')) (by simp)).1, rfl, _, rfl⟩ ?_
                intro h6 tk6 oC m₂ hoC hm1 hm2 F15 N15
                clear N14 F14
                k_steps
                exact cp_end hoC (by k_asm) (by k_asm) (.head _) (.tail _ (.head _)) (fun p hp => .tail _ (.tail _ hp)) off14 (Nat.lt_succ_self 0) ⟨rfl, _, rfl, hoff14, rfl, rfl⟩
              · refine turn_pair (T := Q') (a := y') (b := .int iq' tq') (by rfl) (by rfl) (by rfl) (by decide) (by rfl) F14 hn14 N14 off14 hCD5 hCL5 hC05 ⟨_, (N14 (Q', prO y' (.int iq' tq')) (by simp)).1, rfl, _, rfl⟩ ?_
                intro h6 tk6 oC m₂ hoC hm1 hm2 F15 N15
                clear N14 F14
                k_steps
                exact cp_end hoC (by k_asm) (by k_asm) (.head _) (.tail _ (.head _)) (fun p hp => .tail _ (.tail _ hp)) off14 (Nat.lt_succ_self 1) ⟨rfl, _, rfl, hoff14, rfl, rfl⟩
            case fin2 =>
              intro ys nw s5 hZ60 hZ61
              refine hide_goal ?_
              intro G₀ hG₀
              obtain ⟨h55, rfl⟩ := hZ60
              obtain ⟨rfl, rfl⟩ := hZ61
              refine hG₀ ?_
              clear hG₀ G₀
              unfold LCg.FinE
              intro D5 h6 tk6 F15 N15 o15
              clear N13
              k_steps
              have e5 : ns2 (ltR key) vs = [x', y'] := hfo2.trans hfin
              refine hret _ ((D5, PySem.W.listOf [x', y'].toArray 2) :: (a, PySem.W.listOf vs.toArray n) :: rest) _ _ ⟨D5, 2, rfl, fun p hp => off1_ne o15 p (.tail _ (.tail _ (.tail _ (.tail _ hp)))), by rw [e5]⟩ (by k_asm) (News.sub (by k_asm) ?_)
              intro p hp
              rcases List.mem_cons.mp hp with rfl | hp
              · exact .head _
              · exact .tail _ (.tail _ (.tail _ (.tail _ (.tail _ hp))))
    · intro F2 hn N2 off hCD hCL hC0
      refine ns_turn hio0 F2 hn N2 off hCL hC0 (hr4_cons ⟨b4, b3, b2, Nat.ne_of_gt b1⟩ hr4) (.tail _ (.tail _ (.head _))) o1 o2 o3 o4 (by decide) (arr_get (vs := vs) (k := 1) (by omega)) ?_
      intro T h' io' F3 hn3 N3 hio3 hT
      refine turn_pair (by rfl) (by rfl) (by rfl) (by decide) (by rfl) F3 hn3 N3 (off_same off rfl) hCD hCL hC0 hT ?_
      intro h4 tk4 oC m₂ hoC hm1 hm2 F4 N4
      clear N2 N3 F2 F3
      k_steps
      rename_i T1 _ _ _ l9
      refine cp_end hoC (by k_asm) (by k_asm) (.tail _ (.head _)) (.tail _ (.tail _ (.head _))) ?sub ?off9 (k' := 0) (by decide) (.s0 io' T0 t0 T1 tk (.int 1 tk) hio3 b1 b2 b3 b4 (l9.2.2.2.2.2.2.1) (Nat.ne_of_gt l9.2.2.2.2.2.1) (Nat.ne_of_gt l9.2.2.2.2.1) (Nat.ne_of_gt l9.2.2.1) (Nat.ne_of_gt l9.2.2.2.2.2.2.2.1))
      case sub => exact sub_ins
      case off9 => exact off_ins (off_same off rfl) ⟨Nat.ne_of_gt l9.1, Nat.ne_of_gt l9.2.1⟩
    · intro F2 hn N2 off hCD hCL hC0
      refine ns_turn hio0 F2 hn N2 off hCL hC0 hr4 (.tail _ (.head _)) o1 o2 o3 o4 (by decide) (arr_get (vs := vs) (k := 0) (by omega)) ?_
      intro T h' io' F3 hn3 N3 hio3 hT
      refine turn_pair (by rfl) (by rfl) (by rfl) (by decide) (by rfl) F3 hn3 N3 (off_same off rfl) hCD hCL hC0 hT ?_
      intro h4 tk4 oC m₂ hoC hm1 hm2 F4 N4
      clear N2 N3 F2 F3
      k_steps
      rename_i T0 _ _ _ l9
      refine cp_end hoC (by k_asm) (by k_asm) (.tail _ (.head _)) (.tail _ (.tail _ (.head _))) ?sub2 ?off92 (k' := 1) (by decide) (.s1 io' T0 tk (.int 0 tk) hio3 (l9.2.2.2.2.2.2.1) (Nat.ne_of_gt l9.2.2.2.2.2.1) (Nat.ne_of_gt l9.2.2.2.2.1) (Nat.ne_of_gt l9.2.2.1))
      case sub2 => exact sub_ins
      case off92 => exact off_ins (off_same off rfl) ⟨Nat.ne_of_gt l9.1, Nat.ne_of_gt l9.2.1⟩
end
-- Law4
section
theorem lines_Law4 : True := by
  k_with_none
  k_with "subscriptTail Name Name ref int" => (k_here; k_dflt (refine gi_stepM (by k_asm) (by first | k_memK | (repeat (first | assumption | refine List.Mem.tail _ ?_))) (by omega) (by first | omega | assumption | (simp; omega)) (by first | omega | (simp; omega)) ?_))
  k_with "subscriptTail Name Constant ref int" => (k_here; k_dflt (refine gi_stepM (by k_asm) (by first | k_memK | (repeat (first | assumption | refine List.Mem.tail _ ?_))) (by omega) (by first | omega | assumption | (simp; omega)) (by first | omega | (simp; omega)) ?_))
  k_with "exec Try" => (k_here; (refine wpAny_Try_except ?_))
  trivial
local macro_rules | `(tactic| walk_at "subscriptTail Name Slice ref ref") => `(tactic| (refine Mark.mk ?_))
local macro_rules | `(tactic| k_mem) => `(tactic| (refine List.mem_append_right _ ?_; k_mem))
local macro_rules | `(tactic| walk_at "call builtin:list.append") => `(tactic| (refine Mark.mk ?_))
local macro_rules | `(tactic| walk_at "pyIter ref") => `(tactic| (refine Mark.mk ?_))
local macro_rules | `(tactic| walk_at "call ref") => `(tactic| (refine Mark.mk ?_))
local macro_rules | `(tactic| walk_at "compareOp NotEq ref ref") => `(tactic| (refine Mark.mk ?_))
local macro_rules | `(tactic| walk_at "compareOp Eq ref ref") => `(tactic| (refine Mark.mk ?_))
local macro_rules | `(tactic| walk_at "callWith ref") => `(tactic| (k_here; k_dflt (refine callWith_K (by k_asm) (by k_is) ?_)))
theorem grown_tab {h₀ h : Heap} {L : Addr} {nw l : Led} (N : News h₀ L h nw) (hT : TabSt 40 18 4 qualC l) (sub : ∀ p ∈ l, p ∈ nw) : GrownAt 40 h := by
  rcases hT with rfl | ⟨c', oc, vs, t, rfl, _⟩
  · exact .of N (sub _ (.head _))
  · exact .of N (sub _ (.head _))
set_option maxHeartbeats 8000000 in
theorem law4 (w : World) (d : DefRec) (kwd) (hd : defOf qv (Str.ofString "law") = some (d, kwd)) (p loose mean mg mb) (h₀ : Heap) (L fa : Addr) (cd : Value) (m : Str → Option Value) (s : Shared) (Q : Flow → Shared → Prop) (E : Value → Shared → Prop)
    (B : Below callerA h₀ [] h₀) (X : (KH.heap_1 w.params).In h₀) (T : Top p loose mean mg mb h₀) (hH : HexIn w h₀) (hC : CodeHd h₀ 44 40) (l0 : @LT.lt Nat instLTNat 40 L) (hE : PassesOwn (model PySem.Challenge.rw_ik0044_01.row.prog w) (callerA.deeper (lawEnv d L fa cd)) (lawEnv d L fa cd) E) (ROWS NUM PL : Addr) (ws ps rs : List Value) (cP cR : Nat) (rl l : Led) (nums : List Int) (oH oS : Obj) (u : Tok) (xv sc z1 z2 z3 z4 : Option Value)
    (hl2 : nums.length ≤ 11) (hk3 : 3 ≤ (keysT nums nums.length).length) (hR : RowsR rs (keysT nums nums.length) rl) (hT : TabSt 40 18 4 qualC l) (hrl : ∀ p ∈ rl, p.1 ≠ ROWS ∧ p.1 ≠ 40 ∧ p.1 ≠ NUM ∧ p.1 ≠ PL ∧ p.1 ≠ L + 1 ∧ p.1 ≠ L + 1 + 1)
    (l1 : @LT.lt Nat instLTNat (L + 1 + 1) PL) (l2 : @LT.lt Nat instLTNat PL NUM) (l3 : @LT.lt Nat instLTNat NUM ROWS)
    (F : Fr h₀ L s.heap (ov [("k", z1), ("place", z2), ("number", z3), ("due", z4), ("rows", some (.ref ROWS)), ("x", xv), ("numbers", some (.ref NUM)), ("places", some (.ref PL)), ("script", sc)] m))
    (N : News h₀ L s.heap (l ++ ((ROWS, PySem.W.listOf rs.toArray cR) :: (NUM, PySem.W.listOf ws.toArray 0) :: (PL, PySem.W.listOf ps.toArray cP) :: (L + 1 + 1, oH) :: (L + 1, oS) :: rl))) (dS : oS.data = .cell (some (.str (srcT nums) u))) (dH : oH.data = .cell none)
    (fin : ∀ s' m', (∃ h' tk', s' = { s with heap := h', toks := tk' }) → Fr h₀ L s'.heap m' → GrownAt 40 s'.heap → Q (.ret (.bool true)) s') :
    wpAny (model PySem.Challenge.rw_ik0044_01.row.prog w) (callerA.deeper (lawEnv d L fa cd)) (execs (d.body.drop 4) (lawEnv d L fa cd)) Q E s := by
  revert X
  k_fill
  intro X
  obtain ⟨e1, e2⟩ := Prod.mk.inj (Option.some.inj ((rfl : defOf qv (Str.ofString "law") = some (_, _)).symm.trans hd))
  subst e1
  clear hd
  dsimp only [lawEnv] at hE ⊢
  try dsimp only [lawEnv] at done
  show wpAny _ _ (execs (_ :: _) _) _ _ _
  have hsl : (srcT nums).length ≤ 900 := by rw [srcT_len]; exact Nat.le_trans (Nat.mul_le_mul_left 5 hl2) (by decide)
  obtain ⟨o40, ho40⟩ := hT.in40
  have c1 : @LT.lt Nat instLTNat 40 (L + 1) := Nat.lt_succ_of_lt l0
  have c2 : @LT.lt Nat instLTNat 40 (L + 1 + 1) := Nat.lt_succ_of_lt c1
  have c3 := Nat.lt_trans c2 l1
  have c4 := Nat.lt_trans c3 l2
  have c5 := Nat.lt_trans c4 l3
  have hX40 : ∀ p ∈ ((ROWS, PySem.W.listOf rs.toArray cR) :: (NUM, PySem.W.listOf ws.toArray 0) :: (PL, PySem.W.listOf ps.toArray cP) :: (L + 1 + 1, oH) :: (L + 1, oS) :: rl : Led), p.1 ≠ 40 := by
    intro p hp
    simp only [List.mem_cons] at hp
    rcases hp with rfl | rfl | rfl | rfl | rfl | hp
    · exact Nat.ne_of_gt c5
    · exact Nat.ne_of_gt c4
    · exact Nat.ne_of_gt c3
    · exact Nat.ne_of_gt c2
    · exact Nat.ne_of_gt c1
    · exact (hrl p hp).2.1
  have hrn := rows_len hR
  have hkn := keys_len nums nums.length
  have hk11 := Nat.le_trans hkn hl2
  k_steps
  unfold Mark
  refine comp_pairL (vs := rs) (n := cR) (fun i ys nw => ∃ rl2, RowsR ys ((keysT nums nums.length).take i) rl2 ∧ (∀ p ∈ rl2, @LT.lt Nat instLTNat ROWS p.1) ∧ nw = l ++ (rl2 ++ ((ROWS, PySem.W.listOf rs.toArray cR) :: (NUM, PySem.W.listOf ws.toArray 0) :: (PL, PySem.W.listOf ps.toArray cP) :: (L + 1 + 1, oH) :: (L + 1, oS) :: rl))) (by rfl) F N ?hax ⟨[], .nil, fun _ h => (nomatch h), rfl⟩ (Nat.le_trans (Nat.le_of_eq hrn) (Nat.le_trans hk11 (by decide))) ?len (by rfl) (by rfl) (by decide) (by rfl) (fun i => (keysT nums nums.length).getD i (0, 0)) ?row ?turn ?fin1
  case hax =>
    intro i ys nw hZ10
    refine hide_goal ?_
    intro G₀ hG₀
    obtain ⟨rl2, _, _, rfl⟩ := hZ10
    refine hG₀ ?_
    clear hG₀ G₀
    exact List.mem_append_right _ (List.mem_append_right _ (.head _))
  case len =>
    intro i ys nw hZ20
    refine hide_goal ?_
    intro G₀ hG₀
    obtain ⟨rl2, h, _, _⟩ := hZ20
    refine hG₀ ?_
    clear hG₀ G₀
    rw [rows_len h, List.length_take]
    exact Nat.min_le_left _ _
  case row =>
    intro i ys nw hi hZ30
    refine hide_goal ?_
    intro G₀ hG₀
    obtain ⟨rl2, _, _, rfl⟩ := hZ30
    obtain ⟨a, t, u, c, e1, e2⟩ := hR.at i hi
    refine hG₀ ?_
    clear hG₀ G₀
    exact ⟨a, t, u, c, e1, List.mem_append_right _ (List.mem_append_right _ (.tail _ (.tail _ (.tail _ (.tail _ (.tail _ e2))))))⟩
  case turn =>
    intro i I io ys nw h tk D C oC m₂ s₂ t3 u3 E' hi hZ40 hoC hm1 hm2 F2 N2 off hCD hCI hDI hZ41
    refine hide_goal ?_
    intro G₀ hG₀
    obtain ⟨rl2, hR2, hlt2, rfl⟩ := hZ40
    obtain ⟨h2, rfl⟩ := hZ41
    obtain ⟨k0, hk0, hg, hke⟩ := keys_at (nums := nums) (n := nums.length) (i := i) (hrn ▸ hi)
    refine hG₀ ?_
    clear hG₀ G₀
    rw [hke] at hm1 hm2
    simp only at hm1 hm2
    obtain ⟨hok4, hn4⟩ := ok4 hk0 (good_ne hg)
    have hsc4 : scalarB (hexN (srcT nums) (5 * k0 + 1) 4) = true := by rw [hn4]; exact good_scalar hg
    have hpo : 5 * k0 + 1 ≤ (srcT nums).length := by rw [srcT_len]; exact Nat.mul_lt_mul_of_pos_left hk0 (by decide)
    have o40m := off _ (List.mem_append_left _ ho40)
    have hne : ∀ p ∈ ((C, oC) :: (D, clst ys) :: (I, io) :: (rl2 ++ ((ROWS, PySem.W.listOf rs.toArray cR) :: (NUM, PySem.W.listOf ws.toArray 0) :: (PL, PySem.W.listOf ps.toArray cP) :: (L + 1 + 1, oH) :: (L + 1, oS) :: rl)) : Led), p.1 ≠ 40 := by
      intro p hp
      simp only [List.mem_cons, List.mem_append] at hp
      rcases hp with rfl | rfl | rfl | hp | hp
      · exact Ne.symm o40m.1
      · exact Ne.symm o40m.2.1
      · exact Ne.symm o40m.2.2
      · exact Nat.ne_of_gt (Nat.lt_trans c5 (hlt2 p hp))
      · exact hX40 p (by simp only [List.mem_cons]; exact hp)
    k_steps
    unfold Mark
    rename News _ _ _ _ => N4
    rename Fr _ _ _ _ => F4
    k_dflt (refine CallOK0.use (hex_good (rest := (C, oC) :: (D, clst ys) :: (I, io) :: (rl2 ++ ((ROWS, PySem.W.listOf rs.toArray cR) :: (NUM, PySem.W.listOf ws.toArray 0) :: (PL, PySem.W.listOf ps.toArray cP) :: (L + 1 + 1, oH) :: (L + 1, oS) :: rl))) (many := 4) hsl hpo (by decide) (by decide) hne hT hok4 hsc4) B F4 X (News.in3 N4) T X T hH hC rfl (by ktr_room) (by ktr_units) ?_)
    intro r5 nw5 h5 tk5 hZ50 F5 N5
    refine hide_goal ?_
    intro G₀ hG₀
    obtain ⟨T5, u5, v5, rfl, hT5, rfl⟩ := hZ50
    refine hG₀ ?_
    clear hG₀ G₀
    clear N4 F4
    rw [hn4] at N5
    k_steps
    rename News _ _ _ _ => N6
    rename Fr _ _ _ _ => F6
    rename_i RW _ lW
    have hW : ∀ p ∈ (l ++ ((C, oC) :: (D, clst ys) :: (I, io) :: (rl2 ++ ((ROWS, PySem.W.listOf rs.toArray cR) :: (NUM, PySem.W.listOf ws.toArray 0) :: (PL, PySem.W.listOf ps.toArray cP) :: (L + 1 + 1, oH) :: (L + 1, oS) :: rl))) : Led), @LT.lt Nat instLTNat p.1 RW := fun p hp => allLt_mem lW.2 p hp
    rw [Int.toNat_of_nonneg (numT_range _).1] at N6
    refine te_end hoC F6 N6 (.tail _ (.tail _ (List.mem_append_right _ (.head _)))) (.tail _ (.tail _ (List.mem_append_right _ (.tail _ (.head _))))) (.tail _ (.tail _ (List.mem_append_right _ (.tail _ (.tail _ (.head _)))))) (nw' := l ++ (((RW, rowObj (numT (nums.getD k0 0), ((5 * k0 + 1 : Nat) : Int)) (tk5 + 1) u3 0) :: rl2) ++ ((ROWS, PySem.W.listOf rs.toArray cR) :: (NUM, PySem.W.listOf ws.toArray 0) :: (PL, PySem.W.listOf ps.toArray cP) :: (L + 1 + 1, oH) :: (L + 1, oS) :: rl))) (fun p hp => ?_) (fun p hp => ?_) ⟨(RW, rowObj (numT (nums.getD k0 0), ((5 * k0 + 1 : Nat) : Int)) (tk5 + 1) u3 0) :: rl2, ?_, fun p hp => ?_, rfl⟩
    · rcases List.mem_append.mp hp with hp | hp
      · exact .tail _ (.tail _ (List.mem_append_left _ hp))
      · rcases List.mem_cons.mp hp with rfl | hp
        · exact .head _
        · exact .tail _ (.tail _ (List.mem_append_right _ (.tail _ (.tail _ (.tail _ hp)))))
    · rcases List.mem_append.mp hp with hp | hp
      · exact off p (List.mem_append_left _ hp)
      · rcases List.mem_cons.mp hp with rfl | hp
        · exact ⟨Nat.ne_of_gt (hW _ (List.mem_append_right _ (.head _))), Nat.ne_of_gt (hW _ (List.mem_append_right _ (.tail _ (.head _)))), Nat.ne_of_gt (hW _ (List.mem_append_right _ (.tail _ (.tail _ (.head _)))))⟩
        · exact off p (List.mem_append_right _ hp)
    · have e : (keysT nums nums.length).take (i + 1) = (keysT nums nums.length).take i ++ [(numT (nums.getD k0 0), ((5 * k0 + 1 : Nat) : Int))] := by
        rw [← hke, List.take_succ, List.getD_eq_getElem?_getD]
        simp [show i < (keysT nums nums.length).length from hrn ▸ hi]
      rw [e]
      exact RowsR.snoc (k := (numT (nums.getD k0 0), ((5 * k0 + 1 : Nat) : Int))) hR2 (fun p hp => Nat.ne_of_lt (hW _ (List.mem_append_right _ (.tail _ (.tail _ (.tail _ (List.mem_append_left _ hp)))))))
    · rcases List.mem_cons.mp hp with rfl | hp
      · exact hW (ROWS, PySem.W.listOf rs.toArray cR) (List.mem_append_right _ (.tail _ (.tail _ (.tail _ (List.mem_append_right _ (.head _))))))
      · exact hlt2 p hp
  case fin1 =>
    intro ys nw s₂ hZ60 hZ61
    refine hide_goal ?_
    intro G₀ hG₀
    obtain ⟨h2, rfl⟩ := hZ60
    obtain ⟨rl2, hR2, hlt2, rfl⟩ := hZ61
    refine hG₀ ?_
    clear hG₀ G₀
    rw [List.take_of_length_le (Nat.le_of_eq hrn.symm)] at hR2
    unfold LCg.FinE
    intro D5 h6 tk6 F8 N8 o8'
    have o8 := off1_ne o8'
    obtain ⟨key1, hd1, hm1⟩ := hR.key
    obtain ⟨key2, hd2, hm2⟩ := hR2.key
    have hlR : ∀ p ∈ l, p.1 ≠ ROWS := tab_apart N8 hT (fun q hq => .tail _ (List.mem_append_left _ hq)) (.tail _ (List.mem_append_right _ (List.mem_append_right _ (.head _)))) (Nat.ne_of_gt c5) (fun vs t e => nomatch e)
    have hDR : D5 ≠ ROWS := Ne.symm (o8 (ROWS, PySem.W.listOf rs.toArray cR) (List.mem_append_right _ (List.mem_append_right _ (.head _))))
    have hneR : ∀ p ∈ ((D5, clst ys) :: (l ++ (rl2 ++ ((NUM, PySem.W.listOf ws.toArray 0) :: (PL, PySem.W.listOf ps.toArray cP) :: (L + 1 + 1, oH) :: (L + 1, oS) :: rl))) : Led), p.1 ≠ ROWS := by
      intro p hp
      rcases List.mem_cons.mp hp with rfl | hp
      · exact hDR
      rcases List.mem_append.mp hp with hp | hp
      · exact hlR p hp
      rcases List.mem_append.mp hp with hp | hp
      · exact Nat.ne_of_gt (hlt2 p hp)
      simp only [List.mem_cons] at hp
      rcases hp with rfl | rfl | rfl | rfl | hp
      · exact Nat.ne_of_lt l3
      · exact Nat.ne_of_lt (Nat.lt_trans l2 l3)
      · exact Nat.ne_of_lt (Nat.lt_trans l1 (Nat.lt_trans l2 l3))
      · exact Nat.ne_of_lt (Nat.lt_trans (Nat.lt_succ_self _) (Nat.lt_trans l1 (Nat.lt_trans l2 l3)))
      · exact (hrl p hp).1
    have N9 : News h₀ L h6 ((ROWS, PySem.W.listOf rs.toArray cR) :: (D5, clst ys) :: (l ++ (rl2 ++ ((NUM, PySem.W.listOf ws.toArray 0) :: (PL, PySem.W.listOf ps.toArray cP) :: (L + 1 + 1, oH) :: (L + 1, oS) :: rl)))) := News.sub N8 (fun p hp => by
      rcases List.mem_cons.mp hp with rfl | hp
      · exact .tail _ (List.mem_append_right _ (List.mem_append_right _ (.head _)))
      rcases List.mem_cons.mp hp with rfl | hp
      · exact .head _
      rcases List.mem_append.mp hp with hp | hp
      · exact .tail _ (List.mem_append_left _ hp)
      rcases List.mem_append.mp hp with hp | hp
      · exact .tail _ (List.mem_append_right _ (List.mem_append_left _ hp))
      · exact .tail _ (List.mem_append_right _ (List.mem_append_right _ (.tail _ hp))))
    have hdomR : ∀ v ∈ rs, domR key1 ((D5, clst ys) :: (l ++ (rl2 ++ ((NUM, PySem.W.listOf ws.toArray 0) :: (PL, PySem.W.listOf ps.toArray cP) :: (L + 1 + 1, oH) :: (L + 1, oS) :: rl)))) v := fun v hv => (hd1 v hv).mono fun p hp => .tail _ (List.mem_append_right _ (List.mem_append_right _ (.tail _ (.tail _ (.tail _ (.tail _ hp))))))
    clear N8
    k_steps
    unfold Mark
    k_dflt (refine CallOK.use (c_rising _ _ _ _ _ _ _ _ _ _ hneR key1 hdomR (Nat.le_trans (Nat.le_of_eq hrn) (Nat.le_trans hk11 (by decide)))) B F8 X N9 T hH hC rfl (by ktr_room) (by ktr_units) ?_ (fun _ _ _ _ h => h.elim))
    intro r7 nw7 h7 tk7 hZ70 F7 N7
    refine hide_goal ?_
    intro G₀ hG₀
    obtain ⟨R, cS, rfl, hRR, rfl⟩ := hZ70
    refine hG₀ ?_
    clear hG₀ G₀
    clear F8 N9
    k_steps
    rename News _ _ _ _ => N8
    rename Fr _ _ _ _ => F8
    have nR : ∀ p ∈ ((ROWS, PySem.W.listOf rs.toArray cR) :: (D5, clst ys) :: (l ++ (rl2 ++ ((NUM, PySem.W.listOf ws.toArray 0) :: (PL, PySem.W.listOf ps.toArray cP) :: (L + 1 + 1, oH) :: (L + 1, oS) :: rl))) : Led), p.1 ≠ R := hRR
    have lL : ∀ p ∈ l, p.1 ≠ L + 1 + 1 := tab_apart (News.tl N8) hT (fun q hq => .tail _ (.tail _ (.tail _ (List.mem_append_left _ hq)))) (.tail _ (.tail _ (.tail _ (List.mem_append_right _ (List.mem_append_right _ (.tail _ (.tail _ (.head _)))))))) (Nat.ne_of_gt c2) (fun vs t e => by rw [dH] at e; cases e)
    have xR : R ≠ L + 1 + 1 := Ne.symm (nR (L + 1 + 1, oH) (.tail _ (.tail _ (List.mem_append_right _ (List.mem_append_right _ (.tail _ (.tail _ (.head _))))))))
    have xD : D5 ≠ L + 1 + 1 := Ne.symm (o8 (L + 1 + 1, oH) (List.mem_append_right _ (List.mem_append_right _ (.tail _ (.tail _ (.tail _ (.head _)))))))
    have xROWS : ROWS ≠ L + 1 + 1 := Nat.ne_of_gt (Nat.lt_trans l1 (Nat.lt_trans l2 l3))
    have offH : ∀ p ∈ ((D5, clst ys) :: (R, PySem.W.listOf (risingL key1 rs).toArray cS) :: (ROWS, PySem.W.listOf rs.toArray cR) :: (l ++ (rl2 ++ ((NUM, PySem.W.listOf ws.toArray 0) :: (PL, PySem.W.listOf ps.toArray cP) :: (L + 1, oS) :: rl))) : Led), p.1 ≠ L + 1 + 1 := by
      intro p hp
      rcases List.mem_cons.mp hp with rfl | hp
      · exact xD
      rcases List.mem_cons.mp hp with rfl | hp
      · exact xR
      rcases List.mem_cons.mp hp with rfl | hp
      · exact xROWS
      rcases List.mem_append.mp hp with hp | hp
      · exact lL p hp
      rcases List.mem_append.mp hp with hp | hp
      · exact Nat.ne_of_gt (Nat.lt_trans (Nat.lt_trans l1 (Nat.lt_trans l2 l3)) (hlt2 p hp))
      simp only [List.mem_cons] at hp
      rcases hp with rfl | rfl | rfl | hp
      · exact Nat.ne_of_gt (Nat.lt_trans l1 l2)
      · exact Nat.ne_of_gt l1
      · exact Nat.ne_of_lt (Nat.lt_succ_self _)
      · exact (hrl p hp).2.2.2.2.2
    have N9 : News h₀ L _ ((L + 1 + 1, oH) :: (D5, clst ys) :: (R, PySem.W.listOf (risingL key1 rs).toArray cS) :: (ROWS, PySem.W.listOf rs.toArray cR) :: (l ++ (rl2 ++ ((NUM, PySem.W.listOf ws.toArray 0) :: (PL, PySem.W.listOf ps.toArray cP) :: (L + 1, oS) :: rl))) : Led) := News.sub (News.tl N8) (fun p hp => by
      rcases List.mem_cons.mp hp with rfl | hp
      · exact .tail _ (.tail _ (.tail _ (List.mem_append_right _ (List.mem_append_right _ (.tail _ (.tail _ (.head _)))))))
      rcases List.mem_cons.mp hp with rfl | hp
      · exact .tail _ (.tail _ (.head _))
      rcases List.mem_cons.mp hp with rfl | hp
      · exact .head _
      rcases List.mem_cons.mp hp with rfl | hp
      · exact .tail _ (.head _)
      rcases List.mem_append.mp hp with hp | hp
      · exact .tail _ (.tail _ (.tail _ (List.mem_append_left _ hp)))
      rcases List.mem_append.mp hp with hp | hp
      · exact .tail _ (.tail _ (.tail _ (List.mem_append_right _ (List.mem_append_left _ hp))))
      simp only [List.mem_cons] at hp
      refine .tail _ (.tail _ (.tail _ (List.mem_append_right _ (List.mem_append_right _ ?_))))
      rcases hp with rfl | rfl | rfl | hp
      · exact .head _
      · exact .tail _ (.head _)
      · exact .tail _ (.tail _ (.tail _ (.head _)))
      · exact .tail _ (.tail _ (.tail _ (.tail _ hp))))
    refine storeX_C (c := L + 1 + 1) (g := fun o' => (L + 1 + 1, o') :: (D5, clst ys) :: (R, PySem.W.listOf (risingL key1 rs).toArray cS) :: (ROWS, PySem.W.listOf rs.toArray cR) :: (l ++ (rl2 ++ ((NUM, PySem.W.listOf ws.toArray 0) :: (PL, PySem.W.listOf ps.toArray cP) :: (L + 1, oS) :: rl)))) F8 N9 (by rfl) (.head offH) dH ?kont rfl rfl
    intro h9 oH2 F9 N10 d9
    clear F8 N8 N9
    have aD : ∀ p ∈ ((R, PySem.W.listOf (risingL key1 rs).toArray cS) :: (L + 1 + 1, oH2) :: (ROWS, PySem.W.listOf rs.toArray cR) :: (l ++ (rl2 ++ ((NUM, PySem.W.listOf ws.toArray 0) :: (PL, PySem.W.listOf ps.toArray cP) :: (L + 1, oS) :: rl))) : Led), p.1 ≠ D5 := by
      intro p hp
      rcases List.mem_cons.mp hp with rfl | hp
      · exact Ne.symm (nR (D5, clst ys) (.tail _ (.head _)))
      rcases List.mem_cons.mp hp with rfl | hp
      · exact Ne.symm xD
      rcases List.mem_cons.mp hp with rfl | hp
      · exact Ne.symm hDR
      rcases List.mem_append.mp hp with hp | hp
      · exact o8 p (List.mem_append_left _ hp)
      rcases List.mem_append.mp hp with hp | hp
      · exact o8 p (List.mem_append_right _ (List.mem_append_left _ hp))
      simp only [List.mem_cons] at hp
      refine o8 p (List.mem_append_right _ (List.mem_append_right _ (.tail _ ?_)))
      rcases hp with rfl | rfl | rfl | hp
      · exact .head _
      · exact .tail _ (.head _)
      · exact .tail _ (.tail _ (.tail _ (.head _)))
      · exact .tail _ (.tail _ (.tail _ (.tail _ hp)))
    have rl2in : ∀ p ∈ rl2, p ∈ ((R, PySem.W.listOf (risingL key1 rs).toArray cS) :: (L + 1 + 1, oH2) :: (ROWS, PySem.W.listOf rs.toArray cR) :: (l ++ (rl2 ++ ((NUM, PySem.W.listOf ws.toArray 0) :: (PL, PySem.W.listOf ps.toArray cP) :: (L + 1, oS) :: rl))) : Led) := fun p hp => .tail _ (.tail _ (.tail _ (List.mem_append_right _ (List.mem_append_left _ hp))))
    have rlin : ∀ p ∈ rl, p ∈ ((R, PySem.W.listOf (risingL key1 rs).toArray cS) :: (L + 1 + 1, oH2) :: (ROWS, PySem.W.listOf rs.toArray cR) :: (l ++ (rl2 ++ ((NUM, PySem.W.listOf ws.toArray 0) :: (PL, PySem.W.listOf ps.toArray cP) :: (L + 1, oS) :: rl))) : Led) := fun p hp => .tail _ (.tail _ (.tail _ (List.mem_append_right _ (List.mem_append_right _ (.tail _ (.tail _ (.tail _ hp)))))))
    have hdom2 : ∀ v ∈ ys, domR key2 ((R, PySem.W.listOf (risingL key1 rs).toArray cS) :: (L + 1 + 1, oH2) :: (ROWS, PySem.W.listOf rs.toArray cR) :: (l ++ (rl2 ++ ((NUM, PySem.W.listOf ws.toArray 0) :: (PL, PySem.W.listOf ps.toArray cP) :: (L + 1, oS) :: rl)))) v := fun v hv => (hd2 v hv).mono rl2in
    have hdom1 : ∀ v ∈ risingL key1 rs, domR key1 ((R, PySem.W.listOf (risingL key1 rs).toArray cS) :: (L + 1 + 1, oH2) :: (ROWS, PySem.W.listOf rs.toArray cR) :: (l ++ (rl2 ++ ((NUM, PySem.W.listOf ws.toArray 0) :: (PL, PySem.W.listOf ps.toArray cP) :: (L + 1, oS) :: rl)))) v := fun v hv => (hd1 v ((rising_ok rs).1.mem_iff.mp hv)).mono rlin
    have N11 : News h₀ L h9 ((D5, clst ys) :: (R, PySem.W.listOf (risingL key1 rs).toArray cS) :: (L + 1 + 1, oH2) :: (ROWS, PySem.W.listOf rs.toArray cR) :: (l ++ (rl2 ++ ((NUM, PySem.W.listOf ws.toArray 0) :: (PL, PySem.W.listOf ps.toArray cP) :: (L + 1, oS) :: rl)))) := News.sub N10 (fun p hp => by
      rcases List.mem_cons.mp hp with rfl | hp
      · exact .tail _ (.head _)
      rcases List.mem_cons.mp hp with rfl | hp
      · exact .tail _ (.tail _ (.head _))
      rcases List.mem_cons.mp hp with rfl | hp
      · exact .head _
      · exact .tail _ (.tail _ (.tail _ hp)))
    clear N10
    have nd := keys_nodup nums nums.length
    have hyl := rows_len hR2
    have hsr : (risingL key1 rs).length = rs.length := (rising_ok rs).1.length_eq
    generalize hX2 : ((NUM, PySem.W.listOf ws.toArray 0) :: (PL, PySem.W.listOf ps.toArray cP) :: (L + 1, oS) :: rl : Led) = X2' at *
    generalize hSd : risingL key1 rs = S at *
    have y3 := Nat.le_trans hk3 (Nat.le_of_eq hyl.symm)
    have yk := Nat.le_trans (Nat.le_of_eq hyl) hk11
    have yt := Nat.le_trans yk (show 11 ≤ 1000 by decide)
    have s3 := Nat.le_trans hk3 (Nat.le_of_eq (hsr.trans hrn).symm)
    have sk := Nat.le_trans (Nat.le_of_eq (hsr.trans hrn)) hk11
    k_steps
    unfold Mark
    rename News _ _ _ _ => N12
    rename Fr _ _ _ _ => F12
    k_dflt (refine CallOK.use (c_nsmallest _ _ _ _ _ _ _ _ _ _ _ aD key2 hdom2 (nodup_keys hm2 nd) y3 yt) B F12 X N12 T hH hC rfl (by ktr_room) (by ktr_units) ?_ (fun _ _ _ _ h => h.elim))
    intro r13 nw13 h13 tk13 hZ80 F13 N13
    refine hide_goal ?_
    intro G₀ hG₀
    obtain ⟨R2, c2', rfl, hRR2, rfl⟩ := hZ80
    refine hG₀ ?_
    clear hG₀ G₀
    clear F12 N12
    k_steps
    unfold Mark
    k_dflt (refine kms_slice_lit (by k_asm) (by k_asm) (by exact news_isL (by k_asm) (by k_memK)) (by kmk_part) (by kmk_part) (by exact rfl) ?_ (by with_unfolding_all rfl) (by kmk_pure) (by rw [List.size_toArray, sizeLine_eq]; (try rw [List.length_reverse]); exact Nat.le_trans sk (by decide))); intro D' h' F' N' l1; (try simp only [List.toList_toArray] at N'); (try k_lt l1); (try k_sweep)
    k_steps
    unfold Mark
    rename News _ _ _ _ => N14
    rename Fr _ _ _ _ => F14
    have hpk : kms_pick S none (some 2) = S.take 2 := pick_to (p := 2) (Nat.le_trans (by decide) s3)
    rw [hpk] at N14
    refine (rows_cmp (k1 := key2) (k2 := key1) N14 (.tail _ (.head _)) (.head _) (fun v hv => (hdom2 v (small_mem hm2 nd (Nat.le_trans (by decide) y3) v hv)).mono fun p hp => .tail _ (.tail _ (.tail _ hp))) (fun v hv => (hdom1 v (List.mem_of_mem_take hv)).mono fun p hp => .tail _ (.tail _ (.tail _ hp))) (by rw [small_keys hm1 hm2 nd (Nat.le_trans (by decide) y3), hSd]) (by ktr_units)).1 _ ?_
    k_steps
    unfold Mark
    rename News _ _ _ _ => N14
    rename Fr _ _ _ _ => F14
    have N15 := News.tl (News.tl N14)
    clear N14
    k_dflt (refine CallOK.use (c_nlargest _ _ _ _ _ _ _ _ _ _ _ aD key2 hdom2 (nodup_keys hm2 nd) y3 yt) B F14 X N15 T hH hC rfl (by ktr_room) (by ktr_units) ?_ (fun _ _ _ _ h => h.elim))
    intro r16 nw16 h16 tk16 hZ90 F16 N16
    refine hide_goal ?_
    intro G₀ hG₀
    obtain ⟨R3, c3', rfl, hRR3, rfl⟩ := hZ90
    refine hG₀ ?_
    clear hG₀ G₀
    clear F14 N15
    k_steps
    unfold Mark
    k_dflt (refine krv_lit (by k_asm) (by k_asm) (by exact news_isL (by k_asm) (by k_memK)) (by exact IsPart.int _ _) (by exact rfl) ?_ (by with_unfolding_all rfl) (by kmk_pure) (by rw [List.size_toArray, sizeLine_eq]; exact Nat.le_trans sk (by decide))); intro D' h' F' N' l1; (try simp only [List.toList_toArray] at N'); (try k_lt l1); (try k_sweep)
    k_steps
    unfold Mark
    k_dflt (refine kms_slice_lit (by k_asm) (by k_asm) (by exact news_isL (by k_asm) (by k_memK)) (by kmk_part) (by kmk_part) (by exact rfl) ?_ (by with_unfolding_all rfl) (by kmk_pure) (by rw [List.size_toArray, sizeLine_eq]; (try rw [List.length_reverse]); exact Nat.le_trans sk (by decide))); intro D' h' F' N' l1; (try simp only [List.toList_toArray] at N'); (try k_lt l1); (try k_sweep)
    k_steps
    unfold Mark
    rename News _ _ _ _ => N17
    rename Fr _ _ _ _ => F17
    have hpk2 : kms_pick S.reverse none (some 2) = S.reverse.take 2 := pick_to (p := 2) (by rw [List.length_reverse]; exact Nat.le_trans (by decide) s3)
    rw [hpk2] at N17
    refine (rows_cmp (k1 := key2) (k2 := key1) N17 (.tail _ (.tail _ (.head _))) (.head _) (fun v hv => (hdom2 v (large_mem hm2 nd (Nat.le_trans (by decide) y3) v hv)).mono fun p hp => .tail _ (.tail _ (.tail _ (.tail _ hp)))) (fun v hv => (hdom1 v (List.mem_reverse.mp (List.mem_of_mem_take hv))).mono fun p hp => .tail _ (.tail _ (.tail _ (.tail _ hp)))) (by rw [large_keys hm1 hm2 nd (Nat.le_trans (by decide) y3), hSd]) (by ktr_units)).1 _ ?_
    have N18 := News.tl (News.tl (News.tl N17))
    clear N17
    k_steps
    unfold Mark
    rename News _ _ _ _ => N19
    rename Fr _ _ _ _ => F19
    k_dflt (refine CallOK.use (c_heapify _ _ _ _ _ _ _ _ _ _ (ltR key2) (domR key2 _) aD cmp_rows hdom2 (Nat.lt_of_le_of_lt yk (by decide))) B F19 X N19 T hH hC rfl (by ktr_room) (by ktr_units) ?_ (fun _ _ _ _ h => h.elim))
    intro r20 nw20 h20 tk20 hZ100 F20 N20
    refine hide_goal ?_
    intro G₀ hG₀
    obtain ⟨rfl, rfl⟩ := hZ100
    refine hG₀ ?_
    clear hG₀ G₀
    clear F19 N19
    obtain ⟨dk1, dk2⟩ := drain_keys hm1 hm2
    have hhp := heapify_heap (ltR_ok key2 (fun v => v ∈ ys)) (vs := ys) (fun v hv => hv)
    have hpl := hhp.2.length_eq
    generalize hHs : heapifyL (ltR key2) ys = hs at *
    k_steps
    unfold Mark
    rename News _ _ _ _ => N21
    rename Fr _ _ _ _ => F21
    refine comp_listN (vs := rs) (n := cR) (fun i zs nw => i ≤ ys.length ∧ zs = (drain (ltR key2) i hs).1 ∧ ∃ c, nw = (D5, PySem.W.listOf (drain (ltR key2) i hs).2.toArray c) :: ((R, PySem.W.listOf S.toArray cS) :: (L + 1 + 1, oH2) :: (ROWS, PySem.W.listOf rs.toArray cR) :: (l ++ (rl2 ++ X2')))) (by rfl) F21 N21 ?hax3 ⟨Nat.zero_le _, rfl, _, rfl⟩ (Nat.le_trans (Nat.le_of_eq hrn) (Nat.le_trans hk11 (by decide))) ?len3 (by rfl) (by rfl) ?turn3 ?fin3
    case hax3 =>
      intro i zs nw hZ110
      refine hide_goal ?_
      intro G₀ hG₀
      obtain ⟨_, _, c, rfl⟩ := hZ110
      refine hG₀ ?_
      clear hG₀ G₀
      exact .tail _ (.tail _ (.tail _ (.head _)))
    case len3 =>
      intro i zs nw hZ120
      refine hide_goal ?_
      intro G₀ hG₀
      obtain ⟨hi, rfl, _⟩ := hZ120
      refine hG₀ ?_
      clear hG₀ G₀
      rw [(drain_len i hs (Nat.le_trans hi (Nat.le_of_eq hpl.symm))).2.2.2]
      exact Nat.le_refl _
    case turn3 =>
      intro i I io zs nw h tk D C oC m₂ s₂ E' hi hZ130 hoC hm₂ F2 N2 off hCD hCI hDI hZ131
      refine hide_goal ?_
      intro G₀ hG₀
      obtain ⟨hiy, rfl, c, rfl⟩ := hZ130
      obtain ⟨h2, rfl⟩ := hZ131
      obtain ⟨q1, q2, q3, q4⟩ := drain_len (lt := ltR key2) i hs (Nat.le_trans hiy (Nat.le_of_eq hpl.symm))
      refine hG₀ ?_
      clear hG₀ G₀
      have q5 := drain_snoc (lt := ltR key2) i hs
      generalize hz : (drain (ltR key2) i hs).1 = zs at *
      generalize hv : (drain (ltR key2) i hs).2 = vr at *
      k_steps
      unfold Mark
      rename News _ _ _ _ => N22
      rename Fr _ _ _ _ => F22
      have oD := off _ (.head _)
      have N23 : News h₀ L _ ((D5, PySem.W.listOf vr.toArray c) :: ((C, oC) :: (D, clst zs) :: (I, io) :: ((R, PySem.W.listOf S.toArray cS) :: (L + 1 + 1, oH2) :: (ROWS, PySem.W.listOf rs.toArray cR) :: (l ++ (rl2 ++ X2'))))) := News.sub N22 (fun p hp => by
        rcases List.mem_cons.mp hp with rfl | hp
        · exact .tail _ (.tail _ (.tail _ (.head _)))
        rcases List.mem_cons.mp hp with rfl | hp
        · exact .head _
        rcases List.mem_cons.mp hp with rfl | hp
        · exact .tail _ (.head _)
        rcases List.mem_cons.mp hp with rfl | hp
        · exact .tail _ (.tail _ (.head _))
        · exact .tail _ (.tail _ (.tail _ (.tail _ hp))))
      have hne5 : ∀ p ∈ ((C, oC) :: (D, clst zs) :: (I, io) :: ((R, PySem.W.listOf S.toArray cS) :: (L + 1 + 1, oH2) :: (ROWS, PySem.W.listOf rs.toArray cR) :: (l ++ (rl2 ++ X2'))) : Led), p.1 ≠ D5 := by
        intro p hp
        rcases List.mem_cons.mp hp with rfl | hp
        · exact Ne.symm oD.1
        rcases List.mem_cons.mp hp with rfl | hp
        · exact Ne.symm oD.2.1
        rcases List.mem_cons.mp hp with rfl | hp
        · exact Ne.symm oD.2.2
        · exact aD p hp
      k_dflt (refine CallOK.use (c_heappop _ _ _ _ _ _ _ _ _ _ (ltR key2) (domR key2 _) hne5 cmp_rows (fun v hv => (hdom2 v (hhp.2.mem_iff.mp (q2 v hv))).mono fun p hp => .tail _ (.tail _ (.tail _ hp))) (Nat.lt_of_lt_of_eq (Nat.sub_pos_of_lt (Nat.lt_of_lt_of_eq hi ((hrn.trans hyl.symm).trans hpl.symm))) q1.symm) (Nat.le_trans (Nat.le_of_eq q1) (Nat.le_trans (Nat.sub_le _ _) (Nat.le_trans (Nat.le_of_eq hpl) yt)))) B F22 X N23 T hH hC rfl (by ktr_room) (by ktr_units) ?_ (fun _ _ _ _ h => h.elim))
      intro r24 nw24 h24 tk24 hZ140 F24 N24
      refine hide_goal ?_
      intro G₀ hG₀
      obtain ⟨rfl, rfl⟩ := hZ140
      refine hG₀ ?_
      clear hG₀ G₀
      clear F22 N22 N23
      k_steps
      refine te_end hoC F24 N24 (.tail _ (.head _)) (.tail _ (.tail _ (.head _))) (.tail _ (.tail _ (.tail _ (.head _)))) (nw' := (D5, PySem.W.listOf (popL (ltR key2) vr).2.toArray (c + 1)) :: ((R, PySem.W.listOf S.toArray cS) :: (L + 1 + 1, oH2) :: (ROWS, PySem.W.listOf rs.toArray cR) :: (l ++ (rl2 ++ X2')))) (fun p hp => ?_) (fun p hp => ?_) ⟨Nat.succ_le_of_lt (Nat.lt_of_lt_of_eq hi (hrn.trans hyl.symm)), ?_, c + 1, ?_⟩
      · rcases List.mem_cons.mp hp with rfl | hp
        · exact .head _
        · exact .tail _ (.tail _ (.tail _ (.tail _ hp)))
      · rcases List.mem_cons.mp hp with rfl | hp
        · exact oD
        · exact off p (.tail _ hp)
      · rw [q5]
      · rw [q5]
    case fin3 =>
      intro zs nw s₂ hZ150 hZ151
      refine hide_goal ?_
      intro G₀ hG₀
      obtain ⟨h2, rfl⟩ := hZ150
      obtain ⟨_, rfl, c, rfl⟩ := hZ151
      refine hG₀ ?_
      clear hG₀ G₀
      clear F21 N21
      unfold LCg.FinE
      intro D6 h25 tk25 F25 N25 o25
      rw [hrn.trans hyl.symm] at N25
      obtain ⟨q1, q2, q3, q4⟩ := drain_len (lt := ltR key2) ys.length hs (Nat.le_of_eq hpl.symm)
      rw [dk1] at N25
      k_steps
      unfold Mark
      rename News _ _ _ _ => N26
      rename Fr _ _ _ _ => F26
      refine (rows_cmp (k1 := key2) (k2 := key1) N26 (.head _) (.tail _ (.tail _ (.head _))) (fun v hv => (hdom2 v (hhp.2.mem_iff.mp (q3 v hv))).mono fun p hp => .tail _ (.tail _ hp)) (fun v hv => (hdom1 v hv).mono fun p hp => .tail _ (.tail _ hp)) (by rw [dk2, hSd]) (by ktr_units)).2 _ ?_
      k_steps
      unfold Mark
      rename News _ _ _ _ => N27
      rename Fr _ _ _ _ => F27
      refine (rows_cmp (xs := []) (ys := []) (k1 := key1) (k2 := key1) N27 (.tail _ (.tail _ (.head _))) (.head _) (fun v hv => nomatch hv) (fun v hv => nomatch hv) rfl (by ktr_units)).2 _ ?_
      have gr := grown_tab N27 hT (fun q hq => .tail _ (.tail _ (.tail _ (.tail _ (.tail _ (.tail _ (List.mem_append_left _ hq)))))))
      k_steps
      exact fin _ _ ⟨_, _, rfl⟩ (by k_asm) gr
end
-- Law1
section
theorem lines_Law1 : True := by
  k_with_none
  k_with "subscriptTail Name Name ref int" => (k_here; k_dflt (refine gi_stepM (by k_asm) (by first | k_memK | (repeat (first | assumption | refine List.Mem.tail _ ?_))) (by omega) (by first | omega | assumption | (simp; omega)) (by first | omega | (simp; omega)) ?_))
  k_with "subscriptTail Name Constant ref int" => (k_here; k_dflt (refine gi_stepM (by k_asm) (by first | k_memK | (repeat (first | assumption | refine List.Mem.tail _ ?_))) (by omega) (by first | omega | assumption | (simp; omega)) (by first | omega | (simp; omega)) ?_))
  k_with "exec Try" => (k_here; (refine wpAny_Try_except ?_))
  trivial
local macro_rules | `(tactic| walk_at "pyIter ref") => `(tactic| (refine Mark.mk ?_))
local macro_rules | `(tactic| walk_at "exec For Name Name cons nil") => `(tactic| (refine Mark.mk ?_))
local macro_rules | `(tactic| walk_at "execs cons") => `(tactic| ((with_reducible show wpAny _ _ (execs (Stmt.For .. :: _) _) _ _ _); refine Mark.mk ?_))
set_option maxHeartbeats 4000000 in
theorem law1 (w : World) (d : DefRec) (kwd) (hd : defOf qv (Str.ofString "law") = some (d, kwd)) (p loose mean mg mb) (h₀ : Heap) (L fa : Addr) (cd : Value) (m : Str → Option Value) (s : Shared) (Q : Flow → Shared → Prop) (E : Value → Shared → Prop)
    (B : Below callerA h₀ [] h₀) (X : (KH.heap_1 w.params).In h₀) (T : Top p loose mean mg mb h₀) (hH : HexIn w h₀) (hC : CodeHd h₀ 44 40) (l0 : @LT.lt Nat instLTNat 40 L) (hE : PassesOwn (model PySem.Challenge.rw_ik0044_01.row.prog w) (callerA.deeper (lawEnv d L fa cd)) (lawEnv d L fa cd) E) (sa : Addr) (ns : List Int) (vs : List Value) (oH oS : Obj)
    (hlen : ns.length ≤ 63) (hI : IntsAre vs ns) (hL : h₀.IsList sa vs.toArray)
    (F : Fr h₀ L s.heap (ov [("script", some (.ref sa))] m)) (N : News h₀ L s.heap [(L + 1 + 1, oH), (L + 1, oS), (40, tabObj #[])]) (dS : oS.data = .cell none) (dH : oH.data = .cell none)
    (fin : ∀ s' m', (∃ h' tk', s' = { s with heap := h', toks := tk' }) → Fr h₀ L s'.heap m' → GrownAt 40 s'.heap → Q (.ret (.bool true)) s') :
    wpAny (model PySem.Challenge.rw_ik0044_01.row.prog w) (callerA.deeper (lawEnv d L fa cd)) (execs d.body (lawEnv d L fa cd)) Q E s := by
  have L2 := @law2 w d kwd hd p loose mean mg mb h₀ L fa cd m
  have L3 := @law3 w d kwd hd p loose mean mg mb h₀ L fa cd m
  have L4 := @law4 w d kwd hd p loose mean mg mb h₀ L fa cd m
  revert X
  k_fill
  intro X
  obtain ⟨e1, e2⟩ := Prod.mk.inj (Option.some.inj ((rfl : defOf qv (Str.ofString "law") = some (_, _)).symm.trans hd))
  subst e1
  clear hd
  dsimp only [lawEnv] at hE ⊢
  try dsimp only [lawEnv] at done
  show wpAny _ _ (execs (_ :: _) _) _ _ _
  k_steps
  unfold Mark
  rename News _ _ _ _ => N1
  rename Fr _ _ _ _ => F1
  rename_i PL _ lPL D2 ws1 _ hI1 _ hLn lD2 l7 _ l72 NUM ws _ hIw lNUM TUP _ lT _ _ oS1 dS1 _ _
  have eF : (fun y : Str => if y = (Str.ofString "numbers") then some (Value.ref NUM) else if y = (Str.ofString "places") then some (Value.ref PL) else ov [("script", some (.ref sa))] m y) = ov [("numbers", some (.ref NUM)), ("places", some (.ref PL)), ("script", some (.ref sa))] m := by
    rw [← ov_cons (x := "numbers"), ← ov_cons (x := "places")]
  rw [eF] at F1
  have nl := nums_len ns
  have nt : (ns.take 4).length ≤ 4 := List.length_take_le _ _
  refine L2 _ Q E B X T hH hC l0 hE NUM PL ws (numsT ns) oH oS1 _ _ hIw (by omega) (by omega) lPL.1 lNUM.2.2.1 F1 (News.sub N1 (fun p hp => ?_)) dS1 dH ?_
  · simp only [List.mem_cons, List.not_mem_nil, or_false] at hp ⊢
    rcases hp with h | h | h | h | h <;> simp only [h, true_or, or_true]
  rintro oS' ps cP u' x s' hV dS' F' N' ⟨h', tk', rfl⟩
  refine L3 _ Q E B X T hH hC l0 hE NUM PL ws ps cP (numsT ns) oH oS' u' x _ hIw (by omega) (by omega) lPL.1 lNUM.2.2.1 hV F' N' dS' dH ?_
  rintro ROWS rs cR rl l z1 z2 z3 z4 s'' hR hT hrl l3 F'' N'' ⟨h'', tk'', rfl⟩
  refine L4 _ Q E B X T hH hC l0 hE ROWS NUM PL ws ps rs cP cR rl l (numsT ns) oH oS' u' x _ z1 z2 z3 z4 (by omega) (keys_three ns) hR hT hrl lPL.1 lNUM.2.2.1 l3 F'' N'' dS' dH ?_
  rintro s3 m3 ⟨h3, tk3, rfl⟩ F3 g3
  exact fin _ m3 ⟨_, _, rfl⟩ F3 g3
end
-- Froz
section
section
variable {prog : Program} {w : World} {K : Type} [DecidableEq K] {knd : KeyKind prog w K} {A : Around} {E : Value → Shared → Prop} {s : Shared} {a : Addr} {k : K} {x : Value} {S : K → Bool} {n : Nat}
/-- one store into a frozenset's table -/
theorem froz_store {h : Heap} {es : Array (Int × Value)} {ep : Nat} {t : SetTable} (ho : h.get? a = some { cls := .type "frozenset", data := .set es ep t }) {es' : Array (Int × Value)} {t' : SetTable} {S' : K → Bool}
    (hel : ElemsOf knd es'.toList) (hmem : ∀ k, S' k = true ↔ ∃ e ∈ es'.toList, knd.is k e.2 = true) (hf : t'.fits es'.size = true) :
    (h.update a (Obj.putSet es' t')).get? a = some { cls := .type "frozenset", data := .set es' (ep + 1) t' } ∧ FrozAt knd (h.update a (Obj.putSet es' t')) a S' es'.size := by
  have hg : (h.update a (Obj.putSet es' t')).get? a = some { cls := .type "frozenset", data := .set es' (ep + 1) t' } :=
    Heap.get?_update_self (Obj.putSet es' t') ho rfl
  exact ⟨hg, es', ep + 1, t', hg, hel, hmem, rfl, hf⟩
/-- a new key goes into a frozenset's table -/
theorem froz_add {Q : Bool → Shared → Prop} (hkey : knd.is k x = true) (hsc : x.scannable = true) (hS : FrozAt knd s.heap a S n) (hno : S k = false) (hroom : n + 1 < scanBound)
    (h : ∀ h', Heap.SameBut a s.heap h' → FrozAt knd h' a (fun k' => S k' || decide (k' = k)) (n + 1) → Q true { s with heap := h' }) :
    wpAny (model prog w) A (setAddHashed a x (knd.hash k)) Q E s := by
  obtain ⟨es, ep, t, ho, hel, hmem, hn, hf⟩ := hS
  have hb : es.size < scanBound := by omega
  unfold setAddHashed setAddHashedIn
  refine wpAny_holding (wpAny_bind (wpAny_setState_of ho rfl hf ?_))
  dsimp only
  rw [byScan_of hsc hb hel]
  simp only [↓reduceIte]
  unfold setAddByScan
  refine wpAny_bind (wpAny_bind (wpAny_rule (wpAny_bind (wpAny_setScan_of hkey ho rfl hf hel ?_))))
  have hr : List.findIdx? (fun e => knd.is k e.2) es.toList = none := by
    rw [List.findIdx?_eq_none_iff]
    intro e he
    cases hc : knd.is k e.2 with
    | false => rfl
    | true => exact absurd ((hmem k).mpr ⟨e, he, hc⟩) (by rw [hno]; exact Bool.false_ne_true)
  rw [hr]
  dsimp only
  have gw : ∀ (b : Bool) {s₁ : Shared} {Q' : Unit → Shared → Prop}, Q' () s₁ → wpAny (model prog w) A (match b with | true => rule "set.scan.the-table-gave-way" | false => pure ()) Q' E s₁ := fun b s₁ Q' hq => by
    cases b
    · exact wpAny_pure hq
    · exact wpAny_rule hq
  have hperm := layNew_perm t es (knd.hash k) x
  have hfits := layNew_fits t es (knd.hash k) x
  generalize layNew t es (knd.hash k) x = R at hperm hfits ⊢
  obtain ⟨es1, t1, dm, gv⟩ := R
  dsimp only at hperm hfits ⊢
  rw [Array.toList_push] at hperm
  have hel1 : ElemsOf knd es1.toList := (hel.push hkey hsc).perm hperm
  have hmem1 := mem_push_iff hkey hmem hperm
  have hz : es1.size = n + 1 := by rw [← Array.length_toList, hperm.length_eq, List.length_append, Array.length_toList, hn]; rfl
  have hb1 : es1.size < scanBound := by omega
  refine wpAny_bind (gw _ ?_)
  have tail : ∀ t2 : SetTable, t2.fits es1.size = true → wpAny (model prog w) A (do
        storeSet a es1 t2
        if (!dm && t2.tooFull) = true then do
            (match (relayAll t2 es1 (SetTable.grown es1.size)).2.2 with | true => rule "set.scan.the-table-gave-way" | false => pure ())
            storeSet a (relayAll t2 es1 (SetTable.grown es1.size)).1 (relayAll t2 es1 (SetTable.grown es1.size)).2.1
            pure (some true)
          else pure (some true)) (fun r s' => r = some true ∧ Q true s') E s := by
    intro t2 hf2
    refine wpAny_bind (wpAny_storeSet_of ho rfl ?_ (fits_of_scanBound hb1))
    obtain ⟨ho1, hS1⟩ := froz_store (knd := knd) ho hel1 hmem1 hf2
    have hsb1 := Heap.SameBut.update s.heap a (Obj.putSet es1 t2)
    split
    · have hp := relayAll_perm t2 es1 (SetTable.grown es1.size)
      have hfr := relayAll_fits t2 es1 (SetTable.grown es1.size)
      generalize relayAll t2 es1 (SetTable.grown es1.size) = Rl at hp hfr ⊢
      obtain ⟨es2, t3, g2⟩ := Rl
      dsimp only at hp hfr ⊢
      have hz2 : es2.size = es1.size := by rw [← Array.length_toList, hp.length_eq, Array.length_toList]
      refine wpAny_bind (gw _ ?_)
      refine wpAny_bind (wpAny_storeSet_of ho1 rfl ?_ (fits_of_scanBound (by omega)))
      obtain ⟨_, hS2⟩ := froz_store (knd := knd) ho1 (hel1.perm hp) (fun k' => (hmem1 k').trans ⟨fun ⟨e, he, q⟩ => ⟨e, hp.mem_iff.mpr he, q⟩, fun ⟨e, he, q⟩ => ⟨e, hp.mem_iff.mp he, q⟩⟩) hfr
      rw [hz2, hz] at hS2
      exact wpAny_pure ⟨rfl, h _ (hsb1.trans (Heap.SameBut.update _ a _)) hS2⟩
    · rw [hz] at hS1
      exact wpAny_pure ⟨rfl, h _ hsb1 hS1⟩
  split
  · refine wpAny_bind ?_
    rw [hashByValue_scannable 8 hsc]
    refine wpAny_pure ?_
    refine wpAny_mono (tail _ ?_) (fun r s' h' => ?_) fun _ _ e => e
    · split
      · exact hfits
      · exact SetTable.fits_plain_off hfits
    · obtain ⟨rfl, hq⟩ := h'
      exact wpAny_pure hq
  · refine wpAny_bind (wpAny_pure ?_)
    simp only [↓reduceIte]
    refine wpAny_mono (tail _ hfits) (fun r s' h' => ?_) fun _ _ e => e
    obtain ⟨rfl, hq⟩ := h'
    exact wpAny_pure hq
end
end
-- Turn
abbrev loopA : Args := ⟨[.ref 15, .ref 16], []⟩
abbrev loopC : Code := .builtin "set.update.loop" loopA
abbrev hexAll : Str := Str.ofString "0123456789abcdefABCDEF"
def sgn (i : Nat) : Str → Bool := fun k => decide (k ∈ hexSigns.take i)
theorem sign_at : ∀ i < 22, ∃ c, hexAll.cps[i]? = some c ∧ hexSigns[i]? = some (⟨#[c]⟩ : Str) := by
  intro i hi
  have : ∀ i < 22, (hexAll.cps[i]?).any fun c => hexSigns[i]? == some (⟨#[c]⟩ : Str) := by decide +kernel
  have h := this i hi
  cases e : hexAll.cps[i]? with
  | none => rw [e] at h; cases h
  | some c => rw [e] at h; exact ⟨c, rfl, eq_of_beq h⟩
theorem sign_new : ∀ i < 22, ∀ k, hexSigns[i]? = some k → sgn i k = false := by
  intro i hi k hk
  have : ∀ i < 22, (hexSigns[i]?).all fun k => !decide (k ∈ hexSigns.take i) := by decide +kernel
  have h := this i hi
  rw [hk] at h
  simpa [sgn] using h
theorem sign_next {i : Nat} {k : Str} (hk : hexSigns[i]? = some k) : (fun k' => sgn i k' || decide (k' = k)) = sgn (i + 1) := by
  funext k'
  unfold sgn
  rw [List.take_add_one, hk]
  simp [List.mem_append, Bool.decide_or]
structure Mid (w : World) (s₁ : Shared) (i : Nat) (s : Shared) : Prop where
  it : s.heap.IsStrIter 16 "str_ascii_iterator" hexAll 192 i
  froz : FrozAt (strKind PW w) s.heap 15 (sgn i) i
  keep : ∀ b, b ≠ 15 → b ≠ 16 → s.heap.get? b = s₁.heap.get? b
  size : s.heap.objs.size = s₁.heap.objs.size
  gens : s.gens = s₁.gens
  drawn : s.drawn = s₁.drawn
  os : s.os = s₁.os
  toks : s.toks = s₁.toks + 2 * i
theorem den_builtin {id : String} {args : Args} {b : Builtin} (hb : entryFor table id = some b) : denote table (.builtin id args) = b args := by
  show (match entryFor table id with | some b => b args | none => unsupported ((withoutEnding? id "#data").getD id)) = _
  rw [hb]
theorem turn {c : Code} (ec : c = loopC) {w : World} {A : Around} {s₁ s : Shared} {i : Nat} (hi : i < 22) (M : Mid w s₁ i s) :
    wpAny (model PW w) A (denote table c) (fun fin s' => fin = .again c ∧ Mid w s₁ (i + 1) s') (fun _ _ => False) s := by
  subst ec
  obtain ⟨c, hc, hk⟩ := sign_at i hi
  obtain ⟨hit, hF, keep, size, gens, drawn, os, toks⟩ := M
  rw [den_builtin F.entry_set_update_loop]
  show wpAny _ A (pyNext (.ref 16) >>= _) _ _ s
  refine wpAny_bind (wpAny_pyNext_ascii_item hit hc fun h₁ hit₁ sb₁ => ?_)
  show wpAny _ A (holding [_] (setAdd 15 _) >>= _) _ _ _
  refine wpAny_bind (wpAny_holding ?_)
  unfold setAdd
  refine wpAny_holding ?_
  refine wpAny_bind ((strKind PW w).pyHash (k := ⟨#[c]⟩) (strKind_is _ _ _ _) ?_)
  have hF₁ : FrozAt (strKind PW w) h₁ 15 (sgn i) i := by
    obtain ⟨es, ep, t, ho, r⟩ := hF
    exact ⟨es, ep, t, (sb₁.2 15 (by decide)).trans ho, r⟩
  refine froz_add (knd := strKind PW w) (strKind_is _ _ _ _) rfl hF₁ (sign_new i hi _ hk) (Nat.lt_of_le_of_lt (Nat.succ_le_of_lt hi) (by decide)) fun h₂ sb₂ hF₂ => ?_
  refine wpAny_pure ⟨rfl, ?_⟩
  rw [sign_next hk] at hF₂
  refine ⟨?_, hF₂, fun b h1 h2 => (sb₂.2 b h1).trans ((sb₁.2 b h2).trans (keep b h1 h2)), sb₂.1.trans (sb₁.1.trans size), gens, drawn, os, ?_⟩
  · obtain ⟨o, ho, r⟩ := hit₁
    exact ⟨o, (sb₂.2 16 (by decide)).trans ho, r⟩
  · show s.toks + 1 + 1 = _
    omega
-- Sch
section
/-- a stretch of the top's run: the scheduler goes from here to there, and what lies below n₀ is kept -/
structure Went (p : Program) (w : World) (n₀ : Nat) (ann : Option Value) (s : Shared) (t : Thread) (s' : Shared) (t' : Thread) : Prop where
  go : ∃ m, schedN (denote table) p w m (.single s t) = .running (.single s' t')
  life : s'.heap.life = s.heap.life
  os : s'.os = s.os
  keep : ∀ b o, b < n₀ → b ≠ mainNs → b ≠ cStatics → ann ≠ some (.ref b) → s.heap.get? b = some o → s'.heap.get? b = some o
section
variable {p : Program} {w : World} {n₀ : Nat} {ann : Option Value} {s s₁ s' : Shared} {t t₁ t' : Thread}
theorem Went.refl : Went p w n₀ ann s t s t := ⟨⟨0, rfl⟩, rfl, rfl, fun _ _ _ _ _ _ e => e⟩
theorem sched_add {den : Code → Sem Fin} {c₁ : Config} {r : SRun} {m : Nat} : ∀ {n : Nat} {c : Config}, schedN den p w n c = .running c₁ → schedN den p w m c₁ = r → schedN den p w (n + m) c = r
  | 0, c, h, k => by
    obtain rfl : c = c₁ := by simpa [schedN] using h
    rw [Nat.zero_add]; exact k
  | n + 1, c, h, k => by
    rw [Nat.add_right_comm]
    simp only [schedN] at h ⊢
    cases e : sstep den p w c with
    | halt o x => rw [e] at h; cases h
    | go c' => rw [e] at h; exact sched_add h k
theorem Went.trans (a : Went p w n₀ ann s t s₁ t₁) (b : Went p w n₀ ann s₁ t₁ s' t') : Went p w n₀ ann s t s' t' := by
  obtain ⟨⟨n, hn⟩, l, o, k⟩ := a
  obtain ⟨⟨m, hm⟩, l', o', k'⟩ := b
  exact ⟨⟨n + m, sched_add hn hm⟩, l'.trans l, o'.trans o, fun x y h1 h2 h3 h4 h5 => k' x y h1 h2 h3 h4 (k x y h1 h2 h3 h4 h5)⟩
theorem one_go (hc : t.calm = true) (hr : s.asleep) (hs : step (denote table) p w s t = .go s₁ t₁) : ∃ m, schedN (denote table) p w m (.single s t) = .running (.single s₁ t₁) := by
  refine ⟨1, ?_⟩
  rcases sstep_single (denote table) p w s t hc hr with e | e
  · simp only [schedN, e, hs, Step.lift]
  · rw [hs] at e; cases e
/-- one step within the bounds -/
theorem one_went (hk : stepOk n₀ ann t = true) (hr : s.asleep) (hs : step (denote table) p w s t = .go s₁ t₁) : Went p w n₀ ann s t s₁ t₁ := by
  obtain ⟨hc, hk⟩ := Bool.and_eq_true_iff.mp hk
  refine ⟨one_go hc hr hs, step_life (denote table) p w s s₁ t t₁ hs, step_os_same hs (by revert hk; cases t.cur <;> simp), fun b o h1 h2 h3 h4 h5 => ?_⟩
  have hh := step_heap (denote table) p w s s₁ t t₁ hs
  cases hcur : t.cur with
  | update a q f k =>
    rw [hcur] at hh hk
    rw [hh]
    have hne : b ≠ a := fun e => by
      subst e
      simp only [Bool.or_eq_true, Nat.ble_eq, beq_iff_eq] at hk
      exact hk.elim (fun hk => hk.elim (fun hk => hk.elim (fun q => absurd h1 (Nat.not_lt.mpr q)) h2) h3) h4
    exact (Heap.get?_update_ne _ _ _ _ hne).trans h5
  | alloc x k => rw [hcur] at hh; rw [hh]; exact Heap.get?_push_of_some x h5
  | _ => rw [hcur] at hh; rw [hh]; exact h5
theorem asleep_went (a : Went p w n₀ ann s t s' t') (hr : s.asleep) : s'.asleep := Shared.asleep_of_life a.life hr
theorem go_went : ∀ {n : Nat} {s : Shared} {t : Thread}, s.asleep → topGo table p w n₀ ann n s t = some (s', t') → Went p w n₀ ann s t s' t'
  | 0, s, t, _, h => by
    obtain ⟨rfl, rfl⟩ : s = s' ∧ t = t' := by simpa [topGo] using h
    exact .refl
  | n + 1, s, t, hr, h => by
    unfold topGo at h
    split at h
    · cases h
    split at h
    · cases h
    next hk =>
    split at h
    next s₂ t₂ hs =>
      have a := one_went hk hr hs
      exact a.trans (go_went (asleep_went a hr) h)
    · cases h
/-- a run of the proof's model is a run of the scheduler, but for what the frames keep -/
theorem sched_of_runNI : ∀ {n : Nat} {s : Shared} {t : Thread} {σ : Shared} {τ : Thread}, runNI (denote table) p w n s t = .running s' t' → σ.asleep → s.forget = σ.forget → t.forget = τ.forget →
    ∃ m σ' τ', schedN (denote table) p w m (.single σ τ) = .running (.single σ' τ') ∧ s'.forget = σ'.forget ∧ t'.forget = τ'.forget ∧ σ'.heap.life = σ.heap.life
  | 0, s, t, σ, τ, h, hr, e1, e2 => by
    have h : Run.running s t = .running s' t' := h
    injection h with h1 h2
    subst h1 h2
    exact ⟨0, σ, τ, rfl, e1, e2, rfl⟩
  | n + 1, s, t, σ, τ, h, hr, e1, e2 => by
    simp only [runNI] at h
    cases hl : t.loud with
    | true => rw [stepI_loud _ _ _ hl] at h; cases h
    | false =>
      rw [stepI_quiet _ _ _ hl] at h
      cases hrf : t.refused with
      | true =>
        obtain ⟨what, e⟩ := stepK_refused (denote table) p w (s := s) hrf
        rw [e] at h; cases h
      | false =>
        have hcalm : τ.calm = true := by rw [← Thread.calm_forget, ← e2, Thread.calm_forget, Thread.calm_eq, hl, hrf]; rfl
        cases hs : stepK (denote table) p w s t with
        | halt o x => rw [hs] at h; cases h
        | go s₂ t₂ =>
          rw [hs] at h
          have hf := (stepK_forget (denote table) p w s t).trans (step_same (denote table) p w e1 e2)
          rw [hs] at hf
          cases hs' : step (denote table) p w σ τ with
          | halt o x => rw [hs'] at hf; cases hf
          | go σ₂ τ₂ =>
            rw [hs'] at hf
            injection hf with f1 f2
            have hl2 := step_life (denote table) p w σ σ₂ τ τ₂ hs'
            obtain ⟨m, σ', τ', a, b, c, d⟩ := sched_of_runNI h (Shared.asleep_of_life hl2 hr) f1 f2
            obtain ⟨m0, a0⟩ := one_go hcalm hr hs'
            exact ⟨m0 + m, σ', τ', sched_add a0 a, b, c, d.trans hl2⟩
end
/-- the frames of st, with other values kept -/
def keepBy (g : Nat → List Value) : Nat → List Frame → List Frame
  | _, [] => []
  | n, .ret k h gd l c p _ :: r => .ret k h gd l c p (g n) :: keepBy g (n + 1) r
  | n, .gen a k l c p :: r => .gen a k l c p :: keepBy g (n + 1) r
theorem keepBy_congr {g g' : Nat → List Value} : ∀ {st : List Frame} {n : Nat}, (∀ m, n ≤ m → g m = g' m) → keepBy g n st = keepBy g' n st
  | [], _, _ => rfl
  | .ret .. :: r, n, h => by simp only [keepBy]; rw [h n (Nat.le_refl _), keepBy_congr fun m hm => h m (Nat.le_of_succ_le hm)]
  | .gen .. :: r, n, h => by simp only [keepBy]; rw [keepBy_congr fun m hm => h m (Nat.le_of_succ_le hm)]
theorem keepBy_ex : ∀ {st l : List Frame} (n : Nat), forgetAll st = forgetAll l → ∃ g, l = keepBy g n st
  | [], [], _, _ => ⟨fun _ => [], rfl⟩
  | [], f :: l, _, h => by cases h
  | f :: st, [], _, h => by cases h
  | f :: st, f' :: l, n, h => by
    rw [forgetAll_cons, forgetAll_cons] at h
    injection h with h1 h2
    obtain ⟨g, hg⟩ := keepBy_ex (n + 1) h2
    cases f with
    | gen a k lv c q =>
      cases f' with
      | ret => cases h1
      | gen a' k' lv' c' q' =>
        simp only [Frame.forget_gen, Frame.gen.injEq] at h1
        obtain ⟨rfl, rfl, rfl, rfl, rfl⟩ := h1
        exact ⟨g, by rw [hg]; rfl⟩
    | ret k hd gd lv c q kp =>
      cases f' with
      | gen => cases h1
      | ret k' hd' gd' lv' c' q' kp' =>
        simp only [Frame.forget_ret, Frame.ret.injEq, and_true] at h1
        obtain ⟨rfl, rfl, rfl, rfl, rfl, rfl⟩ := h1
        refine ⟨fun m => if m = n then kp' else g m, ?_⟩
        simp only [keepBy, if_true]
        rw [hg]
        congr 1
        exact keepBy_congr fun m hm => by rw [if_neg (by omega)]
theorem ctx_in (Γ : Ctx) : Γ.In ⟨Γ.handled, frameCount Γ.below + Γ.code.weight, none, none, Γ.units⟩ :=
  by refine ⟨rfl, Nat.le_refl _, ?_, ?_, Nat.le_refl _⟩ <;> (intro l hl; cases hl)
theorem comes_turn {c : Code} (hq : c.quiet = true) {w : World} {s : Shared} {p : Pos} {st : List Frame} {A : Around} {P : Shared → Prop} (hA : (Ctx.of c st).In A)
    (h : wpAny (model PW w) A (denote table c) (fun fin s' => fin = .again c ∧ P s') (fun _ _ => False) s) :
    ∃ s' p', Comes (model PW w) s ⟨denote table c, c, p, st⟩ s' ⟨denote table c, c, p', st⟩ ∧ P s' := by
  obtain ⟨s₂, p₂, lf, hc, hl⟩ := wp_comes (Ctx.fits_of c st) _ _ _ p s (h (Ctx.of c st) p hA)
  rcases hl with ⟨a, rfl, rfl, M₂⟩ | ⟨e, _, x⟩
  · exact ⟨s₂, p₂, hc.trans (.step (step_again _ _ _ _ _ c hq) (.refl _ _)), M₂⟩
  · exact x.elim
theorem loop_quiet : loopC.quiet = true := plainId_quiet F.plain_set_update_loop _
theorem loop_gen {c : Code} (hq : c.quiet = true) {w : World} {st : List Frame} {N : Nat} {I : Nat → Shared → Prop}
    (ht : ∀ A i s, i < N → I i s → wpAny (model PW w) A (denote table c) (fun fin s' => fin = .again c ∧ I (i + 1) s') (fun _ _ => False) s) : ∀ (k i : Nat) (s : Shared) (p : Pos), i + k = N → I i s →
    ∃ s' p', Comes (model PW w) s ⟨denote table c, c, p, st⟩ s' ⟨denote table c, c, p', st⟩ ∧ I N s'
  | 0, i, s, p, hk, M => by
    obtain rfl : i = N := hk
    exact ⟨s, p, .refl _ _, M⟩
  | k + 1, i, s, p, hk, M => by
    obtain ⟨s₂, p₂, hc, M₂⟩ := comes_turn (p := p) hq (ctx_in (Ctx.of c st)) (ht _ i s (by omega) M)
    obtain ⟨s', p', hc', M'⟩ := loop_gen hq ht k (i + 1) s₂ p₂ (by omega) M₂
    exact ⟨s', p', hc.trans hc', M'⟩
theorem loop_comes {c : Code} (ec : c = loopC) {w : World} {s₁ : Shared} {st : List Frame} {p : Pos} (M : Mid w s₁ 0 s₁) :
    ∃ s' p', Comes (model PW w) s₁ ⟨denote table c, c, p, st⟩ s' ⟨denote table c, c, p', st⟩ ∧ Mid w s₁ 22 s' :=
  loop_gen (N := 22) (I := Mid w s₁) (ec ▸ loop_quiet) (fun _ _ _ hi M => turn ec hi M) 22 0 s₁ p rfl M
theorem loop_went {c : Code} (ec : c = loopC) {w : World} {s₁ : Shared} {st : List Frame} {p : Pos} (hr : s₁.asleep) (M : Mid w s₁ 0 s₁) (hg : s₁.gens = #[]) {n₀ : Nat} {ann : Option Value} (h15 : n₀ ≤ 15) :
    ∃ s' p' g, Went PW w n₀ ann s₁ ⟨denote table c, c, p, st⟩ s' ⟨denote table c, c, p', keepBy g 0 st⟩ ∧ Mid w s₁ 22 s' := by
  obtain ⟨s', p', ⟨n, hn⟩, M'⟩ := loop_comes ec (st := st) (p := p) M
  obtain ⟨m, σ, ⟨cur, code, pos, stack⟩, a, b, c, d⟩ := sched_of_runNI (p := PW) (w := w) hn hr rfl rfl
  obtain rfl := Shared.eq_of_forget_eq b.symm (M'.gens.trans hg)
  simp only [Thread.forget, Thread.mk.injEq] at c
  obtain ⟨rfl, rfl, rfl, c4⟩ := c
  obtain ⟨g, rfl⟩ := keepBy_ex 0 c4
  refine ⟨_, p', g, ⟨⟨m, a⟩, d, M'.os, fun b o h1 _ _ _ h5 => ?_⟩, M'⟩
  have h1 : b < 15 := Nat.lt_of_lt_of_le h1 h15
  exact (M'.keep b (Nat.ne_of_lt h1) (Nat.ne_of_lt (Nat.lt_succ_of_lt h1))).trans h5
end
-- HdB
section
abbrev annM : Option Value := some (.ref 6)
noncomputable def st0 (w : World) (os : OsState) : Shared := ⟨boot_heap w.params, Array.mk [], boot_drawn, boot_toks, os⟩
noncomputable def go1 (w : World) (os : OsState) : Option (Shared × Thread) := topGo treeTable pw w 11 annM 74 (st0 w os) (topStub pw)
abbrev rowG : String := "special-get-raises"
noncomputable abbrev look (r : Shared × Thread) := (r.2.cur, r.2.code, r.1.gens, r.1.toks, r.1.os, r.1.heap.objs.size, r.1.drawn, r.1.heap.get? 15, r.1.heap.get? 16, (List.range 17).all fun b => (r.1.heap.get? b).isSome)
noncomputable abbrev seen (w : World) (os : OsState) := (denote treeTable loopC, loopC, (Array.mk [] : Array GenState), (196 : Nat), os, (17 : Nat), boot_drawn, (some ⟨.type "frozenset", none, .set (Array.mk []) 0 (SetTable.fresh 0 0 (!w.params.followText "set-order")), Array.mk []⟩ : Option Obj), (some ⟨.type "str_ascii_iterator", none, .fields (Array.mk [.str (Str.ofString "0123456789abcdefABCDEF") 192, .int 0 0]), Array.mk []⟩ : Option Obj), true)
set_option maxHeartbeats 0 in
theorem go1_look (w : World) (os : OsState) : (go1 w os).map look = some (seen w os) :=
  byRow2 rowG (P := fun w => ∀ os, (go1 w os).map look = some (seen w os)) (fun _ _ => by kernel_rfl) (fun _ _ => by kernel_rfl) w os
noncomputable def st1 (w : World) (os : OsState) : Shared := ((go1 w os).getD (st0 w os, topStub pw)).1
noncomputable def th1 (w : World) (os : OsState) : Thread := ((go1 w os).getD (st0 w os, topStub pw)).2
theorem go1_ex (w : World) (os : OsState) : ∃ s t, go1 w os = some (s, t) ∧ st1 w os = s ∧ th1 w os = t ∧ look (s, t) = seen w os := by
  have h := go1_look w os
  unfold st1 th1
  generalize go1 w os = g at h ⊢
  cases g with
  | none => cases h
  | some x => exact ⟨x.1, x.2, rfl, rfl, rfl, Option.some.inj h⟩
end
-- HdD
section
abbrev setOf (es : Array (Int × Value)) (ep : Nat) (t : SetTable) : Obj := ⟨.type "frozenset", none, .set es ep t, Array.mk []⟩
abbrev iterOf (d : Option Addr) (sl : Array (Option Value)) : Obj := ⟨.type "str_ascii_iterator", d, .fields (Array.mk [.str (Str.ofString "0123456789abcdefABCDEF") 192, .int 22 0]), sl⟩
noncomputable def st2 (w : World) (os : OsState) (o15 o16 : Obj) : Shared :=
  { st1 w os with heap := ⟨((st1 w os).heap.objs.setIfInBounds 15 o15).setIfInBounds 16 o16, (st1 w os).heap.life⟩, toks := 240 }
noncomputable def th2 (w : World) (os : OsState) (p : Pos) (g : Nat → List Value) : Thread := ⟨denote treeTable loopC, loopC, p, keepBy g 0 (th1 w os).stack⟩
noncomputable def run3 (w : World) (os : OsState) (p : Pos) (g : Nat → List Value) (es : Array (Int × Value)) (ep : Nat) (t : SetTable) (d : Option Addr) (sl : Array (Option Value)) : Option Shared :=
  topRun treeTable pw w 11 annM 900 (st2 w os (setOf es ep t) (iterOf d sl)) (th2 w os p g)
abbrev modsV : List Str := importedModules pw.main.body
noncomputable abbrev look3 (w : World) (s : Shared) := (staticsOk modsV (boot_heap w.params) s.heap && namesBound pw s.heap && gensDone s && laidKept (boot_heap w.params) s.heap,
  openSeen qv looseV modsV (fun s => xlAt qv [] s && recOk [] s) true s, ((KH.heap_1 w.params).map (·.1)).map s.heap.get?, s.heap.get? 15, s.heap.get? 40)
noncomputable abbrev good3 (w : World) (es : Array (Int × Value)) (ep : Nat) (t : SetTable) := (true, openGood qv looseV, (KH.heap_1 w.params).map (fun p => some p.2), some (setOf es ep t), some (tabObj #[]))
set_option maxHeartbeats 0 in
theorem run3_look (w : World) (os : OsState) (p : Pos) (g : Nat → List Value) (es : Array (Int × Value)) (ep : Nat) (t : SetTable) (d : Option Addr) (sl : Array (Option Value)) :
    (run3 w os p g es ep t d sl).map (look3 w) = some (good3 w es ep t) :=
  byRow2 rowG (P := fun w => ∀ os p g es ep t d sl, (run3 w os p g es ep t d sl).map (look3 w) = some (good3 w es ep t)) (fun _ _ _ _ _ _ _ _ _ => by kernel_rfl) (fun _ _ _ _ _ _ _ _ _ => by kernel_rfl) w os p g es ep t d sl
end
-- Top
theorem objs_of_get {h : Heap} {a : Addr} {o : Obj} (e : h.get? a = some o) : h.objs[a]? = some o := by
  unfold Heap.get? at e
  split at e
  · cases e
  · exact e
theorem heap_at {h' s : Heap} {o15 o16 : Obj} (hs : s.objs.size = 17) (hz : h'.objs.size = 17) (all : ((List.range 17).all fun b => (s.get? b).isSome) = true) (h15 : h'.get? 15 = some o15) (h16 : h'.get? 16 = some o16)
    (keep : ∀ b, b ≠ 15 → b ≠ 16 → h'.get? b = s.get? b) : h'.objs = (s.objs.setIfInBounds 15 o15).setIfInBounds 16 o16 := by
  apply Array.ext_getElem?
  intro b
  rw [Array.getElem?_setIfInBounds, Array.getElem?_setIfInBounds, Array.size_setIfInBounds, hs]
  by_cases b16 : 16 = b
  · subst b16
    simpa using objs_of_get h16
  by_cases b15 : 15 = b
  · subst b15
    simpa using objs_of_get h15
  rw [if_neg b16, if_neg b15]
  by_cases hb : b < 17
  · have := List.all_eq_true.mp all b (List.mem_range.mpr hb)
    obtain ⟨o, ho⟩ := Option.isSome_iff_exists.mp this
    rw [objs_of_get ho, objs_of_get ((keep b (Ne.symm b15) (Ne.symm b16)).trans ho)]
  · rw [Array.getElem?_eq_none (by omega), Array.getElem?_eq_none (by omega)]
theorem mid_start {w : World} {s : Shared} {b : Bool} (h15 : s.heap.get? 15 = some ⟨.type "frozenset", none, .set (Array.mk []) 0 (SetTable.fresh 0 0 b), Array.mk []⟩)
    (h16 : s.heap.get? 16 = some ⟨.type "str_ascii_iterator", none, .fields (Array.mk [.str (Str.ofString "0123456789abcdefABCDEF") 192, .int 0 0]), Array.mk []⟩) : Mid w s 0 s := by
  refine ⟨⟨_, h16, rfl, rfl⟩, ⟨_, _, _, h15, ?_, fun k => ?_, rfl, ?_⟩, fun _ _ _ => rfl, rfl, rfl, rfl, rfl, rfl⟩
  · intro e he; cases he
  · constructor
    · intro h; simp [sgn] at h
    · rintro ⟨e, he, _⟩; cases he
  · cases b <;> rfl
-- HdE
theorem pw_eq : PW = pw := rfl
/-- the set's table at the loop's end -/
def AllIn (w : World) (es : Array (Int × Value)) (t : SetTable) : Prop :=
  ElemsOf (strKind PW w) es.toList ∧ (∀ k, decide (k ∈ hexSigns) = true ↔ ∃ e ∈ es.toList, (strKind PW w).is k e.2 = true) ∧ es.size = 22 ∧ t.fits es.size = true
theorem sgn_all : sgn 22 = fun k => decide (k ∈ hexSigns) := by
  funext k
  unfold sgn
  rw [List.take_of_length_le (by decide)]
theorem cur_of {t : Thread} {c : Sem Fin} {cd : Code} (h1 : t.cur = c) (h2 : t.code = cd) : t = ⟨c, cd, t.pos, t.stack⟩ := by subst h1 h2; rfl
theorem shared_of {s : Shared} {h : Heap} {g : Array GenState} {d : Drawn} {k : Nat} {o : OsState} (h1 : s.heap = h) (h2 : s.gens = g) (h3 : s.drawn = d) (h4 : s.toks = k) (h5 : s.os = o) : s = ⟨h, g, d, k, o⟩ := by subst h1 h2 h3 h4 h5; rfl
theorem run3_of {w : World} {os : OsState} {s : Shared} {t : Thread} (hs : st1 w os = s) (ht : th1 w os = t) (p : Pos) (g : Nat → List Value) (es : Array (Int × Value)) (ep : Nat) (tb : SetTable) (d : Option Addr) (sl : Array (Option Value)) :
    run3 w os p g es ep tb d sl = topRun treeTable pw w 11 annM 900 ⟨⟨(s.heap.objs.setIfInBounds 15 (setOf es ep tb)).setIfInBounds 16 (iterOf d sl), s.heap.life⟩, s.gens, s.drawn, 240, s.os⟩ ⟨denote treeTable loopC, loopC, p, keepBy g 0 t.stack⟩ := by
  unfold run3 st2 th2
  rw [hs, ht]
/-- the top's first two stages -/
theorem stage12 (w : World) (os : OsState) (hr : (st0 w os).asleep) : ∃ s₂ t₂ p g es ep tb d sl, Went pw w 11 annM (st0 w os) (topStub pw) s₂ t₂ ∧ topRun table pw w 11 annM 900 s₂ t₂ = run3 w os p g es ep tb d sl ∧ AllIn w es tb := by
  obtain ⟨s, t, h1, hs, ht, hl⟩ := go1_ex w os
  unfold go1 at h1
  rw [← table_eq_tree] at h1
  have W1 := go_went hr h1
  have hr1 := asleep_went W1 hr
  unfold look seen at hl
  rw [← table_eq_tree] at hl
  obtain ⟨l1, hl⟩ := Prod.mk.inj hl
  obtain ⟨l2, hl⟩ := Prod.mk.inj hl
  obtain ⟨l3, hl⟩ := Prod.mk.inj hl
  obtain ⟨l4, hl⟩ := Prod.mk.inj hl
  obtain ⟨l5, hl⟩ := Prod.mk.inj hl
  obtain ⟨l6, hl⟩ := Prod.mk.inj hl
  obtain ⟨l7, hl⟩ := Prod.mk.inj hl
  obtain ⟨l8, hl⟩ := Prod.mk.inj hl
  obtain ⟨l9, l10⟩ := Prod.mk.inj hl
  dsimp only at l1 l2 l3 l4 l5 l6 l7 l8 l9 l10
  have hc : ∃ c : Code, c = loopC := ⟨_, rfl⟩
  obtain ⟨c, hc⟩ := hc
  obtain ⟨s', p', g, W2, M⟩ := loop_went (c := c) hc (st := t.stack) (p := t.pos) hr1 (mid_start l8 l9) l3 (n₀ := 11) (ann := annM) (by decide)
  rw [pw_eq] at W2
  have et : t = ⟨denote table c, c, t.pos, t.stack⟩ := cur_of (by rw [l1, hc]) (by rw [l2, hc])
  rw [et] at W1
  obtain ⟨⟨o16, g16, c16, d16⟩, ⟨es, ep, tb, g15, q1, q2, q3, q4⟩, keep, size, gens, drawn, os', toks⟩ := M
  obtain ⟨cl, dd, dt, sl⟩ := o16
  dsimp only at c16 d16
  subst c16 d16
  refine ⟨_, _, p', g, es, ep, tb, dd, sl, W1.trans W2, ?_, q1, fun k => (congrArg (· = true) (congrFun sgn_all k).symm).to_iff.trans (q2 k), q3, q4⟩
  rw [run3_of hs ht]
  have hh : s'.heap = ⟨(s.heap.objs.setIfInBounds 15 (setOf es ep tb)).setIfInBounds 16 (iterOf dd sl), s.heap.life⟩ := by
    have e1 := heap_at l6 (size.trans l6) l10 g15 g16 keep
    have e2 := W2.life
    generalize s'.heap = H at e1 e2 ⊢
    obtain ⟨ho, hlf⟩ := H
    dsimp only at e1 e2
    subst e1 e2
    rfl
  have es' := shared_of hh gens drawn (toks.trans (by rw [l4])) os'
  rw [es', ← table_eq_tree, hc]
-- HdF
theorem hexIn_of {w : World} {h : Heap} {es : Array (Int × Value)} {ep : Nat} {tb : SetTable} (ho : h.get? 15 = some (setOf es ep tb)) (A : AllIn w es tb) : HexIn w h :=
  ⟨es, ep, tb, ho, A.1, A.2.1, A.2.2.1, A.2.2.2⟩
theorem boot_size (P : Params) : (boot_heap P).objs.size = 11 := rfl
theorem boot_ns (P : Params) : (boot_heap P).isNs mainGlobals = true := by kernel_rfl
theorem boot_ann (P : Params) : (boot_heap P).nsMap mainGlobals (Str.ofString "__annotations__") = annM := by kernel_rfl
theorem tabs_of {w : World} {h : Heap} (X : (KH.heap_1 w.params).In h) (e : h.get? 40 = some (tabObj #[])) : TabsAt [(44, 40)] h := by
  intro q hq
  obtain rfl : q = (44, 40) := by simpa using hq
  exact ⟨codeHd_of_K (c := 44) (P := 40) X (by kernel_rfl), e⟩
theorem ran3 (w : World) (os : OsState) (hr : (st0 w os).asleep) : ∃ s₁ es ep tb, look3 w s₁ = good3 w es ep tb ∧ AllIn w es tb ∧ (∃ n t, schedN (denote table) pw w n (.single (st0 w os) (topStub pw)) = .running (.single s₁ t) ∧ through t = true) ∧
    s₁.heap.life = (st0 w os).heap.life ∧ s₁.os = os ∧ ∀ b o, b < 11 → b ≠ mainNs → b ≠ cStatics → annM ≠ some (.ref b) → (st0 w os).heap.get? b = some o → s₁.heap.get? b = some o := by
  obtain ⟨s₂, t₂, p, g, es, ep, tb, d, sl, W, e, A⟩ := stage12 w os hr
  obtain ⟨s₁, h1, h2⟩ := Option.map_eq_some_iff.mp (run3_look w os p g es ep tb d sl)
  rw [h1] at e
  obtain ⟨⟨m, t₁, hm, ht⟩, l, o, k⟩ := topRun_spec _ _ _ _ (asleep_went W hr) e
  obtain ⟨⟨n, hn⟩, l', o', k'⟩ := W
  exact ⟨s₁, es, ep, tb, h2, A, ⟨n + m, t₁, sched_add hn hm, ht⟩, l.trans l', o.trans o', fun b x a1 a2 a3 a4 a5 => k b x a1 a2 a3 a4 (k' b x a1 a2 a3 a4 a5)⟩
/-- what stands behind the module's top, in every world -/
abbrev Behind4 (p q : Program) (loose : List Str) (XP : (Str → Option Value) → Heap → Prop) (YP : World → Heap → Prop) : Prop :=
  ∀ w, (∃ s, AfterRun (opening p) w s) ∧ ∀ s, AfterRun (opening p) w s → ∃ s₀, fenceModules? p s = some s₀ ∧ s₀.gens = #[] ∧ ∃ s₁, TopRan p w s₀ s₁ ∧ s₁.asleep ∧ s₁.gens = #[] ∧ s₁.heap.isNs mainGlobals = true ∧
    Ground q loose [] XP w s₁ (s₁.heap.nsMap mainGlobals) (s₁.heap.nsMap builtinsNs) s₁.heap ∧ YP w s₁.heap
theorem top_behind : Behind4 pw qv looseV (XL qv []) YPv := by
  intro w
  obtain ⟨s₀, h2, hv⟩ := Option.map_eq_some_iff.mp (boot_open (p := pw) (N := 600) rfl rfl (fun s => rfl) w)
  unfold fencedOpening at h2
  rw [← table_eq_tree] at h2
  obtain ⟨s, h4, h5⟩ := Option.bind_eq_some_iff.mp h2
  have A := AfterImport.of_importEnds h4
  refine ⟨⟨s, A⟩, fun s' hs' => ?_⟩
  obtain rfl := AfterImport.unique hs' A
  obtain ⟨v1, v2⟩ := Prod.mk.inj hv
  obtain ⟨v2, v3⟩ := Prod.mk.inj v2
  obtain ⟨v3, v4⟩ := Prod.mk.inj v3
  have e0 : s₀ = st0 w s₀.os := shared_of v1 v2 v3 v4 rfl
  have hz : s₀.asleep := Shared.asleep_of_life (fence_lifeW h5) A.life
  generalize s₀.os = os at e0
  subst e0
  obtain ⟨s₁, es, ep, tb, hl, hA, hsch, life, hos, keep⟩ := ran3 w os hz
  obtain ⟨b1, hl⟩ := Prod.mk.inj hl
  obtain ⟨b2, hl⟩ := Prod.mk.inj hl
  obtain ⟨b3, hl⟩ := Prod.mk.inj hl
  obtain ⟨b4, b5⟩ := Prod.mk.inj hl
  obtain ⟨b1, c4⟩ := Bool.and_eq_true_iff.mp b1
  obtain ⟨b1, c3⟩ := Bool.and_eq_true_iff.mp b1
  obtain ⟨c1, c2⟩ := Bool.and_eq_true_iff.mp b1
  obtain ⟨G, g0, g1, g2, g3, g4, g5⟩ := ground_of_open (w := w) (XP := XL qv []) (fun s e => xl_of s (Bool.and_eq_true_iff.mp e).1) (by decide +kernel) b2
  have X : (KH.heap_1 w.params).In s₁.heap := Frag.in_of rfl b3
  refine ⟨_, h5, rfl, s₁, ⟨hsch, life, Shared.rest_eq hos, fun b o hb hn => ?_, g2, statics_of_ok c1, g3, g4, g5, gens_of_done c3, names_of_bound c2, laid_of_kept c4⟩, Shared.asleep_of_life life hz, ?_, g1, G, X, hexIn_of b4 hA, tabs_of X b5⟩
  · refine keep b o ?_ (fun q => hn (.inl q)) (fun q => hn (.inr (.inl q))) (fun q => hn (.inr (.inr ?_))) hb
    · have := Heap.lt_size hb
      rwa [show (st0 w os).heap.objs.size = 11 from boot_size _] at this
    · rw [Pin.globalOf_eq (h := (st0 w os).heap) (boot_ns _)]
      exact (boot_ann _).trans q
  · exact Array.eq_empty_of_size_eq_zero (beq_iff_eq.mp g0)
-- HdG
/-- a row without tables of records, whose call writes nothing: it holds when its top comes through in every world and its call is walked -/
theorem holds_behind {r : OpenRow} {q : Program} {loose : List Str} {XP : (Str → Option Value) → Heap → Prop} {YP : World → Heap → Prop} {d : DefRec} {kwd : List (Str × PySem.Expr)}
    (top : Behind4 r.prog q loose XP YP) (keepY : ∀ w h h', YP w h → (∀ b o, h.get? b = some o → h'.get? b = some o) → YP w h') (keepX : ∀ mg h h', XP mg h → (∀ b o, h.get? b = some o → h'.get? b = some o) → XP mg h')
    (isDef : defOf q r.name = some (d, kwd)) (isThe : r.prog.theDef r.name = some (d.params, d.body, d.scope)) (isKw : kwWritten? d.params.kwonlyargs d.params.kw_defaults = some kwd)
    (noRec : r.records = []) (noWrite : r.writes = false) (said : r.wellSaid = true) (opens : opensWell r.prog = true) (free : frees r.toRowW = true) (noWithin : r.within = []) (bare : r.prog.bare) (prom : r.toRowW.promised)
    (walk : WalkO q loose XP YP r.toRowW d kwd fun f vs => PySem.call f vs) : r.Holds := by
  obtain ⟨hsame, hu, ha, hap, hm⟩ := frees_parts free
  have rf : ∀ h, RecFacts r.records h := fun h => recFacts_nil noRec
  refine ⟨said, prom, ⟨bare, opens, by show r.makers.map _ = []; rw [hm]; rfl⟩, prom.witness, fun w => ⟨(top w).1, fun s hs => ?_⟩⟩
  obtain ⟨s₀, e0, g0, s₁, T, slp, g1, ns, G, Y⟩ := (top w).2 s hs
  refine ⟨s₀, e0, g0, s₁, T, fun n hn => ?_, (rf s₁.heap).1, (rf s₁.heap).2.1, ?_⟩
  · have en : n = r.name := by
      split at hn
      · exact List.mem_singleton.mp hn
      · cases hn
    rw [en]
    exact pinned_of_view ns G isDef isThe isKw
  have G := (rf s₁.heap).ground G
  refine ClaimW.callFrom_of_specG (c := r.claim) slp g1 fun args pre lay ord perm => ?_
  have some' := layAllW_isSome (P := w.params) (ord := ord) G.has args r.args s₁ (pre_splitW pre).1
  cases hl : layAllW r.records (classAt s₁.heap) w.params ord args s₁ with
  | none => rw [hl] at some'; cases some'
  | some vs2 =>
    obtain ⟨vs, s₂⟩ := vs2
    have keeps := layAllW_keeps _ _ _ hl
    have alike := layAllW_rest _ _ _ hl
    obtain ⟨as, reads, inn, olds⟩ := reads_layAllW perm _ _ _ hl lay s₂.heap fun _ _ x => x
    have L : Laid r.records w s₁ s₂ args vs as := ⟨⟨ord, perm, hl⟩, reads, inn, olds, keeps, alike.1.trans g1, alike.2.2.1⟩
    have G2 := G.keeps keepX keeps
    obtain ⟨a, o, pm, cd, doc, dV, kV, ho, hd, hcd, hD, hmg⟩ := G2.fn isDef
    have W := walk w s₁ s₂ _ _ G2 (keepY _ _ _ Y keeps) a o pm cd doc dV kV hd hcd hD hmg (defOf_name isDef ▸ ho) L.gens args vs as pre lay reads L.well (L.low G.low)
    have good : ∀ {res s'}, GoodWG r.claim (classAt s₁.heap) (ExcName.means s₁.heap) args s₂ res s' → r.claim.Ends s₁ args vs s₂ res s' ∧ s'.os = s₁.os ∧ AllBare s'.gens :=
      fun g => g.laid (c := r.claim) hsame noWithin (ident_freeW hu ha hap) L
    refine ⟨vs, s₂, hl, wpAny_bind (wpAny_nsGet G2.T.g ?_)⟩
    rw [show s₁.heap.nsMap mainGlobals r.name = some (.ref a) from defOf_name isDef ▸ ho]
    refine wpAny_bind (wpAny_mono W (fun v s' g => wpAny_pure ?_) fun e s' g => ?_)
    · have z := good g
      exact ⟨_, rfl, z.1, z.2.1, z.2.2, fun q => absurd q (by rw [noWrite]; decide)⟩
    · have z := good g
      exact ⟨z.1, z.2.1, z.2.2, fun q => absurd q (by rw [noWrite]; decide)⟩
-- Fin
section
theorem ov_self {f : Str → Option Value} {x : Str} {v : Option Value} (h : f x = v) : ov [(x, v)] f = f := by
  funext y
  unfold ov
  rw [List.lookup_cons]
  by_cases e : y = x
  · subst e; simp [h]
  · have : (y == x) = false := by simpa using e
    rw [this]
    rfl
theorem fr_ov {f : Str → Option Value} {x : Str} {v : Option Value} {h₀ h : Heap} {L : Addr} (F : Fr h₀ L h f) (hx : f x = v) : Fr h₀ L h (ov [(x, v)] f) := by rw [ov_self hx]; exact F
theorem hex_ghost {w : World} {h : Heap} (hT : TabsAt [(44, 40)] h) (hH : HexIn w h) : HexIn w (ghostOf h [(44, 40)]) := by
  obtain ⟨es, ep, t, ho, r⟩ := hH
  exact ⟨es, ep, t, ghost_get hT ho (fun e => by have := congrArg Obj.data e; cases this), r⟩
theorem yp_keeps (w : World) (h h' : Heap) (Y : YPv w h) (k : ∀ b o, h.get? b = some o → h'.get? b = some o) : YPv w h' := by
  obtain ⟨X, ⟨es, ep, t, ho, r⟩, T⟩ := Y
  refine ⟨X.keeps k, ⟨es, ep, t, k _ _ ho, r⟩, fun q hq => ⟨?_, k _ _ (T q hq).2⟩⟩
  exact (T q hq).1.keeps k
theorem said_law : PySem.Challenge.rw_ik0044_01.wellSaid = true := by kernel_rfl
set_option maxHeartbeats 8000000 in
theorem dev : PySem.Challenge.rw_ik0044_01.Holds := by
  w_on
  refine holds_law said_law fun said => ?_
  refine holds_behind (q := qv) (loose := looseV) (XP := XL qv []) (YP := YPv) top_behind yp_keeps XL.keeps (by rfl) (by rfl) (by rfl) rfl rfl (by first | assumption | decide +kernel) (by decide +kernel) (by decide +kernel) rfl ⟨rfl, rfl, rfl, rfl, rfl, by decide +kernel⟩ ?hw ?hc
  case hw => w_witness2
  case hc =>
    intro w s₀ s₁ mg mb G KX fa o pm cd doc dV kV ho hd hcd hD hmg hg args vals as hpre hlay hrd hwl hlo
    obtain ⟨KX, hH, hT9⟩ := KX
    k_fill
    have X := (Ground.X G).1
    have V := (Ground.X G).2
    refine Ground.open G ?_
    intro T B D TE TW
    try (refine guard_noD D (by decide +kernel) ?_; clear D)
    clear hmg
    wrow_args hpre hlay hrd hwl hlo
    all_goals (
      first | refine callC_kw (enter_call ?_) | refine enter_call ?_
      w_top on
      kn_posts
      w_call any ho hd hcd hD T F
      clear hd
      kn_ghosts F T
      k_drop
      skip)
    have hH2 := hex_ghost hT9 hH
    rename Fr _ _ _ _ => F1
    rename News _ _ _ _ => N1
    rename Below _ _ _ _ => B1
    rename Heap.IsList _ _ _ => hL1
    rename IntsAre _ _ => hI1
    rename_i hc1 hc2 h1 tk1 oH oS dH dS X0 X1 T1 hl0
    refine law1 w _ _ (rfl : defOf qv (Str.ofString "law") = some (_, _)) _ _ _ mg mb (ghostOf s₁.heap [(44, 40)]) s₁.heap.objs.size fa cd _ _ _ _ B1 X1 T1 hH2 codeHd hl0 ?hE _ _ _ oH oS ?hlen hI1 hL1 (fr_ov F1 ?hx) N1 ?dS ?dH ?fin
    case hE => passes_own
    case hlen => omega
    case hx => rfl
    case dS => exact dS.trans rfl
    case dH => exact dH.trans rfl
    case fin =>
      rintro s' m' ⟨h', tk', rfl⟩ F' gr
      refine ⟨goodW_bool F' hg (fun cls => rfl) ?post rfl, gr, trivial⟩
      case post => wrow_post
end
end Mine
theorem PySem.Challenge.cw_ik0044_01_holds : PySem.Challenge.rw_ik0044_01.Holds :=
  Mine.dev
