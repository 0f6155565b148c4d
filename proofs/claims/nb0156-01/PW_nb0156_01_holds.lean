import PyProof.Rows.All
import Wide.All
import OpenK.AllK
import Wide.FinOn
import PySem.Challenge.RW_nb0156_01
set_option Elab.async false

open PySem PySem.W PyProof.Rows
set_option Elab.async false
set_option maxRecDepth 100000
set_option maxHeartbeats 8000000
namespace Mine
open_top hd for PySem.Challenge.rw_nb0156_01
end Mine

section
open PySem PySem.W PyProof.Rows
set_option Elab.async false
set_option maxRecDepth 100000
set_option maxHeartbeats 8000000
namespace Mine
/-- the text's parts -/
def fnB : Stmt → List Stmt
  | .FunctionDef _ _ b _ _ _ _ _ _ _ => b
  | _ => []
def fnS : Stmt → Scope
  | .FunctionDef _ _ _ _ _ _ s _ _ _ => s
  | _ => default
def forB : Stmt → List Stmt
  | .For _ _ b _ _ => b
  | _ => []
def ifT : Stmt → List Stmt
  | .If _ b _ _ => b
  | _ => []
def ifE : Stmt → List Stmt
  | .If _ _ b _ => b
  | _ => []
abbrev topS (k : Nat) : Stmt := PySem.Challenge.pw_nb0156_01.main.body.getD k default
abbrev PG : Program := PySem.Challenge.rw_nb0156_01.row.prog
/-- what a call of a def of the text gives back, whoever calls it -/
abbrev Spec (w : World) (k : Nat) (f : Addr) (vs : List Value) (kw : List (Str × Value)) (news news' : List (Addr × Obj)) (res : Value → Prop) : Prop :=
  ∀ (p : Program) (loose : List Str) (mean : ExcName → Option Value) (mg mb : Str → Option Value) (dp un : Nat) (gd : Option (List Code)) (cn : Str) (cs : Scope) (a : Addr) (ccd : Value) (cl : List (Str × Addr)) (outer : List Env) (A₀ : Around) (base h₀ : Heap) (L : Addr) (m : Str → Option Value) (s : Shared) (Q E : Value → Shared → Prop),
    Below A₀ base outer h₀ → Fr h₀ L s.heap m → (hd.heap_39 w.params).In h₀ → News h₀ L s.heap news → Top p loose mean mg mb h₀ → cs.kind = .function →
    dp + k < recursionLimit → un + 8 * k < cLine → (∀ v h' tk', res v → Fr h₀ L h' m → News h₀ L h' news' → Q v { s with heap := h', toks := tk' }) →
      wpAny (model PySem.Challenge.rw_nb0156_01.row.prog w) (ktrTop dp un gd cn cs L a ccd cl outer) (call (.ref f) vs kw) Q E s
theorem call_by {w : World} {k : Nat} {f : Addr} {vs : List Value} {kw : List (Str × Value)} {news news' : List (Addr × Obj)} {res : Value → Prop}
    {p : Program} {loose : List Str} {mean : ExcName → Option Value} {mg mb : Str → Option Value} {dp un : Nat} {gd : Option (List Code)} {cn : Str} {cs : Scope} {a : Addr} {ccd : Value} {cl : List (Str × Addr)} {outer : List Env} {A₀ : Around} {base h₀ : Heap} {L : Addr} {m : Str → Option Value} {s : Shared} {Q E : Value → Shared → Prop}
    (S : Spec w k f vs kw news news' res)
    (B : Below A₀ base outer h₀) (F : Fr h₀ L s.heap m) (X : (hd.heap_39 w.params).In h₀) (N : News h₀ L s.heap news) (T : Top p loose mean mg mb h₀) (hk : cs.kind = .function)
    (h1 : dp + k < recursionLimit) (h2 : un + 8 * k < cLine) (h : ∀ v h' tk', res v → Fr h₀ L h' m → News h₀ L h' news' → Q v { s with heap := h', toks := tk' }) :
      wpAny (model PySem.Challenge.rw_nb0156_01.row.prog w) (ktrTop dp un gd cn cs L a ccd cl outer) (call (.ref f) vs kw) Q E s :=
  S _ _ _ _ _ _ _ _ _ _ _ _ _ _ _ _ _ _ _ _ _ _ B F X N T hk h1 h2 h

/-- a frame by some of its names -/
theorem frame_as {h₀ h : Heap} {L : Addr} {m : Str → Option Value} (ps : List (Str × Value)) (F : Fr h₀ L h m) (hk : ∀ p ∈ ps, m p.1 = some p.2) : Fr h₀ L h (kstB m ps) := by
  have e : kstB m ps = m := by
    funext z
    exact kstB_eq hk fun _ => rfl
  rw [e]; exact F

def TurnEnd {σ : Type} (h₀ : Heap) (L : Addr) (s : Shared) (news : List (Addr × Obj)) (ps : σ → List (Str × Value)) (I : σ → Prop) (μ : σ → Nat) (c : σ) (f : Flow) (s₂ : Shared) : Prop :=
  f = .next ∧ ∃ c' m' h' tk', s₂ = { s with heap := h', toks := tk' } ∧ Fr h₀ L h' m' ∧ News h₀ L h' news ∧ (∀ p ∈ ps c', m' p.1 = some p.2) ∧ I c' ∧ μ c' < μ c
theorem TurnEnd.intro {σ : Type} {h₀ : Heap} {L : Addr} {s : Shared} {news : List (Addr × Obj)} {ps : σ → List (Str × Value)} {I : σ → Prop} {μ : σ → Nat} {c : σ} {m' : Str → Option Value} {h' : Heap} {tk' : Nat} (c' : σ)
    (F : Fr h₀ L h' m') (N : News h₀ L h' news) (hk : ∀ p ∈ ps c', m' p.1 = some p.2) (hI : I c') (hm : μ c' < μ c) : TurnEnd h₀ L s news ps I μ c .next { s with heap := h', toks := tk' } :=
  ⟨rfl, c', m', h', tk', rfl, F, N, hk, hI, hm⟩
section
variable {prog : Program} {w : World} {A : Around} {E : Value → Shared → Prop} {Q : Flow → Shared → Prop} {s : Shared} {env : Env} {h₀ : Heap} {L : Addr}
theorem while_ps {σ : Type} {test : Expr} {body : List Stmt} {pos : Pos} {u : Str → Option Value} {news : List (Addr × Obj)} (ps : σ → List (Str × Value)) (I : σ → Prop) (μ : σ → Nat) (c₀ : σ)
    (F : Fr h₀ L s.heap (kstB u (ps c₀))) (N : News h₀ L s.heap news) (hI : I c₀) (h0 : ∀ p ∈ ps c₀, kstB u (ps c₀) p.1 = some p.2)
    (turn : ∀ c u h tk, I c → Fr h₀ L h (kstB u (ps c)) → News h₀ L h news →
      wpAny (model prog w) A (isTrue test env (eval test env)) (fun b s₂ =>
        if b = true then wpAny (model prog w) A (execs body env) (TurnEnd h₀ L s news ps I μ c) E s₂ else Q .next s₂) E { s with heap := h, toks := tk })
    (hE : PassesOwn (model prog w) A env E) :
    wpAny (model prog w) A (exec (.While test body [] pos) env) Q E s := by
  refine While_inv (fun n m nx => nx = news ∧ ∃ c : σ, μ c = n ∧ (∀ p ∈ ps c, m p.1 = some p.2) ∧ I c) F N ⟨rfl, c₀, rfl, h0, hI⟩ ?_ hE
  rintro n m₁ nx h tk F₁ N₁ ⟨rfl, c, rfl, hk, hI'⟩
  refine wpAny_mono (turn c m₁ h tk hI' (frame_as _ F₁ hk) N₁) (fun b s₂ p => ?_) fun _ _ x => x
  cases b with
  | false => simpa using p
  | true =>
    simp only [if_true] at p ⊢
    refine wpAny_mono p (fun f s₃ q => ?_) fun _ _ x => x
    obtain ⟨rfl, c', m', h', tk', rfl, F', N', hk', hI', hm'⟩ := q
    exact ⟨rfl, h', tk', m', _, μ c', rfl, F', N', hm', rfl, c', rfl, hk', hI'⟩
end
end Mine
end

section
open PySem PySem.W PyProof.Rows
set_option linter.unusedVariables false
namespace Mine
/-- a ledger's entries by their places, and its tail -/
theorem news_pick {h₀ h : Heap} {L : Addr} {all l : List (Addr × Obj)} (is : List Nat) (k : Nat) (N : News h₀ L h all) (e : l = is.filterMap (fun i => all[i]?) ++ all.drop k) : News h₀ L h l := fun q hq => by
  rw [e] at hq
  rcases List.mem_append.mp hq with hq | hq
  · obtain ⟨i, _, hi⟩ := List.mem_filterMap.mp hq
    exact N q (List.mem_of_getElem? hi)
  · exact N q (List.mem_of_mem_drop hq)
/-- one of a ledger by its place -/
theorem mem_ix {all : List (Addr × Obj)} {q : Addr × Obj} (i : Nat) (e : all[i]? = some q) : q ∈ all := List.mem_of_getElem? e
theorem mem_at {all : List (Addr × Obj)} {l : List (Addr × Obj)} (k : Nat) (e : all.drop k = l) {q : Addr × Obj} (h : q ∈ l) : q ∈ all := List.mem_of_mem_drop (e.symm ▸ h)
/-- all of a ledger stand off an address -/
theorem off_cons {c a : Nat} {o : Obj} {l : List (Addr × Obj)} (p : a ≠ c) (r : ∀ q ∈ l, q.1 ≠ c) : ∀ q ∈ (a, o) :: l, q.1 ≠ c := fun q hq =>
  (List.mem_cons.mp hq).elim (fun e => e ▸ p) (fun h => r q h)
theorem sub_cons {q₀ : Addr × Obj} {l all : List (Addr × Obj)} (p : q₀ ∈ all) (r : ∀ q ∈ l, q ∈ all) : ∀ q ∈ q₀ :: l, q ∈ all := fun q hq =>
  (List.mem_cons.mp hq).elim (fun e => e ▸ p) (fun h => r q h)
theorem sub_nil {all : List (Addr × Obj)} : ∀ q ∈ ([] : List (Addr × Obj)), q ∈ all := fun q hq => absurd hq List.not_mem_nil
theorem off_nil {c : Nat} : ∀ q ∈ ([] : List (Addr × Obj)), q.1 ≠ c := fun q hq => absurd hq List.not_mem_nil
theorem far1 {L a : Nat} (h : L + 6 < a) : a ≠ L + 1 := by lia
theorem far2 {L a : Nat} (h : L + 6 < a) : a ≠ L + 1 + 1 := by lia
theorem far3 {L a : Nat} (h : L + 6 < a) : a ≠ L + 1 + 1 + 1 := by lia
theorem far4 {L a : Nat} (h : L + 6 < a) : a ≠ L + 1 + 1 + 1 + 1 := by lia
theorem far5 {L a : Nat} (h : L + 6 < a) : a ≠ L + 1 + 1 + 1 + 1 + 1 := by lia
theorem far6 {L a : Nat} (h : L + 6 < a) : a ≠ L + 1 + 1 + 1 + 1 + 1 + 1 := by lia
theorem far85 {L a : Nat} (h0 : 85 < L) (h : L + 6 < a) : a ≠ 85 := by lia
theorem z1 {L : Nat} (h0 : 85 < L) : 85 ≠ L + 1 := by lia
theorem y1 {L : Nat} (h0 : 85 < L) : L + 1 ≠ 85 := by lia
theorem z2 {L : Nat} (h0 : 85 < L) : 85 ≠ L + 1 + 1 := by lia
theorem y2 {L : Nat} (h0 : 85 < L) : L + 1 + 1 ≠ 85 := by lia
theorem z3 {L : Nat} (h0 : 85 < L) : 85 ≠ L + 1 + 1 + 1 := by lia
theorem y3 {L : Nat} (h0 : 85 < L) : L + 1 + 1 + 1 ≠ 85 := by lia
theorem z4 {L : Nat} (h0 : 85 < L) : 85 ≠ L + 1 + 1 + 1 + 1 := by lia
theorem y4 {L : Nat} (h0 : 85 < L) : L + 1 + 1 + 1 + 1 ≠ 85 := by lia
theorem z5 {L : Nat} (h0 : 85 < L) : 85 ≠ L + 1 + 1 + 1 + 1 + 1 := by lia
theorem y5 {L : Nat} (h0 : 85 < L) : L + 1 + 1 + 1 + 1 + 1 ≠ 85 := by lia
theorem z6 {L : Nat} (h0 : 85 < L) : 85 ≠ L + 1 + 1 + 1 + 1 + 1 + 1 := by lia
theorem y6 {L : Nat} (h0 : 85 < L) : L + 1 + 1 + 1 + 1 + 1 + 1 ≠ 85 := by lia
theorem nc12 {L : Nat} : L + 1 ≠ L + 1 + 1 := by lia
theorem nc13 {L : Nat} : L + 1 ≠ L + 1 + 1 + 1 := by lia
theorem nc14 {L : Nat} : L + 1 ≠ L + 1 + 1 + 1 + 1 := by lia
theorem nc15 {L : Nat} : L + 1 ≠ L + 1 + 1 + 1 + 1 + 1 := by lia
theorem nc16 {L : Nat} : L + 1 ≠ L + 1 + 1 + 1 + 1 + 1 + 1 := by lia
theorem nc21 {L : Nat} : L + 1 + 1 ≠ L + 1 := by lia
theorem nc23 {L : Nat} : L + 1 + 1 ≠ L + 1 + 1 + 1 := by lia
theorem nc24 {L : Nat} : L + 1 + 1 ≠ L + 1 + 1 + 1 + 1 := by lia
theorem nc25 {L : Nat} : L + 1 + 1 ≠ L + 1 + 1 + 1 + 1 + 1 := by lia
theorem nc26 {L : Nat} : L + 1 + 1 ≠ L + 1 + 1 + 1 + 1 + 1 + 1 := by lia
theorem nc31 {L : Nat} : L + 1 + 1 + 1 ≠ L + 1 := by lia
theorem nc32 {L : Nat} : L + 1 + 1 + 1 ≠ L + 1 + 1 := by lia
theorem nc34 {L : Nat} : L + 1 + 1 + 1 ≠ L + 1 + 1 + 1 + 1 := by lia
theorem nc35 {L : Nat} : L + 1 + 1 + 1 ≠ L + 1 + 1 + 1 + 1 + 1 := by lia
theorem nc36 {L : Nat} : L + 1 + 1 + 1 ≠ L + 1 + 1 + 1 + 1 + 1 + 1 := by lia
theorem nc41 {L : Nat} : L + 1 + 1 + 1 + 1 ≠ L + 1 := by lia
theorem nc42 {L : Nat} : L + 1 + 1 + 1 + 1 ≠ L + 1 + 1 := by lia
theorem nc43 {L : Nat} : L + 1 + 1 + 1 + 1 ≠ L + 1 + 1 + 1 := by lia
theorem nc45 {L : Nat} : L + 1 + 1 + 1 + 1 ≠ L + 1 + 1 + 1 + 1 + 1 := by lia
theorem nc46 {L : Nat} : L + 1 + 1 + 1 + 1 ≠ L + 1 + 1 + 1 + 1 + 1 + 1 := by lia
theorem nc51 {L : Nat} : L + 1 + 1 + 1 + 1 + 1 ≠ L + 1 := by lia
theorem nc52 {L : Nat} : L + 1 + 1 + 1 + 1 + 1 ≠ L + 1 + 1 := by lia
theorem nc53 {L : Nat} : L + 1 + 1 + 1 + 1 + 1 ≠ L + 1 + 1 + 1 := by lia
theorem nc54 {L : Nat} : L + 1 + 1 + 1 + 1 + 1 ≠ L + 1 + 1 + 1 + 1 := by lia
theorem nc56 {L : Nat} : L + 1 + 1 + 1 + 1 + 1 ≠ L + 1 + 1 + 1 + 1 + 1 + 1 := by lia
theorem nc61 {L : Nat} : L + 1 + 1 + 1 + 1 + 1 + 1 ≠ L + 1 := by lia
theorem nc62 {L : Nat} : L + 1 + 1 + 1 + 1 + 1 + 1 ≠ L + 1 + 1 := by lia
theorem nc63 {L : Nat} : L + 1 + 1 + 1 + 1 + 1 + 1 ≠ L + 1 + 1 + 1 := by lia
theorem nc64 {L : Nat} : L + 1 + 1 + 1 + 1 + 1 + 1 ≠ L + 1 + 1 + 1 + 1 := by lia
theorem nc65 {L : Nat} : L + 1 + 1 + 1 + 1 + 1 + 1 ≠ L + 1 + 1 + 1 + 1 + 1 := by lia
end Mine
end

section
open PySem PySem.W PyProof.Rows
set_option Elab.async false
set_option maxRecDepth 100000
set_option maxHeartbeats 8000000
namespace Mine
theorem letter_spec (w : World) (news : List (Addr × Obj)) (x : Str) (t : Tok) (hx : x.length ≤ 100) :
   Spec w 1 64 [.str x t] [] news news (fun v => ∃ t', v = .str (Txt.slice x (some 2) (some 3)) t') := by
  unfold Spec; k_fill; intros; rename_i hret
  refine wpAny_call ?_
  k_dflt cell_enter
  k_steps
  exact hret _ _ _ ⟨_, rfl⟩ (by k_asm) (by k_asm)
theorem first_spec (w : World) (news : List (Addr × Obj)) (x : Str) (t : Tok) (hx : x.length ≤ 100) :
   Spec w 1 71 [.str x t] [] news news (fun v => ∃ t', v = .str (Txt.slice x none (some 1)) t') := by
  unfold Spec; k_fill; intros; rename_i hret
  refine wpAny_call ?_
  k_dflt cell_enter
  k_steps
  exact hret _ _ _ ⟨_, rfl⟩ (by k_asm) (by k_asm)

def StrLt (x y : Str) : Bool := decide (x.cps.toList < y.cps.toList)

theorem mid_facts {l r : Int} (h : l < r) (h0 : 0 ≤ l) : l ≤ (l + r).fdiv 2 ∧ (l + r).fdiv 2 < r := by
  rw [Int.fdiv_eq_ediv_of_nonneg _ (by omega)]; omega
theorem item_mid {prog : Program} {w : World} {A : Around} {E : Value → Shared → Prop} {s : Shared} {value slice : PySem.Expr} {h₀ : Heap} {L d : Addr} {news : List (Addr × Obj)} {its : List Value} {n : Nat} {lines : List Str} {l r : Int} {u : Tok} {Q : Value → Shared → Prop}
    (N : News h₀ L s.heap news) (hm : (d, W.listOf its.toArray n) ∈ news) (hS : StrsAre its lines) (hlt : l < r) (h0 : 0 ≤ l) (h1 : r ≤ lines.length) (hsz : lines.length < 1000)
    (h : ∀ t, l ≤ (l + r).fdiv 2 → (l + r).fdiv 2 < r → Q (.str (lines.getD ((l + r).fdiv 2).toNat Str.empty) t) s)
    (hs : subscripted slice false (.ref d) (.int ((l + r).fdiv 2) u) = operate [.ref d, .int ((l + r).fdiv 2) u] (getItem (.ref d) (.int ((l + r).fdiv 2) u)) := by with_unfolding_all rfl) :
    wpAny (model prog w) A (subscriptTail value slice (.ref d) (.int ((l + r).fdiv 2) u)) Q E s := by
  obtain ⟨q1, q2⟩ := mid_facts hlt h0
  exact KTb.item_list (News.isList N hm) hS (by omega) (by omega) (by omega) (fun t _ => h t q1 q2) hs
theorem len_getD {lines : List Str} {k : Nat} (h : ∀ l ∈ lines, l.length ≤ 100) : (lines.getD k Str.empty).length ≤ 100 := by
  rw [List.getD_eq_getElem?_getD]
  cases e : lines[k]? with
  | none => exact Nat.zero_le _
  | some x => exact h x (List.mem_of_getElem? e)
/-- a turn to the right: the middle one is passed -/
theorem bis_right {lo hi l r : Int} {c : Nat → Bool}
    (h : lo ≤ l ∧ l ≤ r ∧ r ≤ hi ∧ (∀ i : Nat, lo ≤ i → i < l → c i = true) ∧ (∀ i : Nat, r ≤ i → i < hi → c i = false)) (h0 : 0 ≤ lo)
    (hlt : l < r) (hm : c ((l + r).fdiv 2).toNat = true) (hmono : ∀ i j : Nat, i ≤ j → (j : Int) < hi → c j = true → c i = true) :
    lo ≤ (l + r).fdiv 2 + 1 ∧ (l + r).fdiv 2 + 1 ≤ r ∧ r ≤ hi ∧ (∀ i : Nat, lo ≤ i → i < (l + r).fdiv 2 + 1 → c i = true) ∧ (∀ i : Nat, r ≤ i → i < hi → c i = false) := by
  obtain ⟨a, b, e, f, g⟩ := h
  obtain ⟨q1, q2⟩ := mid_facts hlt (by omega)
  exact ⟨by omega, by omega, e, fun i _ h2 => hmono i ((l + r).fdiv 2).toNat (by omega) (by omega) hm, g⟩
theorem bis_left {lo hi l r : Int} {c : Nat → Bool}
    (h : lo ≤ l ∧ l ≤ r ∧ r ≤ hi ∧ (∀ i : Nat, lo ≤ i → i < l → c i = true) ∧ (∀ i : Nat, r ≤ i → i < hi → c i = false)) (h0 : 0 ≤ lo)
    (hlt : l < r) (hm : c ((l + r).fdiv 2).toNat = false) (hmono : ∀ i j : Nat, i ≤ j → (j : Int) < hi → c j = true → c i = true) :
    lo ≤ l ∧ l ≤ (l + r).fdiv 2 ∧ (l + r).fdiv 2 ≤ hi ∧ (∀ i : Nat, lo ≤ i → i < l → c i = true) ∧ (∀ i : Nat, (l + r).fdiv 2 ≤ i → i < hi → c i = false) := by
  obtain ⟨a, b, e, f, g⟩ := h
  obtain ⟨q1, q2⟩ := mid_facts hlt (by omega)
  refine ⟨a, by omega, by omega, f, fun i h1 h2 => ?_⟩
  cases q : c i with
  | false => rfl
  | true => rw [hmono ((l + r).fdiv 2).toNat i (by omega) h2 q] at hm; cases hm

theorem bis_start {lo hi : Int} {c : Nat → Bool} (h : lo ≤ hi) : lo ≤ lo ∧ lo ≤ hi ∧ hi ≤ hi ∧ (∀ i : Nat, lo ≤ i → i < lo → c i = true) ∧ (∀ i : Nat, hi ≤ i → i < hi → c i = false) :=
  ⟨Int.le_refl _, h, Int.le_refl _, fun i h1 h2 => by omega, fun i h1 h2 => by omega⟩
end Mine
end

section
open PySem PySem.W PyProof.Rows
set_option Elab.async false
set_option maxRecDepth 100000
set_option maxHeartbeats 8000000
namespace Mine
/-- a mark: an int, or a bool -/
inductive Nm where
  | i (k : Int)
  | b (v : Bool)

def Nm.val : Nm → Int
  | .i k => k
  | .b v => if v = true then 1 else 0
inductive NmIs : Value → Nm → Prop
  | int (k : Int) (t : Tok) : NmIs (.int k t) (.i k)
  | bool (v : Bool) : NmIs (.bool v) (.b v)
inductive NmsAre : List Value → List Nm → Prop
  | nil : NmsAre [] []
  | cons {v : Value} {n : Nm} {vs : List Value} {ns : List Nm} : NmIs v n → NmsAre vs ns → NmsAre (v :: vs) (n :: ns)
theorem NmsAre.length : ∀ {vs : List Value} {ns : List Nm}, NmsAre vs ns → vs.length = ns.length
  | _, _, .nil => rfl
  | _, _, .cons _ h => congrArg (· + 1) h.length
theorem NmsAre.get : ∀ {vs : List Value} {ns : List Nm}, NmsAre vs ns → ∀ (i : Nat) (n : Nm), ns[i]? = some n → ∃ v, vs[i]? = some v ∧ NmIs v n
  | _, _, .nil, i, n, e => by simp at e
  | _, _, .cons h _, 0, n, e => by simp at e; subst e; exact ⟨_, rfl, h⟩
  | _, _, .cons _ r, i + 1, n, e => by simp at e; obtain ⟨v, h1, h2⟩ := r.get i n e; exact ⟨v, by simpa using h1, h2⟩
theorem NmsAre.append : ∀ {vs ws : List Value} {ns ms : List Nm}, NmsAre vs ns → NmsAre ws ms → NmsAre (vs ++ ws) (ns ++ ms)
  | _, _, _, _, .nil, h => h
  | _, _, _, _, .cons a r, h => .cons a (r.append h)
theorem NmsAre.take : ∀ {vs : List Value} {ns : List Nm}, NmsAre vs ns → ∀ k : Nat, NmsAre (vs.take k) (ns.take k)
  | _, _, h, 0 => by simpa using NmsAre.nil
  | _, _, .nil, k + 1 => by simpa using NmsAre.nil
  | _, _, .cons a r, k + 1 => by simpa using NmsAre.cons a (r.take k)
theorem NmsAre.drop : ∀ {vs : List Value} {ns : List Nm}, NmsAre vs ns → ∀ k : Nat, NmsAre (vs.drop k) (ns.drop k)
  | _, _, h, 0 => by simpa using h
  | _, _, .nil, k + 1 => by simpa using NmsAre.nil
  | _, _, .cons a r, k + 1 => by simpa using r.drop k
section
variable {prog : Program} {w : World} {A : Around} {E : Value → Shared → Prop} {s : Shared} {Q : Value → Shared → Prop}
theorem gives_lt_bi (a : Bool) (b : Int) (u : Tok) : Gives (Builtin.«int.__lt__» ⟨[.bool a, .int b u], []⟩) (.val (Value.bool ((fun x1 x2 => decide (x1 < x2)) (if a = true then (1 : Int) else 0) b))) :=
  .of_wp fun M A E s Q h => by obtain ⟨hp, g, d, tk, os⟩ := s; wp_walk; exact ⟨_, rfl, h⟩
theorem gives_gt_bi (a : Bool) (b : Int) (u : Tok) : Gives (Builtin.«int.__gt__» ⟨[.bool a, .int b u], []⟩) (.val (Value.bool ((fun x1 x2 => decide (x1 > x2)) (if a = true then (1 : Int) else 0) b))) :=
  .of_wp fun M A E s Q h => by obtain ⟨hp, g, d, tk, os⟩ := s; wp_walk; exact ⟨_, rfl, h⟩
theorem lt_bi {a : Bool} {b : Int} {u : Tok} (h : Q (.bool (decide ((if a = true then (1 : Int) else 0) < b))) s) : wpAny (model prog w) A (compareOp .Lt (.bool a) (.int b u)) Q E s := by
  show wpAny (model prog w) A (richCompare .Lt (.bool a) (.int b u)) Q E s
  exact SeqAt.rc_left_or rfl (typeIs_int s b u) (by decide) F.sub_int_bool F.slot_bool_lt
    (call_gives F.slot_bool_lt rfl F.entry_int_lt (F.args_int_lt_2 _ _) (gives_lt_bi a b u) ⟨nofun, h⟩) (.inl rfl)
theorem lt_ib {a : Int} {t : Tok} {b : Bool} (h : Q (.bool (decide (a < (if b = true then (1 : Int) else 0)))) s) : wpAny (model prog w) A (compareOp .Lt (.int a t) (.bool b)) Q E s := by
  show wpAny (model prog w) A (richCompare .Lt (.int a t) (.bool b)) Q E s
  exact SeqAt.rc_sub_first_or (typeIs_int s a t) rfl (by decide) F.sub_bool_int F.slot_bool_gt
    (call_gives F.slot_bool_gt rfl F.entry_int_gt (F.args_int_gt_2 _ _) (gives_gt_bi b a t) ⟨nofun, h⟩) (.inl rfl)
theorem lt_nm {a b : Value} {m n : Nm} (ha : NmIs a m) (hb : NmIs b n) (h : Q (.bool (decide (m.val < n.val))) s) : wpAny (model prog w) A (compareOp .Lt a b) Q E s := by
  cases ha with
  | int k t =>
    cases hb with
    | int k' t' => exact P.lt_int h
    | bool v => exact lt_ib h
  | bool v =>
    cases hb with
    | int k' t' => exact lt_bi h
    | bool v' => exact lt_bool h
end
end Mine
end

section
open PySem PySem.W PyProof.Rows
set_option Elab.async false
set_option maxRecDepth 100000
set_option maxHeartbeats 8000000
set_option linter.unusedVariables false
namespace Mine
theorem fillK (w : World) (h : Heap) (_ : (hd.heap_39 w.params).In h) : PySem.Challenge.rw_nb0156_01.row.prog = PySem.Challenge.rw_nb0156_01.row.prog ∧ (hd.heap_39 w.params) = hd.heap_39 w.params := by
  k_fill
  exact ⟨rfl, rfl⟩
theorem not_dec_true {p : Prop} [Decidable p] (h : p) : (!decide p) = false := by simp [h]
theorem not_dec_false {p : Prop} [Decidable p] (h : ¬ p) : (!decide p) = true := by simp [h]
def BisRes (lo hi : Int) (c : Nat → Bool) (r : Int) : Prop := lo ≤ r ∧ r ≤ hi ∧ (∀ i : Nat, lo ≤ i → i < r → c i = true) ∧ (∀ i : Nat, r ≤ i → i < hi → c i = false)
theorem item_midN {prog : Program} {w : World} {A : Around} {E : Value → Shared → Prop} {s : Shared} {value slice : PySem.Expr} {h₀ : Heap} {L d : Addr} {news : List (Addr × Obj)} {its : List Value} {n : Nat} {ns : List Nm} {l r : Int} {u : Tok} {Q : Value → Shared → Prop}
    (N : News h₀ L s.heap news) (hm : (d, W.listOf its.toArray n) ∈ news) (hS : NmsAre its ns) (hlt : l < r) (h0 : 0 ≤ l) (h1 : r ≤ ns.length) (hsz : ns.length < 1000)
    (h : ∀ v, NmIs v (ns.getD ((l + r).fdiv 2).toNat (.i 0)) → l ≤ (l + r).fdiv 2 → (l + r).fdiv 2 < r → Q v s)
    (hs : subscripted slice false (.ref d) (.int ((l + r).fdiv 2) u) = operate [.ref d, .int ((l + r).fdiv 2) u] (getItem (.ref d) (.int ((l + r).fdiv 2) u)) := by with_unfolding_all rfl) :
    wpAny (model prog w) A (subscriptTail value slice (.ref d) (.int ((l + r).fdiv 2) u)) Q E s := by
  obtain ⟨q1, q2⟩ := mid_facts hlt h0
  have hlt : ((l + r).fdiv 2).toNat < ns.length := by omega
  obtain ⟨v, e, hv⟩ := hS.get ((l + r).fdiv 2).toNat (ns.getD ((l + r).fdiv 2).toNat (.i 0)) (by rw [List.getD_eq_getElem?_getD, List.getElem?_eq_getElem hlt]; rfl)
  exact tail_any (News.isList N hm).typeIs slot_list_getitem.lookup (wpAny_getItem_list (News.isList N hm) (by omega) (by omega) (x := v) (by simpa using e) (h v hv q1 q2)) hs
section
theorem reset0 : True := by
  w_top off
  exact trivial
local macro_rules | `(tactic| walk_at "subscriptTail Name Name ref int") => `(tactic| k_extra "item")
local macro_rules | `(tactic| walk_at "call ref") => `(tactic| k_extra "my call")
local macro_rules | `(tactic| walk_at "TurnEnd") => `(tactic| k_extra "turn end")
local macro_rules | `(tactic| walk_at "compareOp Lt") => `(tactic| k_extra "lt")

theorem loop_l64 {w : World} {p : Program} {loose : List Str} {mean : ExcName → Option Value} {mg mb : Str → Option Value} {dp un : Nat} {gd : Option (List Code)} {outer : List Env} {A₀ : Around} {base g : Heap} {L' : Addr} {s : Shared} {Q : Flow → Shared → Prop} {E : Value → Shared → Prop}
   {u : Str → Option Value} {d : Addr} {lo hi : Int} {tl th : Tok} {news : List (Addr × Obj)} {its : List Value} {n : Nat} (x : Str) (tx : Tok) (lines : List Str) (hS : StrsAre its lines) (hlen : ∀ l ∈ lines, l.length ≤ 100)
   (B : Below A₀ base outer g)
   (F : Fr g L' s.heap (kstB u [(Str.ofString "lo", .int lo tl), (Str.ofString "hi", .int hi th), (Str.ofString "a", .ref d), (Str.ofString "x", .str x tx), (Str.ofString "key", .ref 64)]))
   (X : (hd.heap_39 w.params).In g) (N : News g L' s.heap news) (T : Top p loose mean mg mb g)
   (h1 : dp + 1 < recursionLimit) (h2 : un + 8 < cLine)
   (hmem : (d, W.listOf its.toArray n) ∈ news)
   (h0 : 0 ≤ lo) (hlh : lo ≤ hi) (hhi : hi ≤ lines.length) (hsz : lines.length < 1000)
   (c : Nat → Bool) (hc : ∀ i, i < lines.length → StrLt (Txt.slice (lines.getD i Str.empty) (some 2) (some 3)) x = c i) (hmono : ∀ i j : Nat, i ≤ j → j < lines.length → c j = true → c i = true)
   (hE : PassesOwn (model PG w) (ktrTop dp un gd (Str.ofString "bisect_left") (fnS (topS 6)) L' 57 (Value.ref 56) [] outer) (envOf (Str.ofString "bisect_left") (fnS (topS 6)) L' 57 (Value.ref 56)) E)
   (h : ∀ (r : Int) (tr th' : Tok) (hi' : Int) (u' : Str → Option Value) (h' : Heap) (tk' : Nat), BisRes lo hi c r →
      Fr g L' h' (kstB u' [(Str.ofString "lo", .int r tr), (Str.ofString "hi", .int hi' th'), (Str.ofString "a", .ref d), (Str.ofString "x", .str x tx), (Str.ofString "key", .ref 64)]) →
      News g L' h' news → Q .next { s with heap := h', toks := tk' }) :
   wpAny (model PySem.Challenge.rw_nb0156_01.row.prog w) (ktrTop dp un gd (Str.ofString "bisect_left") (fnS (topS 6)) L' 57 (Value.ref 56) [] outer) (exec ((ifE ((fnB (topS 6)).getD 2 default)).getD 0 default) (envOf (Str.ofString "bisect_left") (fnS (topS 6)) L' 57 (Value.ref 56))) Q E s := by
  k_with_none
  dsimp only [topS, fnB, fnS, ifE, ifT, PySem.Challenge.pw_nb0156_01, List.getD, List.getElem?_cons_succ, List.getElem?_cons_zero, Option.getD_some] at hE ⊢
  replace hmono : ∀ i j : Nat, i ≤ j → (j : Int) < hi → c j = true → c i = true := fun i j h8 h9 => hmono i j h8 (by omega)
  have hcT : ∀ k : Int, 0 ≤ k → k < lines.length → (Txt.slice (lines.getD k.toNat Str.empty) (some 2) (some 3)).cps.toList < x.cps.toList → c k.toNat = true := fun k h8 h9 h => (hc _ (by omega)).symm.trans (by exact decide_eq_true h)
  have hcF : ∀ k : Int, 0 ≤ k → k < lines.length → ¬ (Txt.slice (lines.getD k.toNat Str.empty) (some 2) (some 3)).cps.toList < x.cps.toList → c k.toNat = false := fun k h8 h9 h => (hc _ (by omega)).symm.trans (by exact decide_eq_false h)
  refine while_ps (σ := Int × Tok × Int × Tok) (fun q => [(Str.ofString "lo", .int q.1 q.2.1), (Str.ofString "hi", .int q.2.2.1 q.2.2.2), (Str.ofString "a", .ref d), (Str.ofString "x", .str x tx), (Str.ofString "key", .ref 64)])
    (fun q => lo ≤ q.1 ∧ q.1 ≤ q.2.2.1 ∧ q.2.2.1 ≤ hi ∧ (∀ i : Nat, lo ≤ i → i < q.1 → c i = true) ∧ (∀ i : Nat, q.2.2.1 ≤ i → i < hi → c i = false)) (fun q => (q.2.2.1 - q.1).toNat) (lo, tl, hi, th) F N
    (bis_start hlh) (by kst_all) ?_ hE
  rintro ⟨l, tl', r, tr'⟩ u' hh tk hI F' N'
  clear F N
  dsimp only [kstB] at F' hI ⊢
  have hI' := hI
  obtain ⟨i1, i2, i3, i4, i5⟩ := hI'
  (k_with "item" => (with_unfolding_all refine' item_mid (lines := lines) (its := its) ?k1 hmem hS ?k2 ?k3 ?k4 hsz ?_ ?k6; (case k1 => k_asm); (case k2 => assumption); (case k3 => omega); (case k4 => omega); (case k6 => with_unfolding_all rfl); intro t7 q7 q8))
  (k_with "my call" => ((with_unfolding_all refine' call_by (letter_spec w _ _ _ ?k0) ?k1 ?k2 ?k3 ?k4 ?k5 ?k6 ?k7 ?k8 ?_); (case k0 => exact len_getD hlen); (case k1 => k_asm); (case k2 => k_asm); (case k3 => k_asm); (case k4 => k_asm); (case k5 => k_asm); (case k6 => rfl); (case k7 => ktr_room); (case k8 => ktr_units); intro v9 h9 tk9 hv9 F9 N9; obtain ⟨t9, e9⟩ := hv9; subst e9))
  (k_with "turn end" => first
    | (refine' TurnEnd.intro ((l + r).fdiv 2 + 1, _, r, _) (by k_asm) (by k_asm) ?kk (bis_right (l := l) (r := r) hI h0 (by assumption) (hcT _ (by omega) (by omega) (by assumption)) hmono) (by dsimp only; omega); (case kk => kst_all))
    | (refine' TurnEnd.intro (l, _, (l + r).fdiv 2, _) (by k_asm) (by k_asm) ?kk (bis_left (l := l) (r := r) hI h0 (by assumption) (hcF _ (by omega) (by omega) (by assumption)) hmono) (by dsimp only; omega); (case kk => kst_all)))
  k_steps
  exact h l _ _ r u' hh tk ⟨i1, by omega, i4, fun i h8 h9 => i5 i (by omega) h9⟩ F' N'

theorem loop_l71 {w : World} {p : Program} {loose : List Str} {mean : ExcName → Option Value} {mg mb : Str → Option Value} {dp un : Nat} {gd : Option (List Code)} {outer : List Env} {A₀ : Around} {base g : Heap} {L' : Addr} {s : Shared} {Q : Flow → Shared → Prop} {E : Value → Shared → Prop}
   {u : Str → Option Value} {d : Addr} {lo hi : Int} {tl th : Tok} {news : List (Addr × Obj)} {its : List Value} {n : Nat} (x : Str) (tx : Tok) (lines : List Str) (hS : StrsAre its lines) (hlen : ∀ l ∈ lines, l.length ≤ 100)
   (B : Below A₀ base outer g)
   (F : Fr g L' s.heap (kstB u [(Str.ofString "lo", .int lo tl), (Str.ofString "hi", .int hi th), (Str.ofString "a", .ref d), (Str.ofString "x", .str x tx), (Str.ofString "key", .ref 71)]))
   (X : (hd.heap_39 w.params).In g) (N : News g L' s.heap news) (T : Top p loose mean mg mb g)
   (h1 : dp + 1 < recursionLimit) (h2 : un + 8 < cLine)
   (hmem : (d, W.listOf its.toArray n) ∈ news)
   (h0 : 0 ≤ lo) (hlh : lo ≤ hi) (hhi : hi ≤ lines.length) (hsz : lines.length < 1000)
   (c : Nat → Bool) (hc : ∀ i, i < lines.length → StrLt (Txt.slice (lines.getD i Str.empty) none (some 1)) x = c i) (hmono : ∀ i j : Nat, i ≤ j → j < lines.length → c j = true → c i = true)
   (hE : PassesOwn (model PG w) (ktrTop dp un gd (Str.ofString "bisect_left") (fnS (topS 6)) L' 57 (Value.ref 56) [] outer) (envOf (Str.ofString "bisect_left") (fnS (topS 6)) L' 57 (Value.ref 56)) E)
   (h : ∀ (r : Int) (tr th' : Tok) (hi' : Int) (u' : Str → Option Value) (h' : Heap) (tk' : Nat), BisRes lo hi c r →
      Fr g L' h' (kstB u' [(Str.ofString "lo", .int r tr), (Str.ofString "hi", .int hi' th'), (Str.ofString "a", .ref d), (Str.ofString "x", .str x tx), (Str.ofString "key", .ref 71)]) →
      News g L' h' news → Q .next { s with heap := h', toks := tk' }) :
   wpAny (model PySem.Challenge.rw_nb0156_01.row.prog w) (ktrTop dp un gd (Str.ofString "bisect_left") (fnS (topS 6)) L' 57 (Value.ref 56) [] outer) (exec ((ifE ((fnB (topS 6)).getD 2 default)).getD 0 default) (envOf (Str.ofString "bisect_left") (fnS (topS 6)) L' 57 (Value.ref 56))) Q E s := by
  k_with_none
  dsimp only [topS, fnB, fnS, ifE, ifT, PySem.Challenge.pw_nb0156_01, List.getD, List.getElem?_cons_succ, List.getElem?_cons_zero, Option.getD_some] at hE ⊢
  replace hmono : ∀ i j : Nat, i ≤ j → (j : Int) < hi → c j = true → c i = true := fun i j h8 h9 => hmono i j h8 (by omega)
  have hcT : ∀ k : Int, 0 ≤ k → k < lines.length → (Txt.slice (lines.getD k.toNat Str.empty) none (some 1)).cps.toList < x.cps.toList → c k.toNat = true := fun k h8 h9 h => (hc _ (by omega)).symm.trans (by exact decide_eq_true h)
  have hcF : ∀ k : Int, 0 ≤ k → k < lines.length → ¬ (Txt.slice (lines.getD k.toNat Str.empty) none (some 1)).cps.toList < x.cps.toList → c k.toNat = false := fun k h8 h9 h => (hc _ (by omega)).symm.trans (by exact decide_eq_false h)
  refine while_ps (σ := Int × Tok × Int × Tok) (fun q => [(Str.ofString "lo", .int q.1 q.2.1), (Str.ofString "hi", .int q.2.2.1 q.2.2.2), (Str.ofString "a", .ref d), (Str.ofString "x", .str x tx), (Str.ofString "key", .ref 71)])
    (fun q => lo ≤ q.1 ∧ q.1 ≤ q.2.2.1 ∧ q.2.2.1 ≤ hi ∧ (∀ i : Nat, lo ≤ i → i < q.1 → c i = true) ∧ (∀ i : Nat, q.2.2.1 ≤ i → i < hi → c i = false)) (fun q => (q.2.2.1 - q.1).toNat) (lo, tl, hi, th) F N
    (bis_start hlh) (by kst_all) ?_ hE
  rintro ⟨l, tl', r, tr'⟩ u' hh tk hI F' N'
  clear F N
  dsimp only [kstB] at F' hI ⊢
  have hI' := hI
  obtain ⟨i1, i2, i3, i4, i5⟩ := hI'
  (k_with "item" => (with_unfolding_all refine' item_mid (lines := lines) (its := its) ?k1 hmem hS ?k2 ?k3 ?k4 hsz ?_ ?k6; (case k1 => k_asm); (case k2 => assumption); (case k3 => omega); (case k4 => omega); (case k6 => with_unfolding_all rfl); intro t7 q7 q8))
  (k_with "my call" => ((with_unfolding_all refine' call_by (first_spec w _ _ _ ?k0) ?k1 ?k2 ?k3 ?k4 ?k5 ?k6 ?k7 ?k8 ?_); (case k0 => exact len_getD hlen); (case k1 => k_asm); (case k2 => k_asm); (case k3 => k_asm); (case k4 => k_asm); (case k5 => k_asm); (case k6 => rfl); (case k7 => ktr_room); (case k8 => ktr_units); intro v9 h9 tk9 hv9 F9 N9; obtain ⟨t9, e9⟩ := hv9; subst e9))
  (k_with "turn end" => first
    | (refine' TurnEnd.intro ((l + r).fdiv 2 + 1, _, r, _) (by k_asm) (by k_asm) ?kk (bis_right (l := l) (r := r) hI h0 (by assumption) (hcT _ (by omega) (by omega) (by assumption)) hmono) (by dsimp only; omega); (case kk => kst_all))
    | (refine' TurnEnd.intro (l, _, (l + r).fdiv 2, _) (by k_asm) (by k_asm) ?kk (bis_left (l := l) (r := r) hI h0 (by assumption) (hcF _ (by omega) (by omega) (by assumption)) hmono) (by dsimp only; omega); (case kk => kst_all)))
  k_steps
  exact h l _ _ r u' hh tk ⟨i1, by omega, i4, fun i h8 h9 => i5 i (by omega) h9⟩ F' N'

theorem loop_ln {w : World} {p : Program} {loose : List Str} {mean : ExcName → Option Value} {mg mb : Str → Option Value} {dp un : Nat} {gd : Option (List Code)} {outer : List Env} {A₀ : Around} {base g : Heap} {L' : Addr} {s : Shared} {Q : Flow → Shared → Prop} {E : Value → Shared → Prop}
   {u : Str → Option Value} {d : Addr} {lo hi : Int} {tl th : Tok} {news : List (Addr × Obj)} {its : List Value} {n : Nat} (xv : Value) (xn : Nm) (hx : NmIs xv xn) (ns : List Nm) (hS : NmsAre its ns)
   (B : Below A₀ base outer g)
   (F : Fr g L' s.heap (kstB u [(Str.ofString "lo", .int lo tl), (Str.ofString "hi", .int hi th), (Str.ofString "a", .ref d), (Str.ofString "x", xv), (Str.ofString "key", .none)]))
   (X : (hd.heap_39 w.params).In g) (N : News g L' s.heap news) (T : Top p loose mean mg mb g)
   (h1 : dp + 1 < recursionLimit) (h2 : un + 8 < cLine)
   (hmem : (d, W.listOf its.toArray n) ∈ news)
   (h0 : 0 ≤ lo) (hlh : lo ≤ hi) (hhi : hi ≤ ns.length) (hsz : ns.length < 1000)
   (c : Nat → Bool) (hc : ∀ i, i < ns.length → (decide ((ns.getD i (.i 0)).val < xn.val)) = c i) (hmono : ∀ i j : Nat, i ≤ j → j < ns.length → c j = true → c i = true)
   (hE : PassesOwn (model PG w) (ktrTop dp un gd (Str.ofString "bisect_left") (fnS (topS 6)) L' 57 (Value.ref 56) [] outer) (envOf (Str.ofString "bisect_left") (fnS (topS 6)) L' 57 (Value.ref 56)) E)
   (h : ∀ (r : Int) (tr th' : Tok) (hi' : Int) (u' : Str → Option Value) (h' : Heap) (tk' : Nat), BisRes lo hi c r →
      Fr g L' h' (kstB u' [(Str.ofString "lo", .int r tr), (Str.ofString "hi", .int hi' th'), (Str.ofString "a", .ref d), (Str.ofString "x", xv), (Str.ofString "key", .none)]) →
      News g L' h' news → Q .next { s with heap := h', toks := tk' }) :
   wpAny (model PySem.Challenge.rw_nb0156_01.row.prog w) (ktrTop dp un gd (Str.ofString "bisect_left") (fnS (topS 6)) L' 57 (Value.ref 56) [] outer) (exec ((ifT ((fnB (topS 6)).getD 2 default)).getD 0 default) (envOf (Str.ofString "bisect_left") (fnS (topS 6)) L' 57 (Value.ref 56))) Q E s := by
  k_with_none
  dsimp only [topS, fnB, fnS, ifE, ifT, PySem.Challenge.pw_nb0156_01, List.getD, List.getElem?_cons_succ, List.getElem?_cons_zero, Option.getD_some] at hE ⊢
  replace hmono : ∀ i j : Nat, i ≤ j → (j : Int) < hi → c j = true → c i = true := fun i j h8 h9 => hmono i j h8 (by omega)
  have hcT : ∀ k : Int, 0 ≤ k → k < ns.length → (ns.getD k.toNat (.i 0)).val < xn.val → c k.toNat = true := fun k h8 h9 h => (hc _ (by omega)).symm.trans (by exact decide_eq_true h)
  have hcF : ∀ k : Int, 0 ≤ k → k < ns.length → ¬ (ns.getD k.toNat (.i 0)).val < xn.val → c k.toNat = false := fun k h8 h9 h => (hc _ (by omega)).symm.trans (by exact decide_eq_false h)
  refine while_ps (σ := Int × Tok × Int × Tok) (fun q => [(Str.ofString "lo", .int q.1 q.2.1), (Str.ofString "hi", .int q.2.2.1 q.2.2.2), (Str.ofString "a", .ref d), (Str.ofString "x", xv), (Str.ofString "key", .none)])
    (fun q => lo ≤ q.1 ∧ q.1 ≤ q.2.2.1 ∧ q.2.2.1 ≤ hi ∧ (∀ i : Nat, lo ≤ i → i < q.1 → c i = true) ∧ (∀ i : Nat, q.2.2.1 ≤ i → i < hi → c i = false)) (fun q => (q.2.2.1 - q.1).toNat) (lo, tl, hi, th) F N
    (bis_start hlh) (by kst_all) ?_ hE
  rintro ⟨l, tl', r, tr'⟩ u' hh tk hI F' N'
  clear F N
  dsimp only [kstB] at F' hI ⊢
  have hI' := hI
  obtain ⟨i1, i2, i3, i4, i5⟩ := hI'
  (k_with "item" => (with_unfolding_all refine' item_midN (ns := ns) (its := its) ?k1 hmem hS ?k2 ?k3 ?k4 hsz ?_ ?k6; (case k1 => k_asm); (case k2 => assumption); (case k3 => omega); (case k4 => omega); (case k6 => with_unfolding_all rfl); intro v7 nv7 q7 q8))
  (k_with "lt" => (refine lt_nm nv7 hx ?_))
  (k_with "turn end" => first
    | (refine' TurnEnd.intro ((l + r).fdiv 2 + 1, _, r, _) (by k_asm) (by k_asm) ?kk (bis_right (l := l) (r := r) hI h0 (by assumption) (hcT _ (by omega) (by omega) (by assumption)) hmono) (by dsimp only; omega); (case kk => kst_all))
    | (refine' TurnEnd.intro (l, _, (l + r).fdiv 2, _) (by k_asm) (by k_asm) ?kk (bis_left (l := l) (r := r) hI h0 (by assumption) (hcF _ (by omega) (by omega) (by assumption)) hmono) (by dsimp only; omega); (case kk => kst_all)))
  k_steps
  exact h l _ _ r u' hh tk ⟨i1, by omega, i4, fun i h8 h9 => i5 i (by omega) h9⟩ F' N'

theorem loop_r64 {w : World} {p : Program} {loose : List Str} {mean : ExcName → Option Value} {mg mb : Str → Option Value} {dp un : Nat} {gd : Option (List Code)} {outer : List Env} {A₀ : Around} {base g : Heap} {L' : Addr} {s : Shared} {Q : Flow → Shared → Prop} {E : Value → Shared → Prop}
   {u : Str → Option Value} {d : Addr} {lo hi : Int} {tl th : Tok} {news : List (Addr × Obj)} {its : List Value} {n : Nat} (x : Str) (tx : Tok) (lines : List Str) (hS : StrsAre its lines) (hlen : ∀ l ∈ lines, l.length ≤ 100)
   (B : Below A₀ base outer g)
   (F : Fr g L' s.heap (kstB u [(Str.ofString "lo", .int lo tl), (Str.ofString "hi", .int hi th), (Str.ofString "a", .ref d), (Str.ofString "x", .str x tx), (Str.ofString "key", .ref 64)]))
   (X : (hd.heap_39 w.params).In g) (N : News g L' s.heap news) (T : Top p loose mean mg mb g)
   (h1 : dp + 1 < recursionLimit) (h2 : un + 8 < cLine)
   (hmem : (d, W.listOf its.toArray n) ∈ news)
   (h0 : 0 ≤ lo) (hlh : lo ≤ hi) (hhi : hi ≤ lines.length) (hsz : lines.length < 1000)
   (c : Nat → Bool) (hc : ∀ i, i < lines.length → (!StrLt x (Txt.slice (lines.getD i Str.empty) (some 2) (some 3))) = c i) (hmono : ∀ i j : Nat, i ≤ j → j < lines.length → c j = true → c i = true)
   (hE : PassesOwn (model PG w) (ktrTop dp un gd (Str.ofString "bisect_right") (fnS (topS 4)) L' 39 (Value.ref 38) [] outer) (envOf (Str.ofString "bisect_right") (fnS (topS 4)) L' 39 (Value.ref 38)) E)
   (h : ∀ (r : Int) (tr th' : Tok) (hi' : Int) (u' : Str → Option Value) (h' : Heap) (tk' : Nat), BisRes lo hi c r →
      Fr g L' h' (kstB u' [(Str.ofString "lo", .int r tr), (Str.ofString "hi", .int hi' th'), (Str.ofString "a", .ref d), (Str.ofString "x", .str x tx), (Str.ofString "key", .ref 64)]) →
      News g L' h' news → Q .next { s with heap := h', toks := tk' }) :
   wpAny (model PySem.Challenge.rw_nb0156_01.row.prog w) (ktrTop dp un gd (Str.ofString "bisect_right") (fnS (topS 4)) L' 39 (Value.ref 38) [] outer) (exec ((ifE ((fnB (topS 4)).getD 2 default)).getD 0 default) (envOf (Str.ofString "bisect_right") (fnS (topS 4)) L' 39 (Value.ref 38))) Q E s := by
  k_with_none
  dsimp only [topS, fnB, fnS, ifE, ifT, PySem.Challenge.pw_nb0156_01, List.getD, List.getElem?_cons_succ, List.getElem?_cons_zero, Option.getD_some] at hE ⊢
  replace hmono : ∀ i j : Nat, i ≤ j → (j : Int) < hi → c j = true → c i = true := fun i j h8 h9 => hmono i j h8 (by omega)
  have hcT : ∀ k : Int, 0 ≤ k → k < lines.length → x.cps.toList < (Txt.slice (lines.getD k.toNat Str.empty) (some 2) (some 3)).cps.toList → c k.toNat = false := fun k h8 h9 h => (hc _ (by omega)).symm.trans (by exact not_dec_true h)
  have hcF : ∀ k : Int, 0 ≤ k → k < lines.length → ¬ x.cps.toList < (Txt.slice (lines.getD k.toNat Str.empty) (some 2) (some 3)).cps.toList → c k.toNat = true := fun k h8 h9 h => (hc _ (by omega)).symm.trans (by exact not_dec_false h)
  refine while_ps (σ := Int × Tok × Int × Tok) (fun q => [(Str.ofString "lo", .int q.1 q.2.1), (Str.ofString "hi", .int q.2.2.1 q.2.2.2), (Str.ofString "a", .ref d), (Str.ofString "x", .str x tx), (Str.ofString "key", .ref 64)])
    (fun q => lo ≤ q.1 ∧ q.1 ≤ q.2.2.1 ∧ q.2.2.1 ≤ hi ∧ (∀ i : Nat, lo ≤ i → i < q.1 → c i = true) ∧ (∀ i : Nat, q.2.2.1 ≤ i → i < hi → c i = false)) (fun q => (q.2.2.1 - q.1).toNat) (lo, tl, hi, th) F N
    (bis_start hlh) (by kst_all) ?_ hE
  rintro ⟨l, tl', r, tr'⟩ u' hh tk hI F' N'
  clear F N
  dsimp only [kstB] at F' hI ⊢
  have hI' := hI
  obtain ⟨i1, i2, i3, i4, i5⟩ := hI'
  (k_with "item" => (with_unfolding_all refine' item_mid (lines := lines) (its := its) ?k1 hmem hS ?k2 ?k3 ?k4 hsz ?_ ?k6; (case k1 => k_asm); (case k2 => assumption); (case k3 => omega); (case k4 => omega); (case k6 => with_unfolding_all rfl); intro t7 q7 q8))
  (k_with "my call" => ((with_unfolding_all refine' call_by (letter_spec w _ _ _ ?k0) ?k1 ?k2 ?k3 ?k4 ?k5 ?k6 ?k7 ?k8 ?_); (case k0 => exact len_getD hlen); (case k1 => k_asm); (case k2 => k_asm); (case k3 => k_asm); (case k4 => k_asm); (case k5 => k_asm); (case k6 => rfl); (case k7 => ktr_room); (case k8 => ktr_units); intro v9 h9 tk9 hv9 F9 N9; obtain ⟨t9, e9⟩ := hv9; subst e9))
  (k_with "turn end" => first
    | (refine' TurnEnd.intro ((l + r).fdiv 2 + 1, _, r, _) (by k_asm) (by k_asm) ?kk (bis_right (l := l) (r := r) hI h0 (by assumption) (hcF _ (by omega) (by omega) (by assumption)) hmono) (by dsimp only; omega); (case kk => kst_all))
    | (refine' TurnEnd.intro (l, _, (l + r).fdiv 2, _) (by k_asm) (by k_asm) ?kk (bis_left (l := l) (r := r) hI h0 (by assumption) (hcT _ (by omega) (by omega) (by assumption)) hmono) (by dsimp only; omega); (case kk => kst_all)))
  k_steps
  exact h l _ _ r u' hh tk ⟨i1, by omega, i4, fun i h8 h9 => i5 i (by omega) h9⟩ F' N'

theorem loop_r71 {w : World} {p : Program} {loose : List Str} {mean : ExcName → Option Value} {mg mb : Str → Option Value} {dp un : Nat} {gd : Option (List Code)} {outer : List Env} {A₀ : Around} {base g : Heap} {L' : Addr} {s : Shared} {Q : Flow → Shared → Prop} {E : Value → Shared → Prop}
   {u : Str → Option Value} {d : Addr} {lo hi : Int} {tl th : Tok} {news : List (Addr × Obj)} {its : List Value} {n : Nat} (x : Str) (tx : Tok) (lines : List Str) (hS : StrsAre its lines) (hlen : ∀ l ∈ lines, l.length ≤ 100)
   (B : Below A₀ base outer g)
   (F : Fr g L' s.heap (kstB u [(Str.ofString "lo", .int lo tl), (Str.ofString "hi", .int hi th), (Str.ofString "a", .ref d), (Str.ofString "x", .str x tx), (Str.ofString "key", .ref 71)]))
   (X : (hd.heap_39 w.params).In g) (N : News g L' s.heap news) (T : Top p loose mean mg mb g)
   (h1 : dp + 1 < recursionLimit) (h2 : un + 8 < cLine)
   (hmem : (d, W.listOf its.toArray n) ∈ news)
   (h0 : 0 ≤ lo) (hlh : lo ≤ hi) (hhi : hi ≤ lines.length) (hsz : lines.length < 1000)
   (c : Nat → Bool) (hc : ∀ i, i < lines.length → (!StrLt x (Txt.slice (lines.getD i Str.empty) none (some 1))) = c i) (hmono : ∀ i j : Nat, i ≤ j → j < lines.length → c j = true → c i = true)
   (hE : PassesOwn (model PG w) (ktrTop dp un gd (Str.ofString "bisect_right") (fnS (topS 4)) L' 39 (Value.ref 38) [] outer) (envOf (Str.ofString "bisect_right") (fnS (topS 4)) L' 39 (Value.ref 38)) E)
   (h : ∀ (r : Int) (tr th' : Tok) (hi' : Int) (u' : Str → Option Value) (h' : Heap) (tk' : Nat), BisRes lo hi c r →
      Fr g L' h' (kstB u' [(Str.ofString "lo", .int r tr), (Str.ofString "hi", .int hi' th'), (Str.ofString "a", .ref d), (Str.ofString "x", .str x tx), (Str.ofString "key", .ref 71)]) →
      News g L' h' news → Q .next { s with heap := h', toks := tk' }) :
   wpAny (model PySem.Challenge.rw_nb0156_01.row.prog w) (ktrTop dp un gd (Str.ofString "bisect_right") (fnS (topS 4)) L' 39 (Value.ref 38) [] outer) (exec ((ifE ((fnB (topS 4)).getD 2 default)).getD 0 default) (envOf (Str.ofString "bisect_right") (fnS (topS 4)) L' 39 (Value.ref 38))) Q E s := by
  k_with_none
  dsimp only [topS, fnB, fnS, ifE, ifT, PySem.Challenge.pw_nb0156_01, List.getD, List.getElem?_cons_succ, List.getElem?_cons_zero, Option.getD_some] at hE ⊢
  replace hmono : ∀ i j : Nat, i ≤ j → (j : Int) < hi → c j = true → c i = true := fun i j h8 h9 => hmono i j h8 (by omega)
  have hcT : ∀ k : Int, 0 ≤ k → k < lines.length → x.cps.toList < (Txt.slice (lines.getD k.toNat Str.empty) none (some 1)).cps.toList → c k.toNat = false := fun k h8 h9 h => (hc _ (by omega)).symm.trans (by exact not_dec_true h)
  have hcF : ∀ k : Int, 0 ≤ k → k < lines.length → ¬ x.cps.toList < (Txt.slice (lines.getD k.toNat Str.empty) none (some 1)).cps.toList → c k.toNat = true := fun k h8 h9 h => (hc _ (by omega)).symm.trans (by exact not_dec_false h)
  refine while_ps (σ := Int × Tok × Int × Tok) (fun q => [(Str.ofString "lo", .int q.1 q.2.1), (Str.ofString "hi", .int q.2.2.1 q.2.2.2), (Str.ofString "a", .ref d), (Str.ofString "x", .str x tx), (Str.ofString "key", .ref 71)])
    (fun q => lo ≤ q.1 ∧ q.1 ≤ q.2.2.1 ∧ q.2.2.1 ≤ hi ∧ (∀ i : Nat, lo ≤ i → i < q.1 → c i = true) ∧ (∀ i : Nat, q.2.2.1 ≤ i → i < hi → c i = false)) (fun q => (q.2.2.1 - q.1).toNat) (lo, tl, hi, th) F N
    (bis_start hlh) (by kst_all) ?_ hE
  rintro ⟨l, tl', r, tr'⟩ u' hh tk hI F' N'
  clear F N
  dsimp only [kstB] at F' hI ⊢
  have hI' := hI
  obtain ⟨i1, i2, i3, i4, i5⟩ := hI'
  (k_with "item" => (with_unfolding_all refine' item_mid (lines := lines) (its := its) ?k1 hmem hS ?k2 ?k3 ?k4 hsz ?_ ?k6; (case k1 => k_asm); (case k2 => assumption); (case k3 => omega); (case k4 => omega); (case k6 => with_unfolding_all rfl); intro t7 q7 q8))
  (k_with "my call" => ((with_unfolding_all refine' call_by (first_spec w _ _ _ ?k0) ?k1 ?k2 ?k3 ?k4 ?k5 ?k6 ?k7 ?k8 ?_); (case k0 => exact len_getD hlen); (case k1 => k_asm); (case k2 => k_asm); (case k3 => k_asm); (case k4 => k_asm); (case k5 => k_asm); (case k6 => rfl); (case k7 => ktr_room); (case k8 => ktr_units); intro v9 h9 tk9 hv9 F9 N9; obtain ⟨t9, e9⟩ := hv9; subst e9))
  (k_with "turn end" => first
    | (refine' TurnEnd.intro ((l + r).fdiv 2 + 1, _, r, _) (by k_asm) (by k_asm) ?kk (bis_right (l := l) (r := r) hI h0 (by assumption) (hcF _ (by omega) (by omega) (by assumption)) hmono) (by dsimp only; omega); (case kk => kst_all))
    | (refine' TurnEnd.intro (l, _, (l + r).fdiv 2, _) (by k_asm) (by k_asm) ?kk (bis_left (l := l) (r := r) hI h0 (by assumption) (hcT _ (by omega) (by omega) (by assumption)) hmono) (by dsimp only; omega); (case kk => kst_all)))
  k_steps
  exact h l _ _ r u' hh tk ⟨i1, by omega, i4, fun i h8 h9 => i5 i (by omega) h9⟩ F' N'

theorem loop_rn {w : World} {p : Program} {loose : List Str} {mean : ExcName → Option Value} {mg mb : Str → Option Value} {dp un : Nat} {gd : Option (List Code)} {outer : List Env} {A₀ : Around} {base g : Heap} {L' : Addr} {s : Shared} {Q : Flow → Shared → Prop} {E : Value → Shared → Prop}
   {u : Str → Option Value} {d : Addr} {lo hi : Int} {tl th : Tok} {news : List (Addr × Obj)} {its : List Value} {n : Nat} (xv : Value) (xn : Nm) (hx : NmIs xv xn) (ns : List Nm) (hS : NmsAre its ns)
   (B : Below A₀ base outer g)
   (F : Fr g L' s.heap (kstB u [(Str.ofString "lo", .int lo tl), (Str.ofString "hi", .int hi th), (Str.ofString "a", .ref d), (Str.ofString "x", xv), (Str.ofString "key", .none)]))
   (X : (hd.heap_39 w.params).In g) (N : News g L' s.heap news) (T : Top p loose mean mg mb g)
   (h1 : dp + 1 < recursionLimit) (h2 : un + 8 < cLine)
   (hmem : (d, W.listOf its.toArray n) ∈ news)
   (h0 : 0 ≤ lo) (hlh : lo ≤ hi) (hhi : hi ≤ ns.length) (hsz : ns.length < 1000)
   (c : Nat → Bool) (hc : ∀ i, i < ns.length → (!decide (xn.val < (ns.getD i (.i 0)).val)) = c i) (hmono : ∀ i j : Nat, i ≤ j → j < ns.length → c j = true → c i = true)
   (hE : PassesOwn (model PG w) (ktrTop dp un gd (Str.ofString "bisect_right") (fnS (topS 4)) L' 39 (Value.ref 38) [] outer) (envOf (Str.ofString "bisect_right") (fnS (topS 4)) L' 39 (Value.ref 38)) E)
   (h : ∀ (r : Int) (tr th' : Tok) (hi' : Int) (u' : Str → Option Value) (h' : Heap) (tk' : Nat), BisRes lo hi c r →
      Fr g L' h' (kstB u' [(Str.ofString "lo", .int r tr), (Str.ofString "hi", .int hi' th'), (Str.ofString "a", .ref d), (Str.ofString "x", xv), (Str.ofString "key", .none)]) →
      News g L' h' news → Q .next { s with heap := h', toks := tk' }) :
   wpAny (model PySem.Challenge.rw_nb0156_01.row.prog w) (ktrTop dp un gd (Str.ofString "bisect_right") (fnS (topS 4)) L' 39 (Value.ref 38) [] outer) (exec ((ifT ((fnB (topS 4)).getD 2 default)).getD 0 default) (envOf (Str.ofString "bisect_right") (fnS (topS 4)) L' 39 (Value.ref 38))) Q E s := by
  k_with_none
  dsimp only [topS, fnB, fnS, ifE, ifT, PySem.Challenge.pw_nb0156_01, List.getD, List.getElem?_cons_succ, List.getElem?_cons_zero, Option.getD_some] at hE ⊢
  replace hmono : ∀ i j : Nat, i ≤ j → (j : Int) < hi → c j = true → c i = true := fun i j h8 h9 => hmono i j h8 (by omega)
  have hcT : ∀ k : Int, 0 ≤ k → k < ns.length → xn.val < (ns.getD k.toNat (.i 0)).val → c k.toNat = false := fun k h8 h9 h => (hc _ (by omega)).symm.trans (by exact not_dec_true h)
  have hcF : ∀ k : Int, 0 ≤ k → k < ns.length → ¬ xn.val < (ns.getD k.toNat (.i 0)).val → c k.toNat = true := fun k h8 h9 h => (hc _ (by omega)).symm.trans (by exact not_dec_false h)
  refine while_ps (σ := Int × Tok × Int × Tok) (fun q => [(Str.ofString "lo", .int q.1 q.2.1), (Str.ofString "hi", .int q.2.2.1 q.2.2.2), (Str.ofString "a", .ref d), (Str.ofString "x", xv), (Str.ofString "key", .none)])
    (fun q => lo ≤ q.1 ∧ q.1 ≤ q.2.2.1 ∧ q.2.2.1 ≤ hi ∧ (∀ i : Nat, lo ≤ i → i < q.1 → c i = true) ∧ (∀ i : Nat, q.2.2.1 ≤ i → i < hi → c i = false)) (fun q => (q.2.2.1 - q.1).toNat) (lo, tl, hi, th) F N
    (bis_start hlh) (by kst_all) ?_ hE
  rintro ⟨l, tl', r, tr'⟩ u' hh tk hI F' N'
  clear F N
  dsimp only [kstB] at F' hI ⊢
  have hI' := hI
  obtain ⟨i1, i2, i3, i4, i5⟩ := hI'
  (k_with "item" => (with_unfolding_all refine' item_midN (ns := ns) (its := its) ?k1 hmem hS ?k2 ?k3 ?k4 hsz ?_ ?k6; (case k1 => k_asm); (case k2 => assumption); (case k3 => omega); (case k4 => omega); (case k6 => with_unfolding_all rfl); intro v7 nv7 q7 q8))
  (k_with "lt" => (refine lt_nm hx nv7 ?_))
  (k_with "turn end" => first
    | (refine' TurnEnd.intro ((l + r).fdiv 2 + 1, _, r, _) (by k_asm) (by k_asm) ?kk (bis_right (l := l) (r := r) hI h0 (by assumption) (hcF _ (by omega) (by omega) (by assumption)) hmono) (by dsimp only; omega); (case kk => kst_all))
    | (refine' TurnEnd.intro (l, _, (l + r).fdiv 2, _) (by k_asm) (by k_asm) ?kk (bis_left (l := l) (r := r) hI h0 (by assumption) (hcT _ (by omega) (by omega) (by assumption)) hmono) (by dsimp only; omega); (case kk => kst_all)))
  k_steps
  exact h l _ _ r u' hh tk ⟨i1, by omega, i4, fun i h8 h9 => i5 i (by omega) h9⟩ F' N'

end
end Mine
end

section
open PySem PySem.W PyProof.Rows
set_option Elab.async false
set_option maxRecDepth 100000
set_option maxHeartbeats 8000000
set_option linter.unusedVariables false
namespace Mine
theorem fillK2 (w : World) (h : Heap) (_ : (hd.heap_39 w.params).In h) : PySem.Challenge.rw_nb0156_01.row.prog = PySem.Challenge.rw_nb0156_01.row.prog ∧ (hd.heap_39 w.params) = hd.heap_39 w.params := by
  k_fill
  exact ⟨rfl, rfl⟩
section
theorem reset1 : True := by
  w_top off
  exact trivial
local macro_rules | `(tactic| walk_at "exec While Compare cons nil") => `(tactic| k_extra "while")
local macro_rules | `(tactic| walk_at "call builtin:len") => `(tactic| k_extra "len")

theorem bis_l64_1 {w : World} {d : Addr} {its : List Value} {n : Nat} (x : Str) (tx : Tok) {news : List (Addr × Obj)}  (lines : List Str) (hS : StrsAre its lines) (hlen : ∀ l ∈ lines, l.length ≤ 100) (hmem : (d, W.listOf its.toArray n) ∈ news) (hsz : lines.length < 1000) 
  (c : Nat → Bool) (hc : ∀ i, i < lines.length → StrLt (Txt.slice (lines.getD i Str.empty) (some 2) (some 3)) x = c i) (hmono : ∀ i j : Nat, i ≤ j → j < lines.length → c j = true → c i = true) :
   Spec w 3 57 [.ref d, .str x tx] [(Str.ofString "key", .ref 64)] news news (fun v => ∃ r t, v = .int r t ∧ BisRes 0 lines.length c r) := by
  unfold Spec; intros; rename_i hret
  refine wpAny_call ?_
  k_dflt (refine' code_def ?k1 ?k2 ?k3 ?k4 ?k5 ?kA ?kF ?kK ?k6 ?k7 ?k8 ?k9 ?kB ?_ ?c2 ?c3 ?c4 ?c5; (case kA => exact rfl); (case kF => exact rfl); (case kK => assumption); (case k1 => k_asm); (case k2 => k_asm); (case k3 => k_asm); (case k4 => k_asm); (case k5 => k_asm); (case k6 => k_is); (case k7 => k_is); (case k8 => ktr_room); (case k9 => first | exact BindsTo.of_eq rfl | exact binds_K (by k_in) rfl (by k_is) rfl rfl rfl | exact kp_binds (by k_in) (fun _ => rfl) | fail "k_enter: no rule for these arguments"); (case c5 => decide); (case kB => exact locs rfl); (case c2 => exact rfl); (case c3 => exact rfl); (case c4 => exact rfl); k_whole; intro g' L' h' FG' F' N' B' X' T'; (try dsimp only); (try k_lift B'); (try k_fold))
  k_with_none
  (k_with "len" => (k_dflt (refine' kst_len (us := its) (k := lines.length) ?k1 hmem hS.length ?k4 ?_; (case k1 => k_asm); (case k4 => omega))))
  (k_with "while" => ((with_unfolding_all refine' loop_l64 (its := its) x _ lines hS hlen ?k1 (frame_as _ ?k2 ?k3) ?k4 ?k5 ?k6 ?k7 ?k8 hmem ?k9 ?ka ?kb hsz c hc hmono ?kE ?_); (case k1 => k_asm); (case k2 => k_asm); (case k3 => kst_all); (case k4 => k_asm); (case k5 => k_asm); (case k6 => k_asm); (case k7 => ktr_room); (case k8 => ktr_units); (case k9 => omega); (case ka => omega); (case kb => omega); (case kE => passes_own); intro r9 tr9 th9 hi9 u9 h9 tk9 hr9 F9 N9; dsimp only [kstB] at F9))
  k_steps
  exact hret _ _ _ ⟨_, _, rfl, (by assumption)⟩ (by k_asm) (by k_asm)
theorem bis_l64_2 {w : World} {d : Addr} {its : List Value} {n : Nat} (x : Str) (tx : Tok) {news : List (Addr × Obj)} (lo hi : Int) (tl th : Tok) (lines : List Str) (hS : StrsAre its lines) (hlen : ∀ l ∈ lines, l.length ≤ 100) (hmem : (d, W.listOf its.toArray n) ∈ news) (hsz : lines.length < 1000) (h0 : 0 ≤ lo) (hlh : lo ≤ hi) (hhi : hi ≤ lines.length)
  (c : Nat → Bool) (hc : ∀ i, i < lines.length → StrLt (Txt.slice (lines.getD i Str.empty) (some 2) (some 3)) x = c i) (hmono : ∀ i j : Nat, i ≤ j → j < lines.length → c j = true → c i = true) :
   Spec w 3 57 [.ref d, .str x tx, .int lo tl, .int hi th] [(Str.ofString "key", .ref 64)] news news (fun v => ∃ r t, v = .int r t ∧ BisRes lo hi c r) := by
  unfold Spec; intros; rename_i hret
  refine wpAny_call ?_
  k_dflt (refine' code_def ?k1 ?k2 ?k3 ?k4 ?k5 ?kA ?kF ?kK ?k6 ?k7 ?k8 ?k9 ?kB ?_ ?c2 ?c3 ?c4 ?c5; (case kA => exact rfl); (case kF => exact rfl); (case kK => assumption); (case k1 => k_asm); (case k2 => k_asm); (case k3 => k_asm); (case k4 => k_asm); (case k5 => k_asm); (case k6 => k_is); (case k7 => k_is); (case k8 => ktr_room); (case k9 => first | exact BindsTo.of_eq rfl | exact binds_K (by k_in) rfl (by k_is) rfl rfl rfl | exact kp_binds (by k_in) (fun _ => rfl) | fail "k_enter: no rule for these arguments"); (case c5 => decide); (case kB => exact locs rfl); (case c2 => exact rfl); (case c3 => exact rfl); (case c4 => exact rfl); k_whole; intro g' L' h' FG' F' N' B' X' T'; (try dsimp only); (try k_lift B'); (try k_fold))
  k_with_none
  (k_with "len" => (k_dflt (refine' kst_len (us := its) (k := lines.length) ?k1 hmem hS.length ?k4 ?_; (case k1 => k_asm); (case k4 => omega))))
  (k_with "while" => ((with_unfolding_all refine' loop_l64 (its := its) x _ lines hS hlen ?k1 (frame_as _ ?k2 ?k3) ?k4 ?k5 ?k6 ?k7 ?k8 hmem ?k9 ?ka ?kb hsz c hc hmono ?kE ?_); (case k1 => k_asm); (case k2 => k_asm); (case k3 => kst_all); (case k4 => k_asm); (case k5 => k_asm); (case k6 => k_asm); (case k7 => ktr_room); (case k8 => ktr_units); (case k9 => omega); (case ka => omega); (case kb => omega); (case kE => passes_own); intro r9 tr9 th9 hi9 u9 h9 tk9 hr9 F9 N9; dsimp only [kstB] at F9))
  k_steps
  exact hret _ _ _ ⟨_, _, rfl, (by assumption)⟩ (by k_asm) (by k_asm)
theorem bis_l64_3 {w : World} {d : Addr} {its : List Value} {n : Nat} (x : Str) (tx : Tok) {news : List (Addr × Obj)} (lo : Int) (tl : Tok) (lines : List Str) (hS : StrsAre its lines) (hlen : ∀ l ∈ lines, l.length ≤ 100) (hmem : (d, W.listOf its.toArray n) ∈ news) (hsz : lines.length < 1000) (h0 : 0 ≤ lo) (hlh : lo ≤ lines.length)
  (c : Nat → Bool) (hc : ∀ i, i < lines.length → StrLt (Txt.slice (lines.getD i Str.empty) (some 2) (some 3)) x = c i) (hmono : ∀ i j : Nat, i ≤ j → j < lines.length → c j = true → c i = true) :
   Spec w 3 57 [.ref d, .str x tx, .int lo tl, .none] [(Str.ofString "key", .ref 64)] news news (fun v => ∃ r t, v = .int r t ∧ BisRes lo lines.length c r) := by
  unfold Spec; intros; rename_i hret
  refine wpAny_call ?_
  k_dflt (refine' code_def ?k1 ?k2 ?k3 ?k4 ?k5 ?kA ?kF ?kK ?k6 ?k7 ?k8 ?k9 ?kB ?_ ?c2 ?c3 ?c4 ?c5; (case kA => exact rfl); (case kF => exact rfl); (case kK => assumption); (case k1 => k_asm); (case k2 => k_asm); (case k3 => k_asm); (case k4 => k_asm); (case k5 => k_asm); (case k6 => k_is); (case k7 => k_is); (case k8 => ktr_room); (case k9 => first | exact BindsTo.of_eq rfl | exact binds_K (by k_in) rfl (by k_is) rfl rfl rfl | exact kp_binds (by k_in) (fun _ => rfl) | fail "k_enter: no rule for these arguments"); (case c5 => decide); (case kB => exact locs rfl); (case c2 => exact rfl); (case c3 => exact rfl); (case c4 => exact rfl); k_whole; intro g' L' h' FG' F' N' B' X' T'; (try dsimp only); (try k_lift B'); (try k_fold))
  k_with_none
  (k_with "len" => (k_dflt (refine' kst_len (us := its) (k := lines.length) ?k1 hmem hS.length ?k4 ?_; (case k1 => k_asm); (case k4 => omega))))
  (k_with "while" => ((with_unfolding_all refine' loop_l64 (its := its) x _ lines hS hlen ?k1 (frame_as _ ?k2 ?k3) ?k4 ?k5 ?k6 ?k7 ?k8 hmem ?k9 ?ka ?kb hsz c hc hmono ?kE ?_); (case k1 => k_asm); (case k2 => k_asm); (case k3 => kst_all); (case k4 => k_asm); (case k5 => k_asm); (case k6 => k_asm); (case k7 => ktr_room); (case k8 => ktr_units); (case k9 => omega); (case ka => omega); (case kb => omega); (case kE => passes_own); intro r9 tr9 th9 hi9 u9 h9 tk9 hr9 F9 N9; dsimp only [kstB] at F9))
  k_steps
  exact hret _ _ _ ⟨_, _, rfl, (by assumption)⟩ (by k_asm) (by k_asm)
theorem bis_l71_1 {w : World} {d : Addr} {its : List Value} {n : Nat} (x : Str) (tx : Tok) {news : List (Addr × Obj)}  (lines : List Str) (hS : StrsAre its lines) (hlen : ∀ l ∈ lines, l.length ≤ 100) (hmem : (d, W.listOf its.toArray n) ∈ news) (hsz : lines.length < 1000) 
  (c : Nat → Bool) (hc : ∀ i, i < lines.length → StrLt (Txt.slice (lines.getD i Str.empty) none (some 1)) x = c i) (hmono : ∀ i j : Nat, i ≤ j → j < lines.length → c j = true → c i = true) :
   Spec w 3 57 [.ref d, .str x tx] [(Str.ofString "key", .ref 71)] news news (fun v => ∃ r t, v = .int r t ∧ BisRes 0 lines.length c r) := by
  unfold Spec; intros; rename_i hret
  refine wpAny_call ?_
  k_dflt (refine' code_def ?k1 ?k2 ?k3 ?k4 ?k5 ?kA ?kF ?kK ?k6 ?k7 ?k8 ?k9 ?kB ?_ ?c2 ?c3 ?c4 ?c5; (case kA => exact rfl); (case kF => exact rfl); (case kK => assumption); (case k1 => k_asm); (case k2 => k_asm); (case k3 => k_asm); (case k4 => k_asm); (case k5 => k_asm); (case k6 => k_is); (case k7 => k_is); (case k8 => ktr_room); (case k9 => first | exact BindsTo.of_eq rfl | exact binds_K (by k_in) rfl (by k_is) rfl rfl rfl | exact kp_binds (by k_in) (fun _ => rfl) | fail "k_enter: no rule for these arguments"); (case c5 => decide); (case kB => exact locs rfl); (case c2 => exact rfl); (case c3 => exact rfl); (case c4 => exact rfl); k_whole; intro g' L' h' FG' F' N' B' X' T'; (try dsimp only); (try k_lift B'); (try k_fold))
  k_with_none
  (k_with "len" => (k_dflt (refine' kst_len (us := its) (k := lines.length) ?k1 hmem hS.length ?k4 ?_; (case k1 => k_asm); (case k4 => omega))))
  (k_with "while" => ((with_unfolding_all refine' loop_l71 (its := its) x _ lines hS hlen ?k1 (frame_as _ ?k2 ?k3) ?k4 ?k5 ?k6 ?k7 ?k8 hmem ?k9 ?ka ?kb hsz c hc hmono ?kE ?_); (case k1 => k_asm); (case k2 => k_asm); (case k3 => kst_all); (case k4 => k_asm); (case k5 => k_asm); (case k6 => k_asm); (case k7 => ktr_room); (case k8 => ktr_units); (case k9 => omega); (case ka => omega); (case kb => omega); (case kE => passes_own); intro r9 tr9 th9 hi9 u9 h9 tk9 hr9 F9 N9; dsimp only [kstB] at F9))
  k_steps
  exact hret _ _ _ ⟨_, _, rfl, (by assumption)⟩ (by k_asm) (by k_asm)
theorem bis_l71_3 {w : World} {d : Addr} {its : List Value} {n : Nat} (x : Str) (tx : Tok) {news : List (Addr × Obj)} (lo : Int) (tl : Tok) (lines : List Str) (hS : StrsAre its lines) (hlen : ∀ l ∈ lines, l.length ≤ 100) (hmem : (d, W.listOf its.toArray n) ∈ news) (hsz : lines.length < 1000) (h0 : 0 ≤ lo) (hlh : lo ≤ lines.length)
  (c : Nat → Bool) (hc : ∀ i, i < lines.length → StrLt (Txt.slice (lines.getD i Str.empty) none (some 1)) x = c i) (hmono : ∀ i j : Nat, i ≤ j → j < lines.length → c j = true → c i = true) :
   Spec w 3 57 [.ref d, .str x tx, .int lo tl, .none] [(Str.ofString "key", .ref 71)] news news (fun v => ∃ r t, v = .int r t ∧ BisRes lo lines.length c r) := by
  unfold Spec; intros; rename_i hret
  refine wpAny_call ?_
  k_dflt (refine' code_def ?k1 ?k2 ?k3 ?k4 ?k5 ?kA ?kF ?kK ?k6 ?k7 ?k8 ?k9 ?kB ?_ ?c2 ?c3 ?c4 ?c5; (case kA => exact rfl); (case kF => exact rfl); (case kK => assumption); (case k1 => k_asm); (case k2 => k_asm); (case k3 => k_asm); (case k4 => k_asm); (case k5 => k_asm); (case k6 => k_is); (case k7 => k_is); (case k8 => ktr_room); (case k9 => first | exact BindsTo.of_eq rfl | exact binds_K (by k_in) rfl (by k_is) rfl rfl rfl | exact kp_binds (by k_in) (fun _ => rfl) | fail "k_enter: no rule for these arguments"); (case c5 => decide); (case kB => exact locs rfl); (case c2 => exact rfl); (case c3 => exact rfl); (case c4 => exact rfl); k_whole; intro g' L' h' FG' F' N' B' X' T'; (try dsimp only); (try k_lift B'); (try k_fold))
  k_with_none
  (k_with "len" => (k_dflt (refine' kst_len (us := its) (k := lines.length) ?k1 hmem hS.length ?k4 ?_; (case k1 => k_asm); (case k4 => omega))))
  (k_with "while" => ((with_unfolding_all refine' loop_l71 (its := its) x _ lines hS hlen ?k1 (frame_as _ ?k2 ?k3) ?k4 ?k5 ?k6 ?k7 ?k8 hmem ?k9 ?ka ?kb hsz c hc hmono ?kE ?_); (case k1 => k_asm); (case k2 => k_asm); (case k3 => kst_all); (case k4 => k_asm); (case k5 => k_asm); (case k6 => k_asm); (case k7 => ktr_room); (case k8 => ktr_units); (case k9 => omega); (case ka => omega); (case kb => omega); (case kE => passes_own); intro r9 tr9 th9 hi9 u9 h9 tk9 hr9 F9 N9; dsimp only [kstB] at F9))
  k_steps
  exact hret _ _ _ ⟨_, _, rfl, (by assumption)⟩ (by k_asm) (by k_asm)
theorem bis_ln_1 {w : World} {d : Addr} {its : List Value} {n : Nat} (xv : Value) (xn : Nm) (hx : NmIs xv xn) {news : List (Addr × Obj)}  (ns : List Nm) (hS : NmsAre its ns) (hmem : (d, W.listOf its.toArray n) ∈ news) (hsz : ns.length < 1000) 
  (c : Nat → Bool) (hc : ∀ i, i < ns.length → (decide ((ns.getD i (.i 0)).val < xn.val)) = c i) (hmono : ∀ i j : Nat, i ≤ j → j < ns.length → c j = true → c i = true) :
   Spec w 3 57 [.ref d, xv] [] news news (fun v => ∃ r t, v = .int r t ∧ BisRes 0 ns.length c r) := by
  unfold Spec; intros; rename_i hret
  refine wpAny_call ?_
  k_dflt (refine' code_def ?k1 ?k2 ?k3 ?k4 ?k5 ?kA ?kF ?kK ?k6 ?k7 ?k8 ?k9 ?kB ?_ ?c2 ?c3 ?c4 ?c5; (case kA => exact rfl); (case kF => exact rfl); (case kK => assumption); (case k1 => k_asm); (case k2 => k_asm); (case k3 => k_asm); (case k4 => k_asm); (case k5 => k_asm); (case k6 => k_is); (case k7 => k_is); (case k8 => ktr_room); (case k9 => first | exact BindsTo.of_eq rfl | exact binds_K (by k_in) rfl (by k_is) rfl rfl rfl | exact kp_binds (by k_in) (fun _ => rfl) | fail "k_enter: no rule for these arguments"); (case c5 => decide); (case kB => exact locs rfl); (case c2 => exact rfl); (case c3 => exact rfl); (case c4 => exact rfl); k_whole; intro g' L' h' FG' F' N' B' X' T'; (try dsimp only); (try k_lift B'); (try k_fold))
  k_with_none
  (k_with "len" => (k_dflt (refine' kst_len (us := its) (k := ns.length) ?k1 hmem hS.length ?k4 ?_; (case k1 => k_asm); (case k4 => omega))))
  (k_with "while" => ((with_unfolding_all refine' loop_ln (its := its) xv xn hx ns hS ?k1 (frame_as _ ?k2 ?k3) ?k4 ?k5 ?k6 ?k7 ?k8 hmem ?k9 ?ka ?kb hsz c hc hmono ?kE ?_); (case k1 => k_asm); (case k2 => k_asm); (case k3 => kst_all); (case k4 => k_asm); (case k5 => k_asm); (case k6 => k_asm); (case k7 => ktr_room); (case k8 => ktr_units); (case k9 => omega); (case ka => omega); (case kb => omega); (case kE => passes_own); intro r9 tr9 th9 hi9 u9 h9 tk9 hr9 F9 N9; dsimp only [kstB] at F9))
  k_steps
  exact hret _ _ _ ⟨_, _, rfl, (by assumption)⟩ (by k_asm) (by k_asm)
theorem bis_ln_2 {w : World} {d : Addr} {its : List Value} {n : Nat} (xv : Value) (xn : Nm) (hx : NmIs xv xn) {news : List (Addr × Obj)} (lo hi : Int) (tl th : Tok) (ns : List Nm) (hS : NmsAre its ns) (hmem : (d, W.listOf its.toArray n) ∈ news) (hsz : ns.length < 1000) (h0 : 0 ≤ lo) (hlh : lo ≤ hi) (hhi : hi ≤ ns.length)
  (c : Nat → Bool) (hc : ∀ i, i < ns.length → (decide ((ns.getD i (.i 0)).val < xn.val)) = c i) (hmono : ∀ i j : Nat, i ≤ j → j < ns.length → c j = true → c i = true) :
   Spec w 3 57 [.ref d, xv, .int lo tl, .int hi th] [] news news (fun v => ∃ r t, v = .int r t ∧ BisRes lo hi c r) := by
  unfold Spec; intros; rename_i hret
  refine wpAny_call ?_
  k_dflt (refine' code_def ?k1 ?k2 ?k3 ?k4 ?k5 ?kA ?kF ?kK ?k6 ?k7 ?k8 ?k9 ?kB ?_ ?c2 ?c3 ?c4 ?c5; (case kA => exact rfl); (case kF => exact rfl); (case kK => assumption); (case k1 => k_asm); (case k2 => k_asm); (case k3 => k_asm); (case k4 => k_asm); (case k5 => k_asm); (case k6 => k_is); (case k7 => k_is); (case k8 => ktr_room); (case k9 => first | exact BindsTo.of_eq rfl | exact binds_K (by k_in) rfl (by k_is) rfl rfl rfl | exact kp_binds (by k_in) (fun _ => rfl) | fail "k_enter: no rule for these arguments"); (case c5 => decide); (case kB => exact locs rfl); (case c2 => exact rfl); (case c3 => exact rfl); (case c4 => exact rfl); k_whole; intro g' L' h' FG' F' N' B' X' T'; (try dsimp only); (try k_lift B'); (try k_fold))
  k_with_none
  (k_with "len" => (k_dflt (refine' kst_len (us := its) (k := ns.length) ?k1 hmem hS.length ?k4 ?_; (case k1 => k_asm); (case k4 => omega))))
  (k_with "while" => ((with_unfolding_all refine' loop_ln (its := its) xv xn hx ns hS ?k1 (frame_as _ ?k2 ?k3) ?k4 ?k5 ?k6 ?k7 ?k8 hmem ?k9 ?ka ?kb hsz c hc hmono ?kE ?_); (case k1 => k_asm); (case k2 => k_asm); (case k3 => kst_all); (case k4 => k_asm); (case k5 => k_asm); (case k6 => k_asm); (case k7 => ktr_room); (case k8 => ktr_units); (case k9 => omega); (case ka => omega); (case kb => omega); (case kE => passes_own); intro r9 tr9 th9 hi9 u9 h9 tk9 hr9 F9 N9; dsimp only [kstB] at F9))
  k_steps
  exact hret _ _ _ ⟨_, _, rfl, (by assumption)⟩ (by k_asm) (by k_asm)
theorem bis_ln_3 {w : World} {d : Addr} {its : List Value} {n : Nat} (xv : Value) (xn : Nm) (hx : NmIs xv xn) {news : List (Addr × Obj)} (lo : Int) (tl : Tok) (ns : List Nm) (hS : NmsAre its ns) (hmem : (d, W.listOf its.toArray n) ∈ news) (hsz : ns.length < 1000) (h0 : 0 ≤ lo) (hlh : lo ≤ ns.length)
  (c : Nat → Bool) (hc : ∀ i, i < ns.length → (decide ((ns.getD i (.i 0)).val < xn.val)) = c i) (hmono : ∀ i j : Nat, i ≤ j → j < ns.length → c j = true → c i = true) :
   Spec w 3 57 [.ref d, xv, .int lo tl, .none] [] news news (fun v => ∃ r t, v = .int r t ∧ BisRes lo ns.length c r) := by
  unfold Spec; intros; rename_i hret
  refine wpAny_call ?_
  k_dflt (refine' code_def ?k1 ?k2 ?k3 ?k4 ?k5 ?kA ?kF ?kK ?k6 ?k7 ?k8 ?k9 ?kB ?_ ?c2 ?c3 ?c4 ?c5; (case kA => exact rfl); (case kF => exact rfl); (case kK => assumption); (case k1 => k_asm); (case k2 => k_asm); (case k3 => k_asm); (case k4 => k_asm); (case k5 => k_asm); (case k6 => k_is); (case k7 => k_is); (case k8 => ktr_room); (case k9 => first | exact BindsTo.of_eq rfl | exact binds_K (by k_in) rfl (by k_is) rfl rfl rfl | exact kp_binds (by k_in) (fun _ => rfl) | fail "k_enter: no rule for these arguments"); (case c5 => decide); (case kB => exact locs rfl); (case c2 => exact rfl); (case c3 => exact rfl); (case c4 => exact rfl); k_whole; intro g' L' h' FG' F' N' B' X' T'; (try dsimp only); (try k_lift B'); (try k_fold))
  k_with_none
  (k_with "len" => (k_dflt (refine' kst_len (us := its) (k := ns.length) ?k1 hmem hS.length ?k4 ?_; (case k1 => k_asm); (case k4 => omega))))
  (k_with "while" => ((with_unfolding_all refine' loop_ln (its := its) xv xn hx ns hS ?k1 (frame_as _ ?k2 ?k3) ?k4 ?k5 ?k6 ?k7 ?k8 hmem ?k9 ?ka ?kb hsz c hc hmono ?kE ?_); (case k1 => k_asm); (case k2 => k_asm); (case k3 => kst_all); (case k4 => k_asm); (case k5 => k_asm); (case k6 => k_asm); (case k7 => ktr_room); (case k8 => ktr_units); (case k9 => omega); (case ka => omega); (case kb => omega); (case kE => passes_own); intro r9 tr9 th9 hi9 u9 h9 tk9 hr9 F9 N9; dsimp only [kstB] at F9))
  k_steps
  exact hret _ _ _ ⟨_, _, rfl, (by assumption)⟩ (by k_asm) (by k_asm)
theorem bis_r64_1 {w : World} {d : Addr} {its : List Value} {n : Nat} (x : Str) (tx : Tok) {news : List (Addr × Obj)}  (lines : List Str) (hS : StrsAre its lines) (hlen : ∀ l ∈ lines, l.length ≤ 100) (hmem : (d, W.listOf its.toArray n) ∈ news) (hsz : lines.length < 1000) 
  (c : Nat → Bool) (hc : ∀ i, i < lines.length → (!StrLt x (Txt.slice (lines.getD i Str.empty) (some 2) (some 3))) = c i) (hmono : ∀ i j : Nat, i ≤ j → j < lines.length → c j = true → c i = true) :
   Spec w 3 39 [.ref d, .str x tx] [(Str.ofString "key", .ref 64)] news news (fun v => ∃ r t, v = .int r t ∧ BisRes 0 lines.length c r) := by
  unfold Spec; intros; rename_i hret
  refine wpAny_call ?_
  k_dflt (refine' code_def ?k1 ?k2 ?k3 ?k4 ?k5 ?kA ?kF ?kK ?k6 ?k7 ?k8 ?k9 ?kB ?_ ?c2 ?c3 ?c4 ?c5; (case kA => exact rfl); (case kF => exact rfl); (case kK => assumption); (case k1 => k_asm); (case k2 => k_asm); (case k3 => k_asm); (case k4 => k_asm); (case k5 => k_asm); (case k6 => k_is); (case k7 => k_is); (case k8 => ktr_room); (case k9 => first | exact BindsTo.of_eq rfl | exact binds_K (by k_in) rfl (by k_is) rfl rfl rfl | exact kp_binds (by k_in) (fun _ => rfl) | fail "k_enter: no rule for these arguments"); (case c5 => decide); (case kB => exact locs rfl); (case c2 => exact rfl); (case c3 => exact rfl); (case c4 => exact rfl); k_whole; intro g' L' h' FG' F' N' B' X' T'; (try dsimp only); (try k_lift B'); (try k_fold))
  k_with_none
  (k_with "len" => (k_dflt (refine' kst_len (us := its) (k := lines.length) ?k1 hmem hS.length ?k4 ?_; (case k1 => k_asm); (case k4 => omega))))
  (k_with "while" => ((with_unfolding_all refine' loop_r64 (its := its) x _ lines hS hlen ?k1 (frame_as _ ?k2 ?k3) ?k4 ?k5 ?k6 ?k7 ?k8 hmem ?k9 ?ka ?kb hsz c hc hmono ?kE ?_); (case k1 => k_asm); (case k2 => k_asm); (case k3 => kst_all); (case k4 => k_asm); (case k5 => k_asm); (case k6 => k_asm); (case k7 => ktr_room); (case k8 => ktr_units); (case k9 => omega); (case ka => omega); (case kb => omega); (case kE => passes_own); intro r9 tr9 th9 hi9 u9 h9 tk9 hr9 F9 N9; dsimp only [kstB] at F9))
  k_steps
  exact hret _ _ _ ⟨_, _, rfl, (by assumption)⟩ (by k_asm) (by k_asm)
theorem bis_r64_2 {w : World} {d : Addr} {its : List Value} {n : Nat} (x : Str) (tx : Tok) {news : List (Addr × Obj)} (lo hi : Int) (tl th : Tok) (lines : List Str) (hS : StrsAre its lines) (hlen : ∀ l ∈ lines, l.length ≤ 100) (hmem : (d, W.listOf its.toArray n) ∈ news) (hsz : lines.length < 1000) (h0 : 0 ≤ lo) (hlh : lo ≤ hi) (hhi : hi ≤ lines.length)
  (c : Nat → Bool) (hc : ∀ i, i < lines.length → (!StrLt x (Txt.slice (lines.getD i Str.empty) (some 2) (some 3))) = c i) (hmono : ∀ i j : Nat, i ≤ j → j < lines.length → c j = true → c i = true) :
   Spec w 3 39 [.ref d, .str x tx, .int lo tl, .int hi th] [(Str.ofString "key", .ref 64)] news news (fun v => ∃ r t, v = .int r t ∧ BisRes lo hi c r) := by
  unfold Spec; intros; rename_i hret
  refine wpAny_call ?_
  k_dflt (refine' code_def ?k1 ?k2 ?k3 ?k4 ?k5 ?kA ?kF ?kK ?k6 ?k7 ?k8 ?k9 ?kB ?_ ?c2 ?c3 ?c4 ?c5; (case kA => exact rfl); (case kF => exact rfl); (case kK => assumption); (case k1 => k_asm); (case k2 => k_asm); (case k3 => k_asm); (case k4 => k_asm); (case k5 => k_asm); (case k6 => k_is); (case k7 => k_is); (case k8 => ktr_room); (case k9 => first | exact BindsTo.of_eq rfl | exact binds_K (by k_in) rfl (by k_is) rfl rfl rfl | exact kp_binds (by k_in) (fun _ => rfl) | fail "k_enter: no rule for these arguments"); (case c5 => decide); (case kB => exact locs rfl); (case c2 => exact rfl); (case c3 => exact rfl); (case c4 => exact rfl); k_whole; intro g' L' h' FG' F' N' B' X' T'; (try dsimp only); (try k_lift B'); (try k_fold))
  k_with_none
  (k_with "len" => (k_dflt (refine' kst_len (us := its) (k := lines.length) ?k1 hmem hS.length ?k4 ?_; (case k1 => k_asm); (case k4 => omega))))
  (k_with "while" => ((with_unfolding_all refine' loop_r64 (its := its) x _ lines hS hlen ?k1 (frame_as _ ?k2 ?k3) ?k4 ?k5 ?k6 ?k7 ?k8 hmem ?k9 ?ka ?kb hsz c hc hmono ?kE ?_); (case k1 => k_asm); (case k2 => k_asm); (case k3 => kst_all); (case k4 => k_asm); (case k5 => k_asm); (case k6 => k_asm); (case k7 => ktr_room); (case k8 => ktr_units); (case k9 => omega); (case ka => omega); (case kb => omega); (case kE => passes_own); intro r9 tr9 th9 hi9 u9 h9 tk9 hr9 F9 N9; dsimp only [kstB] at F9))
  k_steps
  exact hret _ _ _ ⟨_, _, rfl, (by assumption)⟩ (by k_asm) (by k_asm)
theorem bis_r64_3 {w : World} {d : Addr} {its : List Value} {n : Nat} (x : Str) (tx : Tok) {news : List (Addr × Obj)} (lo : Int) (tl : Tok) (lines : List Str) (hS : StrsAre its lines) (hlen : ∀ l ∈ lines, l.length ≤ 100) (hmem : (d, W.listOf its.toArray n) ∈ news) (hsz : lines.length < 1000) (h0 : 0 ≤ lo) (hlh : lo ≤ lines.length)
  (c : Nat → Bool) (hc : ∀ i, i < lines.length → (!StrLt x (Txt.slice (lines.getD i Str.empty) (some 2) (some 3))) = c i) (hmono : ∀ i j : Nat, i ≤ j → j < lines.length → c j = true → c i = true) :
   Spec w 3 39 [.ref d, .str x tx, .int lo tl, .none] [(Str.ofString "key", .ref 64)] news news (fun v => ∃ r t, v = .int r t ∧ BisRes lo lines.length c r) := by
  unfold Spec; intros; rename_i hret
  refine wpAny_call ?_
  k_dflt (refine' code_def ?k1 ?k2 ?k3 ?k4 ?k5 ?kA ?kF ?kK ?k6 ?k7 ?k8 ?k9 ?kB ?_ ?c2 ?c3 ?c4 ?c5; (case kA => exact rfl); (case kF => exact rfl); (case kK => assumption); (case k1 => k_asm); (case k2 => k_asm); (case k3 => k_asm); (case k4 => k_asm); (case k5 => k_asm); (case k6 => k_is); (case k7 => k_is); (case k8 => ktr_room); (case k9 => first | exact BindsTo.of_eq rfl | exact binds_K (by k_in) rfl (by k_is) rfl rfl rfl | exact kp_binds (by k_in) (fun _ => rfl) | fail "k_enter: no rule for these arguments"); (case c5 => decide); (case kB => exact locs rfl); (case c2 => exact rfl); (case c3 => exact rfl); (case c4 => exact rfl); k_whole; intro g' L' h' FG' F' N' B' X' T'; (try dsimp only); (try k_lift B'); (try k_fold))
  k_with_none
  (k_with "len" => (k_dflt (refine' kst_len (us := its) (k := lines.length) ?k1 hmem hS.length ?k4 ?_; (case k1 => k_asm); (case k4 => omega))))
  (k_with "while" => ((with_unfolding_all refine' loop_r64 (its := its) x _ lines hS hlen ?k1 (frame_as _ ?k2 ?k3) ?k4 ?k5 ?k6 ?k7 ?k8 hmem ?k9 ?ka ?kb hsz c hc hmono ?kE ?_); (case k1 => k_asm); (case k2 => k_asm); (case k3 => kst_all); (case k4 => k_asm); (case k5 => k_asm); (case k6 => k_asm); (case k7 => ktr_room); (case k8 => ktr_units); (case k9 => omega); (case ka => omega); (case kb => omega); (case kE => passes_own); intro r9 tr9 th9 hi9 u9 h9 tk9 hr9 F9 N9; dsimp only [kstB] at F9))
  k_steps
  exact hret _ _ _ ⟨_, _, rfl, (by assumption)⟩ (by k_asm) (by k_asm)
theorem bis_r71_1 {w : World} {d : Addr} {its : List Value} {n : Nat} (x : Str) (tx : Tok) {news : List (Addr × Obj)}  (lines : List Str) (hS : StrsAre its lines) (hlen : ∀ l ∈ lines, l.length ≤ 100) (hmem : (d, W.listOf its.toArray n) ∈ news) (hsz : lines.length < 1000) 
  (c : Nat → Bool) (hc : ∀ i, i < lines.length → (!StrLt x (Txt.slice (lines.getD i Str.empty) none (some 1))) = c i) (hmono : ∀ i j : Nat, i ≤ j → j < lines.length → c j = true → c i = true) :
   Spec w 3 39 [.ref d, .str x tx] [(Str.ofString "key", .ref 71)] news news (fun v => ∃ r t, v = .int r t ∧ BisRes 0 lines.length c r) := by
  unfold Spec; intros; rename_i hret
  refine wpAny_call ?_
  k_dflt (refine' code_def ?k1 ?k2 ?k3 ?k4 ?k5 ?kA ?kF ?kK ?k6 ?k7 ?k8 ?k9 ?kB ?_ ?c2 ?c3 ?c4 ?c5; (case kA => exact rfl); (case kF => exact rfl); (case kK => assumption); (case k1 => k_asm); (case k2 => k_asm); (case k3 => k_asm); (case k4 => k_asm); (case k5 => k_asm); (case k6 => k_is); (case k7 => k_is); (case k8 => ktr_room); (case k9 => first | exact BindsTo.of_eq rfl | exact binds_K (by k_in) rfl (by k_is) rfl rfl rfl | exact kp_binds (by k_in) (fun _ => rfl) | fail "k_enter: no rule for these arguments"); (case c5 => decide); (case kB => exact locs rfl); (case c2 => exact rfl); (case c3 => exact rfl); (case c4 => exact rfl); k_whole; intro g' L' h' FG' F' N' B' X' T'; (try dsimp only); (try k_lift B'); (try k_fold))
  k_with_none
  (k_with "len" => (k_dflt (refine' kst_len (us := its) (k := lines.length) ?k1 hmem hS.length ?k4 ?_; (case k1 => k_asm); (case k4 => omega))))
  (k_with "while" => ((with_unfolding_all refine' loop_r71 (its := its) x _ lines hS hlen ?k1 (frame_as _ ?k2 ?k3) ?k4 ?k5 ?k6 ?k7 ?k8 hmem ?k9 ?ka ?kb hsz c hc hmono ?kE ?_); (case k1 => k_asm); (case k2 => k_asm); (case k3 => kst_all); (case k4 => k_asm); (case k5 => k_asm); (case k6 => k_asm); (case k7 => ktr_room); (case k8 => ktr_units); (case k9 => omega); (case ka => omega); (case kb => omega); (case kE => passes_own); intro r9 tr9 th9 hi9 u9 h9 tk9 hr9 F9 N9; dsimp only [kstB] at F9))
  k_steps
  exact hret _ _ _ ⟨_, _, rfl, (by assumption)⟩ (by k_asm) (by k_asm)
theorem bis_r71_3 {w : World} {d : Addr} {its : List Value} {n : Nat} (x : Str) (tx : Tok) {news : List (Addr × Obj)} (lo : Int) (tl : Tok) (lines : List Str) (hS : StrsAre its lines) (hlen : ∀ l ∈ lines, l.length ≤ 100) (hmem : (d, W.listOf its.toArray n) ∈ news) (hsz : lines.length < 1000) (h0 : 0 ≤ lo) (hlh : lo ≤ lines.length)
  (c : Nat → Bool) (hc : ∀ i, i < lines.length → (!StrLt x (Txt.slice (lines.getD i Str.empty) none (some 1))) = c i) (hmono : ∀ i j : Nat, i ≤ j → j < lines.length → c j = true → c i = true) :
   Spec w 3 39 [.ref d, .str x tx, .int lo tl, .none] [(Str.ofString "key", .ref 71)] news news (fun v => ∃ r t, v = .int r t ∧ BisRes lo lines.length c r) := by
  unfold Spec; intros; rename_i hret
  refine wpAny_call ?_
  k_dflt (refine' code_def ?k1 ?k2 ?k3 ?k4 ?k5 ?kA ?kF ?kK ?k6 ?k7 ?k8 ?k9 ?kB ?_ ?c2 ?c3 ?c4 ?c5; (case kA => exact rfl); (case kF => exact rfl); (case kK => assumption); (case k1 => k_asm); (case k2 => k_asm); (case k3 => k_asm); (case k4 => k_asm); (case k5 => k_asm); (case k6 => k_is); (case k7 => k_is); (case k8 => ktr_room); (case k9 => first | exact BindsTo.of_eq rfl | exact binds_K (by k_in) rfl (by k_is) rfl rfl rfl | exact kp_binds (by k_in) (fun _ => rfl) | fail "k_enter: no rule for these arguments"); (case c5 => decide); (case kB => exact locs rfl); (case c2 => exact rfl); (case c3 => exact rfl); (case c4 => exact rfl); k_whole; intro g' L' h' FG' F' N' B' X' T'; (try dsimp only); (try k_lift B'); (try k_fold))
  k_with_none
  (k_with "len" => (k_dflt (refine' kst_len (us := its) (k := lines.length) ?k1 hmem hS.length ?k4 ?_; (case k1 => k_asm); (case k4 => omega))))
  (k_with "while" => ((with_unfolding_all refine' loop_r71 (its := its) x _ lines hS hlen ?k1 (frame_as _ ?k2 ?k3) ?k4 ?k5 ?k6 ?k7 ?k8 hmem ?k9 ?ka ?kb hsz c hc hmono ?kE ?_); (case k1 => k_asm); (case k2 => k_asm); (case k3 => kst_all); (case k4 => k_asm); (case k5 => k_asm); (case k6 => k_asm); (case k7 => ktr_room); (case k8 => ktr_units); (case k9 => omega); (case ka => omega); (case kb => omega); (case kE => passes_own); intro r9 tr9 th9 hi9 u9 h9 tk9 hr9 F9 N9; dsimp only [kstB] at F9))
  k_steps
  exact hret _ _ _ ⟨_, _, rfl, (by assumption)⟩ (by k_asm) (by k_asm)
theorem bis_rn_1 {w : World} {d : Addr} {its : List Value} {n : Nat} (xv : Value) (xn : Nm) (hx : NmIs xv xn) {news : List (Addr × Obj)}  (ns : List Nm) (hS : NmsAre its ns) (hmem : (d, W.listOf its.toArray n) ∈ news) (hsz : ns.length < 1000) 
  (c : Nat → Bool) (hc : ∀ i, i < ns.length → (!decide (xn.val < (ns.getD i (.i 0)).val)) = c i) (hmono : ∀ i j : Nat, i ≤ j → j < ns.length → c j = true → c i = true) :
   Spec w 3 39 [.ref d, xv] [] news news (fun v => ∃ r t, v = .int r t ∧ BisRes 0 ns.length c r) := by
  unfold Spec; intros; rename_i hret
  refine wpAny_call ?_
  k_dflt (refine' code_def ?k1 ?k2 ?k3 ?k4 ?k5 ?kA ?kF ?kK ?k6 ?k7 ?k8 ?k9 ?kB ?_ ?c2 ?c3 ?c4 ?c5; (case kA => exact rfl); (case kF => exact rfl); (case kK => assumption); (case k1 => k_asm); (case k2 => k_asm); (case k3 => k_asm); (case k4 => k_asm); (case k5 => k_asm); (case k6 => k_is); (case k7 => k_is); (case k8 => ktr_room); (case k9 => first | exact BindsTo.of_eq rfl | exact binds_K (by k_in) rfl (by k_is) rfl rfl rfl | exact kp_binds (by k_in) (fun _ => rfl) | fail "k_enter: no rule for these arguments"); (case c5 => decide); (case kB => exact locs rfl); (case c2 => exact rfl); (case c3 => exact rfl); (case c4 => exact rfl); k_whole; intro g' L' h' FG' F' N' B' X' T'; (try dsimp only); (try k_lift B'); (try k_fold))
  k_with_none
  (k_with "len" => (k_dflt (refine' kst_len (us := its) (k := ns.length) ?k1 hmem hS.length ?k4 ?_; (case k1 => k_asm); (case k4 => omega))))
  (k_with "while" => ((with_unfolding_all refine' loop_rn (its := its) xv xn hx ns hS ?k1 (frame_as _ ?k2 ?k3) ?k4 ?k5 ?k6 ?k7 ?k8 hmem ?k9 ?ka ?kb hsz c hc hmono ?kE ?_); (case k1 => k_asm); (case k2 => k_asm); (case k3 => kst_all); (case k4 => k_asm); (case k5 => k_asm); (case k6 => k_asm); (case k7 => ktr_room); (case k8 => ktr_units); (case k9 => omega); (case ka => omega); (case kb => omega); (case kE => passes_own); intro r9 tr9 th9 hi9 u9 h9 tk9 hr9 F9 N9; dsimp only [kstB] at F9))
  k_steps
  exact hret _ _ _ ⟨_, _, rfl, (by assumption)⟩ (by k_asm) (by k_asm)
theorem bis_rn_2 {w : World} {d : Addr} {its : List Value} {n : Nat} (xv : Value) (xn : Nm) (hx : NmIs xv xn) {news : List (Addr × Obj)} (lo hi : Int) (tl th : Tok) (ns : List Nm) (hS : NmsAre its ns) (hmem : (d, W.listOf its.toArray n) ∈ news) (hsz : ns.length < 1000) (h0 : 0 ≤ lo) (hlh : lo ≤ hi) (hhi : hi ≤ ns.length)
  (c : Nat → Bool) (hc : ∀ i, i < ns.length → (!decide (xn.val < (ns.getD i (.i 0)).val)) = c i) (hmono : ∀ i j : Nat, i ≤ j → j < ns.length → c j = true → c i = true) :
   Spec w 3 39 [.ref d, xv, .int lo tl, .int hi th] [] news news (fun v => ∃ r t, v = .int r t ∧ BisRes lo hi c r) := by
  unfold Spec; intros; rename_i hret
  refine wpAny_call ?_
  k_dflt (refine' code_def ?k1 ?k2 ?k3 ?k4 ?k5 ?kA ?kF ?kK ?k6 ?k7 ?k8 ?k9 ?kB ?_ ?c2 ?c3 ?c4 ?c5; (case kA => exact rfl); (case kF => exact rfl); (case kK => assumption); (case k1 => k_asm); (case k2 => k_asm); (case k3 => k_asm); (case k4 => k_asm); (case k5 => k_asm); (case k6 => k_is); (case k7 => k_is); (case k8 => ktr_room); (case k9 => first | exact BindsTo.of_eq rfl | exact binds_K (by k_in) rfl (by k_is) rfl rfl rfl | exact kp_binds (by k_in) (fun _ => rfl) | fail "k_enter: no rule for these arguments"); (case c5 => decide); (case kB => exact locs rfl); (case c2 => exact rfl); (case c3 => exact rfl); (case c4 => exact rfl); k_whole; intro g' L' h' FG' F' N' B' X' T'; (try dsimp only); (try k_lift B'); (try k_fold))
  k_with_none
  (k_with "len" => (k_dflt (refine' kst_len (us := its) (k := ns.length) ?k1 hmem hS.length ?k4 ?_; (case k1 => k_asm); (case k4 => omega))))
  (k_with "while" => ((with_unfolding_all refine' loop_rn (its := its) xv xn hx ns hS ?k1 (frame_as _ ?k2 ?k3) ?k4 ?k5 ?k6 ?k7 ?k8 hmem ?k9 ?ka ?kb hsz c hc hmono ?kE ?_); (case k1 => k_asm); (case k2 => k_asm); (case k3 => kst_all); (case k4 => k_asm); (case k5 => k_asm); (case k6 => k_asm); (case k7 => ktr_room); (case k8 => ktr_units); (case k9 => omega); (case ka => omega); (case kb => omega); (case kE => passes_own); intro r9 tr9 th9 hi9 u9 h9 tk9 hr9 F9 N9; dsimp only [kstB] at F9))
  k_steps
  exact hret _ _ _ ⟨_, _, rfl, (by assumption)⟩ (by k_asm) (by k_asm)
theorem bis_rn_3 {w : World} {d : Addr} {its : List Value} {n : Nat} (xv : Value) (xn : Nm) (hx : NmIs xv xn) {news : List (Addr × Obj)} (lo : Int) (tl : Tok) (ns : List Nm) (hS : NmsAre its ns) (hmem : (d, W.listOf its.toArray n) ∈ news) (hsz : ns.length < 1000) (h0 : 0 ≤ lo) (hlh : lo ≤ ns.length)
  (c : Nat → Bool) (hc : ∀ i, i < ns.length → (!decide (xn.val < (ns.getD i (.i 0)).val)) = c i) (hmono : ∀ i j : Nat, i ≤ j → j < ns.length → c j = true → c i = true) :
   Spec w 3 39 [.ref d, xv, .int lo tl, .none] [] news news (fun v => ∃ r t, v = .int r t ∧ BisRes lo ns.length c r) := by
  unfold Spec; intros; rename_i hret
  refine wpAny_call ?_
  k_dflt (refine' code_def ?k1 ?k2 ?k3 ?k4 ?k5 ?kA ?kF ?kK ?k6 ?k7 ?k8 ?k9 ?kB ?_ ?c2 ?c3 ?c4 ?c5; (case kA => exact rfl); (case kF => exact rfl); (case kK => assumption); (case k1 => k_asm); (case k2 => k_asm); (case k3 => k_asm); (case k4 => k_asm); (case k5 => k_asm); (case k6 => k_is); (case k7 => k_is); (case k8 => ktr_room); (case k9 => first | exact BindsTo.of_eq rfl | exact binds_K (by k_in) rfl (by k_is) rfl rfl rfl | exact kp_binds (by k_in) (fun _ => rfl) | fail "k_enter: no rule for these arguments"); (case c5 => decide); (case kB => exact locs rfl); (case c2 => exact rfl); (case c3 => exact rfl); (case c4 => exact rfl); k_whole; intro g' L' h' FG' F' N' B' X' T'; (try dsimp only); (try k_lift B'); (try k_fold))
  k_with_none
  (k_with "len" => (k_dflt (refine' kst_len (us := its) (k := ns.length) ?k1 hmem hS.length ?k4 ?_; (case k1 => k_asm); (case k4 => omega))))
  (k_with "while" => ((with_unfolding_all refine' loop_rn (its := its) xv xn hx ns hS ?k1 (frame_as _ ?k2 ?k3) ?k4 ?k5 ?k6 ?k7 ?k8 hmem ?k9 ?ka ?kb hsz c hc hmono ?kE ?_); (case k1 => k_asm); (case k2 => k_asm); (case k3 => kst_all); (case k4 => k_asm); (case k5 => k_asm); (case k6 => k_asm); (case k7 => ktr_room); (case k8 => ktr_units); (case k9 => omega); (case ka => omega); (case kb => omega); (case kE => passes_own); intro r9 tr9 th9 hi9 u9 h9 tk9 hr9 F9 N9; dsimp only [kstB] at F9))
  k_steps
  exact hret _ _ _ ⟨_, _, rfl, (by assumption)⟩ (by k_asm) (by k_asm)
end
end Mine
end

section
open PySem PySem.W PyProof.Rows
set_option Elab.async false
set_option maxRecDepth 100000
set_option maxHeartbeats 8000000
set_option linter.unusedVariables false
namespace Mine
theorem updF_upd {d : Addr} {o o' : Obj} {news : List (Addr × Obj)} {g : Obj → List (Addr × Obj)} (U : UpdF d o news g) : Upd d o o' news (g o') := by
  induction U with
  | head h => exact .head h
  | tail h _ ih => exact .tail h ih
theorem updF_mem {d : Addr} {o : Obj} {news : List (Addr × Obj)} {g : Obj → List (Addr × Obj)} (U : UpdF d o news g) : (d, o) ∈ news := by
  induction U with
  | head h => exact .head _
  | tail h _ ih => exact .tail _ ih
/-- the row with one laid in -/
def ins {α : Type} (l : List α) (r : Int) (y : α) : List α := l.take r.toNat ++ y :: l.drop r.toNat
theorem kl_ins_of {l : List Value} {r : Int} {y : Value} (h0 : 0 ≤ r) (h1 : r ≤ l.length) : kl_ins l r y = ins l r y := by
  unfold kl_ins ins
  rw [if_neg (by omega), Nat.min_eq_left (by omega)]
theorem fits_of {x : Int} (h0 : 0 ≤ x) (h1 : x < 1000) : Builtin.List.listFitsIndex x = true := by
  unfold Builtin.List.listFitsIndex
  simp
  omega
section
variable {prog : Program} {w : World} {A : Around} {E : Value → Shared → Prop} {s : Shared} {h₀ : Heap} {L D : Addr} {m : Str → Option Value} {news : List (Addr × Obj)} {g : Obj → List (Addr × Obj)} {its : List Value} {n : Nat}
theorem insert_at {x : Int} {u : Tok} {y : Value} {Q : Value → Shared → Prop} (F : Fr h₀ L s.heap m) (N : News h₀ L s.heap news) (U : UpdF D (W.listOf its.toArray n) news g)
    (h0 : 0 ≤ x) (h1 : x ≤ its.length) (hz : its.length < 1000) (h : ∀ h', Fr h₀ L h' m → News h₀ L h' (g (W.listOf (ins its x y).toArray (n + 1))) → Q .none { s with heap := h' }) :
    wpAny (model prog w) A (call (.builtin "list.insert") [.ref D, .int x u, y]) Q E s :=
  kl_insert F N (fits_of h0 (by omega)) (by rw [List.toList_toArray]; exact kl_ins_of h0 h1) (updF_upd U) (by rw [List.toList_toArray]; unfold sizeLine; omega) h
end
/-- what a call gives back where the ledger's turn hangs on what came out -/
abbrev SpecR {ι : Type} (w : World) (k : Nat) (f : Addr) (vs : List Value) (kw : List (Str × Value)) (news : List (Addr × Obj)) (news' : ι → List (Addr × Obj)) (res : ι → Value → Prop) : Prop :=
  ∀ (p : Program) (loose : List Str) (mean : ExcName → Option Value) (mg mb : Str → Option Value) (dp un : Nat) (gd : Option (List Code)) (cn : Str) (cs : Scope) (a : Addr) (ccd : Value) (cl : List (Str × Addr)) (outer : List Env) (A₀ : Around) (base h₀ : Heap) (L : Addr) (m : Str → Option Value) (s : Shared) (Q E : Value → Shared → Prop),
    Below A₀ base outer h₀ → Fr h₀ L s.heap m → (hd.heap_39 w.params).In h₀ → News h₀ L s.heap news → Top p loose mean mg mb h₀ → cs.kind = .function →
    dp + k < recursionLimit → un + 8 * k < cLine → (∀ i v h' tk', res i v → Fr h₀ L h' m → News h₀ L h' (news' i) → Q v { s with heap := h', toks := tk' }) →
      wpAny (model PySem.Challenge.rw_nb0156_01.row.prog w) (ktrTop dp un gd cn cs L a ccd cl outer) (call (.ref f) vs kw) Q E s
end Mine
end

section
open PySem PySem.W PyProof.Rows
set_option Elab.async false
set_option maxRecDepth 100000
set_option maxHeartbeats 8000000
set_option linter.unusedVariables false
namespace Mine
theorem fillK3 (w : World) (h : Heap) (_ : (hd.heap_39 w.params).In h) : PySem.Challenge.rw_nb0156_01.row.prog = PySem.Challenge.rw_nb0156_01.row.prog ∧ (hd.heap_39 w.params) = hd.heap_39 w.params := by
  k_fill
  exact ⟨rfl, rfl⟩
section
theorem reset2 : True := by
  w_top off
  exact trivial
local macro_rules | `(tactic| walk_at "call ref") => `(tactic| k_extra "my call")
local macro_rules | `(tactic| walk_at "getMethod ref") => `(tactic| k_extra "method")
local macro_rules | `(tactic| walk_at "call builtin:list.insert") => `(tactic| k_extra "insert")

theorem put_l64_1 {w : World} {d : Addr} {its : List Value} {n : Nat} (x : Str) (tx : Tok) (hx : x.length ≤ 100) {news : List (Addr × Obj)} {g : Obj → List (Addr × Obj)}  (lines : List Str) (hS : StrsAre its lines) (hlen : ∀ l ∈ lines, l.length ≤ 100) (U : UpdF d (W.listOf its.toArray n) news g) (hsz : lines.length < 1000) 
  (c : Nat → Bool) (hc : ∀ i, i < lines.length → StrLt (Txt.slice (lines.getD i Str.empty) (some 2) (some 3)) (Txt.slice x (some 2) (some 3)) = c i) (hmono : ∀ i j : Nat, i ≤ j → j < lines.length → c j = true → c i = true) :
   SpecR (ι := Int) w 5 48 [.ref d, .str x tx] [(Str.ofString "key", .ref 64)] news (fun r => g (W.listOf (ins its r (.str x tx)).toArray (n + 1))) (fun r v => v = .none ∧ BisRes 0 lines.length c r) := by
  unfold SpecR; intros; rename_i hret
  refine wpAny_call ?_
  k_dflt (refine' code_def ?k1 ?k2 ?k3 ?k4 ?k5 ?kA ?kF ?kK ?k6 ?k7 ?k8 ?k9 ?kB ?_ ?c2 ?c3 ?c4 ?c5; (case kA => exact rfl); (case kF => exact rfl); (case kK => assumption); (case k1 => k_asm); (case k2 => k_asm); (case k3 => k_asm); (case k4 => k_asm); (case k5 => k_asm); (case k6 => k_is); (case k7 => k_is); (case k8 => ktr_room); (case k9 => first | exact BindsTo.of_eq rfl | exact binds_K (by k_in) rfl (by k_is) rfl rfl rfl | exact kp_binds (by k_in) (fun _ => rfl) | fail "k_enter: no rule for these arguments"); (case c5 => decide); (case kB => exact locs rfl); (case c2 => exact rfl); (case c3 => exact rfl); (case c4 => exact rfl); k_whole; intro g' L' h' FG' F' N' B' X' T'; (try dsimp only); (try k_lift B'); (try k_fold))
  k_with_none
  have hl8 := hS.length
  (k_with "my call" => first | ((with_unfolding_all refine' call_by (letter_spec w _ _ _ hx) ?k1 ?k2 ?k3 ?k4 ?k5 ?k6 ?k7 ?k8 ?_); (case k1 => k_asm); (case k2 => k_asm); (case k3 => k_asm); (case k4 => k_asm); (case k5 => k_asm); (case k6 => rfl); (case k7 => ktr_room); (case k8 => ktr_units); intro v9 h9 tk9 hv9 F9 N9; obtain ⟨t9, e9⟩ := hv9; subst e9) | ((with_unfolding_all refine' call_by (bis_l64_3 _ _ _ _ lines hS hlen (updF_mem U) hsz (by omega) (by omega) c hc hmono) ?k1 ?k2 ?k3 ?k4 ?k5 ?k6 ?k7 ?k8 ?_); (case k1 => k_asm); (case k2 => k_asm); (case k3 => k_asm); (case k4 => k_asm); (case k5 => k_asm); (case k6 => rfl); (case k7 => ktr_room); (case k8 => ktr_units); intro v9 h9 tk9 hv9 F9 N9; obtain ⟨r9, t9, e9, hr9⟩ := hv9; subst e9; have hr8 := hr9.1; have hr7 := hr9.2.1))
  (k_with "insert" => (refine' insert_at ?k1 ?k2 U ?k3 ?k4 ?k5 ?_; (case k1 => k_asm); (case k2 => k_asm); (case k3 => omega); (case k4 => omega); (case k5 => omega); intro h8 F8 N8))
  (k_with "method" => (k_dflt (refine' kl_method ?N ?m PySem.F.slot_list_insert PySem.F.type_list_insert ?_; (case N => k_asm); (case m => exact updF_mem U))))
  k_steps
  exact hret _ _ _ _ ⟨rfl, (by assumption)⟩ (by k_asm) (by k_asm)
theorem put_l64_2 {w : World} {d : Addr} {its : List Value} {n : Nat} (x : Str) (tx : Tok) (hx : x.length ≤ 100) {news : List (Addr × Obj)} {g : Obj → List (Addr × Obj)} (lo hi : Int) (tl th : Tok) (lines : List Str) (hS : StrsAre its lines) (hlen : ∀ l ∈ lines, l.length ≤ 100) (U : UpdF d (W.listOf its.toArray n) news g) (hsz : lines.length < 1000) (h0 : 0 ≤ lo) (hlh : lo ≤ hi) (hhi : hi ≤ lines.length)
  (c : Nat → Bool) (hc : ∀ i, i < lines.length → StrLt (Txt.slice (lines.getD i Str.empty) (some 2) (some 3)) (Txt.slice x (some 2) (some 3)) = c i) (hmono : ∀ i j : Nat, i ≤ j → j < lines.length → c j = true → c i = true) :
   SpecR (ι := Int) w 5 48 [.ref d, .str x tx, .int lo tl, .int hi th] [(Str.ofString "key", .ref 64)] news (fun r => g (W.listOf (ins its r (.str x tx)).toArray (n + 1))) (fun r v => v = .none ∧ BisRes lo hi c r) := by
  unfold SpecR; intros; rename_i hret
  refine wpAny_call ?_
  k_dflt (refine' code_def ?k1 ?k2 ?k3 ?k4 ?k5 ?kA ?kF ?kK ?k6 ?k7 ?k8 ?k9 ?kB ?_ ?c2 ?c3 ?c4 ?c5; (case kA => exact rfl); (case kF => exact rfl); (case kK => assumption); (case k1 => k_asm); (case k2 => k_asm); (case k3 => k_asm); (case k4 => k_asm); (case k5 => k_asm); (case k6 => k_is); (case k7 => k_is); (case k8 => ktr_room); (case k9 => first | exact BindsTo.of_eq rfl | exact binds_K (by k_in) rfl (by k_is) rfl rfl rfl | exact kp_binds (by k_in) (fun _ => rfl) | fail "k_enter: no rule for these arguments"); (case c5 => decide); (case kB => exact locs rfl); (case c2 => exact rfl); (case c3 => exact rfl); (case c4 => exact rfl); k_whole; intro g' L' h' FG' F' N' B' X' T'; (try dsimp only); (try k_lift B'); (try k_fold))
  k_with_none
  have hl8 := hS.length
  (k_with "my call" => first | ((with_unfolding_all refine' call_by (letter_spec w _ _ _ hx) ?k1 ?k2 ?k3 ?k4 ?k5 ?k6 ?k7 ?k8 ?_); (case k1 => k_asm); (case k2 => k_asm); (case k3 => k_asm); (case k4 => k_asm); (case k5 => k_asm); (case k6 => rfl); (case k7 => ktr_room); (case k8 => ktr_units); intro v9 h9 tk9 hv9 F9 N9; obtain ⟨t9, e9⟩ := hv9; subst e9) | ((with_unfolding_all refine' call_by (bis_l64_2 _ _ lo hi _ _ lines hS hlen (updF_mem U) hsz h0 hlh hhi c hc hmono) ?k1 ?k2 ?k3 ?k4 ?k5 ?k6 ?k7 ?k8 ?_); (case k1 => k_asm); (case k2 => k_asm); (case k3 => k_asm); (case k4 => k_asm); (case k5 => k_asm); (case k6 => rfl); (case k7 => ktr_room); (case k8 => ktr_units); intro v9 h9 tk9 hv9 F9 N9; obtain ⟨r9, t9, e9, hr9⟩ := hv9; subst e9; have hr8 := hr9.1; have hr7 := hr9.2.1))
  (k_with "insert" => (refine' insert_at ?k1 ?k2 U ?k3 ?k4 ?k5 ?_; (case k1 => k_asm); (case k2 => k_asm); (case k3 => omega); (case k4 => omega); (case k5 => omega); intro h8 F8 N8))
  (k_with "method" => (k_dflt (refine' kl_method ?N ?m PySem.F.slot_list_insert PySem.F.type_list_insert ?_; (case N => k_asm); (case m => exact updF_mem U))))
  k_steps
  exact hret _ _ _ _ ⟨rfl, (by assumption)⟩ (by k_asm) (by k_asm)
theorem put_l71_1 {w : World} {d : Addr} {its : List Value} {n : Nat} (x : Str) (tx : Tok) (hx : x.length ≤ 100) {news : List (Addr × Obj)} {g : Obj → List (Addr × Obj)}  (lines : List Str) (hS : StrsAre its lines) (hlen : ∀ l ∈ lines, l.length ≤ 100) (U : UpdF d (W.listOf its.toArray n) news g) (hsz : lines.length < 1000) 
  (c : Nat → Bool) (hc : ∀ i, i < lines.length → StrLt (Txt.slice (lines.getD i Str.empty) none (some 1)) (Txt.slice x none (some 1)) = c i) (hmono : ∀ i j : Nat, i ≤ j → j < lines.length → c j = true → c i = true) :
   SpecR (ι := Int) w 5 48 [.ref d, .str x tx] [(Str.ofString "key", .ref 71)] news (fun r => g (W.listOf (ins its r (.str x tx)).toArray (n + 1))) (fun r v => v = .none ∧ BisRes 0 lines.length c r) := by
  unfold SpecR; intros; rename_i hret
  refine wpAny_call ?_
  k_dflt (refine' code_def ?k1 ?k2 ?k3 ?k4 ?k5 ?kA ?kF ?kK ?k6 ?k7 ?k8 ?k9 ?kB ?_ ?c2 ?c3 ?c4 ?c5; (case kA => exact rfl); (case kF => exact rfl); (case kK => assumption); (case k1 => k_asm); (case k2 => k_asm); (case k3 => k_asm); (case k4 => k_asm); (case k5 => k_asm); (case k6 => k_is); (case k7 => k_is); (case k8 => ktr_room); (case k9 => first | exact BindsTo.of_eq rfl | exact binds_K (by k_in) rfl (by k_is) rfl rfl rfl | exact kp_binds (by k_in) (fun _ => rfl) | fail "k_enter: no rule for these arguments"); (case c5 => decide); (case kB => exact locs rfl); (case c2 => exact rfl); (case c3 => exact rfl); (case c4 => exact rfl); k_whole; intro g' L' h' FG' F' N' B' X' T'; (try dsimp only); (try k_lift B'); (try k_fold))
  k_with_none
  have hl8 := hS.length
  (k_with "my call" => first | ((with_unfolding_all refine' call_by (first_spec w _ _ _ hx) ?k1 ?k2 ?k3 ?k4 ?k5 ?k6 ?k7 ?k8 ?_); (case k1 => k_asm); (case k2 => k_asm); (case k3 => k_asm); (case k4 => k_asm); (case k5 => k_asm); (case k6 => rfl); (case k7 => ktr_room); (case k8 => ktr_units); intro v9 h9 tk9 hv9 F9 N9; obtain ⟨t9, e9⟩ := hv9; subst e9) | ((with_unfolding_all refine' call_by (bis_l71_3 _ _ _ _ lines hS hlen (updF_mem U) hsz (by omega) (by omega) c hc hmono) ?k1 ?k2 ?k3 ?k4 ?k5 ?k6 ?k7 ?k8 ?_); (case k1 => k_asm); (case k2 => k_asm); (case k3 => k_asm); (case k4 => k_asm); (case k5 => k_asm); (case k6 => rfl); (case k7 => ktr_room); (case k8 => ktr_units); intro v9 h9 tk9 hv9 F9 N9; obtain ⟨r9, t9, e9, hr9⟩ := hv9; subst e9; have hr8 := hr9.1; have hr7 := hr9.2.1))
  (k_with "insert" => (refine' insert_at ?k1 ?k2 U ?k3 ?k4 ?k5 ?_; (case k1 => k_asm); (case k2 => k_asm); (case k3 => omega); (case k4 => omega); (case k5 => omega); intro h8 F8 N8))
  (k_with "method" => (k_dflt (refine' kl_method ?N ?m PySem.F.slot_list_insert PySem.F.type_list_insert ?_; (case N => k_asm); (case m => exact updF_mem U))))
  k_steps
  exact hret _ _ _ _ ⟨rfl, (by assumption)⟩ (by k_asm) (by k_asm)
theorem put_ln_1 {w : World} {d : Addr} {its : List Value} {n : Nat} (xv : Value) (xn : Nm) (hx : NmIs xv xn)  {news : List (Addr × Obj)} {g : Obj → List (Addr × Obj)}  (ns : List Nm) (hS : NmsAre its ns) (U : UpdF d (W.listOf its.toArray n) news g) (hsz : ns.length < 1000) 
  (c : Nat → Bool) (hc : ∀ i, i < ns.length → (decide ((ns.getD i (.i 0)).val < xn.val)) = c i) (hmono : ∀ i j : Nat, i ≤ j → j < ns.length → c j = true → c i = true) :
   SpecR (ι := Int) w 5 48 [.ref d, xv] [] news (fun r => g (W.listOf (ins its r (xv)).toArray (n + 1))) (fun r v => v = .none ∧ BisRes 0 ns.length c r) := by
  unfold SpecR; intros; rename_i hret
  refine wpAny_call ?_
  k_dflt (refine' code_def ?k1 ?k2 ?k3 ?k4 ?k5 ?kA ?kF ?kK ?k6 ?k7 ?k8 ?k9 ?kB ?_ ?c2 ?c3 ?c4 ?c5; (case kA => exact rfl); (case kF => exact rfl); (case kK => assumption); (case k1 => k_asm); (case k2 => k_asm); (case k3 => k_asm); (case k4 => k_asm); (case k5 => k_asm); (case k6 => k_is); (case k7 => k_is); (case k8 => ktr_room); (case k9 => first | exact BindsTo.of_eq rfl | exact binds_K (by k_in) rfl (by k_is) rfl rfl rfl | exact kp_binds (by k_in) (fun _ => rfl) | fail "k_enter: no rule for these arguments"); (case c5 => decide); (case kB => exact locs rfl); (case c2 => exact rfl); (case c3 => exact rfl); (case c4 => exact rfl); k_whole; intro g' L' h' FG' F' N' B' X' T'; (try dsimp only); (try k_lift B'); (try k_fold))
  k_with_none
  have hl8 := hS.length
  (k_with "my call" => ((with_unfolding_all refine' call_by (bis_ln_3 xv xn hx _ _ ns hS (updF_mem U) hsz (by omega) (by omega) c hc hmono) ?k1 ?k2 ?k3 ?k4 ?k5 ?k6 ?k7 ?k8 ?_); (case k1 => k_asm); (case k2 => k_asm); (case k3 => k_asm); (case k4 => k_asm); (case k5 => k_asm); (case k6 => rfl); (case k7 => ktr_room); (case k8 => ktr_units); intro v9 h9 tk9 hv9 F9 N9; obtain ⟨r9, t9, e9, hr9⟩ := hv9; subst e9; have hr8 := hr9.1; have hr7 := hr9.2.1))
  (k_with "insert" => (refine' insert_at ?k1 ?k2 U ?k3 ?k4 ?k5 ?_; (case k1 => k_asm); (case k2 => k_asm); (case k3 => omega); (case k4 => omega); (case k5 => omega); intro h8 F8 N8))
  (k_with "method" => (k_dflt (refine' kl_method ?N ?m PySem.F.slot_list_insert PySem.F.type_list_insert ?_; (case N => k_asm); (case m => exact updF_mem U))))
  k_steps
  exact hret _ _ _ _ ⟨rfl, (by assumption)⟩ (by k_asm) (by k_asm)
theorem put_ln_2 {w : World} {d : Addr} {its : List Value} {n : Nat} (xv : Value) (xn : Nm) (hx : NmIs xv xn)  {news : List (Addr × Obj)} {g : Obj → List (Addr × Obj)} (lo hi : Int) (tl th : Tok) (ns : List Nm) (hS : NmsAre its ns) (U : UpdF d (W.listOf its.toArray n) news g) (hsz : ns.length < 1000) (h0 : 0 ≤ lo) (hlh : lo ≤ hi) (hhi : hi ≤ ns.length)
  (c : Nat → Bool) (hc : ∀ i, i < ns.length → (decide ((ns.getD i (.i 0)).val < xn.val)) = c i) (hmono : ∀ i j : Nat, i ≤ j → j < ns.length → c j = true → c i = true) :
   SpecR (ι := Int) w 5 48 [.ref d, xv, .int lo tl, .int hi th] [] news (fun r => g (W.listOf (ins its r (xv)).toArray (n + 1))) (fun r v => v = .none ∧ BisRes lo hi c r) := by
  unfold SpecR; intros; rename_i hret
  refine wpAny_call ?_
  k_dflt (refine' code_def ?k1 ?k2 ?k3 ?k4 ?k5 ?kA ?kF ?kK ?k6 ?k7 ?k8 ?k9 ?kB ?_ ?c2 ?c3 ?c4 ?c5; (case kA => exact rfl); (case kF => exact rfl); (case kK => assumption); (case k1 => k_asm); (case k2 => k_asm); (case k3 => k_asm); (case k4 => k_asm); (case k5 => k_asm); (case k6 => k_is); (case k7 => k_is); (case k8 => ktr_room); (case k9 => first | exact BindsTo.of_eq rfl | exact binds_K (by k_in) rfl (by k_is) rfl rfl rfl | exact kp_binds (by k_in) (fun _ => rfl) | fail "k_enter: no rule for these arguments"); (case c5 => decide); (case kB => exact locs rfl); (case c2 => exact rfl); (case c3 => exact rfl); (case c4 => exact rfl); k_whole; intro g' L' h' FG' F' N' B' X' T'; (try dsimp only); (try k_lift B'); (try k_fold))
  k_with_none
  have hl8 := hS.length
  (k_with "my call" => ((with_unfolding_all refine' call_by (bis_ln_2 xv xn hx lo hi _ _ ns hS (updF_mem U) hsz h0 hlh hhi c hc hmono) ?k1 ?k2 ?k3 ?k4 ?k5 ?k6 ?k7 ?k8 ?_); (case k1 => k_asm); (case k2 => k_asm); (case k3 => k_asm); (case k4 => k_asm); (case k5 => k_asm); (case k6 => rfl); (case k7 => ktr_room); (case k8 => ktr_units); intro v9 h9 tk9 hv9 F9 N9; obtain ⟨r9, t9, e9, hr9⟩ := hv9; subst e9; have hr8 := hr9.1; have hr7 := hr9.2.1))
  (k_with "insert" => (refine' insert_at ?k1 ?k2 U ?k3 ?k4 ?k5 ?_; (case k1 => k_asm); (case k2 => k_asm); (case k3 => omega); (case k4 => omega); (case k5 => omega); intro h8 F8 N8))
  (k_with "method" => (k_dflt (refine' kl_method ?N ?m PySem.F.slot_list_insert PySem.F.type_list_insert ?_; (case N => k_asm); (case m => exact updF_mem U))))
  k_steps
  exact hret _ _ _ _ ⟨rfl, (by assumption)⟩ (by k_asm) (by k_asm)
theorem put_r64_1 {w : World} {d : Addr} {its : List Value} {n : Nat} (x : Str) (tx : Tok) (hx : x.length ≤ 100) {news : List (Addr × Obj)} {g : Obj → List (Addr × Obj)}  (lines : List Str) (hS : StrsAre its lines) (hlen : ∀ l ∈ lines, l.length ≤ 100) (U : UpdF d (W.listOf its.toArray n) news g) (hsz : lines.length < 1000) 
  (c : Nat → Bool) (hc : ∀ i, i < lines.length → (!StrLt (Txt.slice x (some 2) (some 3)) (Txt.slice (lines.getD i Str.empty) (some 2) (some 3))) = c i) (hmono : ∀ i j : Nat, i ≤ j → j < lines.length → c j = true → c i = true) :
   SpecR (ι := Int) w 5 30 [.ref d, .str x tx] [(Str.ofString "key", .ref 64)] news (fun r => g (W.listOf (ins its r (.str x tx)).toArray (n + 1))) (fun r v => v = .none ∧ BisRes 0 lines.length c r) := by
  unfold SpecR; intros; rename_i hret
  refine wpAny_call ?_
  k_dflt (refine' code_def ?k1 ?k2 ?k3 ?k4 ?k5 ?kA ?kF ?kK ?k6 ?k7 ?k8 ?k9 ?kB ?_ ?c2 ?c3 ?c4 ?c5; (case kA => exact rfl); (case kF => exact rfl); (case kK => assumption); (case k1 => k_asm); (case k2 => k_asm); (case k3 => k_asm); (case k4 => k_asm); (case k5 => k_asm); (case k6 => k_is); (case k7 => k_is); (case k8 => ktr_room); (case k9 => first | exact BindsTo.of_eq rfl | exact binds_K (by k_in) rfl (by k_is) rfl rfl rfl | exact kp_binds (by k_in) (fun _ => rfl) | fail "k_enter: no rule for these arguments"); (case c5 => decide); (case kB => exact locs rfl); (case c2 => exact rfl); (case c3 => exact rfl); (case c4 => exact rfl); k_whole; intro g' L' h' FG' F' N' B' X' T'; (try dsimp only); (try k_lift B'); (try k_fold))
  k_with_none
  have hl8 := hS.length
  (k_with "my call" => first | ((with_unfolding_all refine' call_by (letter_spec w _ _ _ hx) ?k1 ?k2 ?k3 ?k4 ?k5 ?k6 ?k7 ?k8 ?_); (case k1 => k_asm); (case k2 => k_asm); (case k3 => k_asm); (case k4 => k_asm); (case k5 => k_asm); (case k6 => rfl); (case k7 => ktr_room); (case k8 => ktr_units); intro v9 h9 tk9 hv9 F9 N9; obtain ⟨t9, e9⟩ := hv9; subst e9) | ((with_unfolding_all refine' call_by (bis_r64_3 _ _ _ _ lines hS hlen (updF_mem U) hsz (by omega) (by omega) c hc hmono) ?k1 ?k2 ?k3 ?k4 ?k5 ?k6 ?k7 ?k8 ?_); (case k1 => k_asm); (case k2 => k_asm); (case k3 => k_asm); (case k4 => k_asm); (case k5 => k_asm); (case k6 => rfl); (case k7 => ktr_room); (case k8 => ktr_units); intro v9 h9 tk9 hv9 F9 N9; obtain ⟨r9, t9, e9, hr9⟩ := hv9; subst e9; have hr8 := hr9.1; have hr7 := hr9.2.1))
  (k_with "insert" => (refine' insert_at ?k1 ?k2 U ?k3 ?k4 ?k5 ?_; (case k1 => k_asm); (case k2 => k_asm); (case k3 => omega); (case k4 => omega); (case k5 => omega); intro h8 F8 N8))
  (k_with "method" => (k_dflt (refine' kl_method ?N ?m PySem.F.slot_list_insert PySem.F.type_list_insert ?_; (case N => k_asm); (case m => exact updF_mem U))))
  k_steps
  exact hret _ _ _ _ ⟨rfl, (by assumption)⟩ (by k_asm) (by k_asm)
theorem put_r64_2 {w : World} {d : Addr} {its : List Value} {n : Nat} (x : Str) (tx : Tok) (hx : x.length ≤ 100) {news : List (Addr × Obj)} {g : Obj → List (Addr × Obj)} (lo hi : Int) (tl th : Tok) (lines : List Str) (hS : StrsAre its lines) (hlen : ∀ l ∈ lines, l.length ≤ 100) (U : UpdF d (W.listOf its.toArray n) news g) (hsz : lines.length < 1000) (h0 : 0 ≤ lo) (hlh : lo ≤ hi) (hhi : hi ≤ lines.length)
  (c : Nat → Bool) (hc : ∀ i, i < lines.length → (!StrLt (Txt.slice x (some 2) (some 3)) (Txt.slice (lines.getD i Str.empty) (some 2) (some 3))) = c i) (hmono : ∀ i j : Nat, i ≤ j → j < lines.length → c j = true → c i = true) :
   SpecR (ι := Int) w 5 30 [.ref d, .str x tx, .int lo tl, .int hi th] [(Str.ofString "key", .ref 64)] news (fun r => g (W.listOf (ins its r (.str x tx)).toArray (n + 1))) (fun r v => v = .none ∧ BisRes lo hi c r) := by
  unfold SpecR; intros; rename_i hret
  refine wpAny_call ?_
  k_dflt (refine' code_def ?k1 ?k2 ?k3 ?k4 ?k5 ?kA ?kF ?kK ?k6 ?k7 ?k8 ?k9 ?kB ?_ ?c2 ?c3 ?c4 ?c5; (case kA => exact rfl); (case kF => exact rfl); (case kK => assumption); (case k1 => k_asm); (case k2 => k_asm); (case k3 => k_asm); (case k4 => k_asm); (case k5 => k_asm); (case k6 => k_is); (case k7 => k_is); (case k8 => ktr_room); (case k9 => first | exact BindsTo.of_eq rfl | exact binds_K (by k_in) rfl (by k_is) rfl rfl rfl | exact kp_binds (by k_in) (fun _ => rfl) | fail "k_enter: no rule for these arguments"); (case c5 => decide); (case kB => exact locs rfl); (case c2 => exact rfl); (case c3 => exact rfl); (case c4 => exact rfl); k_whole; intro g' L' h' FG' F' N' B' X' T'; (try dsimp only); (try k_lift B'); (try k_fold))
  k_with_none
  have hl8 := hS.length
  (k_with "my call" => first | ((with_unfolding_all refine' call_by (letter_spec w _ _ _ hx) ?k1 ?k2 ?k3 ?k4 ?k5 ?k6 ?k7 ?k8 ?_); (case k1 => k_asm); (case k2 => k_asm); (case k3 => k_asm); (case k4 => k_asm); (case k5 => k_asm); (case k6 => rfl); (case k7 => ktr_room); (case k8 => ktr_units); intro v9 h9 tk9 hv9 F9 N9; obtain ⟨t9, e9⟩ := hv9; subst e9) | ((with_unfolding_all refine' call_by (bis_r64_2 _ _ lo hi _ _ lines hS hlen (updF_mem U) hsz h0 hlh hhi c hc hmono) ?k1 ?k2 ?k3 ?k4 ?k5 ?k6 ?k7 ?k8 ?_); (case k1 => k_asm); (case k2 => k_asm); (case k3 => k_asm); (case k4 => k_asm); (case k5 => k_asm); (case k6 => rfl); (case k7 => ktr_room); (case k8 => ktr_units); intro v9 h9 tk9 hv9 F9 N9; obtain ⟨r9, t9, e9, hr9⟩ := hv9; subst e9; have hr8 := hr9.1; have hr7 := hr9.2.1))
  (k_with "insert" => (refine' insert_at ?k1 ?k2 U ?k3 ?k4 ?k5 ?_; (case k1 => k_asm); (case k2 => k_asm); (case k3 => omega); (case k4 => omega); (case k5 => omega); intro h8 F8 N8))
  (k_with "method" => (k_dflt (refine' kl_method ?N ?m PySem.F.slot_list_insert PySem.F.type_list_insert ?_; (case N => k_asm); (case m => exact updF_mem U))))
  k_steps
  exact hret _ _ _ _ ⟨rfl, (by assumption)⟩ (by k_asm) (by k_asm)
theorem put_r71_1 {w : World} {d : Addr} {its : List Value} {n : Nat} (x : Str) (tx : Tok) (hx : x.length ≤ 100) {news : List (Addr × Obj)} {g : Obj → List (Addr × Obj)}  (lines : List Str) (hS : StrsAre its lines) (hlen : ∀ l ∈ lines, l.length ≤ 100) (U : UpdF d (W.listOf its.toArray n) news g) (hsz : lines.length < 1000) 
  (c : Nat → Bool) (hc : ∀ i, i < lines.length → (!StrLt (Txt.slice x none (some 1)) (Txt.slice (lines.getD i Str.empty) none (some 1))) = c i) (hmono : ∀ i j : Nat, i ≤ j → j < lines.length → c j = true → c i = true) :
   SpecR (ι := Int) w 5 30 [.ref d, .str x tx] [(Str.ofString "key", .ref 71)] news (fun r => g (W.listOf (ins its r (.str x tx)).toArray (n + 1))) (fun r v => v = .none ∧ BisRes 0 lines.length c r) := by
  unfold SpecR; intros; rename_i hret
  refine wpAny_call ?_
  k_dflt (refine' code_def ?k1 ?k2 ?k3 ?k4 ?k5 ?kA ?kF ?kK ?k6 ?k7 ?k8 ?k9 ?kB ?_ ?c2 ?c3 ?c4 ?c5; (case kA => exact rfl); (case kF => exact rfl); (case kK => assumption); (case k1 => k_asm); (case k2 => k_asm); (case k3 => k_asm); (case k4 => k_asm); (case k5 => k_asm); (case k6 => k_is); (case k7 => k_is); (case k8 => ktr_room); (case k9 => first | exact BindsTo.of_eq rfl | exact binds_K (by k_in) rfl (by k_is) rfl rfl rfl | exact kp_binds (by k_in) (fun _ => rfl) | fail "k_enter: no rule for these arguments"); (case c5 => decide); (case kB => exact locs rfl); (case c2 => exact rfl); (case c3 => exact rfl); (case c4 => exact rfl); k_whole; intro g' L' h' FG' F' N' B' X' T'; (try dsimp only); (try k_lift B'); (try k_fold))
  k_with_none
  have hl8 := hS.length
  (k_with "my call" => first | ((with_unfolding_all refine' call_by (first_spec w _ _ _ hx) ?k1 ?k2 ?k3 ?k4 ?k5 ?k6 ?k7 ?k8 ?_); (case k1 => k_asm); (case k2 => k_asm); (case k3 => k_asm); (case k4 => k_asm); (case k5 => k_asm); (case k6 => rfl); (case k7 => ktr_room); (case k8 => ktr_units); intro v9 h9 tk9 hv9 F9 N9; obtain ⟨t9, e9⟩ := hv9; subst e9) | ((with_unfolding_all refine' call_by (bis_r71_3 _ _ _ _ lines hS hlen (updF_mem U) hsz (by omega) (by omega) c hc hmono) ?k1 ?k2 ?k3 ?k4 ?k5 ?k6 ?k7 ?k8 ?_); (case k1 => k_asm); (case k2 => k_asm); (case k3 => k_asm); (case k4 => k_asm); (case k5 => k_asm); (case k6 => rfl); (case k7 => ktr_room); (case k8 => ktr_units); intro v9 h9 tk9 hv9 F9 N9; obtain ⟨r9, t9, e9, hr9⟩ := hv9; subst e9; have hr8 := hr9.1; have hr7 := hr9.2.1))
  (k_with "insert" => (refine' insert_at ?k1 ?k2 U ?k3 ?k4 ?k5 ?_; (case k1 => k_asm); (case k2 => k_asm); (case k3 => omega); (case k4 => omega); (case k5 => omega); intro h8 F8 N8))
  (k_with "method" => (k_dflt (refine' kl_method ?N ?m PySem.F.slot_list_insert PySem.F.type_list_insert ?_; (case N => k_asm); (case m => exact updF_mem U))))
  k_steps
  exact hret _ _ _ _ ⟨rfl, (by assumption)⟩ (by k_asm) (by k_asm)
theorem put_rn_1 {w : World} {d : Addr} {its : List Value} {n : Nat} (xv : Value) (xn : Nm) (hx : NmIs xv xn)  {news : List (Addr × Obj)} {g : Obj → List (Addr × Obj)}  (ns : List Nm) (hS : NmsAre its ns) (U : UpdF d (W.listOf its.toArray n) news g) (hsz : ns.length < 1000) 
  (c : Nat → Bool) (hc : ∀ i, i < ns.length → (!decide (xn.val < (ns.getD i (.i 0)).val)) = c i) (hmono : ∀ i j : Nat, i ≤ j → j < ns.length → c j = true → c i = true) :
   SpecR (ι := Int) w 5 30 [.ref d, xv] [] news (fun r => g (W.listOf (ins its r (xv)).toArray (n + 1))) (fun r v => v = .none ∧ BisRes 0 ns.length c r) := by
  unfold SpecR; intros; rename_i hret
  refine wpAny_call ?_
  k_dflt (refine' code_def ?k1 ?k2 ?k3 ?k4 ?k5 ?kA ?kF ?kK ?k6 ?k7 ?k8 ?k9 ?kB ?_ ?c2 ?c3 ?c4 ?c5; (case kA => exact rfl); (case kF => exact rfl); (case kK => assumption); (case k1 => k_asm); (case k2 => k_asm); (case k3 => k_asm); (case k4 => k_asm); (case k5 => k_asm); (case k6 => k_is); (case k7 => k_is); (case k8 => ktr_room); (case k9 => first | exact BindsTo.of_eq rfl | exact binds_K (by k_in) rfl (by k_is) rfl rfl rfl | exact kp_binds (by k_in) (fun _ => rfl) | fail "k_enter: no rule for these arguments"); (case c5 => decide); (case kB => exact locs rfl); (case c2 => exact rfl); (case c3 => exact rfl); (case c4 => exact rfl); k_whole; intro g' L' h' FG' F' N' B' X' T'; (try dsimp only); (try k_lift B'); (try k_fold))
  k_with_none
  have hl8 := hS.length
  (k_with "my call" => ((with_unfolding_all refine' call_by (bis_rn_3 xv xn hx _ _ ns hS (updF_mem U) hsz (by omega) (by omega) c hc hmono) ?k1 ?k2 ?k3 ?k4 ?k5 ?k6 ?k7 ?k8 ?_); (case k1 => k_asm); (case k2 => k_asm); (case k3 => k_asm); (case k4 => k_asm); (case k5 => k_asm); (case k6 => rfl); (case k7 => ktr_room); (case k8 => ktr_units); intro v9 h9 tk9 hv9 F9 N9; obtain ⟨r9, t9, e9, hr9⟩ := hv9; subst e9; have hr8 := hr9.1; have hr7 := hr9.2.1))
  (k_with "insert" => (refine' insert_at ?k1 ?k2 U ?k3 ?k4 ?k5 ?_; (case k1 => k_asm); (case k2 => k_asm); (case k3 => omega); (case k4 => omega); (case k5 => omega); intro h8 F8 N8))
  (k_with "method" => (k_dflt (refine' kl_method ?N ?m PySem.F.slot_list_insert PySem.F.type_list_insert ?_; (case N => k_asm); (case m => exact updF_mem U))))
  k_steps
  exact hret _ _ _ _ ⟨rfl, (by assumption)⟩ (by k_asm) (by k_asm)
theorem put_rn_2 {w : World} {d : Addr} {its : List Value} {n : Nat} (xv : Value) (xn : Nm) (hx : NmIs xv xn)  {news : List (Addr × Obj)} {g : Obj → List (Addr × Obj)} (lo hi : Int) (tl th : Tok) (ns : List Nm) (hS : NmsAre its ns) (U : UpdF d (W.listOf its.toArray n) news g) (hsz : ns.length < 1000) (h0 : 0 ≤ lo) (hlh : lo ≤ hi) (hhi : hi ≤ ns.length)
  (c : Nat → Bool) (hc : ∀ i, i < ns.length → (!decide (xn.val < (ns.getD i (.i 0)).val)) = c i) (hmono : ∀ i j : Nat, i ≤ j → j < ns.length → c j = true → c i = true) :
   SpecR (ι := Int) w 5 30 [.ref d, xv, .int lo tl, .int hi th] [] news (fun r => g (W.listOf (ins its r (xv)).toArray (n + 1))) (fun r v => v = .none ∧ BisRes lo hi c r) := by
  unfold SpecR; intros; rename_i hret
  refine wpAny_call ?_
  k_dflt (refine' code_def ?k1 ?k2 ?k3 ?k4 ?k5 ?kA ?kF ?kK ?k6 ?k7 ?k8 ?k9 ?kB ?_ ?c2 ?c3 ?c4 ?c5; (case kA => exact rfl); (case kF => exact rfl); (case kK => assumption); (case k1 => k_asm); (case k2 => k_asm); (case k3 => k_asm); (case k4 => k_asm); (case k5 => k_asm); (case k6 => k_is); (case k7 => k_is); (case k8 => ktr_room); (case k9 => first | exact BindsTo.of_eq rfl | exact binds_K (by k_in) rfl (by k_is) rfl rfl rfl | exact kp_binds (by k_in) (fun _ => rfl) | fail "k_enter: no rule for these arguments"); (case c5 => decide); (case kB => exact locs rfl); (case c2 => exact rfl); (case c3 => exact rfl); (case c4 => exact rfl); k_whole; intro g' L' h' FG' F' N' B' X' T'; (try dsimp only); (try k_lift B'); (try k_fold))
  k_with_none
  have hl8 := hS.length
  (k_with "my call" => ((with_unfolding_all refine' call_by (bis_rn_2 xv xn hx lo hi _ _ ns hS (updF_mem U) hsz h0 hlh hhi c hc hmono) ?k1 ?k2 ?k3 ?k4 ?k5 ?k6 ?k7 ?k8 ?_); (case k1 => k_asm); (case k2 => k_asm); (case k3 => k_asm); (case k4 => k_asm); (case k5 => k_asm); (case k6 => rfl); (case k7 => ktr_room); (case k8 => ktr_units); intro v9 h9 tk9 hv9 F9 N9; obtain ⟨r9, t9, e9, hr9⟩ := hv9; subst e9; have hr8 := hr9.1; have hr7 := hr9.2.1))
  (k_with "insert" => (refine' insert_at ?k1 ?k2 U ?k3 ?k4 ?k5 ?_; (case k1 => k_asm); (case k2 => k_asm); (case k3 => omega); (case k4 => omega); (case k5 => omega); intro h8 F8 N8))
  (k_with "method" => (k_dflt (refine' kl_method ?N ?m PySem.F.slot_list_insert PySem.F.type_list_insert ?_; (case N => k_asm); (case m => exact updF_mem U))))
  k_steps
  exact hret _ _ _ _ ⟨rfl, (by assumption)⟩ (by k_asm) (by k_asm)
end
end Mine
end

section
open PySem PySem.W PyProof.Rows
set_option Elab.async false
set_option maxRecDepth 100000
set_option maxHeartbeats 8000000
set_option linter.unusedVariables false
namespace Mine
/-- how many of the first n places are told true -/
def cnt (c : Nat → Bool) (n : Nat) : Nat := ((List.range n).filter c).length
theorem cnt_zero (c : Nat → Bool) : cnt c 0 = 0 := rfl
theorem cnt_succ (c : Nat → Bool) (n : Nat) : cnt c (n + 1) = cnt c n + if c n = true then 1 else 0 := by
  unfold cnt
  rw [List.range_succ, List.filter_append, List.length_append]
  by_cases h : c n = true <;> simp [h]
theorem cnt_le (c : Nat → Bool) (n : Nat) : cnt c n ≤ n := by
  induction n with
  | zero => exact Nat.le_refl _
  | succ n ih => rw [cnt_succ]; split <;> omega
def TestIs (a b : Bool) : Prop := a = b
section
open LCg LCt
variable {prog : Program} {w : World} {A : Around} {h₀ : Heap} {L : Addr} {m : Str → Option Value} {env : Env} {ct elt : Expr} {x : Str} {scope : Scope} {cl : List (Str × Addr)} {s : Shared} {S : List (Addr × Obj) → Prop} {P : Nat → Value → Prop} {Fin : List Value → List (Addr × Obj) → Prop} {news : List (Addr × Obj)}
theorem compT_count {n : Nat} (c : Nat → Bool)
    (turn : ∀ i v I oI C oC D m₂ ys h tk (E' : Value → Shared → Prop), i < n → P i v → NsObj oC m₂ → m₂ x = some v → Fr h₀ L h m → News h₀ L h ((I, oI) :: (C, oC) :: (D, lst ys) :: news) → Off3 I C D news → ((@Ne Nat I C) ∧ (@Ne Nat I D) ∧ (@Ne Nat C D)) →
      wpAny (model prog w) A (isTrue ct (compEnvC scope cl C env) (eval ct (compEnvC scope cl C env))) (fun ok s' => if ok = true then
        wpAny (model prog w) A (eval elt (compEnvC scope cl C env)) (CompEnd h₀ L m { s with heap := h, toks := tk } I oI C oC D (lst ys) S (fun _ news' => TestIs (c i) true ∧ news' = news)) E' s'
        else CompEnd h₀ L m { s with heap := h, toks := tk } I oI C oC D (lst ys) S (fun _ news' => TestIs (c i) false ∧ news' = news) Value.none s') E' { s with heap := h, toks := tk })
    (fin : ∀ ys, ys.length = cnt c n → Fin ys news) : CompRestT prog w A h₀ L m env ct elt x scope cl s S P Fin n 0 [] news := by
  have key : ∀ (j i : Nat) (ys : List Value), i + j = n → ys.length = cnt c i → CompRestT prog w A h₀ L m env ct elt x scope cl s S P Fin j i ys news := by
    intro j
    induction j with
    | zero =>
      intro i ys hi hy
      have e : i = n := by omega
      subst e
      exact CompRestT.zero (fin ys hy)
    | succ j ih =>
      intro i ys hi hy
      refine CompRestT.succ ?_
      intro v I oI C oC D m₂ h tk E' hv hC hx F N off ne
      refine wpAny_mono (turn i v I oI C oC D m₂ ys h tk E' (by omega) hv hC hx F N off ne) (fun b s₂ hq => ?_) fun _ _ e => e
      cases b with
      | true =>
        simp only [if_true] at hq ⊢
        refine wpAny_mono hq (fun y s₃ hz => ?_) fun _ _ e => e
        obtain ⟨h', tk', nw, e, F', N', off', hS, ht, rfl⟩ := hz
        refine ⟨h', tk', _, e, F', N', off', hS, ih (i + 1) _ (by omega) ?_⟩
        have ht' : c i = true := ht
        rw [cnt_succ, List.length_append, hy, ht']; simp
      | false =>
        simp only [Bool.false_eq_true, if_false] at hq ⊢
        obtain ⟨h', tk', nw, e, F', N', off', hS, ht, rfl⟩ := hq
        refine ⟨h', tk', _, e, F', N', off', hS, ih (i + 1) _ (by omega) ?_⟩
        have ht' : c i = false := ht
        rw [cnt_succ, hy, ht']; simp
  exact key n 0 [] (by omega) rfl
theorem compEnd_of {I C D : Addr} {s₁ : Shared} {oI oC oD : Obj} {rest : Value → List (Addr × Obj) → Prop} {y : Value} {h' : Heap} {tk : Nat}
    (F : Fr h₀ L h' m) (N : News h₀ L h' ((I, oI) :: (C, oC) :: (D, oD) :: news)) (off : Off3 I C D news) (hS : S news) (r : rest y news) :
    CompEnd h₀ L m s₁ I oI C oC D oD S rest y { s₁ with heap := h', toks := tk } := ⟨h', tk, news, rfl, F, N, off, hS, r⟩
end
end Mine
end

section
open PySem PySem.W PyProof.Rows
set_option Elab.async false
set_option maxRecDepth 100000
set_option maxHeartbeats 8000000
set_option linter.unusedVariables false
namespace Mine
theorem fillK4 (w : World) (h : Heap) (_ : (hd.heap_39 w.params).In h) : PySem.Challenge.rw_nb0156_01.row.prog = PySem.Challenge.rw_nb0156_01.row.prog ∧ (hd.heap_39 w.params) = hd.heap_39 w.params := by
  k_fill
  exact ⟨rfl, rfl⟩
theorem strs_at {its : List Value} {lines : List Str} (hS : StrsAre its lines) {i : Nat} {v : Value} (h : its.toArray[i]? = some v) : ∃ t, v = .str (lines.getD i Str.empty) t := by
  obtain ⟨y, t, e, hy⟩ := StrsAre.item hS i v (by simpa using h)
  exact ⟨t, by rw [e, List.getD_eq_getElem?_getD, hy]; rfl⟩
theorem nms_at {its : List Value} {ns : List Nm} (hS : NmsAre its ns) {i : Nat} {v : Value} (h : its.toArray[i]? = some v) : NmIs v (ns.getD i (.i 0)) := by
  have h' : its[i]? = some v := by simpa using h
  have hlt : i < its.length := (List.getElem?_eq_some_iff.mp h').1
  have hlt' : i < ns.length := hS.length ▸ hlt
  obtain ⟨v', e, hv⟩ := hS.get i (ns.getD i (.i 0)) (by rw [List.getD_eq_getElem?_getD, List.getElem?_eq_getElem hlt']; rfl)
  rw [h'] at e; cases e; exact hv
section
theorem reset3 : True := by
  w_top off
  exact trivial
local macro_rules | `(tactic| walk_at "CompSrcT") => `(tactic| k_extra "src")
local macro_rules | `(tactic| walk_at "CompEnd") => `(tactic| k_extra "comp end")
local macro_rules | `(tactic| walk_at "call builtin:len") => `(tactic| k_extra "len")
local macro_rules | `(tactic| walk_at "compareOp Lt") => `(tactic| k_extra "lt")

theorem cnt_t0 {w : World} {d : Addr} {its : List Value} {n : Nat} (x : Str) (tx : Tok) (th : Tok) {news : List (Addr × Obj)} (lines : List Str) (hS : StrsAre its lines) (hmem : (d, W.listOf its.toArray n) ∈ news) (hsz : lines.length < 1000)
   (c : Nat → Bool) (hc : ∀ i, i < lines.length → StrLt (lines.getD i Str.empty) x = c i) :
   Spec w 3 76 [.ref d, .str x tx, .int 0 th] [] news news (fun v => ∃ t, v = .int (cnt c lines.length) t) := by
  unfold Spec; intros; rename_i hret
  refine wpAny_call ?_
  k_dflt (refine' code_defC ?k1 ?k2 ?k3 ?k4 ?k5 ?kA ?kF ?kK ?k6 ?k7 ?k8 ?k9 ?kB ?kD ?_ ?c2 ?c3 ?c4; (case kA => exact rfl); (case kF => exact rfl); (case kK => assumption); (case k1 => k_asm); (case k2 => k_asm); (case k3 => k_asm); (case k4 => k_asm); (case k5 => k_asm); (case k6 => k_is); (case k7 => k_is); (case k8 => ktr_room); (case k9 => exact BindsTo.of_eq rfl); (case kB => exact rfl); (case kD => decide +kernel); (case c2 => exact rfl); (case c3 => exact rfl); (case c4 => exact rfl); k_whole; intro g' L' h' tk' cells' FG' F' N' Y' B' X' T' l1; k_cells Y'; (try simp only [List.cons_append, List.nil_append] at N'); (try dsimp only); (try k_lift B'); (try k_fold))
  k_with_none
  have hl8 := hS.length
  have hle := cnt_le c its.length
  (k_with "src" => (refine' LCt.CompSrcT.ledger (its := its.toArray) ?k1 ?k2 ?k3 ?k4 ?k5 ?_; (case k1 => rfl); (case k2 => k_asm); (case k3 => k_asm); (case k4 => exact List.Mem.tail _ hmem); (case k5 => (rw [List.size_toArray]; unfold sizeLine; omega)); intro g9; (try rw [List.size_toArray]); refine' compT_count c ?t1 ?t2; (case' t1 => (intro i9 v9 I9 oI9 C9 oC9 D9 m9 ys9 h9 tk9 E9 hi9 hv9 hC9 hx9 F9 N9 off9 ne9; obtain ⟨t9, e9⟩ := strs_at hS hv9; subst e9; dsimp only)); (case' t2 => intro ys9 hl9)))
  (k_with "comp end" => (first
    | exact compEnd_of (by k_asm) (by k_asm) off9 (Or.inr ⟨_, List.Mem.tail _ hmem, rfl, _, rfl⟩) ⟨(hc i9 (by omega)).symm.trans (decide_eq_true (by assumption)), rfl⟩
    | exact compEnd_of (by k_asm) (by k_asm) off9 (Or.inr ⟨_, List.Mem.tail _ hmem, rfl, _, rfl⟩) ⟨(hc i9 (by omega)).symm.trans (decide_eq_false (by assumption)), rfl⟩))
  (k_with "lt" => (fail))
  (k_with "len" => (k_dflt (refine' kst_len (us := ys9) (k := cnt c lines.length) ?k1 ?k2 ?k3 ?k4 ?_; (case k1 => k_asm); (case k2 => exact List.Mem.head _); (case k3 => (rw [hl9, hl8])); (case k4 => (rw [hl8] at hle; omega)))))
  k_steps
  exact hret _ _ _ ⟨_, rfl⟩ (by k_asm) (fun p hp => (by assumption : News _ _ _ (_ :: _ :: _)) p (List.Mem.tail _ (List.Mem.tail _ hp)))
theorem cnt_t1 {w : World} {d : Addr} {its : List Value} {n : Nat} (x : Str) (tx : Tok) (th : Tok) {news : List (Addr × Obj)} (lines : List Str) (hS : StrsAre its lines) (hmem : (d, W.listOf its.toArray n) ∈ news) (hsz : lines.length < 1000)
   (c : Nat → Bool) (hc : ∀ i, i < lines.length → (!StrLt x (lines.getD i Str.empty)) = c i) :
   Spec w 3 76 [.ref d, .str x tx, .int 1 th] [] news news (fun v => ∃ t, v = .int (cnt c lines.length) t) := by
  unfold Spec; intros; rename_i hret
  refine wpAny_call ?_
  k_dflt (refine' code_defC ?k1 ?k2 ?k3 ?k4 ?k5 ?kA ?kF ?kK ?k6 ?k7 ?k8 ?k9 ?kB ?kD ?_ ?c2 ?c3 ?c4; (case kA => exact rfl); (case kF => exact rfl); (case kK => assumption); (case k1 => k_asm); (case k2 => k_asm); (case k3 => k_asm); (case k4 => k_asm); (case k5 => k_asm); (case k6 => k_is); (case k7 => k_is); (case k8 => ktr_room); (case k9 => exact BindsTo.of_eq rfl); (case kB => exact rfl); (case kD => decide +kernel); (case c2 => exact rfl); (case c3 => exact rfl); (case c4 => exact rfl); k_whole; intro g' L' h' tk' cells' FG' F' N' Y' B' X' T' l1; k_cells Y'; (try simp only [List.cons_append, List.nil_append] at N'); (try dsimp only); (try k_lift B'); (try k_fold))
  k_with_none
  have hl8 := hS.length
  have hle := cnt_le c its.length
  (k_with "src" => (refine' LCt.CompSrcT.ledger (its := its.toArray) ?k1 ?k2 ?k3 ?k4 ?k5 ?_; (case k1 => rfl); (case k2 => k_asm); (case k3 => k_asm); (case k4 => exact List.Mem.tail _ hmem); (case k5 => (rw [List.size_toArray]; unfold sizeLine; omega)); intro g9; (try rw [List.size_toArray]); refine' compT_count c ?t1 ?t2; (case' t1 => (intro i9 v9 I9 oI9 C9 oC9 D9 m9 ys9 h9 tk9 E9 hi9 hv9 hC9 hx9 F9 N9 off9 ne9; obtain ⟨t9, e9⟩ := strs_at hS hv9; subst e9; dsimp only)); (case' t2 => intro ys9 hl9)))
  (k_with "comp end" => (first
    | exact compEnd_of (by k_asm) (by k_asm) off9 (Or.inr ⟨_, List.Mem.tail _ hmem, rfl, _, rfl⟩) ⟨(hc i9 (by omega)).symm.trans (not_dec_false (by assumption)), rfl⟩
    | exact compEnd_of (by k_asm) (by k_asm) off9 (Or.inr ⟨_, List.Mem.tail _ hmem, rfl, _, rfl⟩) ⟨(hc i9 (by omega)).symm.trans (not_dec_true (by assumption)), rfl⟩))
  (k_with "lt" => (fail))
  (k_with "len" => (k_dflt (refine' kst_len (us := ys9) (k := cnt c lines.length) ?k1 ?k2 ?k3 ?k4 ?_; (case k1 => k_asm); (case k2 => exact List.Mem.head _); (case k3 => (rw [hl9, hl8])); (case k4 => (rw [hl8] at hle; omega)))))
  k_steps
  exact hret _ _ _ ⟨_, rfl⟩ (by k_asm) (fun p hp => (by assumption : News _ _ _ (_ :: _ :: _)) p (List.Mem.tail _ (List.Mem.tail _ hp)))
theorem cnt_n0 {w : World} {d : Addr} {its : List Value} {n : Nat} (xv : Value) (xn : Nm) (hx : NmIs xv xn) (th : Tok) {news : List (Addr × Obj)} (ns : List Nm) (hS : NmsAre its ns) (hmem : (d, W.listOf its.toArray n) ∈ news) (hsz : ns.length < 1000)
   (c : Nat → Bool) (hc : ∀ i, i < ns.length → decide ((ns.getD i (.i 0)).val < xn.val) = c i) :
   Spec w 3 76 [.ref d, xv, .int 0 th] [] news news (fun v => ∃ t, v = .int (cnt c ns.length) t) := by
  unfold Spec; intros; rename_i hret
  refine wpAny_call ?_
  k_dflt (refine' code_defC ?k1 ?k2 ?k3 ?k4 ?k5 ?kA ?kF ?kK ?k6 ?k7 ?k8 ?k9 ?kB ?kD ?_ ?c2 ?c3 ?c4; (case kA => exact rfl); (case kF => exact rfl); (case kK => assumption); (case k1 => k_asm); (case k2 => k_asm); (case k3 => k_asm); (case k4 => k_asm); (case k5 => k_asm); (case k6 => k_is); (case k7 => k_is); (case k8 => ktr_room); (case k9 => exact BindsTo.of_eq rfl); (case kB => exact rfl); (case kD => decide +kernel); (case c2 => exact rfl); (case c3 => exact rfl); (case c4 => exact rfl); k_whole; intro g' L' h' tk' cells' FG' F' N' Y' B' X' T' l1; k_cells Y'; (try simp only [List.cons_append, List.nil_append] at N'); (try dsimp only); (try k_lift B'); (try k_fold))
  k_with_none
  have hl8 := hS.length
  have hle := cnt_le c its.length
  (k_with "src" => (refine' LCt.CompSrcT.ledger (its := its.toArray) ?k1 ?k2 ?k3 ?k4 ?k5 ?_; (case k1 => rfl); (case k2 => k_asm); (case k3 => k_asm); (case k4 => exact List.Mem.tail _ hmem); (case k5 => (rw [List.size_toArray]; unfold sizeLine; omega)); intro g9; (try rw [List.size_toArray]); refine' compT_count c ?t1 ?t2; (case' t1 => (intro i9 v9 I9 oI9 C9 oC9 D9 m9 ys9 h9 tk9 E9 hi9 hv9 hC9 hx9 F9 N9 off9 ne9; have nv9 := nms_at hS hv9)); (case' t2 => intro ys9 hl9)))
  (k_with "comp end" => (first
    | exact compEnd_of (by k_asm) (by k_asm) off9 (Or.inr ⟨_, List.Mem.tail _ hmem, rfl, _, rfl⟩) ⟨(hc i9 (by omega)).symm.trans (decide_eq_true (by assumption)), rfl⟩
    | exact compEnd_of (by k_asm) (by k_asm) off9 (Or.inr ⟨_, List.Mem.tail _ hmem, rfl, _, rfl⟩) ⟨(hc i9 (by omega)).symm.trans (decide_eq_false (by assumption)), rfl⟩))
  (k_with "lt" => (refine lt_nm nv9 hx ?_))
  (k_with "len" => (k_dflt (refine' kst_len (us := ys9) (k := cnt c ns.length) ?k1 ?k2 ?k3 ?k4 ?_; (case k1 => k_asm); (case k2 => exact List.Mem.head _); (case k3 => (rw [hl9, hl8])); (case k4 => (rw [hl8] at hle; omega)))))
  k_steps
  exact hret _ _ _ ⟨_, rfl⟩ (by k_asm) (fun p hp => (by assumption : News _ _ _ (_ :: _ :: _)) p (List.Mem.tail _ (List.Mem.tail _ hp)))
theorem cnt_n1 {w : World} {d : Addr} {its : List Value} {n : Nat} (xv : Value) (xn : Nm) (hx : NmIs xv xn) (th : Tok) {news : List (Addr × Obj)} (ns : List Nm) (hS : NmsAre its ns) (hmem : (d, W.listOf its.toArray n) ∈ news) (hsz : ns.length < 1000)
   (c : Nat → Bool) (hc : ∀ i, i < ns.length → (!decide (xn.val < (ns.getD i (.i 0)).val)) = c i) :
   Spec w 3 76 [.ref d, xv, .int 1 th] [] news news (fun v => ∃ t, v = .int (cnt c ns.length) t) := by
  unfold Spec; intros; rename_i hret
  refine wpAny_call ?_
  k_dflt (refine' code_defC ?k1 ?k2 ?k3 ?k4 ?k5 ?kA ?kF ?kK ?k6 ?k7 ?k8 ?k9 ?kB ?kD ?_ ?c2 ?c3 ?c4; (case kA => exact rfl); (case kF => exact rfl); (case kK => assumption); (case k1 => k_asm); (case k2 => k_asm); (case k3 => k_asm); (case k4 => k_asm); (case k5 => k_asm); (case k6 => k_is); (case k7 => k_is); (case k8 => ktr_room); (case k9 => exact BindsTo.of_eq rfl); (case kB => exact rfl); (case kD => decide +kernel); (case c2 => exact rfl); (case c3 => exact rfl); (case c4 => exact rfl); k_whole; intro g' L' h' tk' cells' FG' F' N' Y' B' X' T' l1; k_cells Y'; (try simp only [List.cons_append, List.nil_append] at N'); (try dsimp only); (try k_lift B'); (try k_fold))
  k_with_none
  have hl8 := hS.length
  have hle := cnt_le c its.length
  (k_with "src" => (refine' LCt.CompSrcT.ledger (its := its.toArray) ?k1 ?k2 ?k3 ?k4 ?k5 ?_; (case k1 => rfl); (case k2 => k_asm); (case k3 => k_asm); (case k4 => exact List.Mem.tail _ hmem); (case k5 => (rw [List.size_toArray]; unfold sizeLine; omega)); intro g9; (try rw [List.size_toArray]); refine' compT_count c ?t1 ?t2; (case' t1 => (intro i9 v9 I9 oI9 C9 oC9 D9 m9 ys9 h9 tk9 E9 hi9 hv9 hC9 hx9 F9 N9 off9 ne9; have nv9 := nms_at hS hv9)); (case' t2 => intro ys9 hl9)))
  (k_with "comp end" => (first
    | exact compEnd_of (by k_asm) (by k_asm) off9 (Or.inr ⟨_, List.Mem.tail _ hmem, rfl, _, rfl⟩) ⟨(hc i9 (by omega)).symm.trans (not_dec_false (by assumption)), rfl⟩
    | exact compEnd_of (by k_asm) (by k_asm) off9 (Or.inr ⟨_, List.Mem.tail _ hmem, rfl, _, rfl⟩) ⟨(hc i9 (by omega)).symm.trans (not_dec_true (by assumption)), rfl⟩))
  (k_with "lt" => (refine lt_nm hx nv9 ?_))
  (k_with "len" => (k_dflt (refine' kst_len (us := ys9) (k := cnt c ns.length) ?k1 ?k2 ?k3 ?k4 ?_; (case k1 => k_asm); (case k2 => exact List.Mem.head _); (case k3 => (rw [hl9, hl8])); (case k4 => (rw [hl8] at hle; omega)))))
  k_steps
  exact hret _ _ _ ⟨_, rfl⟩ (by k_asm) (fun p hp => (by assumption : News _ _ _ (_ :: _ :: _)) p (List.Mem.tail _ (List.Mem.tail _ hp)))
end
end Mine
end

section
open PySem PySem.W PyProof.Rows
open PySem.Sem (wp)
set_option Elab.async false
set_option maxRecDepth 100000
set_option maxHeartbeats 8000000
set_option linter.unusedVariables false
namespace Mine
def Since (S C : Addr) (s₀ s : Shared) : Prop :=
  ∃ h' tk, s = { s₀ with heap := h', toks := tk } ∧ ∀ b o, b ≤ S → b ≠ C → s₀.heap.get? b = some o → h'.get? b = some o
theorem Since.refl (S C : Addr) (s : Shared) : Since S C s s := ⟨s.heap, s.toks, rfl, fun _ _ _ _ e => e⟩
theorem Since.step {S C : Addr} {s₀ s : Shared} (x : Since S C s₀ s) {h' : Heap} {tk : Nat} (hk : ∀ b o, b ≤ S → b ≠ C → s.heap.get? b = some o → h'.get? b = some o) :
    Since S C s₀ { s with heap := h', toks := tk } := by
  obtain ⟨h₁, tk₁, rfl, hk₁⟩ := x
  exact ⟨h', tk, rfl, fun b o hb hC e => hk b o hb hC (hk₁ b o hb hC e)⟩
/-- what the drained generator promises at a yield, and what it is promised -/
def drainY (S C : Addr) (N : Nat) (P : Nat → Value → Prop) : Protocol := fun m s₀ v s kap =>
  P (N - 1 - m) v ∧ Since S C s₀ s ∧ ∀ s'' : Shared, (∀ b o, b ≠ S → s.heap.get? b = some o → s''.heap.get? b = some o) → kap (.send .none) s''
def drainR (S C : Addr) : GenEnd := fun n s₀ r s₁ => r = .ok (.ret .none) ∧ (n = 0 ∧ Since S C s₀ s₁)

theorem allBare_set {s : Shared} {g : Nat} {x : GenState} (h : AllBare s.gens) (hx : x.bare = true) : AllBare (s.setGen g x).gens := by
  intro y hy
  have hy' : y ∈ s.gens.setIfInBounds g x := hy
  obtain ⟨i, hi, e⟩ := Array.mem_iff_getElem.mp hy'
  rw [Array.getElem_setIfInBounds (by simpa using hi)] at e
  split at e
  · rw [← e]; exact hx
  · rw [← e]; exact h _ (Array.getElem_mem _)

section
variable {prog : Program} {w : World} {A : Around} {E : Value → Shared → Prop} {s : Shared}
/-- a generator function's object asked for its next item -/
theorem next_fn {a : Addr} {g n : Nat} {gs : GenState} {P : Nat → Shared → Shared → Prop} {Y : Protocol} {Q : Option Value → Shared → Prop} (hh : A.handled = none)
    (hl : s.heap.NoLimit) (hroom : A.depth < recursionLimit) (hg : s.heap.IsGen a g) (hgs : s.gens[g]? = some gs)
    (hgo : gs.Goes (model prog w) A.in1 (fun n s₀ r s₁ => r = .ok (.ret .none) ∧ P n s₀ s₁) Y n (.send .none) (s.setGen g .running))
    (hY : ∀ v s₁ gs', gs'.bare = true → Y (n - 1) (s.setGen g .running) v s₁ (fun r' s'' => match n with
        | 0 => False
        | m + 1 => gs'.Goes (model prog w) A.in1 (fun n s₀ r s₁ => r = .ok (.ret .none) ∧ P n s₀ s₁) Y m r' s'') → Q (some v) (s₁.setGen g gs'))
    (hP : ∀ s₁, P n (s.setGen g .running) s₁ → ∀ h', (∀ b o, s₁.heap.get? b = some o → h'.get? b = some o) → Q none { s₁.setGen g .finished with heap := h' }) :
    wpAny (model prog w) A (pyNext (.ref a)) Q E s := by
  unfold pyNext
  refine wpAny_bind (wpAny_attempt (wpAny_callSpecial?_slot (name := Str.ofString "__next__") hg.typeIs slot_gen_next
    (wpAny_call_entry slot_gen_next hg.typeIs entry_gen_next ?_ (args_gen_next _))))
  show wpAny _ A.in1 (Builtin.Generator.genWake (.ref a) (.send .none)) _ _ s
  unfold Builtin.Generator.genWake
  refine wpAny_bind (wpAny_holding (wpAny_genNumber hg (wpAny_bind (wpAny_genState hgs ?_))))
  cases gs with
  | running => exact hgo.elim
  | finished => exact hgo.elim
  | _ =>
    refine wpAny_bind (wpAny_roomToWake hl hroom ?_)
    show wpAny _ A.in1 (.resume g (.send .none) [] _) _ _ s
    refine wpAny_resumeQ hgs hgo (fun x s₁ hx => ?_) (fun v s₁ gs' hb hv => ?_)
    · obtain ⟨rfl, hp⟩ := hx
      show wpAny _ A.in1 (newExc (.type "StopIteration") [] >>= _) _ _ _
      refine wpAny_bind ?_
      simp only [newExc, newTuple]
      refine wpAny_bind (wpAny_newObj_type ?_ (by size_fits))
      refine wpAny_bind (m := firstArgMember _ _) (wpAny_of_eq (a := Value.none) (by first | rfl | (simp only [firstArgMember]; rfl)) ?_)
      refine wpAny_newObj_type ?_ (by size_fits)
      simp only [raiseNew]
      refine wpAny_bind (wpAny_bind (wpAny_handled ?_))
      first | rw [show A.in1.handled = none from hh] | rw [hh]
      refine wpAny_throw ?_
      refine wpAny_bind (wpAny_isInstance (T := "StopIteration") (b := true) ⟨_, Heap.get?_push_size _ rfl, rfl⟩ isSubtype_stop ?_)
      exact wpAny_pure (hP s₁ hp _ fun b o hb => Heap.get?_push_of_some _ (Heap.get?_push_of_some _ hb))
    · exact wpAny_pure ⟨v, rfl, wpAny_pure (hY v s₁ gs' hb hv)⟩
end

abbrev lstAt (acc : Array Value) (c : Nat) : Obj := { cls := .type "list", dict := none, data := .seq acc c, slots := #[] }
section
variable {prog : Program} {w : World} {A : Around} {R' : Result → Shared → Prop} {S C a : Addr} {g N : Nat} {P : Nat → Value → Prop} {res : Value}
theorem drain_loop (hh : A.handled = none) (hroom : A.depth < recursionLimit) (ha : a ≤ S) (haC : a ≠ C) (haS : a ≠ S) (hSC : S ≠ C) (hc : cStatics ≤ S) (hcC : cStatics ≠ C) (hcS : cStatics ≠ S) (hN : N < 1000) :
    ∀ (k i : Nat) (s : Shared) (acc : Array Value) (c : Nat) (gs : GenState), N - i = k → i ≤ N → s.heap.IsGen a g → s.heap.NoLimit → s.gens[g]? = some gs → AllBare s.gens →
    (∀ s'' : Shared, (∀ b o, b ≠ S → s.heap.get? b = some o → s''.heap.get? b = some o) → (∃ o, s''.heap.get? S = some o) → gs.Goes (model prog w) A.in1.in1 (drainR S C) (drainY S C N P) k (.send .none) s'') →
    s.heap.get? S = some (lstAt acc c) → ItemsOf P acc i →
    (∀ h' tk' gens' acc' c', (∀ b o, b < S → b ≠ C → s.heap.get? b = some o → h'.get? b = some o) → AllBare gens' → h'.get? S = some (lstAt acc' c') → ItemsOf P acc' N → R' (.ok (.ret res)) { s with heap := h', toks := tk', gens := gens' }) →
    codeAny (model prog w) A (.builtin "list.extend.loop" ⟨[.ref S, .ref a, res], []⟩) R' s := by
  intro k
  induction k with
  | zero =>
    intro i s acc c gs hk hi hg hl hgs hb hgo hS hacc hR
    have hin : i = N := by lia
    subst hin
    refine codeAny_builtin F.entry_extend_loop ?_
    rw [Around.under_plainId F.plain_extend_loop _]
    show wpAny _ A.in1 (pyNext (.ref a) >>= _) _ _ s
    refine wpAny_bind (next_fn (A := A.in1) (P := fun n s₀ s₁ => n = 0 ∧ Since S C s₀ s₁) (Y := drainY S C i P) hh hl hroom hg hgs (hgo _ (fun _ _ _ e => e) ⟨_, hS⟩) (fun v s₁ gs' _ hv => ?_) (fun s₁ hp h' hk' => ?_))
    · obtain ⟨_, _, hkap⟩ := hv
      exact False.elim (hkap s₁ fun _ _ _ e => e)
    · obtain ⟨_, h₁, tk₁, rfl, hk₁⟩ := hp
      refine wpAny_pure (hR h' tk₁ _ acc c (fun b o hb hC e => hk' b o (hk₁ b o (Nat.le_of_lt hb) hC e)) (allBare_set (allBare_set hb rfl) rfl) ?_ hacc)
      exact hk' _ _ (hk₁ _ _ (Nat.le_refl _) hSC hS)
  | succ k ih =>
    intro i s acc c gs hk hi hg hl hgs hb hgo hS hacc hR
    have hlt : i < N := by lia
    refine codeAny_builtin F.entry_extend_loop ?_
    rw [Around.under_plainId F.plain_extend_loop _]
    show wpAny _ A.in1 (pyNext (.ref a) >>= _) _ _ s
    refine wpAny_bind (next_fn (A := A.in1) (P := fun n s₀ s₁ => n = 0 ∧ Since S C s₀ s₁) (Y := drainY S C N P) hh hl hroom hg hgs (hgo _ (fun _ _ _ e => e) ⟨_, hS⟩) (fun v s₁ gs' hb' hv => ?_) (fun s₁ hp h' hk' => ?_))
    · obtain ⟨hP, ⟨h₁, tk₁, rfl, hk₁⟩, hkap⟩ := hv
      have hidx : N - 1 - (k + 1 - 1) = i := by lia
      rw [hidx] at hP
      have hS₁ : h₁.get? S = some (lstAt acc c) := hk₁ _ _ (Nat.le_refl _) hSC hS
      show wpAny _ A.in1 (updateSeq S (·.push v) >>= _) _ _ _
      refine wpAny_bind ?_
      refine wpAny_updateSeq hS₁ rfl (wpAny_pure ⟨plainId_quiet F.plain_extend_loop _, ih (i + 1) _ (acc.push v) _ gs' (by lia) hlt ?_ ?_ ?_ ?_ ?_ (Heap.get?_update_self _ hS₁ rfl) (hacc.push hP) ?_⟩)
        (by rw [hacc.1]; unfold sizeLine; lia) (by show (acc.push v).size ≤ sizeLine + 1; rw [Array.size_push, hacc.1]; unfold sizeLine; lia)
      · obtain ⟨o, nm, qn, ho, r⟩ := hg
        exact ⟨o, nm, qn, (Heap.get?_update_other _ _ (Ne.symm haS)).trans (hk₁ a o ha haC ho), r⟩
      · obtain ⟨mc, hns, hnn⟩ := hl
        exact ⟨mc, hns.at' fun o e => (Heap.get?_update_other _ _ (Ne.symm hcS)).trans (hk₁ cStatics o hc hcC e), hnn⟩
      · exact setGen_self (gs := .running) (setGen_self hgs)
      · exact allBare_set (allBare_set hb rfl) hb'
      · intro s'' hk'' _
        exact hkap s'' fun b o hbS e => hk'' b o hbS ((Heap.get?_update_other _ _ (Ne.symm hbS)).trans e)
      · intro h' tk' gens' acc' c' hkk hbb hSS hacc'
        refine hR h' tk' gens' acc' c' (fun b o hb9 hC9 e => hkk b o hb9 hC9 ?_) hbb hSS hacc'
        exact (Heap.get?_update_other _ _ (Nat.ne_of_gt hb9)).trans (hk₁ b o (Nat.le_of_lt hb9) hC9 e)
    · exact absurd hp.1 (Nat.succ_ne_zero k)
end
end Mine
end

section
open PySem PySem.W PyProof.Rows
open PySem.Sem (wp)
set_option Elab.async false
set_option maxRecDepth 100000
set_option maxHeartbeats 8000000
set_option linter.unusedVariables false
namespace Mine
section
variable {prog : Program} {w : World} {A : Around} {R' : Result → Shared → Prop} {S C a : Addr} {g N : Nat} {P : Nat → Value → Prop} {s : Shared} {gs : GenState}
theorem extend_fn (hh : A.handled = none) (hroom : A.depth < recursionLimit) (ha : a < S) (haC : a ≠ C) (hSC : S ≠ C) (hc : cStatics < S) (hcC : cStatics ≠ C) (hN : N < 1000)
    (hg : s.heap.IsGen a g) (hl : s.heap.NoLimit) (hgs : s.gens[g]? = some gs) (hb : AllBare s.gens) (res : Value) (c₀ : Nat)
    (hgo : ∀ s'' : Shared, (∀ b o, b ≠ S → s.heap.get? b = some o → s''.heap.get? b = some o) → (∃ o, s''.heap.get? S = some o) → gs.Goes (model prog w) A.in1.in1 (drainR S C) (drainY S C N P) N (.send .none) s'')
    (hS : s.heap.get? S = some { cls := .type "list", data := .seq #[] c₀ })
    (hR : ∀ h' tk' gens' acc' c', (∀ b o, b < S → b ≠ C → s.heap.get? b = some o → h'.get? b = some o) → AllBare gens' → h'.get? S = some (lstAt acc' c') → ItemsOf P acc' N → R' (.ok (.ret res)) { s with heap := h', toks := tk', gens := gens' }) :
    wpAny (model prog w) A.in1 (Builtin.List.listExtendWith (.ref S) (.ref a) res)
      (fun fin s' => match fin with | .done f => R' (.ok f) s' | .again c' => c'.quiet = true ∧ codeAny (model prog w) A c' R' s') (fun e s' => R' (.error e) s') s := by
  have hSa : S ≠ a := Nat.ne_of_gt ha
  have hcS : cStatics ≠ S := Nat.ne_of_lt hc
  unfold Builtin.List.listExtendWith
  refine wpAny_bind (wpAny_typeOf hg.typeIs ?_)
  have h1 : Builtin.List.listSameRef (.ref S) (.ref a) = false := by simp [Builtin.List.listSameRef, hSa]
  have h2 : (Value.type "generator" == Value.type "list") = false := by decide
  have h3 : (Value.type "generator" == Value.type "tuple") = false := by decide
  simp only [h1, h2, h3, Bool.or_false, Bool.false_eq_true, if_false]
  refine wpAny_bind (wpAny_pyIter_gen hg ?_)
  refine wpAny_bind (wpAny_holding ?_)
  unfold Builtin.List.listLengthHint
  refine wpAny_bind (wpAny_specialOf hg.typeIs F.gen_no_len ?_)
  show wpAny _ A.in1 (specialOf (Value.ref a) (Str.ofString "__length_hint__") >>= _) _ _ _
  refine wpAny_bind (wpAny_specialOf hg.typeIs F.gen_no_hint ?_)
  refine wpAny_pure ?_
  show wpAny _ A.in1 (rule "list.extend.makes-room" >>= fun _ => Builtin.List.listTouch (.ref S) >>= fun _ =>
    again (.builtin "list.extend.loop" ⟨[.ref S, .ref a, res], []⟩)) _ _ _
  refine wpAny_bind (wpAny_rule ?_)
  refine wpAny_bind ?_
  show wpAny _ A.in1 (updateSeq S (·.push .none) >>= fun _ => updateSeq S (·.pop)) _ _ _
  refine wpAny_bind (wpAny_updateSeq hS rfl ?_)
  have hS₂ := Heap.get?_update_self (Obj.mapSeq (·.push Value.none)) hS rfl
  refine wpAny_updateSeq (hz := by seq_fits) hS₂ rfl ?_
  have hS₃ := Heap.get?_update_self (Obj.mapSeq (·.pop)) hS₂ rfl
  have oth : ∀ b o, b ≠ S → s.heap.get? b = some o → ((s.heap.update S (Obj.mapSeq (·.push Value.none))).update S (Obj.mapSeq (·.pop))).get? b = some o :=
    fun b o hb e => (Heap.get?_update_other _ _ (Ne.symm hb)).trans ((Heap.get?_update_other _ _ (Ne.symm hb)).trans e)
  refine wpAny_pure ⟨plainId_quiet F.plain_extend_loop _, drain_loop hh hroom (Nat.le_of_lt ha) haC (Ne.symm hSa) hSC (Nat.le_of_lt hc) hcC hcS hN N 0 _ _ _ gs rfl (Nat.zero_le _) ?_ ?_ hgs hb ?_ hS₃ (ItemsOf.nil P) ?_⟩
  · obtain ⟨o, nm, qn, ho, r⟩ := hg
    exact ⟨o, nm, qn, oth a o (Ne.symm hSa) ho, r⟩
  · obtain ⟨mc, hns, hnn⟩ := hl
    exact ⟨mc, hns.at' fun o e => oth _ o hcS e, hnn⟩
  · exact fun s'' hk hx => hgo s'' (fun b o hbS e => hk b o hbS (oth b o hbS e)) hx
  · exact fun h' tk' gens' acc' c' hk hbb hSS hacc => hR h' tk' gens' acc' c' (fun b o hb9 hC9 e => hk b o hb9 hC9 (oth b o (Nat.ne_of_lt hb9) e)) hbb hSS hacc
end
section
variable {prog : Program} {w : World} {A : Around} {E : Value → Shared → Prop} {C a : Addr} {g N : Nat} {P : Nat → Value → Prop} {s : Shared} {gs : GenState}
theorem call_list_fn {Q : Value → Shared → Prop} (hh : A.handled = none) (hroom : A.depth < recursionLimit) (haC : a ≠ C) (hCs : C < s.heap.objs.size) (hcC : cStatics ≠ C) (hN : N < 1000)
    (hg : s.heap.IsGen a g) (hl : s.heap.NoLimit) (hgs : s.gens[g]? = some gs) (hb : AllBare s.gens)
    (hgo : ∀ s'' : Shared, (∀ b o, s.heap.get? b = some o → s''.heap.get? b = some o) → (∃ o, s''.heap.get? s.heap.objs.size = some o) → gs.Goes (model prog w) A.in1.in1.in1 (drainR s.heap.objs.size C) (drainY s.heap.objs.size C N P) N (.send .none) s'')
    (hQ : ∀ h' tk' gens' acc' c', (∀ b o, b ≠ C → s.heap.get? b = some o → h'.get? b = some o) → AllBare gens' → h'.get? s.heap.objs.size = some (lstAt acc' c') → ItemsOf P acc' N → Q (.ref s.heap.objs.size) { s with heap := h', toks := tk', gens := gens' }) :
    wpAny (model prog w) A (call (.type "list") [.ref a]) Q E s := by
  have haS : a < s.heap.objs.size := let ⟨_, _, _, ho, _⟩ := hg; Heap.lt_size ho
  have hcS : cStatics < s.heap.objs.size := let ⟨_, hn, _⟩ := hl; hn.lt
  refine callType_codes (Q₁ := fun obj s₁ => obj = .ref s.heap.objs.size ∧ s₁ = { s with heap := s.heap.push { cls := .type "list", data := .seq #[] } }) F.called_list (F.typeCall_list_1 _) F.entry_list_init
    (code_list_new _ ⟨rfl, rfl⟩) fun obj s₁ h₁ => ?_
  obtain ⟨rfl, rfl⟩ := h₁
  have hS : (s.heap.push { cls := .type "list", data := .seq #[] }).get? s.heap.objs.size = some { cls := .type "list", data := .seq #[] } := Heap.get?_push_size _ rfl
  refine ⟨⟨_, hS, rfl⟩, F.args_list_init_2 _ _, ?_⟩
  show wpAny _ A.in1.in1 (do let old ← Builtin.List.listItems (.ref s.heap.objs.size); Builtin.List.listUpdate (.ref s.heap.objs.size) (fun _ => #[]); letGo old.toList.reverse; Builtin.List.listExtendWith (.ref s.heap.objs.size) (.ref a) .none) _ _ _
  refine wpAny_bind ?_
  unfold Builtin.List.listItems
  refine wpAny_bind (wpAny_seqItems hS rfl (wpAny_pure ?_))
  show wpAny _ A.in1.in1 (updateSeq s.heap.objs.size (fun _ => #[]) >>= fun _ => letGo (#[] : Array Value).toList.reverse >>= fun _ => Builtin.List.listExtendWith (.ref s.heap.objs.size) (.ref a) .none) _ _ _
  refine wpAny_bind (wpAny_updateSeq hS rfl ?_)
  have hS₂ := Heap.get?_update_self (Obj.mapSeq (fun _ => (#[] : Array Value))) hS rfl
  have oth : ∀ b o, s.heap.get? b = some o → ((s.heap.push { cls := .type "list", data := .seq #[] }).update s.heap.objs.size (Obj.mapSeq (fun _ => (#[] : Array Value)))).get? b = some o :=
    fun b o e => (Heap.get?_update_other _ _ (Nat.ne_of_gt (Heap.lt_size e))).trans (Heap.get?_push_of_some _ e)
  refine wpAny_bind (wpAny_letGo ?_)
  refine extend_fn (A := A.in1) (P := P) (s := { s with heap := (s.heap.push { cls := .type "list", data := .seq #[] }).update s.heap.objs.size (Obj.mapSeq (fun _ => (#[] : Array Value))) }) hh hroom haS haC (Nat.ne_of_gt hCs) hcS hcC hN ?_ ?_ hgs hb .none _ ?_ hS₂ ?_
  · obtain ⟨o, nm, qn, ho, r⟩ := hg
    exact ⟨o, nm, qn, oth a o ho, r⟩
  · obtain ⟨mc, hns, hnn⟩ := hl
    exact ⟨mc, hns.at' fun o e => oth _ o e, hnn⟩
  · exact fun s'' hk hx => hgo s'' (fun b o e => hk b o (Nat.ne_of_lt (Heap.lt_size e)) (oth b o e)) hx
  · exact fun h' tk' gens' acc' c' hk hbb hSS hacc => ⟨rfl, hQ h' tk' gens' acc' c' (fun b o hC9 e => hk b o (Heap.lt_size e) hC9 (oth b o e)) hbb hSS hacc⟩
end
end Mine
end

section
open PySem PySem.W PyProof.Rows
open PySem.Sem (wp)
set_option Elab.async false
set_option maxRecDepth 100000
set_option maxHeartbeats 8000000
set_option linter.unusedVariables false
namespace Mine
def ifC : Stmt → Expr
  | .If t _ _ _ => t
  | _ => .Constant .none 0 default
def yieldE : Stmt → Expr
  | .Expr (.Yield (some e) _) _ => e
  | _ => .Constant .none 0 default
abbrev resB : List Stmt := fnB (topS 1)
abbrev resS : Scope := fnS (topS 1)
abbrev resE (L : Addr) : Env := envOf (Str.ofString "restore") resS L 21 (.ref 20)
abbrev resFor : List Stmt := forB (resB.getD 2 default)
def noHeap : Heap := { objs := #[], life := {} }
theorem noHeap_get (a : Addr) : noHeap.get? a = none := by simp [noHeap, Heap.get?]
/-- all that a heap holds beside one frame -/
def allOf (h : Heap) (L : Addr) : List (Addr × Obj) := (List.range h.objs.size).filterMap fun b => if b = L then none else (h.get? b).map (b, ·)
theorem allOf_mem {h : Heap} {L b : Addr} {o : Obj} : (b, o) ∈ allOf h L ↔ b ≠ L ∧ h.get? b = some o := by
  unfold allOf
  rw [List.mem_filterMap]
  constructor
  · rintro ⟨c, _, hc⟩
    by_cases e : c = L
    · simp [e] at hc
    · rw [if_neg e] at hc
      obtain ⟨o', ho', e'⟩ := Option.map_eq_some_iff.mp hc
      cases e'
      exact ⟨e, ho'⟩
  · rintro ⟨h1, h2⟩
    exact ⟨b, List.mem_range.mpr (Heap.lt_size h2), by rw [if_neg h1, h2]; rfl⟩
theorem fr_none {h : Heap} {L : Addr} {m : Str → Option Value} (hn : h.Ns L m) : Fr noHeap L h m := ⟨hn, fun b o e => (by rw [noHeap_get] at e; cases e), Nat.zero_le _⟩
theorem news_all {h : Heap} {L : Addr} : News noHeap L h (allOf h L) := fun p hp => by
  obtain ⟨h1, h2⟩ := allOf_mem.mp (show (p.1, p.2) ∈ allOf h L from hp)
  exact ⟨h2, h1, noHeap_get _⟩
section
theorem fillK6 (w : World) (h : Heap) (_ : (hd.heap_39 w.params).In h) : PySem.Challenge.rw_nb0156_01.row.prog = PySem.Challenge.rw_nb0156_01.row.prog ∧ (hd.heap_39 w.params) = hd.heap_39 w.params := by
  k_fill
  exact ⟨rfl, rfl⟩
theorem reset4 : True := by
  w_top off
  exact trivial
local macro_rules | `(tactic| walk_at "compareOp In str ref") => `(tactic| k_extra "in")
theorem restore_test {w : World} {A' : Around} {E' : Value → Shared → Prop} {s₂ : Shared} {L tp : Addr} {u : Str → Option Value} {l tag : Str} {t t1 t2 : Tok} {hX : Heap} {news : List (Addr × Obj)} {Q : Bool → Shared → Prop} (X : (hd.heap_39 w.params).In hX)
    (F : Fr noHeap L s₂.heap (kstB u [(Str.ofString "line", .str l t), (Str.ofString "prefixes", .ref tp)])) (N : News noHeap L s₂.heap news)
    (htp : (tp, { cls := .type "tuple", data := .seq #[.str (Str.ofString "  ") t1, .str tag t2] }) ∈ news) (hl : l.length ≤ 100) (htag : tag.length ≤ 100)
    (hQ : ∀ h' tk', Fr noHeap L h' (kstB u [(Str.ofString "line", .str l t), (Str.ofString "prefixes", .ref tp)]) → News noHeap L h' news → Q (([Str.ofString "  ", tag] : List Str).any (· == Txt.slice l none (some 2))) { s₂ with heap := h', toks := tk' }) :
    wpAny (model PySem.Challenge.rw_nb0156_01.row.prog w) A' (isTrue (ifC (resFor.getD 0 default)) (resE L) (eval (ifC (resFor.getD 0 default)) (resE L))) Q E' s₂ := by
  dsimp only [resE, resFor, resB, resS, ifC, yieldE, topS, fnB, fnS, forB, PySem.Challenge.pw_nb0156_01, List.getD, List.getElem?_cons_succ, List.getElem?_cons_zero, Option.getD_some]
  dsimp only [kstB] at F
  k_with_none
  (k_with "in" => (refine' in_tuple_strs (ys := [Str.ofString "  ", tag]) ?k1 ?k2 ?_; (case k1 => exact News.isTup (by k_asm) htp); (case k2 => exact .cons _ _ (.cons _ _ .nil))))
  k_steps
  exact hQ _ _ (by k_asm) (by k_asm)
theorem restore_elt {w : World} {A' : Around} {E' : Value → Shared → Prop} {s₂ : Shared} {L tp : Addr} {u : Str → Option Value} {l : Str} {t : Tok} {hX : Heap} {news : List (Addr × Obj)} {Q : Value → Shared → Prop} (X : (hd.heap_39 w.params).In hX)
    (F : Fr noHeap L s₂.heap (kstB u [(Str.ofString "line", .str l t), (Str.ofString "prefixes", .ref tp)])) (N : News noHeap L s₂.heap news) (hl : l.length ≤ 100)
    (hQ : ∀ t' h' tk', Fr noHeap L h' (kstB u [(Str.ofString "line", .str l t), (Str.ofString "prefixes", .ref tp)]) → News noHeap L h' news → Q (.str (Txt.slice l (some 2) none) t') { s₂ with heap := h', toks := tk' }) :
    wpAny (model PySem.Challenge.rw_nb0156_01.row.prog w) A' (eval (yieldE ((ifT (resFor.getD 0 default)).getD 0 default)) (resE L)) Q E' s₂ := by
  dsimp only [resE, resFor, resB, resS, ifC, ifT, yieldE, topS, fnB, fnS, forB, PySem.Challenge.pw_nb0156_01, List.getD, List.getElem?_cons_succ, List.getElem?_cons_zero, Option.getD_some]
  dsimp only [kstB] at F
  k_with_none
  k_steps
  exact hQ _ _ _ (by k_asm) (by k_asm)
end
end Mine
end

section
open PySem PySem.W PyProof.Rows
open PySem.Sem (wp)
set_option Elab.async false
set_option maxRecDepth 100000
set_option maxHeartbeats 8000000
set_option linter.unusedVariables false
namespace Mine
section
variable {M : Model} {A : Around} {R : GenEnd} {Y : Protocol} {n : Nat} {s₀ : Shared} {c : Code} {fs : List Frame} {s : Shared} {env : Env}
  {K : Flow → Sem Fin} {H : Value → Sem Fin} {gd : Bool → Bool} {lv : List Value → List Value}
theorem seg_stmt {st : Stmt} {rest : List Stmt}
    (h : wpAny M (A.over c fs) (exec st env) (fun f s' => Seg M A R Y n s₀ c (match f with | .next => (execs rest env).wrap K H gd lv | f => K f) fs s') (fun x s' => Seg M A R Y n s₀ c (H x) fs s') s) :
    Seg M A R Y n s₀ c ((execs (st :: rest) env).wrap K H gd lv) fs s := by
  rw [execs_cons_wrap]; exact seg_wrap h
theorem seg_If {test : Expr} {body orelse : List Stmt} {pos : Pos}
    (h : wpAny M (A.over c fs) (isTrue test env (eval test env)) (fun b s' => Seg M A R Y n s₀ c ((if b = true then execs body env else execs orelse env).wrap K H gd lv) fs s') (fun x s' => Seg M A R Y n s₀ c (H x) fs s') s) :
    Seg M A R Y n s₀ c ((exec (.If test body orelse pos) env).wrap K H gd lv) fs s := by
  rw [exec_If]
  exact seg_bind_wrap (wpAny_standAt (seg_bind_wrap h))
abbrev backFrame (env : Env) (K : Flow → Sem Fin) (H : Value → Sem Fin) (gd : Bool → Bool) (lv : List Value → List Value) (c : Code) (p : Pos) : Frame :=
  .ret (fun r => ((match r with | .ok f => (.pure f : Sem Flow) | .error e => .raise e).onRaise fun (x : Value) => do
        if (← field x 1) == Value.none then unsupported "frame.own-activation:exception-without-traceback"
        setFlight x env.frame).wrap K H gd lv) none (gd false) (lv []) c p []
theorem seg_For {target iter : Expr} {body : List Stmt} {pos : Pos}
    (h : wpAny M (A.over c fs) (eval iter env) (fun x s₁ => wpAny M (A.over c fs) (pyIter x) (fun it s₂ => ∀ p, Seg M A R Y n s₀ (.forLoop target it body [] env) (M.den (.forLoop target it body [] env)) (backFrame env K H gd lv c p :: fs) s₂)
      (fun x s' => Seg M A R Y n s₀ c (H x) fs s') s₁) (fun x s' => Seg M A R Y n s₀ c (H x) fs s') s)
    (hs : ∀ x, foldedSetIterable iter env x = pure x) :
    Seg M A R Y n s₀ c ((exec (.For target iter body [] pos) env).wrap K H gd lv) fs s := by
  rw [exec_For]
  refine seg_bind_wrap (wpAny_standAt ?_)
  refine seg_bind_wrap (wpAny_mono h (fun x s₁ h₁ => ?_) fun _ _ e => e)
  refine seg_bind_wrap (wpAny_of_eq (hs x) ?_)
  refine seg_bind_wrap (wpAny_standAt ?_)
  refine seg_bind_wrap (wpAny_holding (wpAny_mono h₁ (fun it s₂ h₂ => ?_) fun _ _ e => e))
  exact seg_call h₂
end
section
variable {prog : Program} {w : World} {A : Around} {R : GenEnd} {Y : Protocol} {n : Nat} {s₀ : Shared} {fs : List Frame} {s : Shared} {env : Env}
abbrev turnK (target : Expr) (it : Value) (body : List Stmt) (env : Env) (f : Flow) : Sem Fin := match f with
  | .next | .cont => .pure (.again (.forLoop target it body [] env))
  | .brk => .pure (.done .next)
  | .ret v => .pure (.done (.ret v))
abbrev turnH (env : Env) (e : Value) : Sem Fin := (do noteFrame e env; theTreesLotGoes e : Sem Unit).bind fun _ => .raise e
theorem seg_forTurn {target : Expr} {it : Value} {body : List Stmt}
    (h : wpAny (model prog w) (A.over (.forLoop target it body [] env) fs) (pyNext it) (fun r s₁ => match r with
      | none => Seg (model prog w) A R Y n s₀ (.forLoop target it body [] env) (.pure (.again (.block [] env))) fs s₁
      | some v => wpAny (model prog w) (A.over (.forLoop target it body [] env) fs) (assign target env v) (fun _ s₂ =>
          Seg (model prog w) A R Y n s₀ (.forLoop target it body [] env) ((execs body env).wrap (turnK target it body env) (turnH env) id id) fs s₂) (fun _ _ => False) s₁) (fun _ _ => False) s)
    (ht : ∀ v, letOwnedTupleGo target it v = pure ()) :
    Seg (model prog w) A R Y n s₀ (.forLoop target it body [] env) ((model prog w).den (.forLoop target it body [] env)) fs s := by
  show Seg _ A R Y n s₀ _ ((forTurn target it body [] env).onRaise (fun x => do noteFrame x env; theTreesLotGoes x)) fs s
  rw [Sem.onRaise_eq_wrap]
  unfold forTurn
  refine seg_bind_wrap (wpAny_standAt ?_)
  refine seg_bind_wrap (wpAny_onRaise (wpAny_mono h (fun r s₁ h₁ => ?_) fun _ _ e => e.elim))
  cases r with
  | none => exact h₁
  | some v =>
    refine seg_bind_wrap (wpAny_of_eq (ht v) ?_)
    refine seg_bind_wrap (wpAny_mono h₁ (fun _ s₂ h₂ => ?_) fun _ _ e => e.elim)
    rw [Sem.bind_eq_wrap', Sem.wrap_wrap]
    rw [Sem.wrap_congr (execs body env) _ _ (K' := turnK target it body env) (H' := turnH env) (fun f => by cases f <;> rfl) (fun e => by rfl)]
    exact h₂
end
end Mine
end

section
open PySem PySem.W PyProof.Rows
open PySem.Sem (wp)
set_option Elab.async false
set_option maxRecDepth 100000
set_option maxHeartbeats 8000000
set_option linter.unusedVariables false
namespace Mine
def forT : Stmt → Expr
  | .For t _ _ _ _ => t
  | _ => .Constant .none 0 default
abbrev resT : Expr := forT (resB.getD 2 default)
/-- the line stands on that side -/
def onSide (tag : Str) (l : Str) : Bool := ([Str.ofString "  ", tag] : List Str).any (· == Txt.slice l none (some 2))
abbrev prefObj (tag : Str) (t1 t2 : Tok) : Obj := { cls := .type "tuple", data := .seq #[.str (Str.ofString "  ") t1, .str tag t2] }
abbrev resP (tag : Str) (lines : List Str) (j : Nat) (v : Value) : Prop :=
  ∃ i, (passing (fun i => onSide tag (lines.getD i Str.empty)) lines.length 0)[j]? = some i ∧ ∃ t, v = .str (Txt.slice (lines.getD i Str.empty) (some 2) none) t
abbrev resN (tag : Str) (lines : List Str) : Nat := (passing (fun i => onSide tag (lines.getD i Str.empty)) lines.length 0).length
theorem len_getD' {lines : List Str} {k : Nat} (h : ∀ l ∈ lines, l.length ≤ 100) : (lines.getD k Str.empty).length ≤ 100 := by
  rw [List.getD_eq_getElem?_getD]
  cases e : lines[k]? with
  | none => exact Nat.zero_le _
  | some x => exact h x (List.mem_of_getElem? e)
theorem ns_kst {h : Heap} {L : Addr} {m : Str → Option Value} (hn : h.Ns L m) (ps : List (Str × Value)) (hk : ∀ p ∈ ps, m p.1 = some p.2) : h.Ns L (kstB m ps) := by
  have e : kstB m ps = m := by funext z; exact kstB_eq hk fun _ => rfl
  rw [e]; exact hn
section
variable {w : World} {A : Around} {S C I d tp : Nat} {its : List Value} {lines : List Str} {tag : Str} {t1 t2 : Tok} {hX : Heap} {kf : Result → Sem Fin} {cF : Code} {lF : List Value} {pF : Pos}
theorem seg_resLoop (X : (hd.heap_39 w.params).In hX) (hh : A.handled = none) (hSt : StrsAre its lines) (hlen : ∀ l ∈ lines, l.length ≤ 100) (htag : tag.length ≤ 100)
    (hdI : d ≠ I) (hCI : C ≠ I) (hCd : C ≠ d) (hCt : C ≠ tp) (hIt : I ≠ tp) (hSI : S < I) (hSd : S ≠ d) (hSt' : S ≠ tp) (hSC : S ≠ C)
    (hfin : ∀ s₀ s, Since S C s₀ s → Seg (model PySem.Challenge.rw_nb0156_01.row.prog w) A (drainR S C) (drainY S C (resN tag lines) (resP tag lines)) 0 s₀ cF (kf (.ok .next)) [] s) :
    ∀ (k i : Nat) (s₀ s : Shared) (m : Str → Option Value), lines.length - i = k → i ≤ lines.length → s.heap.IsListIter I d i → s.heap.IsList d its.toArray → s.heap.Ns C m → m (Str.ofString "prefixes") = some (.ref tp) →
      s.heap.get? tp = some (prefObj tag t1 t2) → Since S C s₀ s →
      Seg (model PySem.Challenge.rw_nb0156_01.row.prog w) A (drainR S C) (drainY S C (resN tag lines) (resP tag lines)) (passing (fun i => onSide tag (lines.getD i Str.empty)) lines.length i).length s₀
        (.forLoop resT (.ref I) resFor [] (resE C)) ((model PySem.Challenge.rw_nb0156_01.row.prog w).den (.forLoop resT (.ref I) resFor [] (resE C))) [.ret kf none false lF cF pF []] s := by
  have hh' : ∀ c, (A.over c [.ret kf none false lF cF pF []]).handled = none := fun c => hh
  have hsz : its.toArray.size = lines.length := by rw [List.size_toArray]; exact hSt.length
  intro k
  induction k with
  | zero =>
    intro i s₀ s m hk hi hit hl hn hp htp hsince
    have hin : i = lines.length := by omega
    subst hin
    have W := Walks.list (prog := PySem.Challenge.rw_nb0156_01.row.prog) (w := w) (hh' (.forLoop resT (.ref I) resFor [] (resE C))) I d hdI its.toArray
    rw [hsz] at W
    refine seg_forTurn (W.done s _ _ ⟨hit, hl⟩ fun h' tk hk' => ?_) (fun v => rfl)
    refine seg_again rfl ?_
    rw [passing_end]
    exact seg_leaf (.ok .next) (hfin _ _ (hsince.step fun b o hb hC e => hk' b o (by rw [List.mem_singleton]; exact Nat.ne_of_lt (Nat.lt_of_le_of_lt hb hSI)) e))
  | succ k ih =>
    intro i s₀ s m hk hi hit hl hn hp htp hsince
    have hlt : i < lines.length := by omega
    have W := Walks.list (prog := PySem.Challenge.rw_nb0156_01.row.prog) (w := w) (hh' (.forLoop resT (.ref I) resFor [] (resE C))) I d hdI its.toArray
    rw [hsz] at W
    refine seg_forTurn (W.item i s _ _ hlt ⟨hit, hl⟩ fun v h₁ tk₁ hPv hst₁ hk₁ => ?_) (fun v => rfl)
    obtain ⟨tv, rfl⟩ : ∃ t, v = .str (lines.getD i Str.empty) t := by
      obtain ⟨y, t, e, hy⟩ := StrsAre.item hSt i v (by simpa using hPv)
      exact ⟨t, by rw [e, List.getD_eq_getElem?_getD, hy]; rfl⟩
    dsimp only
    have hn₁ : h₁.Ns C m := hn.at' fun o e => hk₁ C o (by rw [List.mem_singleton]; exact hCI) e
    refine wpAny_assign_Name (wpAny_storeName_local (m := m) (by rfl) hn₁ (fun h₂ hn₂ hs₂ => ?_) (by rfl))
    have up₂ : ∀ b o, b ≠ C → b ≠ I → s.heap.get? b = some o → h₂.get? b = some o := fun b o hbC hbI e => hs₂.extBut b o hbC (hk₁ b o (by rw [List.mem_singleton]; exact hbI) e)
    have hit₂ : h₂.IsListIter I d (i + 1) := hst₁.1.at fun o e => hs₂.extBut I o (Ne.symm hCI) e
    have hl₂ : h₂.IsList d its.toArray := hst₁.2.at fun o e => hs₂.extBut d o (Ne.symm hCd) e
    have htp₂ : h₂.get? tp = some (prefObj tag t1 t2) := up₂ tp _ (Ne.symm hCt) (Ne.symm hIt) htp
    have F₂ : Fr noHeap C h₂ (kstB (fun y => if y = Str.ofString "line" then some (.str (lines.getD i Str.empty) tv) else m y) [(Str.ofString "line", .str (lines.getD i Str.empty) tv), (Str.ofString "prefixes", .ref tp)]) :=
      fr_none (ns_kst hn₂ _ (by
        refine List.forall_mem_cons.mpr ⟨by simp, List.forall_mem_cons.mpr ⟨?_, List.forall_mem_nil _⟩⟩
        show (if Str.ofString "prefixes" = Str.ofString "line" then _ else m (Str.ofString "prefixes")) = _
        rw [if_neg (by decide)]; exact hp))
    show Seg _ A _ _ _ s₀ _ ((execs [_] (resE C)).wrap _ _ id id) _ _
    rw [execs_cons_wrap]
    refine seg_If ?_
    refine restore_test (tag := tag) (t1 := t1) (t2 := t2) X F₂ news_all (allOf_mem.mpr ⟨Ne.symm hCt, htp₂⟩) (len_getD' hlen) htag fun h₃ tk₃ F₃ N₃ => ?_
    have up₃ : ∀ b o, b ≠ C → h₂.get? b = some o → h₃.get? b = some o := fun b o hb e => (N₃ (b, o) (allOf_mem.mpr ⟨hb, e⟩)).1
    cases hb : ([Str.ofString "  ", tag] : List Str).any (· == Txt.slice (lines.getD i Str.empty) none (some 2)) with
    | false =>
      rw [passing_false hlt (show onSide tag (lines.getD i Str.empty) = false from hb)]
      show Seg _ A _ _ _ s₀ _ (.pure (.again (.forLoop resT (.ref I) resFor [] (resE C)))) _ _
      refine seg_again rfl (ih (i + 1) s₀ _ _ (by omega) hlt (hit₂.at fun o e => up₃ I o (Ne.symm hCI) e) (hl₂.at fun o e => up₃ d o (Ne.symm hCd) e) F₃.ns ?_ (up₃ tp _ (Ne.symm hCt) htp₂) ?_)
      · dsimp only [kstB]; rw [if_neg (by decide), if_pos rfl]
      · exact hsince.step fun b o hb9 hC9 e => up₃ b o hC9 (up₂ b o hC9 (Nat.ne_of_lt (Nat.lt_of_le_of_lt hb9 hSI)) e)
    | true =>
      rw [passing_true hlt (show onSide tag (lines.getD i Str.empty) = true from hb), List.length_cons]
      show Seg _ A _ _ _ s₀ _ ((execs [_] (resE C)).wrap _ _ id id) _ _
      rw [execs_cons_wrap]
      refine seg_Expr_Yield rfl rfl rfl ?_
      refine restore_elt X F₃ news_all (len_getD' hlen) fun t₄ h₄ tk₄ F₄ N₄ => ?_
      have up₄ : ∀ b o, b ≠ C → h₃.get? b = some o → h₄.get? b = some o := fun b o hb e => (N₄ (b, o) (allOf_mem.mpr ⟨hb, e⟩)).1
      intro kap hkap
      refine ⟨⟨i, passing_here hlt hb, t₄, rfl⟩, ?_, fun s'' hk'' => ?_⟩
      · exact hsince.step fun b o hb9 hC9 e => up₄ b o hC9 (up₃ b o hC9 (up₂ b o hC9 (Nat.ne_of_lt (Nat.lt_of_le_of_lt hb9 hSI)) e))
      · refine hkap _ _ ?_
        show Seg _ A _ _ _ s'' _ (.pure (.again (.forLoop resT (.ref I) resFor [] (resE C)))) _ s''
        have kk : ∀ b o, b ≠ C → b ≠ S → h₂.get? b = some o → s''.heap.get? b = some o := fun b o hC9 hS9 e => hk'' b o hS9 (up₄ b o hC9 (up₃ b o hC9 e))
        refine seg_again rfl (ih (i + 1) s'' s'' _ (by omega) hlt (hit₂.at fun o e => kk I o (Ne.symm hCI) (Nat.ne_of_gt hSI) e) (hl₂.at fun o e => kk d o (Ne.symm hCd) (Ne.symm hSd) e) (F₄.ns.at' fun o e => hk'' C o (Ne.symm hSC) e) ?_ (kk tp _ (Ne.symm hCt) (Ne.symm hSt') htp₂) (Since.refl _ _ _))
        · dsimp only [kstB]; rw [if_neg (by decide), if_pos rfl]
end
end Mine
end

section
open PySem PySem.W PyProof.Rows
open PySem.Sem (wp)
set_option Elab.async false
set_option maxRecDepth 100000
set_option maxHeartbeats 8000000
set_option linter.unusedVariables false
namespace Mine
theorem fillK7 (w : World) (h : Heap) (_ : (hd.heap_39 w.params).In h) : PySem.Challenge.rw_nb0156_01.row.prog = PySem.Challenge.rw_nb0156_01.row.prog ∧ (hd.heap_39 w.params) = hd.heap_39 w.params := by
  k_fill
  exact ⟨rfl, rfl⟩
/-- a choice of side, and the code it stands for -/
inductive Which : Value → Str → Prop
  | i1 (t : Tok) : Which (.int 1 t) (Str.ofString "- ")
  | i2 (t : Tok) : Which (.int 2 t) (Str.ofString "+ ")
  | s1 (t : Tok) : Which (.str (Str.ofString "1") t) (Str.ofString "- ")
  | s2 (t : Tok) : Which (.str (Str.ofString "2") t) (Str.ofString "+ ")
section
variable {w : World} {p : Program} {loose : List Str} {mean : ExcName → Option Value} {mg mb : Str → Option Value} {A' : Around} {E' : Value → Shared → Prop} {s : Shared} {C d : Nat} {h₀ : Heap} {u : Str → Option Value} {t : Tok} {news : List (Addr × Obj)} {Q : Flow → Shared → Prop} {st : Stmt}

theorem res_try_i1 (hst : st = resB.getD 0 default) (hh : A'.handled = none) (X : (hd.heap_39 w.params).In h₀) (T : Top p loose mean mg mb h₀)
    (F : Fr h₀ C s.heap (kstB u [(Str.ofString "delta", .ref d), (Str.ofString "which", .int 1 t)])) (N : News h₀ C s.heap news)
    (hQ : ∀ tt h' tk' u', Fr h₀ C h' (kstB u' [(Str.ofString "tag", .str (Str.ofString "- ") tt), (Str.ofString "delta", .ref d)]) → News h₀ C h' news → Q .next { s with heap := h', toks := tk' }) :
    wpAny (model PySem.Challenge.rw_nb0156_01.row.prog w) A' (exec st (resE C)) Q E' s := by
  subst hst
  dsimp only [resE, resFor, resB, resS, ifC, yieldE, topS, fnB, fnS, forB, PySem.Challenge.pw_nb0156_01, List.getD, List.getElem?_cons_succ, List.getElem?_cons_zero, Option.getD_some]
  dsimp only [kstB] at F
  k_with_none
  k_steps
  rename Fr _ _ _ _ => fF
  rename News _ _ _ _ => nF
  exact hQ _ _ _ _ (frame_as _ fF (by kst_all)) (fun p hp => nF p (List.Mem.tail _ hp))

theorem res_try_i2 (hst : st = resB.getD 0 default) (hh : A'.handled = none) (X : (hd.heap_39 w.params).In h₀) (T : Top p loose mean mg mb h₀)
    (F : Fr h₀ C s.heap (kstB u [(Str.ofString "delta", .ref d), (Str.ofString "which", .int 2 t)])) (N : News h₀ C s.heap news)
    (hQ : ∀ tt h' tk' u', Fr h₀ C h' (kstB u' [(Str.ofString "tag", .str (Str.ofString "+ ") tt), (Str.ofString "delta", .ref d)]) → News h₀ C h' news → Q .next { s with heap := h', toks := tk' }) :
    wpAny (model PySem.Challenge.rw_nb0156_01.row.prog w) A' (exec st (resE C)) Q E' s := by
  subst hst
  dsimp only [resE, resFor, resB, resS, ifC, yieldE, topS, fnB, fnS, forB, PySem.Challenge.pw_nb0156_01, List.getD, List.getElem?_cons_succ, List.getElem?_cons_zero, Option.getD_some]
  dsimp only [kstB] at F
  k_with_none
  k_steps
  rename Fr _ _ _ _ => fF
  rename News _ _ _ _ => nF
  exact hQ _ _ _ _ (frame_as _ fF (by kst_all)) (fun p hp => nF p (List.Mem.tail _ hp))

theorem res_try_s1 (hst : st = resB.getD 0 default) (hh : A'.handled = none) (X : (hd.heap_39 w.params).In h₀) (T : Top p loose mean mg mb h₀)
    (F : Fr h₀ C s.heap (kstB u [(Str.ofString "delta", .ref d), (Str.ofString "which", .str (Str.ofString "1") t)])) (N : News h₀ C s.heap news)
    (hQ : ∀ tt h' tk' u', Fr h₀ C h' (kstB u' [(Str.ofString "tag", .str (Str.ofString "- ") tt), (Str.ofString "delta", .ref d)]) → News h₀ C h' news → Q .next { s with heap := h', toks := tk' }) :
    wpAny (model PySem.Challenge.rw_nb0156_01.row.prog w) A' (exec st (resE C)) Q E' s := by
  subst hst
  dsimp only [resE, resFor, resB, resS, ifC, yieldE, topS, fnB, fnS, forB, PySem.Challenge.pw_nb0156_01, List.getD, List.getElem?_cons_succ, List.getElem?_cons_zero, Option.getD_some]
  dsimp only [kstB] at F
  k_with_none
  k_steps
  rename Fr _ _ _ _ => fF
  rename News _ _ _ _ => nF
  exact hQ _ _ _ _ (frame_as _ fF (by kst_all)) (fun p hp => nF p (List.Mem.tail _ hp))

theorem res_try_s2 (hst : st = resB.getD 0 default) (hh : A'.handled = none) (X : (hd.heap_39 w.params).In h₀) (T : Top p loose mean mg mb h₀)
    (F : Fr h₀ C s.heap (kstB u [(Str.ofString "delta", .ref d), (Str.ofString "which", .str (Str.ofString "2") t)])) (N : News h₀ C s.heap news)
    (hQ : ∀ tt h' tk' u', Fr h₀ C h' (kstB u' [(Str.ofString "tag", .str (Str.ofString "+ ") tt), (Str.ofString "delta", .ref d)]) → News h₀ C h' news → Q .next { s with heap := h', toks := tk' }) :
    wpAny (model PySem.Challenge.rw_nb0156_01.row.prog w) A' (exec st (resE C)) Q E' s := by
  subst hst
  dsimp only [resE, resFor, resB, resS, ifC, yieldE, topS, fnB, fnS, forB, PySem.Challenge.pw_nb0156_01, List.getD, List.getElem?_cons_succ, List.getElem?_cons_zero, Option.getD_some]
  dsimp only [kstB] at F
  k_with_none
  k_steps
  rename Fr _ _ _ _ => fF
  rename News _ _ _ _ => nF
  exact hQ _ _ _ _ (frame_as _ fF (by kst_all)) (fun p hp => nF p (List.Mem.tail _ hp))

theorem res_try {wv : Value} {tag : Str} (hw : Which wv tag) (hst : st = resB.getD 0 default) (hh : A'.handled = none) (X : (hd.heap_39 w.params).In h₀) (T : Top p loose mean mg mb h₀)
    (F : Fr h₀ C s.heap (kstB u [(Str.ofString "delta", .ref d), (Str.ofString "which", wv)])) (N : News h₀ C s.heap news)
    (hQ : ∀ tt h' tk' u', Fr h₀ C h' (kstB u' [(Str.ofString "tag", .str tag tt), (Str.ofString "delta", .ref d)]) → News h₀ C h' news → Q .next { s with heap := h', toks := tk' }) :
    wpAny (model PySem.Challenge.rw_nb0156_01.row.prog w) A' (exec st (resE C)) Q E' s := by
  cases hw with
  | i1 t => exact res_try_i1 hst hh X T F N hQ
  | i2 t => exact res_try_i2 hst hh X T F N hQ
  | s1 t => exact res_try_s1 hst hh X T F N hQ
  | s2 t => exact res_try_s2 hst hh X T F N hQ
theorem res_pref {tag : Str} {tt : Tok} (hst : st = resB.getD 1 default) (X : (hd.heap_39 w.params).In h₀) (T : Top p loose mean mg mb h₀)
    (F : Fr h₀ C s.heap (kstB u [(Str.ofString "tag", .str tag tt), (Str.ofString "delta", .ref d)])) (N : News h₀ C s.heap news)
    (hQ : ∀ tp t1 t2 h' tk' u', Fr h₀ C h' (kstB u' [(Str.ofString "prefixes", .ref tp), (Str.ofString "delta", .ref d)]) → News h₀ C h' ((tp, prefObj tag t1 t2) :: news) → (∀ q ∈ news, q.1 < tp) → Q .next { s with heap := h', toks := tk' }) :
    wpAny (model PySem.Challenge.rw_nb0156_01.row.prog w) A' (exec st (resE C)) Q E' s := by
  subst hst
  dsimp only [resE, resFor, resB, resS, ifC, yieldE, topS, fnB, fnS, forB, PySem.Challenge.pw_nb0156_01, List.getD, List.getElem?_cons_succ, List.getElem?_cons_zero, Option.getD_some]
  dsimp only [kstB] at F
  k_with_none
  k_steps
  exact hQ _ _ _ _ _ _ (frame_as _ (by k_asm) (by kst_all)) (by k_asm) (by assumption)
end
end Mine
end

section
open PySem PySem.W PyProof.Rows
open PySem.Sem (wp)
set_option Elab.async false
set_option maxRecDepth 100000
set_option maxHeartbeats 400000
set_option linter.unusedVariables false
namespace Mine
/-- all that a heap holds beside one frame and a base -/
def allNew (h₀ h : Heap) (L : Addr) : List (Addr × Obj) := (allOf h L).filter fun p => (h₀.get? p.1).isNone
theorem allNew_mem {h₀ h : Heap} {L b : Addr} {o : Obj} : (b, o) ∈ allNew h₀ h L ↔ b ≠ L ∧ h.get? b = some o ∧ h₀.get? b = none := by
  unfold allNew
  rw [List.mem_filter, allOf_mem, Option.isNone_iff_eq_none]
  exact and_assoc
theorem news_new {h₀ h : Heap} {L : Addr} : News h₀ L h (allNew h₀ h L) := fun p hp => by
  obtain ⟨h1, h2, h3⟩ := allNew_mem.mp (show (p.1, p.2) ∈ allNew h₀ h L from hp)
  exact ⟨h2, h1, h3⟩
theorem new_keeps {h₀ h h' : Heap} {L : Addr} {m : Str → Option Value} (F : Fr h₀ L h' m) (N : News h₀ L h' (allNew h₀ h L)) (hk : ∀ b o, h₀.get? b = some o → h.get? b = some o) : ∀ b o, b ≠ L → h.get? b = some o → h'.get? b = some o := fun b o hb e => by
  cases q : h₀.get? b with
  | none => exact (N (b, o) (allNew_mem.mpr ⟨hb, e, q⟩)).1
  | some o' =>
    have e1 := hk b o' q
    rw [e] at e1
    cases e1
    exact F.keep b o q
section
variable {w : World} {p : Program} {loose : List Str} {mean : ExcName → Option Value} {mg mb : Str → Option Value} {A : Around} {S C d : Nat} {its : List Value} {lines : List Str} {tag : Str} {wv : Value} {h₀ : Heap}
theorem res_seg (hw : Which wv tag) (X : (hd.heap_39 w.params).In h₀) (T : Top p loose mean mg mb h₀) (hh : A.handled = none) (hSt : StrsAre its lines) (hlen : ∀ l ∈ lines, l.length ≤ 100)
    (hab : h₀.objs.size ≤ C) (hCd : C ≠ d) (hSd : S ≠ d) (hCS : C < S) :
    ∀ (s : Shared) (u : Str → Option Value), (∀ b o, h₀.get? b = some o → s.heap.get? b = some o) → s.heap.IsList d its.toArray → s.heap.Ns C (kstB u [(Str.ofString "delta", .ref d), (Str.ofString "which", wv)]) → (∃ o, s.heap.get? S = some o) →
      Seg (model PySem.Challenge.rw_nb0156_01.row.prog w) A (drainR S C) (drainY S C (resN tag lines) (resP tag lines)) (resN tag lines) s
        (.func resB (resE C)) ((model PySem.Challenge.rw_nb0156_01.row.prog w).den (.func resB (resE C))) [] s := by
  intro s u hk hl hn hSs
  obtain ⟨oS, hoS⟩ := hSs
  have hSC : S ≠ C := Nat.ne_of_gt hCS
  have hS₀ : h₀.get? S = none := Heap.get?_none_of_le (Nat.le_trans hab (Nat.le_of_lt hCS))
  have htag : tag.length ≤ 100 := by cases hw <;> decide
  have hh' : ∀ c, (A.over c []).handled = none := fun c => hh
  obtain ⟨st0, st1, np, fp, e, e0, e1⟩ : ∃ (st0 st1 : Stmt) (np fp : Pos), resB = [st0, st1, .For resT (.Name (Str.ofString "delta") np) resFor [] fp] ∧ st0 = resB.getD 0 default ∧ st1 = resB.getD 1 default := ⟨_, _, _, _, rfl, rfl, rfl⟩
  refine seg_func ?_
  rw [show execs resB (resE C) = execs [st0, st1, .For resT (.Name (Str.ofString "delta") np) resFor [] fp] (resE C) from by rw [e]]
  refine seg_stmt ?_
  have F : Fr h₀ C s.heap (kstB u [(Str.ofString "delta", .ref d), (Str.ofString "which", wv)]) := ⟨hn, hk, hab⟩
  refine res_try hw e0 (hh' _) X T F news_new fun tt h₁ tk₁ u₁ F₁ N₁ => ?_
  have up₁ := new_keeps F₁ N₁ hk
  dsimp only
  refine seg_stmt ?_
  refine res_pref (s := { s with heap := h₁, toks := tk₁ }) (news := allNew h₀ h₁ C) e1 X T F₁ news_new fun tp t1 t2 h₂ tk₂ u₂ F₂ N₂ hlt₂ => ?_
  have up₂ := new_keeps F₂ (fun q hq => N₂ q (List.Mem.tail _ hq)) F₁.keep
  have htp : h₂.get? tp = some (prefObj tag t1 t2) := (N₂ _ (List.Mem.head _)).1
  have htpC : tp ≠ C := (N₂ _ (List.Mem.head _)).2.1
  have hSd' : ∀ b o, b ≠ C → s.heap.get? b = some o → h₂.get? b = some o := fun b o hb e => up₂ b o hb (up₁ b o hb e)
  dsimp only
  rw [execs_cons_wrap]
  refine seg_For ?_ (fun x => rfl)
  refine ld (F := F₂) (v := .ref d) ?_ ?_ (by rfl) (by rfl) (by decide)
  · dsimp only [kstB]; rw [if_neg (by decide), if_pos rfl]
  have hl₂ : h₂.IsList d its.toArray := hl.at fun o e => hSd' d o (Ne.symm hCd) e
  refine wpAny_pyIter_list (s := { s with heap := h₂, toks := tk₂ }) hl₂ ?_
  intro pz
  have hI : S < h₂.objs.size := Heap.lt_size (hSd' S oS hSC hoS)
  have hC2 : C < h₂.objs.size := F₂.ns.lt
  have hd2 : d < h₂.objs.size := by obtain ⟨o, ho, _⟩ := hl₂; exact Heap.lt_size ho
  have ht2 : tp < h₂.objs.size := Heap.lt_size htp
  have hSt2 : S < tp := hlt₂ (S, oS) (allNew_mem.mpr ⟨hSC, up₁ S oS hSC hoS, hS₀⟩)
  have up₃ : ∀ b o, h₂.get? b = some o → (h₂.push { cls := .type "list_iterator", data := .fields #[.ref d, .int 0 0] }).get? b = some o := fun b o e => Heap.get?_push_of_some _ e
  refine seg_resLoop (tag := tag) (t1 := t1) (t2 := t2) X hh hSt hlen htag (Nat.ne_of_lt hd2) (Nat.ne_of_lt hC2) hCd (Ne.symm htpC) (Nat.ne_of_gt ht2) hI hSd (Nat.ne_of_lt hSt2) hSC ?_ lines.length 0 s _ _ rfl (Nat.zero_le _) ?_ ?_ (F₂.ns.at' fun o e => up₃ C o e) ?_ (up₃ tp _ htp) ?_
  · intro s₀ s₁ hs
    exact seg_end (.ok (.ret .none)) ⟨rfl, rfl, hs⟩
  · exact ⟨_, Heap.get?_push_size _ rfl, rfl, rfl⟩
  · exact hl₂.at fun o e => up₃ d o e
  · dsimp only [kstB]; rw [if_pos rfl]
  · exact ⟨_, _, rfl, fun b o hb hC e => up₃ b o (hSd' b o hC e)⟩
end
end Mine
end

section
open PySem PySem.W PyProof.Rows
open PySem.Sem (wp)
set_option Elab.async false
set_option maxRecDepth 100000
set_option maxHeartbeats 400000
set_option linter.unusedVariables false
namespace Mine
theorem fillK8 (w : World) (h : Heap) (_ : (hd.heap_39 w.params).In h) : PySem.Challenge.rw_nb0156_01.row.prog = PySem.Challenge.rw_nb0156_01.row.prog ∧ (hd.heap_39 w.params) = hd.heap_39 w.params := by
  k_fill
  exact ⟨rfl, rfl⟩
section
variable {prog : Program} {w : World} {A : Around} {s : Shared} {K : Frag} {h₀ : Heap} {L : Addr} {m mg mb : Str → Option Value} {p : Program} {loose : List Str} {mean : ExcName → Option Value} {R : Result → Shared → Prop}
theorem gen_call {name qual : Str} {params : Arguments} {body : List Stmt} {scope : Scope} {dV kV doc pm cdv ct oc : Value} {an od : Option Addr} {osl : Array (Option Value)} {f : Addr} {args : Args} {binds : List (Str × Value)}
    (F : Fr h₀ L s.heap m) (X₀ : K.In h₀) (T : Top p loose mean mg mb h₀)
    (ho : K.lookup f = some ⟨oc, od, .func (fnOf name qual params body scope dV kV doc pm an cdv ct), osl⟩) (hcd : codeIn K cdv qual = true) (hroom : A.depth < recursionLimit)
    (hbind : BindsTo s (fnOf name qual params body scope dV kV doc pm an cdv ct) args binds) (hloc : ∀ y ∈ binds, scope.names.lookup y.1 = some .local)
    (hco : scope.isCoroutine = false) (hgen : scope.isGenerator = true) (hk : scope.kind = .function) (hcell : ∀ x ∈ scope.names, x.2 ≠ .cell)
    (h : ∀ h₁ tk, h₁.Ns s.heap.objs.size (fun y => binds.reverse.lookup y) → (∀ b o, s.heap.get? b = some o → h₁.get? b = some o) → h₁.IsGen (s.heap.objs.size + 1) s.gens.size →
      R (.ok (.ret (.ref (s.heap.objs.size + 1)))) { s with heap := h₁, gens := s.gens.push (.fresh (.func body (envOf qual scope s.heap.objs.size f cdv))), toks := tk }) :
    codeAny (model prog w) A (.call (.ref f) args) R s := by
  refine codeAny_call_generator (fd := fnOf name qual params body scope dV kV doc pm an cdv ct) hroom ((X₀.keeps F.keep) _ _ ho) rfl hco hgen rfl (codeRec_of (X₀.keeps F.keep) hcd) ?_
  refine hbind _ _ _ _ ?_
  refine wpAny_newFunctionEnv hcell hloc (fun h₁ hns hsb => ?_) hk
  have hsz : h₁.objs.size = s.heap.objs.size + 1 := by rw [hsb.1, Heap.size_push]
  have hkp : ∀ b o, s.heap.get? b = some o → h₁.get? b = some o := fun b o e => hsb.extBut b o (Nat.ne_of_lt (Heap.lt_size e)) (Heap.get?_push_of_some _ e)
  refine ⟨(T.nolimit.keeps F.keep).keeps hkp, ?_⟩
  have := h (h₁.push { cls := .type "generator", data := .fields #[.int s.gens.size 0, .str name (s.toks + binds.length), .str qual (s.toks + binds.length + 1)] }) (s.toks + binds.length + 1 + 1) (hns.push _) (fun b o e => Heap.get?_push_of_some _ (hkp b o e))
    ⟨_, _, _, by rw [← hsz]; exact Heap.get?_push_size _ rfl, rfl, rfl, rfl⟩
  rw [← hsz] at this
  exact this
end
end Mine
end

section
open PySem PySem.W PyProof.Rows
open PySem.Sem (wp)
set_option Elab.async false
set_option maxRecDepth 100000
set_option maxHeartbeats 400000
set_option linter.unusedVariables false
namespace Mine
theorem fillK9 (w : World) (h : Heap) (_ : (hd.heap_39 w.params).In h) : PySem.Challenge.rw_nb0156_01.row.prog = PySem.Challenge.rw_nb0156_01.row.prog ∧ (hd.heap_39 w.params) = hd.heap_39 w.params := by
  k_fill
  exact ⟨rfl, rfl⟩
/-- what restore gives back of a row of lines -/
def restored (tag : Str) (lines : List Str) : List Str := (lines.filter (onSide tag)).map fun l => Txt.slice l (some 2) none
theorem range_getD {α : Type} (l : List α) (x : α) : (List.range l.length).map (fun i => l.getD i x) = l := by
  apply List.ext_getElem?
  intro i
  rw [List.getElem?_map]
  by_cases h : i < l.length
  · rw [List.getElem?_range h, Option.map_some, List.getD_eq_getElem?_getD, List.getElem?_eq_getElem h]; rfl
  · rw [List.getElem?_eq_none (by simpa using Nat.le_of_not_lt h), List.getElem?_eq_none (Nat.le_of_not_lt h)]; rfl
theorem passing_map (tag : Str) (lines : List Str) : (passing (fun i => onSide tag (lines.getD i Str.empty)) lines.length 0).map (fun i => Txt.slice (lines.getD i Str.empty) (some 2) none) = restored tag lines := by
  have e : lines.filter (onSide tag) = ((List.range lines.length).filter (fun i => onSide tag (lines.getD i Str.empty))).map (fun i => lines.getD i Str.empty) := by
    have h := List.filter_map (f := fun i => lines.getD i Str.empty) (p := onSide tag) (l := List.range lines.length)
    rw [range_getD] at h
    exact h
  unfold restored passing
  rw [List.drop_zero, e, List.map_map]
  rfl
theorem strs_of_get : ∀ (ys : List Value) (ss : List Str), ys.length = ss.length → (∀ (j : Nat) (v : Value), ys[j]? = some v → ∃ x t, ss[j]? = some x ∧ v = .str x t) → StrsAre ys ss
  | [], [], _, _ => .nil
  | [], _ :: _, h, _ => by simp at h
  | _ :: _, [], h, _ => by simp at h
  | y :: ys, d :: ds, h, g => by
    obtain ⟨x, t, he, hv⟩ := g 0 y rfl
    have he' : d = x := by simpa using he
    subst he'
    rw [hv]
    exact .cons _ t (strs_of_get ys ds (by simpa using h) fun j v hv => g (j + 1) v (by simpa using hv))
theorem items_restored {tag : Str} {lines : List Str} {acc : Array Value} (h : ItemsOf (resP tag lines) acc (resN tag lines)) : StrsAre acc.toList (restored tag lines) := by
  rw [← passing_map]
  refine strs_of_get _ _ (by rw [List.length_map, Array.length_toList]; exact h.1) fun j v hv => ?_
  obtain ⟨i, hi, t, e⟩ := h.2 j v (by simpa using hv)
  exact ⟨_, t, by rw [List.getElem?_map, hi]; rfl, e⟩
theorem resN_le (tag : Str) (lines : List Str) : resN tag lines ≤ lines.length := by
  unfold resN passing
  rw [List.drop_zero]
  exact Nat.le_trans (List.length_filter_le _ _) (by rw [List.length_range]; exact Nat.le_refl _)
/-- a generator of restore's, not yet asked -/
structure GenReady (h₀ : Heap) (L C d : Nat) (wv : Value) (s : Shared) : Prop where
  gen : ∃ g, s.heap.IsGen (C + 1) g ∧ s.gens[g]? = some (.fresh (.func resB (resE C)))
  ns : ∃ u, s.heap.Ns C (kstB u [(Str.ofString "delta", .ref d), (Str.ofString "which", wv)])
  above : h₀.objs.size ≤ C
  notL : L ≠ C
  bare : AllBare s.gens
section
variable {w : World} {A : Around} {s : Shared} {h₀ : Heap} {L d : Nat} {m mg mb : Str → Option Value} {p : Program} {loose : List Str} {mean : ExcName → Option Value} {Q E : Value → Shared → Prop} {news : List (Addr × Obj)} {wv : Value}
theorem call_restore (F : Fr h₀ L s.heap m) (X : (hd.heap_39 w.params).In h₀) (N : News h₀ L s.heap news) (T : Top p loose mean mg mb h₀) (hroom : A.depth < recursionLimit) (hb : AllBare s.gens)
    (h : ∀ C h' g' tk', Fr h₀ L h' m → News h₀ L h' news → (∀ q ∈ news, q.1 < C) → GenReady h₀ L C d wv { s with heap := h', gens := g', toks := tk' } → Q (.ref (C + 1)) { s with heap := h', gens := g', toks := tk' }) :
    wpAny (model PySem.Challenge.rw_nb0156_01.row.prog w) A (call (.ref 21) [.ref d, wv]) Q E s := by
  refine wpAny_call ?_
  k_dflt (refine' gen_call ?k1 ?k2 ?k3 ?k4 ?k5 hroom ?k7 ?k8 ?k9 ?ka ?kb ?kc ?_; (case k1 => exact F); (case k2 => exact X); (case k3 => exact T); (case k4 => k_is); (case k5 => k_is); (case k7 => exact BindsTo.of_eq rfl); (case k8 => exact locs rfl); (case k9 => exact rfl); (case ka => exact rfl); (case kb => exact rfl); (case kc => decide))
  intro h₁ tk hns hkp hgen
  refine h s.heap.objs.size h₁ _ tk (F.keeps hkp) (N.grown hkp) (fun q hq => Heap.lt_size (N q hq).1) ⟨⟨_, hgen, ?_⟩, ⟨_, ns_kst hns _ (by kst_all)⟩, Nat.le_trans F.above (Nat.le_of_lt F.ns.lt), Nat.ne_of_lt F.ns.lt, hb.push rfl⟩
  exact Array.getElem?_push_size ..
theorem list_restore {C n : Nat} {its : List Value} {lines : List Str} {tag : Str} (hw : Which wv tag) (hh : A.handled = none) (hroom : A.depth < recursionLimit) (G : GenReady h₀ L C d wv s) (F : Fr h₀ L s.heap m) (X : (hd.heap_39 w.params).In h₀) (N : News h₀ L s.heap news) (hC : ∀ q ∈ news, q.1 < C) (T : Top p loose mean mg mb h₀)
    (hmem : (d, W.listOf its.toArray n) ∈ news) (hSt : StrsAre its lines) (hlen : ∀ l ∈ lines, l.length ≤ 100) (hsz : lines.length < 1000)
    (hQ : ∀ D c h' tk' g' ys, StrsAre ys (restored tag lines) → Fr h₀ L h' m → News h₀ L h' ((D, W.listOf ys.toArray c) :: news) → (∀ q ∈ news, q.1 < D) → AllBare g' → Q (.ref D) { s with heap := h', toks := tk', gens := g' }) :
    wpAny (model PySem.Challenge.rw_nb0156_01.row.prog w) A (call (.type "list") [.ref (C + 1)]) Q E s := by
  obtain ⟨⟨g, hg, hgs⟩, ⟨u, hns⟩, hab, hLC, hb⟩ := G
  have hl : s.heap.NoLimit := T.nolimit.keeps F.keep
  have hcs : cStatics < h₀.objs.size := let ⟨_, hn, _⟩ := T.nolimit; hn.lt
  have hcC : cStatics ≠ C := Nat.ne_of_lt (Nat.lt_of_lt_of_le hcs hab)
  have hCd : C ≠ d := Nat.ne_of_gt (hC _ hmem)
  have hlist : s.heap.IsList d its.toArray := News.isList N hmem
  have hds : d < s.heap.objs.size := Heap.lt_size (N _ hmem).1
  have hC1 : C + 1 < s.heap.objs.size := let ⟨_, _, _, ho, _⟩ := hg; Heap.lt_size ho
  refine call_list_fn (C := C) (N := resN tag lines) (P := resP tag lines) hh hroom (Nat.succ_ne_self C) hns.lt hcC (Nat.lt_of_le_of_lt (resN_le tag lines) hsz) hg hl hgs hb ?_ ?_
  · intro s'' hk hS
    exact ⟨rfl, res_seg (A := A.in1.in1.in1) hw X T hh hSt hlen hab hCd (Nat.ne_of_gt hds) (Nat.lt_of_succ_lt hC1) s'' u (fun b o e => hk b o (F.keep b o e)) (hlist.at fun o e => hk d o e) (hns.at' fun o e => hk C o e) hS⟩
  · intro h' tk' g' acc' c' hk hbb hS hacc
    refine hQ _ c' h' tk' g' acc'.toList (items_restored hacc) ?_ ?_ ?_ hbb
    · exact ⟨F.ns.at' fun o e => hk L o hLC e, fun b o e => hk b o (fun q => by rw [q, Heap.get?_none_of_le hab] at e; cases e) (F.keep b o e), F.above⟩
    · intro q hq
      rcases List.mem_cons.mp hq with rfl | hq
      · exact ⟨hS, Nat.ne_of_gt F.ns.lt, Heap.get?_none_of_le (Nat.le_trans F.above (Nat.le_of_lt F.ns.lt))⟩
      · exact ⟨hk _ _ (Nat.ne_of_lt (hC q hq)) (N q hq).1, (N q hq).2⟩
    · exact fun q hq => Heap.lt_size (N q hq).1
end
end Mine
end

section
open PySem PySem.W PyProof.Rows
set_option Elab.async false
set_option maxRecDepth 100000
set_option maxHeartbeats 400000
set_option linter.unusedVariables false
namespace Mine
/-- an exception that has left the frames above this one -/
def Thrown (base h₀ : Heap) (L : Addr) (m : Str → Option Value) (env : Env) (outer : List Env) (e : Addr) (cls : String) (news : List (Addr × Obj)) (h' : Heap) : Prop :=
  ∃ g₂, Fr h₀ L g₂ m ∧ g₂.UpToSlots h' ∧ RaisedN base (env :: outer) e (.type cls) news h'
/-- a call that raises, whoever calls -/
abbrev SpecX (w : World) (k : Nat) (f : Addr) (vs : List Value) (kw : List (Str × Value)) (news : List (Addr × Obj)) (cls : String) : Prop :=
  ∀ (p : Program) (loose : List Str) (mean : ExcName → Option Value) (mg mb : Str → Option Value) (dp un : Nat) (gd : Option (List Code)) (cn : Str) (cs : Scope) (a : Addr) (ccd : Value) (cl : List (Str × Addr)) (outer : List Env) (A₀ : Around) (base h₀ : Heap) (L : Addr) (m : Str → Option Value) (s : Shared) (Q E : Value → Shared → Prop),
    Below A₀ base outer h₀ → Fr h₀ L s.heap m → (hd.heap_39 w.params).In h₀ → News h₀ L s.heap news → Top p loose mean mg mb h₀ → cs.kind = .function →
    dp + k < recursionLimit → un + 8 * k < cLine → (∀ e h' tk', Thrown base h₀ L m (envX cn cs L a ccd cl) outer e cls news h' → E (.ref e) { s with heap := h', toks := tk' }) →
      wpAny (model PySem.Challenge.rw_nb0156_01.row.prog w) (ktrTop dp un gd cn cs L a ccd cl outer) (call (.ref f) vs kw) Q E s
theorem call_byX {w : World} {k : Nat} {f : Addr} {vs : List Value} {kw : List (Str × Value)} {news : List (Addr × Obj)} {cls : String}
    {p : Program} {loose : List Str} {mean : ExcName → Option Value} {mg mb : Str → Option Value} {dp un : Nat} {gd : Option (List Code)} {cn : Str} {cs : Scope} {a : Addr} {ccd : Value} {cl : List (Str × Addr)} {outer : List Env} {A₀ : Around} {base h₀ : Heap} {L : Addr} {m : Str → Option Value} {s : Shared} {Q E : Value → Shared → Prop}
    (S : SpecX w k f vs kw news cls)
    (B : Below A₀ base outer h₀) (F : Fr h₀ L s.heap m) (X : (hd.heap_39 w.params).In h₀) (N : News h₀ L s.heap news) (T : Top p loose mean mg mb h₀) (hk : cs.kind = .function)
    (h1 : dp + k < recursionLimit) (h2 : un + 8 * k < cLine) (h : ∀ e h' tk', Thrown base h₀ L m (envX cn cs L a ccd cl) outer e cls news h' → E (.ref e) { s with heap := h', toks := tk' }) :
      wpAny (model PySem.Challenge.rw_nb0156_01.row.prog w) (ktrTop dp un gd cn cs L a ccd cl outer) (call (.ref f) vs kw) Q E s :=
  S _ _ _ _ _ _ _ _ _ _ _ _ _ _ _ _ _ _ _ _ _ _ B F X N T hk h1 h2 h
theorem leave_thrown {M : Model} {A : Around} {E : Value → Shared → Prop} {s' : Shared} {base g : Heap} {outer : List Env} {L a e : Addr} {m : Str → Option Value} {cn : Str} {cs : Scope} {ccd : Value} {cl : List (Str × Addr)} {Q : Unit → Shared → Prop} {news : List (Addr × Obj)} {cls : String}
    (K : Below A base outer g) (T : Thrown base g L m (envX cn cs L a ccd cl) outer e cls news s'.heap)
    (hQ : ∀ h', RaisedN base outer e (.type cls) news h' → g.UpToSlots h' → Q () { s' with heap := h' }) :
    wpAny M (A.deeper (envX cn cs L a ccd cl)) (leaving (envX cn cs L a ccd cl) (.ref e)) Q E s' := by
  obtain ⟨g₂, F, U, B, a0, hB, hl, hfl⟩ := T
  exact wpAny_leaves_onW (Around.frames_deeper K.stack) rfl hfl fun h' x1 x2 => hQ h' ⟨B, a0, hB, hl, x1⟩ ((Heap.UpToSlots.of_keeps F.keep).trans (U.trans x2))
section
variable {prog : Program} {w : World} {A₀ A : Around} {s : Shared} {base h₀ : Heap} {outer : List Env} {L : Addr} {m mg mb : Str → Option Value} {env : Env} {news : List (Addr × Obj)} {K : Frag} {p : Program} {loose : List Str} {mean : ExcName → Option Value}
  {R : Result → Shared → Prop} {name qual : Str} {params : Arguments} {body : List Stmt} {scope : Scope} {dV kV doc pm cdv ct oc : Value} {an od : Option Addr} {osl : Array (Option Value)} {f : Addr} {args : Args} {binds : List (Str × Value)}
/-- a def of the text entered, its end told as it is -/
theorem code_defR (B : Below A₀ base outer h₀) (F : Fr h₀ L s.heap m) (X₀ : K.In h₀) (N : News h₀ L s.heap news) (T : Top p loose mean mg mb h₀) (hA : A.frames = some (env :: outer)) (hf : env.frame = some L) (hke : env.scope.kind = .function)
    (ho : K.lookup f = some ⟨oc, od, .func (fnOf name qual params body scope dV kV doc pm an cdv ct), osl⟩) (hcd : codeIn K cdv qual = true) (hroom : A.depth < recursionLimit)
    (hbind : BindsTo s (fnOf name qual params body scope dV kV doc pm an cdv ct) args binds) (hloc : ∀ y ∈ binds, scope.names.lookup y.1 = some .local)
    (h : ∀ g L' h₁, Fr h₀ L g m → Fr g L' h₁ (fun y => binds.reverse.lookup y) → News g L' h₁ news → Below A base (env :: outer) g → K.In g → Top p loose mean mg mb g →
      wpAny (model prog w) (A.deeper (envOf qual scope L' f cdv)) (execs body (envOf qual scope L' f cdv))
        (fun fl s' => R (.ok (.ret (match fl with | .ret v => v | _ => .none))) s')
        (fun e s' => wpAny (model prog w) (A.deeper (envOf qual scope L' f cdv)) (leaving (envOf qual scope L' f cdv) e) (fun _ s'' => R (.error e) s'') (fun e' s'' => R (.error e') s'') s')
        { s with heap := h₁, toks := s.toks + binds.length })
    (hco : scope.isCoroutine = false) (hgen : scope.isGenerator = false) (hk : scope.kind = .function)
    (hcell : ∀ x ∈ scope.names, x.2 ≠ .cell) : codeAny (model prog w) A (.call (.ref f) args) R s := by
  obtain ⟨FG, BG, st, lv⟩ := groundX (R := R) B F N hA hf hke
  refine codeAny_call_def (fd := fnOf name qual params body scope dV kV doc pm an cdv ct) (body := body) (binds := binds) hroom ((X₀.keeps F.keep) _ _ ho) rfl (T.nolimit.keeps F.keep) (codeRec_of (X₀.keeps F.keep) hcd) rfl hbind hcell hloc (fun h₁ hns hk₁ => ?_) hco hgen hk
  exact h _ s.heap.objs.size h₁ FG ⟨hns, fun b o e => hk₁ b o (of_hideAll _ e), Nat.le_of_eq (hideAll_size _ _)⟩
    (fun p hp => ⟨hk₁ _ _ (N p hp).1, Nat.ne_of_lt (Heap.lt_size (N p hp).1), hideAll_none _ (List.mem_map_of_mem hp)⟩) BG (X₀.keeps st) (T.keeps st)
end
section
variable {prog : Program} {w : World} {A₀ : Around} {E : Value → Shared → Prop} {s' : Shared} {base g : Heap} {outer : List Env} {L a e : Addr} {m : Str → Option Value} {name : Str} {scope : Scope} {cd : Value}
  {b₀ : Stmt} {suite : List Stmt} {pos np : Pos} {rest : List ExceptHandler} {Q : Flow → Shared → Prop} {news : List (Addr × Obj)} {K : Frag}
  {p : Program} {loose : List Str} {mean : ExcName → Option Value} {mg mb : Str → Option Value} {x : Str} {X T' : String}
theorem catch_N (hfr : A₀.frames = some outer) (TH : Thrown base g L m (envOf name scope L a cd) outer e X news s'.heap) (hbg : base.StaysIn g) (hab : base.objs.size ≤ L) (XB : K.In base)
    (T : Top p loose mean mg mb base) (hx0 : nsIn K mainGlobals x = some none) (hv : bootBuiltins x = some (.type T')) (hn : x ≠ "__name__")
    (hexc : isSubtype (.type T') (.type "BaseException") = pure true) (hnt : isSubtype (.type ((Manifest.find? T').elim "type" fun y => y.metatype)) (.type "tuple") = pure false) (hsub : isSubtype (.type X) (.type T') = pure true)
    (k : ∀ h', Fr base L h' m → News base L h' news → g.UpToSlots h' →
      wpAny (model prog w) ((A₀.deeper (envOf name scope L a cd)).mark (some (.ref e))) (execs (b₀ :: suite) (envOf name scope L a cd)) Q E { s' with heap := h' })
    (hk : scope.kind = .function) (hx : (envOf name scope L a cd).kindOf x = some .globalImplicit) (hd : (x == ("__debug__" : Str)) = false)
    (hE : PassesOwnAt (model prog w) ((A₀.deeper (envOf name scope L a cd)).mark (some (.ref e))) (A₀.deeper (envOf name scope L a cd)) (envOf name scope L a cd) E) :
    wpAny (model prog w) (A₀.deeper (envOf name scope L a cd)) (noteFrame (.ref e) (envOf name scope L a cd))
      (fun _ s₂ => wpAny (model prog w) (A₀.deeper (envOf name scope L a cd)) (setFlight (.ref e) none) (fun _ s₃ =>
        wpAny (model prog w) (A₀.deeper (envOf name scope L a cd)) (handleBy (.ref e) (envOf name scope L a cd) (.ExceptHandler (some (.Name x np)) none (b₀ :: suite) pos :: rest)) Q E s₃) E s₂) E s' := by
  obtain ⟨g₂, F₂, U, B, a0, hB, hl, hfl⟩ := TH
  have F : Fr base L g₂ m := ⟨F₂.ns, fun b o q => F₂.keep b o (hbg b o q), hab⟩
  have hL : B.get? L = none := by
    obtain ⟨_, ⟨L', _, hf, hn', _⟩, _⟩ := hfl.2.2.1
    obtain rfl : L = L' := Option.some.inj hf
    exact hn'
  refine wpAny_looks_onW (Around.frames_deeper hfr) rfl hfl fun h₄ hheld₄ hsm₄ => ?_
  refine wpAny_landsW hheld₄ fun h₅ hheld hsm₅' => ?_
  have hsm₅ := hsm₄.trans hsm₅'
  have hheld' := flyingW_base hB hheld
  have F₅ := F.of_stays hheld'.1 (U.trans hsm₅)
  obtain ⟨ob, hob, hobc⟩ := hheld'.there
  refine wpAny_handleBy_builtin (X := X) (T := T') (b := true) hexc hnt hsub (ld_builtin_at F₅ T.g (mg_none_of XB T.g hx0) T.b ((T.builtins x hn).trans hv) ⟨rfl, ⟨ob, hob, hobc⟩, ?_⟩ hk hx hd)
  refine lands_againW hheld fun h₆ hfl₆ hsm₆ => ?_
  have F₆ := F.of_stays (flyingW_base hB hfl₆).1 ((U.trans hsm₅).trans hsm₆)
  exact wpAny_passesOwnAt hE (k h₆ F₆ (fun q hq => ⟨hfl₆.1 _ _ (hl q hq).1, (fun z => by have := (hl q hq).1; rw [z, hL] at this; cases this), (hl q hq).2⟩) ((Heap.UpToSlots.of_keeps F₂.keep).trans ((U.trans hsm₅).trans hsm₆)))
end
end Mine
end

section
open PySem PySem.W PyProof.Rows
set_option Elab.async false
set_option maxRecDepth 100000
set_option maxHeartbeats 8000000
set_option linter.unusedVariables false
namespace Mine
theorem fillK10 (w : World) (h : Heap) (_ : (hd.heap_39 w.params).In h) : PySem.Challenge.rw_nb0156_01.row.prog = PySem.Challenge.rw_nb0156_01.row.prog ∧ (hd.heap_39 w.params) = hd.heap_39 w.params := by
  k_fill
  exact ⟨rfl, rfl⟩
section
theorem reset5 : True := by
  w_top off
  exact trivial
local macro_rules | `(tactic| walk_at "call ref") => `(tactic| k_extra "my call")
local macro_rules | `(tactic| walk_at "leaving ref") => `(tactic| k_extra "leave")

theorem bisX_l3 {w : World} {d : Addr} (xv hv : Value) {news : List (Addr × Obj)} (tl : Tok) : SpecX w 2 57 [.ref d, xv, .int (-1) tl] [] news "ValueError" := by
  unfold SpecX; intros; rename_i hret
  refine wpAny_call ?_
  k_dflt (refine' code_def ?k1 ?k2 ?k3 ?k4 ?k5 ?kA ?kF ?kK ?k6 ?k7 ?k8 ?k9 ?kB ?_ ?c2 ?c3 ?c4 ?c5; (case kA => exact rfl); (case kF => exact rfl); (case kK => assumption); (case k1 => k_asm); (case k2 => k_asm); (case k3 => k_asm); (case k4 => k_asm); (case k5 => k_asm); (case k6 => k_is); (case k7 => k_is); (case k8 => ktr_room); (case k9 => first | exact BindsTo.of_eq rfl | exact binds_K (by k_in) rfl (by k_is) rfl rfl rfl | exact kp_binds (by k_in) (fun _ => rfl) | fail "k_enter: no rule for these arguments"); (case c5 => decide); (case kB => exact locs rfl); (case c2 => exact rfl); (case c3 => exact rfl); (case c4 => exact rfl); k_whole; intro g' L' h' FG' F' N' B' X' T'; (try dsimp only); (try k_lift B'); (try k_fold))
  k_with_none
  k_steps
  all_goals exact hret _ _ _ ⟨_, FG', by assumption, by assumption⟩
theorem bisX_l4 {w : World} {d : Addr} (xv hv : Value) {news : List (Addr × Obj)} (tl : Tok) : SpecX w 2 57 [.ref d, xv, .int (-1) tl, hv] [] news "ValueError" := by
  unfold SpecX; intros; rename_i hret
  refine wpAny_call ?_
  k_dflt (refine' code_def ?k1 ?k2 ?k3 ?k4 ?k5 ?kA ?kF ?kK ?k6 ?k7 ?k8 ?k9 ?kB ?_ ?c2 ?c3 ?c4 ?c5; (case kA => exact rfl); (case kF => exact rfl); (case kK => assumption); (case k1 => k_asm); (case k2 => k_asm); (case k3 => k_asm); (case k4 => k_asm); (case k5 => k_asm); (case k6 => k_is); (case k7 => k_is); (case k8 => ktr_room); (case k9 => first | exact BindsTo.of_eq rfl | exact binds_K (by k_in) rfl (by k_is) rfl rfl rfl | exact kp_binds (by k_in) (fun _ => rfl) | fail "k_enter: no rule for these arguments"); (case c5 => decide); (case kB => exact locs rfl); (case c2 => exact rfl); (case c3 => exact rfl); (case c4 => exact rfl); k_whole; intro g' L' h' FG' F' N' B' X' T'; (try dsimp only); (try k_lift B'); (try k_fold))
  k_with_none
  k_steps
  all_goals exact hret _ _ _ ⟨_, FG', by assumption, by assumption⟩
theorem bisX_l5 {w : World} {d : Addr} (xv hv : Value) {news : List (Addr × Obj)} (tl : Tok) : SpecX w 2 57 [.ref d, xv, .int (-1) tl, hv] [(Str.ofString "key", .ref 64)] news "ValueError" := by
  unfold SpecX; intros; rename_i hret
  refine wpAny_call ?_
  k_dflt (refine' code_def ?k1 ?k2 ?k3 ?k4 ?k5 ?kA ?kF ?kK ?k6 ?k7 ?k8 ?k9 ?kB ?_ ?c2 ?c3 ?c4 ?c5; (case kA => exact rfl); (case kF => exact rfl); (case kK => assumption); (case k1 => k_asm); (case k2 => k_asm); (case k3 => k_asm); (case k4 => k_asm); (case k5 => k_asm); (case k6 => k_is); (case k7 => k_is); (case k8 => ktr_room); (case k9 => first | exact BindsTo.of_eq rfl | exact binds_K (by k_in) rfl (by k_is) rfl rfl rfl | exact kp_binds (by k_in) (fun _ => rfl) | fail "k_enter: no rule for these arguments"); (case c5 => decide); (case kB => exact locs rfl); (case c2 => exact rfl); (case c3 => exact rfl); (case c4 => exact rfl); k_whole; intro g' L' h' FG' F' N' B' X' T'; (try dsimp only); (try k_lift B'); (try k_fold))
  k_with_none
  k_steps
  all_goals exact hret _ _ _ ⟨_, FG', by assumption, by assumption⟩
theorem bisX_r3 {w : World} {d : Addr} (xv hv : Value) {news : List (Addr × Obj)} (tl : Tok) : SpecX w 2 39 [.ref d, xv, .int (-1) tl] [] news "ValueError" := by
  unfold SpecX; intros; rename_i hret
  refine wpAny_call ?_
  k_dflt (refine' code_def ?k1 ?k2 ?k3 ?k4 ?k5 ?kA ?kF ?kK ?k6 ?k7 ?k8 ?k9 ?kB ?_ ?c2 ?c3 ?c4 ?c5; (case kA => exact rfl); (case kF => exact rfl); (case kK => assumption); (case k1 => k_asm); (case k2 => k_asm); (case k3 => k_asm); (case k4 => k_asm); (case k5 => k_asm); (case k6 => k_is); (case k7 => k_is); (case k8 => ktr_room); (case k9 => first | exact BindsTo.of_eq rfl | exact binds_K (by k_in) rfl (by k_is) rfl rfl rfl | exact kp_binds (by k_in) (fun _ => rfl) | fail "k_enter: no rule for these arguments"); (case c5 => decide); (case kB => exact locs rfl); (case c2 => exact rfl); (case c3 => exact rfl); (case c4 => exact rfl); k_whole; intro g' L' h' FG' F' N' B' X' T'; (try dsimp only); (try k_lift B'); (try k_fold))
  k_with_none
  k_steps
  all_goals exact hret _ _ _ ⟨_, FG', by assumption, by assumption⟩
theorem bisX_r4 {w : World} {d : Addr} (xv hv : Value) {news : List (Addr × Obj)} (tl : Tok) : SpecX w 2 39 [.ref d, xv, .int (-1) tl, hv] [] news "ValueError" := by
  unfold SpecX; intros; rename_i hret
  refine wpAny_call ?_
  k_dflt (refine' code_def ?k1 ?k2 ?k3 ?k4 ?k5 ?kA ?kF ?kK ?k6 ?k7 ?k8 ?k9 ?kB ?_ ?c2 ?c3 ?c4 ?c5; (case kA => exact rfl); (case kF => exact rfl); (case kK => assumption); (case k1 => k_asm); (case k2 => k_asm); (case k3 => k_asm); (case k4 => k_asm); (case k5 => k_asm); (case k6 => k_is); (case k7 => k_is); (case k8 => ktr_room); (case k9 => first | exact BindsTo.of_eq rfl | exact binds_K (by k_in) rfl (by k_is) rfl rfl rfl | exact kp_binds (by k_in) (fun _ => rfl) | fail "k_enter: no rule for these arguments"); (case c5 => decide); (case kB => exact locs rfl); (case c2 => exact rfl); (case c3 => exact rfl); (case c4 => exact rfl); k_whole; intro g' L' h' FG' F' N' B' X' T'; (try dsimp only); (try k_lift B'); (try k_fold))
  k_with_none
  k_steps
  all_goals exact hret _ _ _ ⟨_, FG', by assumption, by assumption⟩
theorem bisX_r5 {w : World} {d : Addr} (xv hv : Value) {news : List (Addr × Obj)} (tl : Tok) : SpecX w 2 39 [.ref d, xv, .int (-1) tl, hv] [(Str.ofString "key", .ref 64)] news "ValueError" := by
  unfold SpecX; intros; rename_i hret
  refine wpAny_call ?_
  k_dflt (refine' code_def ?k1 ?k2 ?k3 ?k4 ?k5 ?kA ?kF ?kK ?k6 ?k7 ?k8 ?k9 ?kB ?_ ?c2 ?c3 ?c4 ?c5; (case kA => exact rfl); (case kF => exact rfl); (case kK => assumption); (case k1 => k_asm); (case k2 => k_asm); (case k3 => k_asm); (case k4 => k_asm); (case k5 => k_asm); (case k6 => k_is); (case k7 => k_is); (case k8 => ktr_room); (case k9 => first | exact BindsTo.of_eq rfl | exact binds_K (by k_in) rfl (by k_is) rfl rfl rfl | exact kp_binds (by k_in) (fun _ => rfl) | fail "k_enter: no rule for these arguments"); (case c5 => decide); (case kB => exact locs rfl); (case c2 => exact rfl); (case c3 => exact rfl); (case c4 => exact rfl); k_whole; intro g' L' h' FG' F' N' B' X' T'; (try dsimp only); (try k_lift B'); (try k_fold))
  k_with_none
  k_steps
  all_goals exact hret _ _ _ ⟨_, FG', by assumption, by assumption⟩
theorem putX_l3 {w : World} {d : Addr} (xv : Value) {news : List (Addr × Obj)} (tl : Tok) : SpecX w 4 48 [.ref d, xv, .int (-1) tl] [] news "ValueError" := by
  unfold SpecX; intros; rename_i hret
  refine wpAny_call ?_
  k_dflt (refine' code_def ?k1 ?k2 ?k3 ?k4 ?k5 ?kA ?kF ?kK ?k6 ?k7 ?k8 ?k9 ?kB ?_ ?c2 ?c3 ?c4 ?c5; (case kA => exact rfl); (case kF => exact rfl); (case kK => assumption); (case k1 => k_asm); (case k2 => k_asm); (case k3 => k_asm); (case k4 => k_asm); (case k5 => k_asm); (case k6 => k_is); (case k7 => k_is); (case k8 => ktr_room); (case k9 => first | exact BindsTo.of_eq rfl | exact binds_K (by k_in) rfl (by k_is) rfl rfl rfl | exact kp_binds (by k_in) (fun _ => rfl) | fail "k_enter: no rule for these arguments"); (case c5 => decide); (case kB => exact locs rfl); (case c2 => exact rfl); (case c3 => exact rfl); (case c4 => exact rfl); k_whole; intro g' L' h' FG' F' N' B' X' T'; (try dsimp only); (try k_lift B'); (try k_fold))
  k_with_none
  (k_with "my call" => ((with_unfolding_all refine' call_byX (bisX_l4 _ _ _) ?k1 ?k2 ?k3 ?k4 ?k5 ?k6 ?k7 ?k8 ?_); (case k1 => k_asm); (case k2 => k_asm); (case k3 => k_asm); (case k4 => k_asm); (case k5 => k_asm); (case k6 => rfl); (case k7 => ktr_room); (case k8 => ktr_units); intro e9 h9 tk9 th9))
  (k_with "leave" => (refine' leave_thrown ?k1 ?k2 ?_; (case k1 => k_asm); (case k2 => exact th9); intro h8 R8 U8))
  k_steps
  all_goals exact hret _ _ _ ⟨_, FG', by assumption, by assumption⟩
theorem putX_l5 {w : World} {d : Addr} (x : Str) (tx : Tok) (hx : x.length ≤ 100) (hv : Value) {news : List (Addr × Obj)} (tl : Tok) : SpecX w 4 48 [.ref d, .str x tx, .int (-1) tl, hv] [(Str.ofString "key", .ref 64)] news "ValueError" := by
  unfold SpecX; intros; rename_i hret
  refine wpAny_call ?_
  k_dflt (refine' code_def ?k1 ?k2 ?k3 ?k4 ?k5 ?kA ?kF ?kK ?k6 ?k7 ?k8 ?k9 ?kB ?_ ?c2 ?c3 ?c4 ?c5; (case kA => exact rfl); (case kF => exact rfl); (case kK => assumption); (case k1 => k_asm); (case k2 => k_asm); (case k3 => k_asm); (case k4 => k_asm); (case k5 => k_asm); (case k6 => k_is); (case k7 => k_is); (case k8 => ktr_room); (case k9 => first | exact BindsTo.of_eq rfl | exact binds_K (by k_in) rfl (by k_is) rfl rfl rfl | exact kp_binds (by k_in) (fun _ => rfl) | fail "k_enter: no rule for these arguments"); (case c5 => decide); (case kB => exact locs rfl); (case c2 => exact rfl); (case c3 => exact rfl); (case c4 => exact rfl); k_whole; intro g' L' h' FG' F' N' B' X' T'; (try dsimp only); (try k_lift B'); (try k_fold))
  k_with_none
  (k_with "my call" => first | ((with_unfolding_all refine' call_by (letter_spec w _ _ _ hx) ?k1 ?k2 ?k3 ?k4 ?k5 ?k6 ?k7 ?k8 ?_); (case k1 => k_asm); (case k2 => k_asm); (case k3 => k_asm); (case k4 => k_asm); (case k5 => k_asm); (case k6 => rfl); (case k7 => ktr_room); (case k8 => ktr_units); intro v9 h9 tk9 hv9 F9 N9; obtain ⟨t9, e9⟩ := hv9; subst e9) | ((with_unfolding_all refine' call_byX (bisX_l5 _ _ _) ?k1 ?k2 ?k3 ?k4 ?k5 ?k6 ?k7 ?k8 ?_); (case k1 => k_asm); (case k2 => k_asm); (case k3 => k_asm); (case k4 => k_asm); (case k5 => k_asm); (case k6 => rfl); (case k7 => ktr_room); (case k8 => ktr_units); intro e9 h9 tk9 th9))
  (k_with "leave" => (refine' leave_thrown ?k1 ?k2 ?_; (case k1 => k_asm); (case k2 => exact th9); intro h8 R8 U8))
  k_steps
  all_goals exact hret _ _ _ ⟨_, FG', by assumption, by assumption⟩
theorem putX_r3 {w : World} {d : Addr} (xv : Value) {news : List (Addr × Obj)} (tl : Tok) : SpecX w 4 30 [.ref d, xv, .int (-1) tl] [] news "ValueError" := by
  unfold SpecX; intros; rename_i hret
  refine wpAny_call ?_
  k_dflt (refine' code_def ?k1 ?k2 ?k3 ?k4 ?k5 ?kA ?kF ?kK ?k6 ?k7 ?k8 ?k9 ?kB ?_ ?c2 ?c3 ?c4 ?c5; (case kA => exact rfl); (case kF => exact rfl); (case kK => assumption); (case k1 => k_asm); (case k2 => k_asm); (case k3 => k_asm); (case k4 => k_asm); (case k5 => k_asm); (case k6 => k_is); (case k7 => k_is); (case k8 => ktr_room); (case k9 => first | exact BindsTo.of_eq rfl | exact binds_K (by k_in) rfl (by k_is) rfl rfl rfl | exact kp_binds (by k_in) (fun _ => rfl) | fail "k_enter: no rule for these arguments"); (case c5 => decide); (case kB => exact locs rfl); (case c2 => exact rfl); (case c3 => exact rfl); (case c4 => exact rfl); k_whole; intro g' L' h' FG' F' N' B' X' T'; (try dsimp only); (try k_lift B'); (try k_fold))
  k_with_none
  (k_with "my call" => ((with_unfolding_all refine' call_byX (bisX_r4 _ _ _) ?k1 ?k2 ?k3 ?k4 ?k5 ?k6 ?k7 ?k8 ?_); (case k1 => k_asm); (case k2 => k_asm); (case k3 => k_asm); (case k4 => k_asm); (case k5 => k_asm); (case k6 => rfl); (case k7 => ktr_room); (case k8 => ktr_units); intro e9 h9 tk9 th9))
  (k_with "leave" => (refine' leave_thrown ?k1 ?k2 ?_; (case k1 => k_asm); (case k2 => exact th9); intro h8 R8 U8))
  k_steps
  all_goals exact hret _ _ _ ⟨_, FG', by assumption, by assumption⟩
theorem putX_r5 {w : World} {d : Addr} (x : Str) (tx : Tok) (hx : x.length ≤ 100) (hv : Value) {news : List (Addr × Obj)} (tl : Tok) : SpecX w 4 30 [.ref d, .str x tx, .int (-1) tl, hv] [(Str.ofString "key", .ref 64)] news "ValueError" := by
  unfold SpecX; intros; rename_i hret
  refine wpAny_call ?_
  k_dflt (refine' code_def ?k1 ?k2 ?k3 ?k4 ?k5 ?kA ?kF ?kK ?k6 ?k7 ?k8 ?k9 ?kB ?_ ?c2 ?c3 ?c4 ?c5; (case kA => exact rfl); (case kF => exact rfl); (case kK => assumption); (case k1 => k_asm); (case k2 => k_asm); (case k3 => k_asm); (case k4 => k_asm); (case k5 => k_asm); (case k6 => k_is); (case k7 => k_is); (case k8 => ktr_room); (case k9 => first | exact BindsTo.of_eq rfl | exact binds_K (by k_in) rfl (by k_is) rfl rfl rfl | exact kp_binds (by k_in) (fun _ => rfl) | fail "k_enter: no rule for these arguments"); (case c5 => decide); (case kB => exact locs rfl); (case c2 => exact rfl); (case c3 => exact rfl); (case c4 => exact rfl); k_whole; intro g' L' h' FG' F' N' B' X' T'; (try dsimp only); (try k_lift B'); (try k_fold))
  k_with_none
  (k_with "my call" => first | ((with_unfolding_all refine' call_by (letter_spec w _ _ _ hx) ?k1 ?k2 ?k3 ?k4 ?k5 ?k6 ?k7 ?k8 ?_); (case k1 => k_asm); (case k2 => k_asm); (case k3 => k_asm); (case k4 => k_asm); (case k5 => k_asm); (case k6 => rfl); (case k7 => ktr_room); (case k8 => ktr_units); intro v9 h9 tk9 hv9 F9 N9; obtain ⟨t9, e9⟩ := hv9; subst e9) | ((with_unfolding_all refine' call_byX (bisX_r5 _ _ _) ?k1 ?k2 ?k3 ?k4 ?k5 ?k6 ?k7 ?k8 ?_); (case k1 => k_asm); (case k2 => k_asm); (case k3 => k_asm); (case k4 => k_asm); (case k5 => k_asm); (case k6 => rfl); (case k7 => ktr_room); (case k8 => ktr_units); intro e9 h9 tk9 th9))
  (k_with "leave" => (refine' leave_thrown ?k1 ?k2 ?_; (case k1 => k_asm); (case k2 => exact th9); intro h8 R8 U8))
  k_steps
  all_goals exact hret _ _ _ ⟨_, FG', by assumption, by assumption⟩
end
end Mine
end

section
open PySem PySem.W PyProof.Rows
set_option Elab.async false
set_option maxRecDepth 100000
set_option maxHeartbeats 8000000
set_option linter.unusedVariables false
namespace Mine
theorem fillK11 (w : World) (h : Heap) (_ : (hd.heap_39 w.params).In h) : PySem.Challenge.rw_nb0156_01.row.prog = PySem.Challenge.rw_nb0156_01.row.prog ∧ (hd.heap_39 w.params) = hd.heap_39 w.params := by
  k_fill
  exact ⟨rfl, rfl⟩
/-- a call that raises, generators let in -/
abbrev SpecXG (w : World) (k : Nat) (f : Addr) (vs : List Value) (kw : List (Str × Value)) (news : List (Addr × Obj)) (cls : String) : Prop :=
  ∀ (p : Program) (loose : List Str) (mean : ExcName → Option Value) (mg mb : Str → Option Value) (dp un : Nat) (gd : Option (List Code)) (cn : Str) (cs : Scope) (a : Addr) (ccd : Value) (cl : List (Str × Addr)) (outer : List Env) (A₀ : Around) (base h₀ : Heap) (L : Addr) (m : Str → Option Value) (s : Shared) (Q E : Value → Shared → Prop),
    AllBare s.gens → base.objs.size ≤ h₀.objs.size → (hd.heap_39 w.params).In base → Top p loose mean mg mb base → Below A₀ base outer h₀ → Fr h₀ L s.heap m → (hd.heap_39 w.params).In h₀ → News h₀ L s.heap news → Top p loose mean mg mb h₀ → cs.kind = .function →
    dp + k < recursionLimit → un + 8 * k < cLine → (∀ e h' tk' g', AllBare g' → Thrown base h₀ L m (envX cn cs L a ccd cl) outer e cls news h' → E (.ref e) { s with heap := h', toks := tk', gens := g' }) →
      wpAny (model PySem.Challenge.rw_nb0156_01.row.prog w) (ktrTop dp un gd cn cs L a ccd cl outer) (call (.ref f) vs kw) Q E s
theorem call_byXG {w : World} {k : Nat} {f : Addr} {vs : List Value} {kw : List (Str × Value)} {news : List (Addr × Obj)} {cls : String}
    {p : Program} {loose : List Str} {mean : ExcName → Option Value} {mg mb : Str → Option Value} {dp un : Nat} {gd : Option (List Code)} {cn : Str} {cs : Scope} {a : Addr} {ccd : Value} {cl : List (Str × Addr)} {outer : List Env} {A₀ : Around} {base h₀ : Heap} {L : Addr} {m : Str → Option Value} {s : Shared} {Q E : Value → Shared → Prop}
    (S : SpecXG w k f vs kw news cls) (hb : AllBare s.gens) (hz : base.objs.size ≤ h₀.objs.size) (XB : (hd.heap_39 w.params).In base) (TB : Top p loose mean mg mb base)
    (B : Below A₀ base outer h₀) (F : Fr h₀ L s.heap m) (X : (hd.heap_39 w.params).In h₀) (N : News h₀ L s.heap news) (T : Top p loose mean mg mb h₀) (hk : cs.kind = .function)
    (h1 : dp + k < recursionLimit) (h2 : un + 8 * k < cLine) (h : ∀ e h' tk' g', AllBare g' → Thrown base h₀ L m (envX cn cs L a ccd cl) outer e cls news h' → E (.ref e) { s with heap := h', toks := tk', gens := g' }) :
      wpAny (model PySem.Challenge.rw_nb0156_01.row.prog w) (ktrTop dp un gd cn cs L a ccd cl outer) (call (.ref f) vs kw) Q E s :=
  S _ _ _ _ _ _ _ _ _ _ _ _ _ _ _ _ _ _ _ _ _ _ hb hz XB TB B F X N T hk h1 h2 h
section
theorem reset6 : True := by
  w_top off
  exact trivial
local macro_rules | `(tactic| walk_at "call ref") => `(tactic| k_extra "my call")
local macro_rules | `(tactic| walk_at "callWith ref") => `(tactic| k_extra "with")
local macro_rules | `(tactic| walk_at "noteFrame ref") => `(tactic| k_extra "note")
theorem refused_true {w : World} {f : Addr} {news : List (Addr × Obj)} {p : Program} {loose : List Str} {mean : ExcName → Option Value} {mg mb : Str → Option Value} {dp un : Nat} {gd : Option (List Code)} {cn : Str} {cs : Scope} {a : Addr} {ccd : Value} {cl : List (Str × Addr)} {A₀ : Around} {h₀ : Heap} {L : Addr} {m : Str → Option Value} {s : Shared} {Q E : Value → Shared → Prop}
    {ln lq : Str} {lp : Arguments} {lb : Expr} {ls : Scope} {lc : List (Str × Addr)} {lm lt : Value} {lcode : Addr}
    (hfn : (f, kla_obj ln lq lp lb ls lc lm lcode lt) ∈ news) (D : SpecXG w 8 f [] [] news "ValueError") (hb : AllBare s.gens) (B : Below A₀ h₀ [] h₀) (F : Fr h₀ L s.heap m) (X : (hd.heap_39 w.params).In h₀) (N : News h₀ L s.heap news) (T : Top p loose mean mg mb h₀) (hk : cs.kind = .function)
    (h1 : dp + 10 < recursionLimit) (h2 : un + 80 < cLine)
    (h : ∀ h' tk' g', AllBare g' → Fr h₀ L h' m → News h₀ L h' news → Q (.bool true) { s with heap := h', toks := tk', gens := g' }) :
    wpAny (model PySem.Challenge.rw_nb0156_01.row.prog w) (ktrTop dp un gd cn cs L a ccd cl []) (call (.ref 83) [.ref f] []) Q E s := by
  refine wpAny_call ?_
  k_dflt (refine' code_defR ?k1 ?k2 ?k3 ?k4 ?k5 ?kA ?kF ?kK ?k6 ?k7 ?k8 ?k9 ?kB ?_ ?c2 ?c3 ?c4 ?c5; (case kA => exact rfl); (case kF => exact rfl); (case kK => assumption); (case k1 => exact B); (case k2 => k_asm); (case k3 => k_asm); (case k4 => k_asm); (case k5 => k_asm); (case k6 => k_is); (case k7 => k_is); (case k8 => ktr_room); (case k9 => exact BindsTo.of_eq rfl); (case c5 => decide); (case kB => exact locs rfl); (case c2 => exact rfl); (case c3 => exact rfl); (case c4 => exact rfl); k_whole; intro g' L' h' FG' F' N' B' X' T'; (try dsimp only))
  k_with_none
  (k_with "my call" => ((with_unfolding_all refine' call_byXG D hb (Nat.le_trans FG'.above (Nat.le_of_lt FG'.ns.lt)) X T ?k1 ?k2 ?k3 ?k4 ?k5 ?k6 ?k7 ?k8 ?_); (case k1 => exact B'); (case k2 => k_asm); (case k3 => exact X'); (case k4 => k_asm); (case k5 => exact T'); (case k6 => rfl); (case k7 => ktr_room); (case k8 => ktr_units); intro e9 h9 tk9 g9 hb9 th9; dsimp only))
  (k_with "with" => (refine' callWith_F0 ?k1 ?_; (case k1 => exact FnAt.of (by k_asm) hfn); (try dsimp only [List.nil_append])))
  (k_with "note" => ((with_unfolding_all refine' catch_N (K := hd.heap_39 w.params) (T' := "ValueError") ?k1 th9 ?k2 ?k3 X ?k4 ?k5 PyProof.Rows.Boot.«ValueError» ?k6 PySem.F.isExc_ValueError PySem.F.notTuple_ValueError ?k7 ?_ ?k8 ?k9 ?ka ?kb); (case k1 => exact B'.stack); (case k2 => exact B'.stays); (case k3 => exact Nat.le_trans FG'.above (Nat.le_trans (Nat.le_of_lt FG'.ns.lt) F'.above)); (case k4 => exact T); (case k5 => k_is); (case k6 => decide); (case k7 => (rw [isSubtype_type]; kernel_rfl)); (case k8 => rfl); (case k9 => rfl); (case ka => decide); (case kb => passes_own); intro h8 F8 N8 U8))
  k_steps
  dsimp only
  exact h h8 _ g9 hb9 (FG'.of_stays F8.keep U8) (fun q hq => ⟨(N8 q hq).1, (N q hq).2.1, (N q hq).2.2⟩)
end
end Mine
end

section
open PySem PySem.W PyProof.Rows
open PySem.Sem (wp)
set_option Elab.async false
set_option maxRecDepth 100000
set_option maxHeartbeats 400000
set_option linter.unusedVariables false
namespace Mine
def raisesR (PX : Addr → Heap → Prop) : GenEnd := fun _ s₀ r s₁ => ∃ e h' tk', r = .error (.ref e) ∧ s₁ = { s₀ with heap := h', toks := tk' } ∧ PX e h'
def neverY : Protocol := fun _ _ _ _ _ => False
theorem sub_VE_stop : isSubtype (.type "ValueError") (.type "StopIteration") = pure false := by rw [isSubtype_type]; kernel_rfl
section
variable {prog : Program} {w : World} {A : Around} {E : Value → Shared → Prop} {s : Shared} {PX : Addr → Heap → Prop}
theorem next_fnX {a : Addr} {g : Nat} {gs : GenState} {Q : Option Value → Shared → Prop}
    (hl : s.heap.NoLimit) (hroom : A.depth < recursionLimit) (hg : s.heap.IsGen a g) (hgs : s.gens[g]? = some gs)
    (hgo : gs.Goes (model prog w) A.in1 (raisesR PX) neverY 0 (.send .none) (s.setGen g .running))
    (hX : ∀ e h', PX e h' → h'.IsGen a g ∧ ∃ ob, h'.get? e = some ob ∧ ob.cls = .type "ValueError")
    (hE : ∀ e h' tk', PX e h' → E (.ref e) { (s.setGen g .running).setGen g .finished with heap := h', toks := tk' }) :
    wpAny (model prog w) A (pyNext (.ref a)) Q E s := by
  unfold pyNext
  refine wpAny_bind (wpAny_attempt (wpAny_callSpecial?_slot (name := Str.ofString "__next__") hg.typeIs slot_gen_next
    (wpAny_call_entry slot_gen_next hg.typeIs entry_gen_next ?_ (args_gen_next _))))
  show wpAny _ A.in1 (Builtin.Generator.genWake (.ref a) (.send .none)) _ _ s
  unfold Builtin.Generator.genWake
  refine wpAny_bind (wpAny_holding (wpAny_genNumber hg (wpAny_bind (wpAny_genState hgs ?_))))
  cases gs with
  | running => exact hgo.elim
  | finished => exact hgo.elim
  | _ =>
    refine wpAny_bind (wpAny_roomToWake hl hroom ?_)
    show wpAny _ A.in1 (.resume g (.send .none) [] _) _ _ s
    refine wpAny_resumeQ hgs hgo (fun x s₁ hx => ?_) (fun v s₁ gs' hb hv => hv.elim)
    obtain ⟨e, h', tk', rfl, rfl, hp⟩ := hx
    obtain ⟨⟨og, nm, qn, hog, hoc, hod, hoe⟩, ob, hob, hcl⟩ := hX e h' hp
    show wpAny _ A.in1 (Builtin.Generator.genLeft (.ref a) (.ref e)) _ _ _
    unfold Builtin.Generator.genLeft Builtin.Generator.madeByALambda
    refine wpAny_bind (wpAny_bind (wpAny_loadPart hog ?_))
    refine wpAny_pure ?_
    refine wpAny_bind (wpAny_isInstance (T := "ValueError") (b := false) ⟨ob, hob, hcl⟩ sub_VE_stop ?_)
    simp only [Bool.and_false, Bool.false_eq_true, if_false]
    unfold Builtin.Generator.genEscaped
    refine wpAny_bind (wpAny_isInstance (T := "ValueError") (b := false) ⟨ob, hob, hcl⟩ sub_VE_stop ?_)
    simp only [Bool.not_false, if_true]
    first | refine wpAny_bind (wpAny_throw ?_) | refine wpAny_throw ?_
    refine wpAny_bind (wpAny_isInstance (T := "ValueError") (b := false) ⟨ob, hob, hcl⟩ sub_VE_stop ?_)
    simp only [Bool.false_eq_true, if_false]
    exact wpAny_throw (hE e h' tk' hp)
end
section
variable {prog : Program} {w : World} {A : Around} {R' : Result → Shared → Prop} {S a : Addr} {g : Nat} {PX : Addr → Heap → Prop} {s : Shared} {gs : GenState}
theorem extend_fnX (hroom : A.depth < recursionLimit) (ha : a < S) (hc : cStatics < S)
    (hg : s.heap.IsGen a g) (hl : s.heap.NoLimit) (hgs : s.gens[g]? = some gs) (hb : AllBare s.gens) (res : Value) (c₀ : Nat)
    (hgo : ∀ s'' : Shared, (∀ b o, b ≠ S → s.heap.get? b = some o → s''.heap.get? b = some o) → gs.Goes (model prog w) A.in1.in1 (raisesR PX) neverY 0 (.send .none) s'')
    (hX : ∀ e h', PX e h' → h'.IsGen a g ∧ ∃ ob, h'.get? e = some ob ∧ ob.cls = .type "ValueError")
    (hS : s.heap.get? S = some { cls := .type "list", data := .seq #[] c₀ })
    (hR : ∀ e h' tk' gens', PX e h' → AllBare gens' → R' (.error (.ref e)) { s with heap := h', toks := tk', gens := gens' }) :
    wpAny (model prog w) A.in1 (Builtin.List.listExtendWith (.ref S) (.ref a) res)
      (fun fin s' => match fin with | .done f => R' (.ok f) s' | .again c' => c'.quiet = true ∧ codeAny (model prog w) A c' R' s') (fun e s' => R' (.error e) s') s := by
  have hSa : S ≠ a := Nat.ne_of_gt ha
  have hcS : cStatics ≠ S := Nat.ne_of_lt hc
  unfold Builtin.List.listExtendWith
  refine wpAny_bind (wpAny_typeOf hg.typeIs ?_)
  have h1 : Builtin.List.listSameRef (.ref S) (.ref a) = false := by simp [Builtin.List.listSameRef, hSa]
  have h2 : (Value.type "generator" == Value.type "list") = false := by decide
  have h3 : (Value.type "generator" == Value.type "tuple") = false := by decide
  simp only [h1, h2, h3, Bool.or_false, Bool.false_eq_true, if_false]
  refine wpAny_bind (wpAny_pyIter_gen hg ?_)
  refine wpAny_bind (wpAny_holding ?_)
  unfold Builtin.List.listLengthHint
  refine wpAny_bind (wpAny_specialOf hg.typeIs F.gen_no_len ?_)
  show wpAny _ A.in1 (specialOf (Value.ref a) (Str.ofString "__length_hint__") >>= _) _ _ _
  refine wpAny_bind (wpAny_specialOf hg.typeIs F.gen_no_hint ?_)
  refine wpAny_pure ?_
  show wpAny _ A.in1 (rule "list.extend.makes-room" >>= fun _ => Builtin.List.listTouch (.ref S) >>= fun _ =>
    again (.builtin "list.extend.loop" ⟨[.ref S, .ref a, res], []⟩)) _ _ _
  refine wpAny_bind (wpAny_rule ?_)
  refine wpAny_bind ?_
  show wpAny _ A.in1 (updateSeq S (·.push .none) >>= fun _ => updateSeq S (·.pop)) _ _ _
  refine wpAny_bind (wpAny_updateSeq hS rfl ?_)
  have hS₂ := Heap.get?_update_self (Obj.mapSeq (·.push Value.none)) hS rfl
  refine wpAny_updateSeq (hz := by seq_fits) hS₂ rfl ?_
  have oth : ∀ b o, b ≠ S → s.heap.get? b = some o → ((s.heap.update S (Obj.mapSeq (·.push Value.none))).update S (Obj.mapSeq (·.pop))).get? b = some o :=
    fun b o hb e => (Heap.get?_update_other _ _ (Ne.symm hb)).trans ((Heap.get?_update_other _ _ (Ne.symm hb)).trans e)
  refine wpAny_pure ⟨plainId_quiet F.plain_extend_loop _, ?_⟩
  refine codeAny_builtin F.entry_extend_loop ?_
  rw [Around.under_plainId F.plain_extend_loop _]
  show wpAny _ A.in1 (pyNext (.ref a) >>= _) _ _ _
  refine wpAny_bind (next_fnX (A := A.in1) (PX := PX) ?_ hroom ?_ hgs (hgo _ oth) hX fun e h' tk' hp => ?_)
  · obtain ⟨mc, hns, hnn⟩ := hl
    exact ⟨mc, hns.at' fun o e => oth _ o hcS e, hnn⟩
  · obtain ⟨o, nm, qn, ho, r⟩ := hg
    exact ⟨o, nm, qn, oth a o (Ne.symm hSa) ho, r⟩
  · exact hR e h' tk' _ hp (allBare_set (allBare_set hb rfl) rfl)
end
section
variable {prog : Program} {w : World} {A : Around} {E : Value → Shared → Prop} {a : Addr} {g : Nat} {PX : Addr → Heap → Prop} {s : Shared} {gs : GenState}
theorem call_list_fnX {Q : Value → Shared → Prop} (hroom : A.depth < recursionLimit)
    (hg : s.heap.IsGen a g) (hl : s.heap.NoLimit) (hgs : s.gens[g]? = some gs) (hb : AllBare s.gens)
    (hgo : ∀ s'' : Shared, (∀ b o, s.heap.get? b = some o → s''.heap.get? b = some o) → gs.Goes (model prog w) A.in1.in1.in1 (raisesR PX) neverY 0 (.send .none) s'')
    (hX : ∀ e h', PX e h' → h'.IsGen a g ∧ ∃ ob, h'.get? e = some ob ∧ ob.cls = .type "ValueError")
    (hE : ∀ e h' tk' gens', PX e h' → AllBare gens' → E (.ref e) { s with heap := h', toks := tk', gens := gens' }) :
    wpAny (model prog w) A (call (.type "list") [.ref a]) Q E s := by
  have haS : a < s.heap.objs.size := let ⟨_, _, _, ho, _⟩ := hg; Heap.lt_size ho
  have hcS : cStatics < s.heap.objs.size := let ⟨_, hn, _⟩ := hl; hn.lt
  refine callType_codes (Q₁ := fun obj s₁ => obj = .ref s.heap.objs.size ∧ s₁ = { s with heap := s.heap.push { cls := .type "list", data := .seq #[] } }) F.called_list (F.typeCall_list_1 _) F.entry_list_init
    (code_list_new _ ⟨rfl, rfl⟩) fun obj s₁ h₁ => ?_
  obtain ⟨rfl, rfl⟩ := h₁
  have hS : (s.heap.push { cls := .type "list", data := .seq #[] }).get? s.heap.objs.size = some { cls := .type "list", data := .seq #[] } := Heap.get?_push_size _ rfl
  refine ⟨⟨_, hS, rfl⟩, F.args_list_init_2 _ _, ?_⟩
  show wpAny _ A.in1.in1 (do let old ← Builtin.List.listItems (.ref s.heap.objs.size); Builtin.List.listUpdate (.ref s.heap.objs.size) (fun _ => #[]); letGo old.toList.reverse; Builtin.List.listExtendWith (.ref s.heap.objs.size) (.ref a) .none) _ _ _
  refine wpAny_bind ?_
  unfold Builtin.List.listItems
  refine wpAny_bind (wpAny_seqItems hS rfl (wpAny_pure ?_))
  show wpAny _ A.in1.in1 (updateSeq s.heap.objs.size (fun _ => #[]) >>= fun _ => letGo (#[] : Array Value).toList.reverse >>= fun _ => Builtin.List.listExtendWith (.ref s.heap.objs.size) (.ref a) .none) _ _ _
  refine wpAny_bind (wpAny_updateSeq hS rfl ?_)
  have hS₂ := Heap.get?_update_self (Obj.mapSeq (fun _ => (#[] : Array Value))) hS rfl
  have oth : ∀ b o, s.heap.get? b = some o → ((s.heap.push { cls := .type "list", data := .seq #[] }).update s.heap.objs.size (Obj.mapSeq (fun _ => (#[] : Array Value)))).get? b = some o :=
    fun b o e => (Heap.get?_update_other _ _ (Nat.ne_of_gt (Heap.lt_size e))).trans (Heap.get?_push_of_some _ e)
  refine wpAny_bind (wpAny_letGo ?_)
  refine extend_fnX (A := A.in1) (PX := PX) (s := { s with heap := (s.heap.push { cls := .type "list", data := .seq #[] }).update s.heap.objs.size (Obj.mapSeq (fun _ => (#[] : Array Value))) }) hroom haS hcS ?_ ?_ hgs hb .none _ ?_ hX hS₂ ?_
  · obtain ⟨o, nm, qn, ho, r⟩ := hg
    exact ⟨o, nm, qn, oth a o ho, r⟩
  · obtain ⟨mc, hns, hnn⟩ := hl
    exact ⟨mc, hns.at' fun o e => oth _ o e, hnn⟩
  · exact fun s'' hk => hgo s'' (fun b o e => hk b o (Nat.ne_of_lt (Heap.lt_size e)) (oth b o e))
  · exact fun e h' tk' gens' hp hbb => hE e h' tk' gens' hp hbb
end
end Mine
end

section
open PySem PySem.W PyProof.Rows
open PySem.Sem (wp)
set_option Elab.async false
set_option maxRecDepth 100000
set_option maxHeartbeats 400000
set_option linter.unusedVariables false
namespace Mine
theorem entry_unchain : entryFor table "proto.unchain" = some Builtin.«proto.unchain» := entryFor_of_tree (by kernel_rfl)
abbrev excObj (cls : String) (t c : Value) (k : Bool) : Obj := { cls := .type cls, data := .fields #[t, .none, c, .none, .bool k, .none] }
section
variable {prog : Program} {w : World} {A : Around} {E : Value → Shared → Prop} {s : Shared} {env : Env}
theorem unchain_none {e e1 : Addr} {o1 : Obj} {v1 : Array Value} {Q : Value → Shared → Prop} (h1 : s.heap.get? e1 = some o1) (hd : o1.data = .fields v1) (hv : v1[2]? = some .none) (hq : Q .none s) :
    wpAny (model prog w) A (runValue (.builtin "proto.unchain" ⟨[.ref e, .ref e1, .ref e1, .bool false], []⟩)) Q E s := by
  refine wpAny_runValue (codeAny_builtin entry_unchain ?_)
  unfold Builtin.«proto.unchain»
  refine wpAny_bind (wpAny_field h1 hd hv ?_)
  rw [if_pos (by decide)]
  exact wpAny_pure hq
theorem exc_from_made {cls : String} {ms : String} (FR : ExcRaiseFacts cls) {e : Addr} {t c : Value} {k : Bool} {Q : Value → Shared → Prop} (he : s.heap.get? e = some (excObj cls t c k)) (hq : Q (.ref e) s) :
    wpAny (model prog w) A (excFromValue (.ref e) ms) Q E s := by
  obtain ⟨hp, g, d, tk, os⟩ := s
  have hsub := FR.isExc
  unfold excFromValue
  repeat (first | exact hq | refine wpAny_loadPart he ?_ | wp_step)
theorem raised_made {cls : String} (FR : ExcRaiseFacts cls) {e : Addr} {o : Obj} {Q : Value → Shared → Prop} (he : s.heap.get? e = some o) (hc : o.cls = .type cls) (hq : Q (.ref e) s) :
    wpAny (model prog w) A (raisedInstance (.ref e)) Q E s := by
  unfold raisedInstance
  have hm := FR.plainMeta
  refine wpAny_bind (wpAny_typeOf (show s.TypeIs (.ref e) cls from ⟨o, he, hc⟩) ?_)
  refine wpAny_bind (wpAny_pure ?_)
  rw [if_pos hm]
  exact wpAny_pure hq
theorem raise_from_none {cls : String} (FR : ExcRaiseFacts cls) {x : Expr} {pos cp : Pos} {ck : Nat} {e1 : Addr} {Q : Flow → Shared → Prop} (hh : A.handled = some (.ref e1))
    (h : wpAny (model prog w) A (eval x env) (fun v s₁ => ∃ e t o1 v1, v = .ref e ∧ s₁.heap.get? e = some (excObj cls (.ref t) .none false) ∧ e1 ≠ e ∧ s₁.heap.get? e1 = some o1 ∧ o1.data = .fields v1 ∧ v1[2]? = some .none ∧
      ∀ h', h'.get? e = some (excObj cls (.ref t) (.ref e1) true) → (∀ b, b ≠ e → h'.get? b = s₁.heap.get? b) → E (.ref e) { s₁ with heap := h' }) E s) :
    wpAny (model prog w) A (exec (.Raise (some x) (some (.Constant .none ck cp)) pos) env) Q E s := by
  rw [arm_exec_Raise]
  show wpAny (model prog w) A (do standAt pos; raiseStmt env (some (do let v ← eval x env; standAt pos; pure v)) (some (do let v ← eval (.Constant .none ck cp) env; standAt pos; pure v))) Q E s
  refine wpAny_bind (wpAny_standAt ?_)
  unfold raiseStmt
  dsimp only
  refine wpAny_bind (wpAny_bind (wpAny_mono h (fun v s₁ h₁ => wpAny_bind (wpAny_standAt (wpAny_pure ?_))) fun _ _ e => e))
  obtain ⟨e, t, o1, v1, rfl, he, hne, h1, hd1, hv1, hE⟩ := h₁
  refine wpAny_bind (wpAny_holding (wpAny_bind (wpAny_pure (wpAny_bind (wpAny_standAt (wpAny_pure ?_))))))
  refine wpAny_bind (wpAny_pure ?_)
  refine wpAny_bind (wpAny_holding (exc_from_made FR he ?_))
  dsimp only
  rw [if_pos (by decide)]
  refine wpAny_bind (wpAny_pure ?_)
  refine wpAny_bind (wpAny_setField_rec he (show 3 < 6 by decide) fun h₂ he₂ hs₂ => ?_)
  refine wpAny_bind (wpAny_setField_rec (s := { s₁ with heap := h₂ }) he₂ (show 4 < 6 by decide) fun h₃ he₃ hs₃ => ?_)
  refine wpAny_bind (wpAny_bind (wpAny_loadPart (s := { s₁ with heap := h₃ }) he₃ (wpAny_pure ?_)))
  dsimp only
  rw [if_neg (by decide)]
  refine wpAny_bind (raised_made (s := { s₁ with heap := h₃ }) FR he₃ rfl ?_)
  unfold setFlight
  refine wpAny_bind (wpAny_bind (wpAny_field (s := { s₁ with heap := h₃ }) (i := 1) (x := Value.none) he₃ rfl rfl ?_))
  rw [if_neg (by decide)]
  refine wpAny_pure ?_
  unfold raiseNew
  refine wpAny_bind (wpAny_handled ?_)
  rw [hh]
  have hne' : (Value.ref e1 != Value.ref e) = true := by simpa using hne
  have h1' : h₃.get? e1 = some o1 := by rw [hs₃.2 e1 hne, hs₂.2 e1 hne]; exact h1
  dsimp only
  rw [if_pos hne']
  refine wpAny_bind (wpAny_holding (unchain_none (s := { s₁ with heap := h₃ }) h1' hd1 hv1 ?_))
  refine wpAny_bind ?_
  show wpAny (model prog w) A (setField (.ref e) 2 (.ref e1)) _ _ _
  refine wpAny_setField_rec (s := { s₁ with heap := h₃ }) he₃ (show 2 < 6 by decide) fun h₄ he₄ hs₄ => ?_
  refine wpAny_throw (hE h₄ he₄ fun b hb => ?_)
  rw [hs₄.2 b hb, hs₃.2 b hb, hs₂.2 b hb]
end
end Mine
end

section
open PySem PySem.W PyProof.Rows
open PySem.Sem (wp)
set_option Elab.async false
set_option maxRecDepth 100000
set_option maxHeartbeats 400000
set_option linter.unusedVariables false
namespace Mine
section
variable {M : Model} {A : Around} {E : Value → Shared → Prop} {s : Shared} {env : Env} {base : Heap} {outer : List Env} {L e : Addr}
/-- the first note of a frame -/
theorem note_first {oe : Obj} {vs : Array Value} {a0 : Value} {Q : Unit → Shared → Prop} (hfr : A.frames = some (env :: outer)) (hl : s.heap.FunFrames base (env :: outer)) (hf : env.frame = some L)
    (he : s.heap.get? e = some oe) (hkb : base.StaysIn s.heap) (hen : base.get? e = none) (hd : oe.data = .fields vs) (h1 : vs[1]? = some .none) (h0 : vs[0]? = some a0)
    (h : ∀ h', Heap.HeldW base (env :: outer) e oe.cls a0 L h' → s.heap.UpToSlots h' → Q () { s with heap := h' }) : wpAny M A (noteFrame (.ref e) env) Q E s := by
  unfold noteFrame
  simp only [hf]
  refine wpAny_bind (wpAny_field he hd h1 ?_)
  rw [if_neg (by decide)]
  exact wpAny_entryW hfr hl hf he hkb hen hd (Array.getElem?_eq_some_iff.mp h1).1 h0 fun h' ⟨k1, k2, k3, k4⟩ => h h' ⟨k1, hen, k2, k3⟩ k4
theorem flight_held {l : List Env} {cls a0 fl : Value} {Q : Unit → Shared → Prop}
    (hkb : base.StaysIn s.heap) (hen : base.get? e = none) (hl : s.heap.FunFrames base l) (ht : s.heap.TracedAtW base e cls a0 fl)
    (h : ∀ h', Heap.HeldW base l e cls a0 L h' → s.heap.UpToSlots h' → Q () { s with heap := h' }) :
    wpAny M A (setFlight (.ref e) (some L)) Q E s := by
  obtain ⟨oe, vs, T, oT, ts, he, hcls, hd, h1, hnT, hTe, hT, hdT, h3⟩ := ht
  have hsz3 : 3 < ts.size := (Array.getElem?_eq_some_iff.mp h3).1
  have other : ∀ b, b ≠ T → (s.heap.update T (Obj.mapFields (·.setIfInBounds 3 ((some L).elim Value.none fun f => rawInt f)))).get? b = s.heap.get? b :=
    fun b hb => Heap.get?_update_other _ _ (Ne.symm hb)
  have noRecord : ∀ b o, s.heap.get? b = some o → (∀ vs, o.data ≠ .fields vs) → b ≠ T := fun b o hb hnf q => by
    rw [q, hT] at hb; injection hb with hb; subst hb; exact hnf ts hdT
  unfold setFlight
  refine wpAny_bind (wpAny_field he hd h1 ?_)
  rw [if_pos (show (Value.ref T != Value.none) = true from by simp)]
  refine wpAny_setField hT hdT hsz3 (h _ ⟨fun b o hbo => (other b fun q => by rw [q, hnT] at hbo; cases hbo).trans (hkb b o hbo), hen,
    hl.of_keeps fun b o hb hnf => ⟨o, (other b (noRecord b o hb hnf)).trans hb, rfl⟩, ?_⟩ fun b o hb hnf => ⟨o.slots, (other b (noRecord b o hb hnf)).trans hb⟩)
  exact ⟨oe, vs, T, _, _, (other e (Ne.symm hTe)).trans he, hcls, hd, h1, hnT, hTe, Heap.get?_update_self _ hT (Obj.isFreed_of_fields (Obj.data_mapFields hdT _)), Obj.data_mapFields hdT _, by simp [hsz3]⟩
/-- what a handler's suite raises, noted and come back -/
theorem noted_back {A' : Around} {oe : Obj} {vs : Array Value} {a0 : Value} (hfr : A'.frames = some (env :: outer)) (hl : s.heap.FunFrames base (env :: outer)) (hf : env.frame = some L)
    (he : s.heap.get? e = some oe) (hkb : base.StaysIn s.heap) (hen : base.get? e = none) (hd : oe.data = .fields vs) (h1 : vs[1]? = some .none) (h0 : vs[0]? = some a0)
    (h : ∀ h', Heap.HeldW base (env :: outer) e oe.cls a0 L h' → s.heap.UpToSlots h' → E (.ref e) { s with heap := h' }) :
    notedBy M A' env (cameBackBy M A env E) (.ref e) s := by
  unfold notedBy
  refine note_first hfr hl hf he hkb hen hd h1 h0 fun h' H U => ?_
  unfold cameBackBy
  obtain ⟨H1, H2, H3, oe', vs', T, oT, ts, he', hcls', hd', h1', r⟩ := H
  refine wpAny_bind (wpAny_field (s := { s with heap := h' }) he' hd' h1' ?_)
  rw [if_neg (show ¬ ((Value.ref T == Value.none) = true) by simp)]
  rw [hf]
  exact flight_held (s := { s with heap := h' }) H1 H2 H3 ⟨oe', vs', T, oT, ts, he', hcls', hd', h1', r⟩ fun h'' HH UU => h h'' HH (U.trans UU)
theorem left_held {cls a0 : Value} {Q : Unit → Shared → Prop} (hf : env.frame = some L)
    (hh : Heap.HeldW base (env :: outer) e cls a0 L s.heap) (hQ : ∀ h', Heap.FlyingW base outer e cls a0 h' → s.heap.UpToSlots h' → Q () { s with heap := h' }) : wpAny M A (leaving env (.ref e)) Q E s := by
  unfold leaving
  refine wpAny_bind (wpAny_noteFrame_againW hf hh.2.2.2 ?_)
  refine wpAny_landsW hh fun h' hfl U => ?_
  obtain ⟨k1, k2, ⟨_, _, k3⟩, k4⟩ := hfl
  exact hQ h' ⟨k1, k2, k3, k4⟩ U
end
section
variable {prog : Program} {w : World} {A : Around} {E : Value → Shared → Prop} {s : Shared} {env : Env}
def AfterArgs (e1 : Addr) (E : Value → Shared → Prop) (vs : List Value) (s₂ : Shared) : Prop :=
  vs.length ≤ sizeLine ∧ (∃ o1 v1, s₂.heap.get? e1 = some o1 ∧ o1.data = .fields v1 ∧ v1[2]? = some .none) ∧
        ∀ h' e t, s₂.heap.get? e = none → (∀ b o, s₂.heap.get? b = some o → h'.get? b = some o) → h'.get? e = some (excObj "ValueError" (.ref t) (.ref e1) true) → E (.ref e) { s₂ with heap := h' }
theorem raise_VE_from {x : Str} {np cpos pos cp : Pos} {ck : Nat} {e₀ : Expr} {e1 : Addr} {Q : Flow → Shared → Prop} (hh : A.handled = some (.ref e1))
    (h : wpAny (model prog w) A (eval (.Name x np) env) (fun f s₁ => f = .type "ValueError" ∧ wpAny (model prog w) A (spliced (backTo cpos (starEach [e₀] env)))
      (AfterArgs e1 E) E s₁) E s)
    (he : starEach [e₀] env = (false, eval e₀ env) :: starEach [] env := by rfl) :
    wpAny (model prog w) A (exec (.Raise (some (.Call (.Name x np) [e₀] [] cpos)) (some (.Constant .none ck cp)) pos) env) Q E s := by
  refine raise_from_none PySem.F.excRaise_ValueError hh (wpAny_Call_ofName (wpAny_mono h (fun f s₁ h₁ => ?_) fun _ _ y => y))
  obtain ⟨rfl, h₂⟩ := h₁
  refine callWith_excType (by rw [he]; rfl) ?_
  rw [he] at h₂ ⊢
  refine Calls.evalArgs_plain (wpAny_mono h₂ (fun vs s₂ h₃ => ?_) fun _ _ y => y)
  obtain ⟨hlen, ⟨o1, v1, h1, hd1, hv1⟩, h₄⟩ := h₃
  obtain ⟨hp, g, d, tk, os⟩ := s₂
  refine wpAny_call_exc PySem.F.excCall_ValueError (hrest := hlen) fun h' e hm => ?_
  obtain ⟨t, ht, htn, _⟩ := hm.there
  have hne : e1 ≠ e := fun q => by have := hm.new; rw [← q, h1] at this; cases this
  refine ⟨e, t, o1, v1, rfl, ht, hne, hm.keeps _ _ h1, hd1, hv1, fun h'' he'' hk'' => ?_⟩
  refine h₄ h'' e t hm.new (fun b o hb => ?_) he''
  have hbe : b ≠ e := fun q => by have := hm.new; rw [← q, hb] at this; cases this
  rw [hk'' b hbe]
  exact hm.keeps b o hb
end
end Mine
end

section
open PySem PySem.W PyProof.Rows
open PySem.Sem (wp)
set_option Elab.async false
set_option maxRecDepth 100000
set_option maxHeartbeats 400000
set_option linter.unusedVariables false
namespace Mine
/-- an exception that is handled in this frame, with no context of its own -/
structure CaughtAt (B : Heap) (l : List Env) (e : Addr) (cls : Value) (h : Heap) : Prop where
  stays : B.StaysIn h
  frames : h.FunFrames B l
  new : B.get? e = none
  there : ∃ oe vs T oT ts, h.get? e = some oe ∧ oe.cls = cls ∧ oe.data = .fields vs ∧ vs[1]? = some (.ref T) ∧ vs[2]? = some .none ∧ h.get? T = some oT ∧ oT.data = .fields ts ∧ 3 < ts.size ∧ T ≠ e ∧ B.get? T = none
section
variable {M : Model} {A : Around} {E : Value → Shared → Prop} {s : Shared} {env : Env} {B : Heap} {outer l : List Env} {L e : Addr} {cls : Value}
theorem note_ctx {oe : Obj} {vs : Array Value} {Q : Unit → Shared → Prop} (hfr : A.frames = some (env :: outer)) (hl : s.heap.FunFrames B (env :: outer)) (hf : env.frame = some L)
    (he : s.heap.get? e = some oe) (hc : oe.cls = cls) (hkb : B.StaysIn s.heap) (hen : B.get? e = none) (hd : oe.data = .fields vs) (h1 : vs[1]? = some .none) (h2 : vs[2]? = some .none)
    (h : ∀ h', CaughtAt B (env :: outer) e cls h' → s.heap.UpToSlots h' → Q () { s with heap := h' }) : wpAny M A (noteFrame (.ref e) env) Q E s := by
  have hsz : 1 < vs.size := (Array.getElem?_eq_some_iff.mp h1).1
  have noE : ∀ b o, s.heap.get? b = some o → (∀ vs, o.data ≠ .fields vs) → b ≠ e := fun b o hb hn q => by
    rw [q, he] at hb; cases hb; exact hn vs hd
  have hene : e ∉ (env :: outer).filterMap (·.frame) := fun hm => by
    obtain ⟨_, o, ho, hnf⟩ := hl.mem hm
    exact noE e o ho hnf rfl
  unfold noteFrame
  simp only [hf]
  refine wpAny_bind (wpAny_field he hd h1 ?_)
  rw [if_neg (by decide)]
  refine wpAny_bind (wpAny_frameOf_fun hfr hl hf fun h₁ hs₁ => ?_)
  refine wpAny_bind (wpAny_entryPlaceOf fun pl hpl => ?_)
  unfold EntryCells.newEntry newFields
  refine wpAny_bind (wpAny_newObj_type ?_ (hpl.sizeOk5 _ _ _ _ _))
  have he₁ : h₁.get? e = some oe := (hs₁.2.1 e hene).trans he
  have kb₁ : B.StaysIn h₁ := fun b o q => (hs₁.2.1 b fun hm => by rw [(hl.mem hm).1] at q; cases q).trans (hkb b o q)
  have hTe : h₁.objs.size ≠ e := Nat.ne_of_gt (Heap.lt_size he₁)
  generalize hN : ({ cls := .type "traceback", dict := none, data := .fields ([Value.none, .ref L, .none, rawInt L, .none] ++ (if pl.isEmpty then List.replicate 6 Value.none else pl)).toArray } : Obj) = oN
  have he₂ := Heap.get?_push_of_some (h := h₁) oN he₁
  have hNd : ∃ ts, oN.data = .fields ts ∧ 3 < ts.size := ⟨_, by rw [← hN], by simp only [List.size_toArray, List.length_append, List.length_cons, List.length_nil]; omega⟩
  obtain ⟨ts, hNd, hN3⟩ := hNd
  have hNT : (h₁.push oN).get? h₁.objs.size = some oN := Heap.get?_push_size _ (Obj.isFreed_of_fields hNd)
  have keep : ∀ b o, b ≠ e → h₁.get? b = some o → ((h₁.push oN).update e (Obj.mapFields (·.setIfInBounds 1 (Value.ref h₁.objs.size)))).get? b = some o :=
    fun b o hb q => (Heap.get?_update_other _ _ (Ne.symm hb)).trans (Heap.get?_push_of_some _ q)
  have hd₃ := Obj.data_mapFields hd (·.setIfInBounds 1 (Value.ref h₁.objs.size))
  refine wpAny_setField he₂ hd hsz (h _ ⟨fun b o q => keep b o (fun z => by rw [z, hen] at q; cases q) (kb₁ b o q), hl.of_keeps fun b o hb hn => ?_, hen, ?_⟩ fun b o hb hn => ?_)
  · obtain ⟨sl, hs⟩ := hs₁.2.2 b o hb
    exact ⟨_, keep b _ (noE b o hb hn) hs, rfl⟩
  · refine ⟨_, _, h₁.objs.size, oN, ts, Heap.get?_update_self _ he₂ (Obj.isFreed_of_fields hd₃), (Obj.cls_mapFields _ _).trans hc, hd₃, by simp [hsz], ?_, (Heap.get?_update_other _ _ (Ne.symm hTe)).trans hNT, hNd, hN3, hTe, kb₁.fresh⟩
    rw [Array.getElem?_setIfInBounds_ne (by decide)]; exact h2
  · obtain ⟨sl, hs⟩ := hs₁.2.2 b o hb
    exact ⟨sl, keep b _ (noE b o hb hn) hs⟩
theorem flight_ctx {fr : Option Addr} {Q : Unit → Shared → Prop} (H : CaughtAt B l e cls s.heap)
    (h : ∀ h', CaughtAt B l e cls h' → s.heap.UpToSlots h' → Q () { s with heap := h' }) : wpAny M A (setFlight (.ref e) fr) Q E s := by
  obtain ⟨H1, H2, H3, oe, vs, T, oT, ts, he, hc, hd, h1, h2, hT, hdT, h3, hTe, hBT⟩ := H
  have other : ∀ b, b ≠ T → (s.heap.update T (Obj.mapFields (·.setIfInBounds 3 (fr.elim Value.none fun f => rawInt f)))).get? b = s.heap.get? b :=
    fun b hb => Heap.get?_update_other _ _ (Ne.symm hb)
  have noT : ∀ b o, s.heap.get? b = some o → (∀ vs, o.data ≠ .fields vs) → b ≠ T := fun b o hb hn q => by
    rw [q, hT] at hb; cases hb; exact hn ts hdT
  unfold setFlight
  refine wpAny_bind (wpAny_field he hd h1 ?_)
  rw [if_pos (show (Value.ref T != Value.none) = true from by simp)]
  refine wpAny_setField hT hdT h3 (h _ ⟨fun b o q => (other b fun z => by rw [z, hBT] at q; cases q).trans (H1 b o q), H2.of_keeps fun b o hb hn => ⟨o, (other b (noT b o hb hn)).trans hb, rfl⟩, H3, ?_⟩
    fun b o hb hn => ⟨o.slots, (other b (noT b o hb hn)).trans hb⟩)
  exact ⟨oe, vs, T, _, _, (other e (Ne.symm hTe)).trans he, hc, hd, h1, h2, Heap.get?_update_self _ hT (Obj.isFreed_of_fields (Obj.data_mapFields hdT _)), Obj.data_mapFields hdT _, by simpa using h3, hTe, hBT⟩
end
section
variable {prog : Program} {w : World} {A' : Around} {E : Value → Shared → Prop} {s' : Shared} {base B h : Heap} {lo : List Env} {L a e : Addr} {m : Str → Option Value} {name : Str} {scope : Scope} {cd : Value}
  {b₀ : Stmt} {suite : List Stmt} {pos np : Pos} {rest : List ExceptHandler} {Q : Flow → Shared → Prop} {K : Frag}
  {p : Program} {loose : List Str} {mean : ExcName → Option Value} {mg mb : Str → Option Value} {x : Str} {X T' : String}
/-- raised and caught in one frame, the handler's suite told as it is -/
theorem catch_own (hfr : A'.frames = some (envOf name scope L a cd :: lo)) (F : Fr base L h m) (hx : Heap.NewExc h s'.heap e X) (hff : h.FunFrames B (envOf name scope L a cd :: lo)) (hB : B.StaysIn h) (hbB : base.StaysIn B) (XB : K.In base)
    (T : Top p loose mean mg mb base) (hx0 : nsIn K mainGlobals x = some none) (hv : bootBuiltins x = some (.type T')) (hn : x ≠ "__name__")
    (hexc : isSubtype (.type T') (.type "BaseException") = pure true) (hnt : isSubtype (.type ((Manifest.find? T').elim "type" fun y => y.metatype)) (.type "tuple") = pure false) (hsub : isSubtype (.type X) (.type T') = pure true)
    (k : ∀ h', Fr base L h' m → CaughtAt B (envOf name scope L a cd :: lo) e (.type X) h' → h.UpToSlots h' →
      wpAny (model prog w) (A'.mark (some (.ref e))) (execs (b₀ :: suite) (envOf name scope L a cd)) Q (notedBy (model prog w) (A'.mark (some (.ref e))) (envOf name scope L a cd) (cameBackBy (model prog w) A' (envOf name scope L a cd) E)) { s' with heap := h' })
    (hk : scope.kind = .function) (hxx : (envOf name scope L a cd).kindOf x = some .globalImplicit) (hd : (x == ("__debug__" : Str)) = false) :
    wpAny (model prog w) A' (noteFrame (.ref e) (envOf name scope L a cd))
      (fun _ s₂ => wpAny (model prog w) A' (setFlight (.ref e) none) (fun _ s₃ =>
        wpAny (model prog w) A' (handleBy (.ref e) (envOf name scope L a cd) (.ExceptHandler (some (.Name x np)) none (b₀ :: suite) pos :: rest)) Q E s₃) E s₂) E s' := by
  obtain ⟨ob, t, he, hc, hdt⟩ := hx.there
  have hen : B.get? e = none := by
    cases q : B.get? e with
    | none => rfl
    | some o => have := hB e o q; rw [hx.new] at this; cases this
  have frOf : ∀ h₅, B.StaysIn h₅ → h.UpToSlots h₅ → Fr base L h₅ m := fun h₅ st U => F.of_stays (fun b o q => st b o (hbB b o q)) U
  refine note_ctx hfr (hff.of_keeps fun b o q _ => ⟨o, hx.keeps b o q, rfl⟩) rfl he hc (fun b o q => hx.keeps b o (hB b o q)) hen hdt rfl rfl fun h₁ H₁ U₁ => ?_
  have U₁' : h.UpToSlots h₁ := (Heap.UpToSlots.of_keeps hx.keeps).trans U₁
  refine flight_ctx (s := { s' with heap := h₁ }) H₁ fun h₂ H₂ U₂ => ?_
  have U₂' : h.UpToSlots h₂ := U₁'.trans U₂
  have F₂ := frOf h₂ H₂.stays U₂'
  obtain ⟨oe, _, _, _, _, he₂, hc₂, _⟩ := H₂.there
  refine wpAny_handleBy_builtin (X := X) (T := T') (b := true) hexc hnt hsub (ld_builtin_at F₂ T.g (mg_none_of XB T.g hx0) T.b ((T.builtins x hn).trans hv) ⟨rfl, ⟨oe, he₂, hc₂⟩, ?_⟩ hk hxx hd)
  refine flight_ctx (s := { s' with heap := h₂ }) H₂ fun h₃ H₃ U₃ => ?_
  exact k h₃ (frOf h₃ H₃.stays (U₂'.trans U₃)) H₃ (U₂'.trans U₃)
end
end Mine
end

section
open PySem PySem.W PyProof.Rows
set_option Elab.async false
set_option maxRecDepth 100000
set_option maxHeartbeats 8000000
set_option linter.unusedVariables false
namespace Mine
section
variable {prog : Program} {w : World} {A : Around} {E : Value → Shared → Prop} {s : Shared}
theorem reprUnder_gives {b : Nat} {T id : String} {B : Builtin} {v : Value} {x : Str} {Q : Value → Shared → Prop} (hT : s.TypeIs v T) (slot : Slot T "__repr__" id) (hno : reprUnder? (.builtin id) = none)
    (entry : entryFor table id = some B) (args : argsOk id ⟨[v], []⟩) (g : Gives (B ⟨[v], []⟩) (.str x)) (h : Q (.str x s.toks) { s with toks := s.toks + 1 })
    (hv : [v].any Value.onHeap = false) (hx : x.length ≤ sizeLine) :
    wpAny (model prog w) A (pyReprObjUnder b v) Q E s := by
  unfold pyReprObjUnder pyReprObjBy
  simp only [cRoomFor, hv, Bool.false_eq_true, if_false, pure_bind]
  refine wpAny_bind (wpAny_specialOf (name := Str.ofString "__repr__") hT slot.lookup ?_)
  refine wpAny_bind (wpAny_callSpecialIfBoundBy?_slotG (name := Str.ofString "__repr__") hT slot.toG ?_)
  simp only [hno]
  refine call_gives slot hT entry args g ⟨hx, ?_⟩
  exact wpAny_bind (wpAny_isInstance (T := "str") (b := true) rfl isSubtype_str_str (wpAny_pure h))
end
def handB : Stmt → List Stmt
  | .Try _ (.ExceptHandler _ _ b _ :: _) _ _ _ => b
  | _ => []
def raiseFmt : Stmt → Str
  | .Raise (some (.Call _ (.BinOp (.Constant (.str x) _ _) _ _ _ :: _) _ _)) _ _ => x
  | _ => Str.empty
abbrev fmtS : Str := raiseFmt ((handB (resB.getD 0 default)).getD 0 default)
section
variable {prog : Program} {w : World} {A : Around} {E : Value → Shared → Prop} {s : Shared}
theorem mod_r_int {n : Int} {X : Str} {t u : Tok} {Q : Value → Shared → Prop} (hX : X = fmtS) (hn : n.natAbs.log2 < 1920) (hlen : (Str.ofString (toString n)).length ≤ 100) (h : ∀ T t' k, Q (.str T t') { s with toks := k }) : wpAny (model prog w) A (binaryOp .Mod (.str X t) (.int n u)) Q E s := by
  subst hX
  refine' KPc.mod_lit ?kpcF ?kpcd ?kpcm ?_
  case kpcF => kpc_eq
  case kpcd => exact hn
  case kpcm =>
    intros; apply KPc.meets_of; intro _ _ _ _ _ _ _; rw [KPc.entry_is]; unfold Builtin.Str.percentFormat
    refine wpAny_bind (wpAny_isInstance (typeIs_int _ _ _) PySem.F.sub_int_tuple ?_); refine wpAny_bind (wpAny_of_eq (a := none) rfl ?_); refine wpAny_bind (wpAny_of_eq (KPc.fills _ _) ?_); kpc_if; refine wpAny_bind (wpAny_pure ?_); refine wpAny_bind ?_; rw [KPc.range_list]; refine KPc.start ?_; intro _ _
    refine KPc.turn ?_; kpc_check; (repeat kpc_if); refine wpAny_pure ?_; kpc_piece
    refine KPc.turn ?_; kpc_check; (repeat kpc_if)
    refine wpAny_bind ?_; refine wpAny_holding ?_; (repeat kpc_if)
    refine wpAny_bind ?_
    refine reprUnder_gives (typeIs_int _ _ _) PySem.F.slot_int_repr rfl PySem.F.entry_int_repr (PySem.F.args_int_repr_1 _) (gives_int_repr _ _ (by with_reducible assumption)) ?_ rfl (int_text_fits (by with_reducible assumption)); refine wpAny_bind (wpAny_of_eq (a := some _) rfl ?_); refine wpAny_pure ?_; refine wpAny_pure ?_
    refine KPc.after_str (K := 100) (by kpc_g) hlen (by kpc_obj) ?_
    intro _ _
    refine KPc.turn ?_
    refine wpAny_ite (KPc.ite_no (KPc.short_good (by kpc_g) (by decide +kernel)) ?_)
    kpc_if
    refine wpAny_pure ?_
    kpc_if
    refine KPc.finish_ok (by kpc_g) (by decide +kernel) rfl ?_
    assumption
  exact fun t' k => h _ t' k
theorem str_meets {X X' y T : Str} {t u : Tok} {Q : Value → Shared → Prop} (hX : X = X')
    (hm : Meets (Builtin.«str.__mod__» ⟨[.str X' t, .str y u], []⟩) (fun _ R s => ∀ t' k, R (.ok (.ret (.str T t'))) { s with toks := k }))
    (h : ∀ t' k, Q (.str T t') { s with toks := k }) : wpAny (model prog w) A (binaryOp .Mod (.str X t) (.str y u)) Q E s := by
  subst hX
  exact binaryOp_meets (T := "str") (op := .Mod) (typeIs_str s X t) (typeIs_str s y u) PySem.F.fills_str_mod PySem.F.slot_str_mod PySem.F.entry_str_mod (PySem.F.args_str_mod_2 _ _) hm (fun t' k => ⟨(fun e => nomatch e), h t' k⟩)
theorem mod_r_str {y : Str} {X : Str} {t u : Tok} {Q : Value → Shared → Prop} (hX : X = fmtS) (hlen : (reprText y).length ≤ 100) (h : ∀ T t' k, Q (.str T t') { s with toks := k }) : wpAny (model prog w) A (binaryOp .Mod (.str X t) (.str y u)) Q E s := by
  subst hX
  refine' str_meets ?kpcF ?kpcm ?_
  case kpcF => kpc_eq
  case kpcm =>
    apply KPc.meets_of; intro _ _ _ _ _ _ _; rw [KPc.entry_is_s]; unfold Builtin.Str.percentFormat
    refine wpAny_bind (wpAny_isInstance (typeIs_str _ _ _) PySem.F.sub_str_tuple ?_)
    refine wpAny_bind (wpAny_of_eq (a := some _) rfl ?_)
    refine wpAny_bind (KPc.wp_fills_str ?_)
    intro _
    kpc_if; refine wpAny_bind (wpAny_pure ?_); refine wpAny_bind ?_; rw [KPc.range_list]; refine KPc.start ?_; intro _ _
    refine KPc.turn ?_; kpc_check; (repeat kpc_if); refine wpAny_pure ?_; kpc_piece
    refine KPc.turn ?_; kpc_check; (repeat kpc_if)
    refine wpAny_bind ?_; refine wpAny_holding ?_; (repeat kpc_if)
    refine wpAny_bind ?_
    refine reprUnder_gives (typeIs_str _ _ _) PySem.F.slot_str_repr rfl PySem.F.entry_str_repr (PySem.F.args_str_repr_1 _) (gives_str_repr _ _) ?_ rfl (Nat.le_trans hlen (by decide)); refine wpAny_bind (wpAny_of_eq (a := some _) rfl ?_); refine wpAny_pure ?_; refine wpAny_pure ?_
    refine KPc.after_str (K := 100) (by kpc_g) hlen (by kpc_obj) ?_
    intro _ _
    refine KPc.turn ?_
    refine wpAny_ite (KPc.ite_no (KPc.short_good (by kpc_g) (by decide +kernel)) ?_)
    kpc_if
    refine wpAny_pure ?_
    kpc_if
    refine KPc.finish_ok (by kpc_g) (by decide +kernel) rfl ?_
    assumption
  exact fun t' k => h _ t' k
end
end Mine
end

section
open PySem PySem.W PyProof.Rows
set_option Elab.async false
set_option maxRecDepth 100000
set_option maxHeartbeats 8000000
set_option linter.unusedVariables false
namespace Mine
theorem fillK13 (w : World) (h : Heap) (_ : (hd.heap_39 w.params).In h) : PySem.Challenge.rw_nb0156_01.row.prog = PySem.Challenge.rw_nb0156_01.row.prog ∧ (hd.heap_39 w.params) = hd.heap_39 w.params := by
  k_fill
  exact ⟨rfl, rfl⟩
theorem stays_but {B h h' : Heap} {C : Addr} (hB : B.StaysIn h) (hBC : B.get? C = none) (up : ∀ b o, b ≠ C → h.get? b = some o → h'.get? b = some o) : B.StaysIn h' :=
  fun b o q => up b o (fun z => by rw [z, hBC] at q; cases q) (hB b o q)
theorem gen_frames {B base h h' : Heap} {C : Addr} {lo : List Env} {m : Str → Option Value} (up : ∀ b o, b ≠ C → h.get? b = some o → h'.get? b = some o) (hff : (hideAll h [C]).FunFrames B lo) (hBC : B.get? C = none) (F : Fr base C h' m) : h'.FunFrames B (resE C :: lo) := by
  refine .cons (by show ScopeKind.function ≠ ScopeKind.module; decide) rfl F.ns hBC (hff.of_keeps fun b o q _ => ⟨o, up b o (fun z => ?_) (of_hideAll _ q), rfl⟩)
  rw [z, hideAll_none _ (List.mem_singleton.mpr rfl)] at q
  cases q
/-- a choice that is refused -/
inductive Bad : Value → Prop
  | i0 (t : Tok) : Bad (.int 0 t)
  | i3 (t : Tok) : Bad (.int 3 t)
  | im (t : Tok) : Bad (.int (-1) t)
  | s (t : Tok) : Bad (.str (Str.ofString "12") t)
theorem bad_raised {M : Model} {A A' : Around} {E : Value → Shared → Prop} {s s₂ : Shared} {B : Heap} {lo : List Env} {C e1 : Nat} {vs : List Value} (hfr : A'.frames = some (resE C :: lo)) (hU : (hideAll s.heap [C]).UpToSlots s₂.heap)
    (H : CaughtAt B (resE C :: lo) e1 (.type "KeyError") s₂.heap) (hvs : vs.length ≤ 10)
    (hE : ∀ e h' a0, Heap.HeldW B (resE C :: lo) e (.type "ValueError") a0 C h' → (hideAll s.heap [C]).UpToSlots h' → E (.ref e) { s₂ with heap := h' }) :
    AfterArgs e1 (notedBy M A' (resE C) (cameBackBy M A (resE C) E)) vs s₂ := by
  obtain ⟨H1, H2, H3, oe, v1, T, oT, ts, he, hcl, hd, h1, h2, _⟩ := H
  refine ⟨Nat.le_trans hvs (by decide), ⟨oe, v1, he, hd, h2⟩, fun h' e t hen hk he' => ?_⟩
  have hBe : B.get? e = none := by
    cases q : B.get? e with
    | none => rfl
    | some o => have := H1 e o q; rw [hen] at this; cases this
  refine noted_back (s := { s₂ with heap := h' }) hfr (H2.of_keeps fun b o q _ => ⟨o, hk b o q, rfl⟩) rfl he' (fun b o q => hk b o (H1 b o q)) hBe rfl rfl rfl fun h'' HH UU => ?_
  exact hE e h'' _ HH ((hU.trans (Heap.UpToSlots.of_keeps hk)).trans UU)
section
theorem reset7 : True := by
  w_top off
  exact trivial
local macro_rules | `(tactic| walk_at "noteFrame ref") => `(tactic| k_extra "note")
local macro_rules | `(tactic| walk_at "binaryOp Mod str int") => `(tactic| k_extra "mod")
local macro_rules | `(tactic| walk_at "binaryOp Mod str str") => `(tactic| k_extra "mod")
local macro_rules | `(tactic| walk_at "exec Raise some some") => `(tactic| k_extra "raise")
theorem res_bad_i0 {w : World} {p : Program} {loose : List Str} {mean : ExcName → Option Value} {mg mb : Str → Option Value} {E' : Value → Shared → Prop} {s : Shared} {C d : Nat} {B base : Heap} {lo : List Env} {dp un : Nat} {gd : Option (List Code)} {u : Str → Option Value} {t : Tok} {Q : Flow → Shared → Prop} {st : Stmt}
    (hst : st = resB.getD 0 default) (X : (hd.heap_39 w.params).In base) (T : Top p loose mean mg mb base) (hbB : base.StaysIn B) (hB : B.StaysIn s.heap) (hBC : B.get? C = none) (hff : (hideAll s.heap [C]).FunFrames B lo)
    (F : Fr base C s.heap (kstB u [(Str.ofString "delta", .ref d), (Str.ofString "which", .int 0 t)]))
    (hE : ∀ e h' tk' a0, Heap.HeldW B (resE C :: lo) e (.type "ValueError") a0 C h' → (hideAll s.heap [C]).UpToSlots h' → E' (.ref e) { s with heap := h', toks := tk' }) :
    wpAny (model PySem.Challenge.rw_nb0156_01.row.prog w) ⟨none, dp, some (resE C :: lo), gd, un⟩ (exec st (resE C)) Q E' s := by
  subst hst
  have N : News base C s.heap (allNew base s.heap C) := news_new
  dsimp only [resFor, resB, resS, ifC, yieldE, topS, fnB, fnS, forB, PySem.Challenge.pw_nb0156_01, List.getD, List.getElem?_cons_succ, List.getElem?_cons_zero, Option.getD_some]
  dsimp only [resE, resFor, resB, resS, ifC, yieldE, topS, fnB, fnS, forB, PySem.Challenge.pw_nb0156_01, List.getD, List.getElem?_cons_succ, List.getElem?_cons_zero, Option.getD_some]
  dsimp only [kstB] at F
  k_with_none
  k_steps
  rename Heap.NewExc _ _ _ _ => hx
  rename Fr _ _ _ _ => fF
  rename News _ _ _ _ => nF
  have up := new_keeps fF (fun q hq => nF q (List.Mem.tail _ hq)) F.keep
  have hff' := gen_frames (lo := lo) up hff hBC fF
  refine catch_own (K := hd.heap_39 w.params) (T' := "KeyError") rfl fF hx hff' (stays_but hB hBC up) hbB X T ?k5 PyProof.Rows.Boot.«KeyError» ?k6 (by rw [isSubtype_type]; kernel_rfl) (by rw [isSubtype_type]; kernel_rfl) ?k7 (fun h' F' H' U' => ?_) ?k8 ?k9 ?ka
  case k5 => k_is
  case k6 => decide
  case k7 => (rw [isSubtype_type]; kernel_rfl)
  case k8 => rfl
  case k9 => rfl
  case ka => decide
  have hU : (hideAll s.heap [C]).UpToSlots h' := (Heap.UpToSlots.of_keeps fun b o q => up b o (fun z => by rw [z, hideAll_none _ (List.mem_singleton.mpr rfl)] at q; cases q) (of_hideAll _ q)).trans U'
  clear U' hx up hff' nF fF
  k_with_none
  (k_with "mod" => (refine' mod_r_int rfl (by decide) (by decide +kernel) ?_; intro _ _ _))
  (k_with "raise" => (refine' raise_VE_from ?r1 ?_; (case r1 => rfl)))
  k_steps
  exact bad_raised rfl hU H' (show 1 ≤ 10 by decide) fun e h'' a0 H'' U'' => hE e h'' _ a0 H'' U''
theorem res_bad_i3 {w : World} {p : Program} {loose : List Str} {mean : ExcName → Option Value} {mg mb : Str → Option Value} {E' : Value → Shared → Prop} {s : Shared} {C d : Nat} {B base : Heap} {lo : List Env} {dp un : Nat} {gd : Option (List Code)} {u : Str → Option Value} {t : Tok} {Q : Flow → Shared → Prop} {st : Stmt}
    (hst : st = resB.getD 0 default) (X : (hd.heap_39 w.params).In base) (T : Top p loose mean mg mb base) (hbB : base.StaysIn B) (hB : B.StaysIn s.heap) (hBC : B.get? C = none) (hff : (hideAll s.heap [C]).FunFrames B lo)
    (F : Fr base C s.heap (kstB u [(Str.ofString "delta", .ref d), (Str.ofString "which", .int 3 t)]))
    (hE : ∀ e h' tk' a0, Heap.HeldW B (resE C :: lo) e (.type "ValueError") a0 C h' → (hideAll s.heap [C]).UpToSlots h' → E' (.ref e) { s with heap := h', toks := tk' }) :
    wpAny (model PySem.Challenge.rw_nb0156_01.row.prog w) ⟨none, dp, some (resE C :: lo), gd, un⟩ (exec st (resE C)) Q E' s := by
  subst hst
  have N : News base C s.heap (allNew base s.heap C) := news_new
  dsimp only [resFor, resB, resS, ifC, yieldE, topS, fnB, fnS, forB, PySem.Challenge.pw_nb0156_01, List.getD, List.getElem?_cons_succ, List.getElem?_cons_zero, Option.getD_some]
  dsimp only [resE, resFor, resB, resS, ifC, yieldE, topS, fnB, fnS, forB, PySem.Challenge.pw_nb0156_01, List.getD, List.getElem?_cons_succ, List.getElem?_cons_zero, Option.getD_some]
  dsimp only [kstB] at F
  k_with_none
  k_steps
  rename Heap.NewExc _ _ _ _ => hx
  rename Fr _ _ _ _ => fF
  rename News _ _ _ _ => nF
  have up := new_keeps fF (fun q hq => nF q (List.Mem.tail _ hq)) F.keep
  have hff' := gen_frames (lo := lo) up hff hBC fF
  refine catch_own (K := hd.heap_39 w.params) (T' := "KeyError") rfl fF hx hff' (stays_but hB hBC up) hbB X T ?k5 PyProof.Rows.Boot.«KeyError» ?k6 (by rw [isSubtype_type]; kernel_rfl) (by rw [isSubtype_type]; kernel_rfl) ?k7 (fun h' F' H' U' => ?_) ?k8 ?k9 ?ka
  case k5 => k_is
  case k6 => decide
  case k7 => (rw [isSubtype_type]; kernel_rfl)
  case k8 => rfl
  case k9 => rfl
  case ka => decide
  have hU : (hideAll s.heap [C]).UpToSlots h' := (Heap.UpToSlots.of_keeps fun b o q => up b o (fun z => by rw [z, hideAll_none _ (List.mem_singleton.mpr rfl)] at q; cases q) (of_hideAll _ q)).trans U'
  clear U' hx up hff' nF fF
  k_with_none
  (k_with "mod" => (refine' mod_r_int rfl (by decide) (by decide +kernel) ?_; intro _ _ _))
  (k_with "raise" => (refine' raise_VE_from ?r1 ?_; (case r1 => rfl)))
  k_steps
  exact bad_raised rfl hU H' (show 1 ≤ 10 by decide) fun e h'' a0 H'' U'' => hE e h'' _ a0 H'' U''
theorem res_bad_im {w : World} {p : Program} {loose : List Str} {mean : ExcName → Option Value} {mg mb : Str → Option Value} {E' : Value → Shared → Prop} {s : Shared} {C d : Nat} {B base : Heap} {lo : List Env} {dp un : Nat} {gd : Option (List Code)} {u : Str → Option Value} {t : Tok} {Q : Flow → Shared → Prop} {st : Stmt}
    (hst : st = resB.getD 0 default) (X : (hd.heap_39 w.params).In base) (T : Top p loose mean mg mb base) (hbB : base.StaysIn B) (hB : B.StaysIn s.heap) (hBC : B.get? C = none) (hff : (hideAll s.heap [C]).FunFrames B lo)
    (F : Fr base C s.heap (kstB u [(Str.ofString "delta", .ref d), (Str.ofString "which", .int (-1) t)]))
    (hE : ∀ e h' tk' a0, Heap.HeldW B (resE C :: lo) e (.type "ValueError") a0 C h' → (hideAll s.heap [C]).UpToSlots h' → E' (.ref e) { s with heap := h', toks := tk' }) :
    wpAny (model PySem.Challenge.rw_nb0156_01.row.prog w) ⟨none, dp, some (resE C :: lo), gd, un⟩ (exec st (resE C)) Q E' s := by
  subst hst
  have N : News base C s.heap (allNew base s.heap C) := news_new
  dsimp only [resFor, resB, resS, ifC, yieldE, topS, fnB, fnS, forB, PySem.Challenge.pw_nb0156_01, List.getD, List.getElem?_cons_succ, List.getElem?_cons_zero, Option.getD_some]
  dsimp only [resE, resFor, resB, resS, ifC, yieldE, topS, fnB, fnS, forB, PySem.Challenge.pw_nb0156_01, List.getD, List.getElem?_cons_succ, List.getElem?_cons_zero, Option.getD_some]
  dsimp only [kstB] at F
  k_with_none
  k_steps
  rename Heap.NewExc _ _ _ _ => hx
  rename Fr _ _ _ _ => fF
  rename News _ _ _ _ => nF
  have up := new_keeps fF (fun q hq => nF q (List.Mem.tail _ hq)) F.keep
  have hff' := gen_frames (lo := lo) up hff hBC fF
  refine catch_own (K := hd.heap_39 w.params) (T' := "KeyError") rfl fF hx hff' (stays_but hB hBC up) hbB X T ?k5 PyProof.Rows.Boot.«KeyError» ?k6 (by rw [isSubtype_type]; kernel_rfl) (by rw [isSubtype_type]; kernel_rfl) ?k7 (fun h' F' H' U' => ?_) ?k8 ?k9 ?ka
  case k5 => k_is
  case k6 => decide
  case k7 => (rw [isSubtype_type]; kernel_rfl)
  case k8 => rfl
  case k9 => rfl
  case ka => decide
  have hU : (hideAll s.heap [C]).UpToSlots h' := (Heap.UpToSlots.of_keeps fun b o q => up b o (fun z => by rw [z, hideAll_none _ (List.mem_singleton.mpr rfl)] at q; cases q) (of_hideAll _ q)).trans U'
  clear U' hx up hff' nF fF
  k_with_none
  (k_with "mod" => (refine' mod_r_int rfl (by decide) (by decide +kernel) ?_; intro _ _ _))
  (k_with "raise" => (refine' raise_VE_from ?r1 ?_; (case r1 => rfl)))
  k_steps
  exact bad_raised rfl hU H' (show 1 ≤ 10 by decide) fun e h'' a0 H'' U'' => hE e h'' _ a0 H'' U''
theorem res_bad_s {w : World} {p : Program} {loose : List Str} {mean : ExcName → Option Value} {mg mb : Str → Option Value} {E' : Value → Shared → Prop} {s : Shared} {C d : Nat} {B base : Heap} {lo : List Env} {dp un : Nat} {gd : Option (List Code)} {u : Str → Option Value} {t : Tok} {Q : Flow → Shared → Prop} {st : Stmt}
    (hst : st = resB.getD 0 default) (X : (hd.heap_39 w.params).In base) (T : Top p loose mean mg mb base) (hbB : base.StaysIn B) (hB : B.StaysIn s.heap) (hBC : B.get? C = none) (hff : (hideAll s.heap [C]).FunFrames B lo)
    (F : Fr base C s.heap (kstB u [(Str.ofString "delta", .ref d), (Str.ofString "which", .str (Str.ofString "12") t)]))
    (hE : ∀ e h' tk' a0, Heap.HeldW B (resE C :: lo) e (.type "ValueError") a0 C h' → (hideAll s.heap [C]).UpToSlots h' → E' (.ref e) { s with heap := h', toks := tk' }) :
    wpAny (model PySem.Challenge.rw_nb0156_01.row.prog w) ⟨none, dp, some (resE C :: lo), gd, un⟩ (exec st (resE C)) Q E' s := by
  subst hst
  have N : News base C s.heap (allNew base s.heap C) := news_new
  dsimp only [resFor, resB, resS, ifC, yieldE, topS, fnB, fnS, forB, PySem.Challenge.pw_nb0156_01, List.getD, List.getElem?_cons_succ, List.getElem?_cons_zero, Option.getD_some]
  dsimp only [resE, resFor, resB, resS, ifC, yieldE, topS, fnB, fnS, forB, PySem.Challenge.pw_nb0156_01, List.getD, List.getElem?_cons_succ, List.getElem?_cons_zero, Option.getD_some]
  dsimp only [kstB] at F
  k_with_none
  k_steps
  rename Heap.NewExc _ _ _ _ => hx
  rename Fr _ _ _ _ => fF
  rename News _ _ _ _ => nF
  have up := new_keeps fF (fun q hq => nF q (List.Mem.tail _ hq)) F.keep
  have hff' := gen_frames (lo := lo) up hff hBC fF
  refine catch_own (K := hd.heap_39 w.params) (T' := "KeyError") rfl fF hx hff' (stays_but hB hBC up) hbB X T ?k5 PyProof.Rows.Boot.«KeyError» ?k6 (by rw [isSubtype_type]; kernel_rfl) (by rw [isSubtype_type]; kernel_rfl) ?k7 (fun h' F' H' U' => ?_) ?k8 ?k9 ?ka
  case k5 => k_is
  case k6 => decide
  case k7 => (rw [isSubtype_type]; kernel_rfl)
  case k8 => rfl
  case k9 => rfl
  case ka => decide
  have hU : (hideAll s.heap [C]).UpToSlots h' := (Heap.UpToSlots.of_keeps fun b o q => up b o (fun z => by rw [z, hideAll_none _ (List.mem_singleton.mpr rfl)] at q; cases q) (of_hideAll _ q)).trans U'
  clear U' hx up hff' nF fF
  k_with_none
  (k_with "mod" => (refine' mod_r_str rfl (by decide +kernel) ?_; intro _ _ _))
  (k_with "raise" => (refine' raise_VE_from ?r1 ?_; (case r1 => rfl)))
  k_steps
  exact bad_raised rfl hU H' (show 1 ≤ 10 by decide) fun e h'' a0 H'' U'' => hE e h'' _ a0 H'' U''
theorem res_bad {wv : Value} (hw : Bad wv) {w : World} {p : Program} {loose : List Str} {mean : ExcName → Option Value} {mg mb : Str → Option Value} {E' : Value → Shared → Prop} {s : Shared} {C d : Nat} {B base : Heap} {lo : List Env} {dp un : Nat} {gd : Option (List Code)} {u : Str → Option Value} {Q : Flow → Shared → Prop} {st : Stmt}
    (hst : st = resB.getD 0 default) (X : (hd.heap_39 w.params).In base) (T : Top p loose mean mg mb base) (hbB : base.StaysIn B) (hB : B.StaysIn s.heap) (hBC : B.get? C = none) (hff : (hideAll s.heap [C]).FunFrames B lo)
    (F : Fr base C s.heap (kstB u [(Str.ofString "delta", .ref d), (Str.ofString "which", wv)]))
    (hE : ∀ e h' tk' a0, Heap.HeldW B (resE C :: lo) e (.type "ValueError") a0 C h' → (hideAll s.heap [C]).UpToSlots h' → E' (.ref e) { s with heap := h', toks := tk' }) :
    wpAny (model PySem.Challenge.rw_nb0156_01.row.prog w) ⟨none, dp, some (resE C :: lo), gd, un⟩ (exec st (resE C)) Q E' s := by
  cases hw with
  | i0 t => exact res_bad_i0 hst X T hbB hB hBC hff F hE
  | i3 t => exact res_bad_i3 hst X T hbB hB hBC hff F hE
  | im t => exact res_bad_im hst X T hbB hB hBC hff F hE
  | s t => exact res_bad_s hst X T hbB hB hBC hff F hE
end
end Mine
end

section
open PySem PySem.W PyProof.Rows
open PySem.Sem (wp)
set_option Elab.async false
set_option maxRecDepth 100000
set_option maxHeartbeats 400000
set_option linter.unusedVariables false
namespace Mine
theorem hide_ne {h : Heap} {C b : Addr} {o : Obj} (q : (hideAll h [C]).get? b = some o) : b ≠ C := fun z => by
  rw [z, hideAll_none _ (List.mem_singleton.mpr rfl)] at q
  cases q
def badPX (B g₂ : Heap) (lo : List Env) (e : Addr) (h' : Heap) : Prop := ∃ a0, Heap.FlyingW B lo e (.type "ValueError") a0 h' ∧ g₂.UpToSlots h'
section
variable {w : World} {p : Program} {loose : List Str} {mean : ExcName → Option Value} {mg mb : Str → Option Value} {A : Around} {C d : Nat} {wv : Value} {base B g₂ : Heap} {lo : List Env}
theorem bad_seg (hw : Bad wv) (X : (hd.heap_39 w.params).In base) (T : Top p loose mean mg mb base) (hh : A.handled = none) (hfr : A.frames = some lo) (hab : base.objs.size ≤ C) (hbB : base.StaysIn B) (hBC : B.get? C = none) :
    ∀ (s : Shared) (u : Str → Option Value), B.StaysIn s.heap → (hideAll s.heap [C]).FunFrames B lo → (∀ b o, g₂.get? b = some o → (hideAll s.heap [C]).get? b = some o) → s.heap.Ns C (kstB u [(Str.ofString "delta", .ref d), (Str.ofString "which", wv)]) →
      Seg (model PySem.Challenge.rw_nb0156_01.row.prog w) A (raisesR (badPX B g₂ lo)) neverY 0 s
        (.func resB (resE C)) ((model PySem.Challenge.rw_nb0156_01.row.prog w).den (.func resB (resE C))) [] s := by
  intro s u hB hff hg hn
  obtain ⟨st0, rest, e, e0⟩ : ∃ (st0 : Stmt) (rest : List Stmt), resB = st0 :: rest ∧ st0 = resB.getD 0 default := ⟨_, _, rfl, rfl⟩
  refine seg_func ?_
  rw [show execs resB (resE C) = execs (st0 :: rest) (resE C) from by rw [e]]
  refine seg_stmt ?_
  have F : Fr base C s.heap (kstB u [(Str.ofString "delta", .ref d), (Str.ofString "which", wv)]) := ⟨hn, fun b o q => hB b o (hbB b o q), hab⟩
  have hA : A.over (.func resB (resE C)) [] = ⟨none, A.depth + frameCount [] + (Code.func resB (resE C)).weight, some (resE C :: lo), pushGuards (Code.func resB (resE C)).guards (pushGuards (guardsOf []) A.guards), A.units + unitsOf [] + (Code.func resB (resE C)).cUnits⟩ := by
    obtain ⟨a1, a2, a3, a4, a5⟩ := A
    obtain rfl : a1 = none := hh
    obtain rfl : a3 = some lo := hfr
    rfl
  rw [hA]
  refine res_bad hw e0 X T hbB hB hBC hff F fun ex h' tk' a0 HH U => ?_
  refine seg_wrap (left_held rfl HH fun h'' FL U' => ?_)
  exact seg_end (.error (.ref ex)) ⟨ex, h'', tk', rfl, rfl, a0, FL, ((Heap.UpToSlots.of_keeps hg).trans U).trans U'⟩
end
section
variable {w : World} {A A₀ : Around} {s : Shared} {h₀ base : Heap} {L d a : Nat} {m mg mb : Str → Option Value} {p : Program} {loose : List Str} {mean : ExcName → Option Value} {Q E : Value → Shared → Prop} {news : List (Addr × Obj)} {wv : Value}
  {outer : List Env} {cn : Str} {cs : Scope} {ccd : Value} {cl : List (Str × Addr)}
theorem list_bad {C : Nat} (hw : Bad wv) (hh : A.handled = none) (hroom : A.depth < recursionLimit) (G : GenReady h₀ L C d wv s) (hz : base.objs.size ≤ h₀.objs.size) (B0 : Below A₀ base outer h₀) (hA : A.frames = some (envX cn cs L a ccd cl :: outer)) (hke : cs.kind = .function)
    (F : Fr h₀ L s.heap m) (XB : (hd.heap_39 w.params).In base) (TB : Top p loose mean mg mb base) (T : Top p loose mean mg mb h₀) (N : News h₀ L s.heap news) (hC : ∀ q ∈ news, q.1 < C)
    (hE : ∀ e h' tk' g', AllBare g' → Thrown base h₀ L m (envX cn cs L a ccd cl) outer e "ValueError" news h' → E (.ref e) { s with heap := h', toks := tk', gens := g' }) :
    wpAny (model PySem.Challenge.rw_nb0156_01.row.prog w) A (call (.type "list") [.ref (C + 1)]) Q E s := by
  obtain ⟨⟨g, hg, hgs⟩, ⟨u, hns⟩, hab, hLC, hb⟩ := G
  have hl : s.heap.NoLimit := T.nolimit.keeps F.keep
  have K' := pushX (env := envX cn cs L a ccd cl) B0 F rfl hke
  have hbC : base.get? C = none := fresh_of_stays B0.stays (Heap.get?_none_of_le hab)
  have frC : ∀ env ∈ (envX cn cs L a ccd cl :: outer), env.frame ≠ some C := fun env he hf => by
    rcases List.mem_cons.mp he with rfl | he
    · exact hLC (Option.some.inj hf)
    · obtain ⟨o, ho, _⟩ := (B0.frames.mem (List.mem_filterMap.mpr ⟨env, he, hf⟩)).2
      rw [Heap.get?_none_of_le hab] at ho; cases ho
  let frs := C :: (envX cn cs L a ccd cl :: outer).filterMap (·.frame)
  have nfrs : ∀ b o, base.get? b = some o → b ∉ frs := fun b o q hm => by
    rcases List.mem_cons.mp hm with rfl | hm
    · rw [hbC] at q; cases q
    · rw [(K'.frames.mem hm).1] at q; cases q
  have hbB : base.StaysIn (hideAll s.heap frs) := fun b o q => hideAll_get _ (K'.stays b o q) (nfrs b o q)
  have f1 : s.heap.FunFrames (hideAll s.heap frs) (envX cn cs L a ccd cl :: outer) := funFrames_hide K'.frames fun env he b hf => .tail _ (List.mem_filterMap.mpr ⟨env, he, hf⟩)
  have f2 : (hideAll s.heap [C]).FunFrames (hideAll s.heap frs) (envX cn cs L a ccd cl :: outer) := funFrames_hideAll f1 fun env he b hb => by
    rw [List.mem_singleton.mp hb]; exact frC env he
  have hge : (hideAll s.heap frs).get? (C + 1) ≠ none → True := fun _ => trivial
  have hnotC1 : (C + 1) ∉ frs := fun hm => by
    rcases List.mem_cons.mp hm with q | hm
    · exact Nat.succ_ne_self C q
    · obtain ⟨_, o, ho, hnf⟩ := K'.frames.mem hm
      obtain ⟨og, nm, qn, hog, _, hod, _⟩ := hg
      rw [hog] at ho; cases ho
      exact hnf _ hod
  refine call_list_fnX (PX := badPX (hideAll s.heap frs) (hideAll s.heap [C]) (envX cn cs L a ccd cl :: outer)) hroom hg hl hgs hb ?_ ?_ ?_
  · intro s'' hk
    have hk' : ∀ b o, (hideAll s.heap [C]).get? b = some o → (hideAll s''.heap [C]).get? b = some o := fun b o q => hideAll_get _ (hk b o (of_hideAll _ q)) fun z => hide_ne q (List.mem_singleton.mp z)
    refine ⟨rfl, bad_seg (A := A.in1.in1.in1) hw XB TB hh hA (Nat.le_trans hz hab) hbB (hideAll_none _ (.head _)) s'' u (fun b o q => hk b o (of_hideAll _ q)) (f2.of_keeps fun b o q _ => ⟨o, hk' b o q, rfl⟩) hk' (hns.at' fun o q => hk C o q)⟩
  · rintro e h' ⟨a0, FL, U⟩
    refine ⟨?_, FL.there⟩
    obtain ⟨og, nm, qn, hog, r⟩ := hg
    exact ⟨og, nm, qn, FL.1 _ _ (hideAll_get _ hog hnotC1), r⟩
  · rintro e h' tk' gens' ⟨a0, FL, U⟩ hb'
    refine hE e h' tk' gens' hb' ⟨hideAll s.heap [C], ?_, U, hideAll s.heap frs, a0, hbB, fun q hq => ⟨hideAll_get _ (N q hq).1 fun hm => ?_, fresh_of_stays B0.stays (N q hq).2.2⟩, FL⟩
    · refine ⟨F.ns.at' fun o q => hideAll_get _ q fun z => hLC (List.mem_singleton.mp z), fun b o q => hideAll_get _ (F.keep b o q) fun z => ?_, F.above⟩
      rw [List.mem_singleton.mp z, Heap.get?_none_of_le hab] at q; cases q
    · rcases List.mem_cons.mp hm with z | hm
      · exact Nat.ne_of_lt (hC q hq) z
      · obtain ⟨env, he, hf⟩ := List.mem_filterMap.mp hm
        rcases List.mem_cons.mp he with rfl | he
        · exact (N q hq).2.1 (Option.some.inj hf).symm
        · obtain ⟨o, ho, _⟩ := (B0.frames.mem (List.mem_filterMap.mpr ⟨env, he, hf⟩)).2
          rw [(N q hq).2.2] at ho; cases ho
end
end Mine
end

section
open PySem PySem.W PyProof.Rows
set_option Elab.async false
set_option maxRecDepth 100000
set_option maxHeartbeats 8000000
set_option linter.unusedVariables false
namespace Mine
theorem fillK14 (w : World) (h : Heap) (_ : (hd.heap_39 w.params).In h) : PySem.Challenge.rw_nb0156_01.row.prog = PySem.Challenge.rw_nb0156_01.row.prog ∧ (hd.heap_39 w.params) = hd.heap_39 w.params := by
  k_fill
  exact ⟨rfl, rfl⟩
abbrev lawB : List Stmt := fnB (topS 12)
abbrev lawS : Scope := fnS (topS 12)
/-- the lambda in `if not _law_refused(lambda)` -/
def argOf : Expr → Expr
  | .UnaryOp _ (.Call _ (e :: _) _ _) _ => e
  | e => e
def orAt (k : Nat) : Expr → Expr
  | .BoolOp _ es _ => es.getD k (.Constant .none 0 default)
  | e => e
def lamP : Expr → Arguments
  | .Lambda p _ _ _ => p
  | _ => default
def lamB : Expr → Expr
  | .Lambda _ b _ _ => b
  | e => e
def lamS : Expr → Scope
  | .Lambda _ _ s _ => s
  | _ => default
abbrev lamWhich : Expr := argOf (ifC ((forB (lawB.getD 18 default)).getD 0 default))
section
theorem reset8 : True := by
  w_top off
  exact trivial
local macro_rules | `(tactic| walk_at "none such") => `(tactic| fail "none such")
local macro_rules | `(tactic| walk_at "call ref") => `(tactic| k_extra "restore")
local macro_rules | `(tactic| walk_at "eval Name") => `(tactic| (k_here; kc_free; k_extra "free"))
local macro_rules | `(tactic| walk_at "call type:list") => `(tactic| k_extra "list")
local macro_rules | `(tactic| walk_at "leaving ref") => `(tactic| k_extra "leave")
end
end Mine
end

section
open PySem PySem.W PyProof.Rows
set_option Elab.async false
set_option maxRecDepth 100000
set_option maxHeartbeats 8000000
set_option linter.unusedVariables false
namespace Mine
theorem fillK15 (w : World) (h : Heap) (_ : (hd.heap_39 w.params).In h) : PySem.Challenge.rw_nb0156_01.row.prog = PySem.Challenge.rw_nb0156_01.row.prog ∧ (hd.heap_39 w.params) = hd.heap_39 w.params := by
  k_fill
  exact ⟨rfl, rfl⟩
abbrev handS (k : Nat) : Stmt := (forB (lawB.getD 17 default)).getD k default
abbrev lam3f : Expr := argOf (orAt 0 (ifC (handS 5)))
abbrev lam3p : Expr := argOf (orAt 1 (ifC (handS 5)))
abbrev lam5f : Expr := argOf (ifC (handS 8))
abbrev lam5p : Expr := argOf (ifC (handS 9))
section
theorem reset9 : True := by
  w_top off
  exact trivial
local macro_rules | `(tactic| walk_at "call ref") => `(tactic| k_extra "bis")
local macro_rules | `(tactic| walk_at "eval Name") => `(tactic| (k_here; kc_free; k_extra "free"))
local macro_rules | `(tactic| walk_at "leaving ref") => `(tactic| k_extra "leave")
theorem deed_lf3 {w : World} {f c' : Nat} {news : List (Addr × Obj)} {nm qual : Str} {pm ctv : Value} {params : Arguments} {body : Expr} {scope : Scope} {clos : List (Str × Addr)} {k1 k2 k3 : Nat} {o1 o2 o3 : Obj} {d : Nat} {hv : Value} {oc : Obj} {vs : Array Value} {tq : Tok}
    (hp : params = lamP lam3f) (hb : body = lamB lam3f) (hs : scope = lamS lam3f)
    (hf : (f, kla_obj nm qual params body scope clos pm c' ctv) ∈ news)
    (hc : (c', oc) ∈ news) (hcd : oc.data = .fields vs) (hcq : vs[1]? = some (.str qual tq))
    (l1 : clos.lookup (Str.ofString "find") = some k1) (h1 : (k1, o1) ∈ news) (e1 : o1.data = .cell (some (.ref 57)))
    (l2 : clos.lookup (Str.ofString "page") = some k2) (h2 : (k2, o2) ∈ news) (e2 : o2.data = .cell (some (.ref d))) : SpecXG w 8 f [] [] news "ValueError" := by
  subst hp hb hs
  dsimp only [lam3f, handS, orAt, argOf, lamP, lamB, lamS, ifC, lawB, topS, fnB, fnS, forB, PySem.Challenge.pw_nb0156_01, List.getD, List.getElem?_cons_succ, List.getElem?_cons_zero, Option.getD_some] at hf
  intro p loose mean mg mb dp un gd cn cs a ccd cl outer A₀ base h₀ L m s Q E hbare hz XB TB B F X N T hk hr hu h
  refine wpAny_call ?_
  k_dflt (refine' kla_code ?k1 ?k2 ?k3 ?k4 ?k5 ?kA ?kF ?kK ?k6 ?k7 ?k8 ?k9 ?kB ?_ ?c2 ?c3 ?c4 ?c5; (case kA => exact rfl); (case kF => exact rfl); (case kK => exact hk); (case k1 => exact B); (case k2 => exact F); (case k3 => exact X); (case k4 => exact N); (case k5 => exact T); (case k6 => exact hf); (case k7 => exact codeRec_news N hc hcd hcq); (case k8 => ktr_room); (case k9 => exact rfl); (case c5 => decide); (case kB => exact locs rfl); (case c2 => exact rfl); (case c3 => exact rfl); (case c4 => exact rfl); k_whole)
  intro g' L' h' FG' F' N' B' X' T'
  k_with_none
  (k_with "free" => (first | (refine' nameX_F N' l1 h1 e1 ?_ rfl rfl ?b1 ?b2; (case b1 => decide); (case b2 => decide)) | (refine' nameX_F N' l2 h2 e2 ?_ rfl rfl ?b1 ?b2; (case b1 => decide); (case b2 => decide))))
  (k_with "bis" => ((with_unfolding_all refine' call_byX (bisX_l3 _ .none _) B' ?k2 X' ?k4 T' ?k6 ?k7 ?k8 ?_); (case k2 => exact F'); (case k4 => exact N'); (case k6 => rfl); (case k7 => ktr_room); (case k8 => ktr_units); intro e8 h8 tk8 th8; dsimp only))
  (k_with "leave" => ((with_unfolding_all refine' leave_thrown B' th8 ?_); intro h7 R7 U7))
  k_steps
  exact h e8 h7 _ s.gens hbare ⟨g', FG', U7, R7⟩
theorem deed_lp3 {w : World} {f c' : Nat} {news : List (Addr × Obj)} {nm qual : Str} {pm ctv : Value} {params : Arguments} {body : Expr} {scope : Scope} {clos : List (Str × Addr)} {k1 k2 k3 : Nat} {o1 o2 o3 : Obj} {d : Nat} {hv : Value} {oc : Obj} {vs : Array Value} {tq : Tok}
    (hp : params = lamP lam3p) (hb : body = lamB lam3p) (hs : scope = lamS lam3p)
    (hf : (f, kla_obj nm qual params body scope clos pm c' ctv) ∈ news)
    (hc : (c', oc) ∈ news) (hcd : oc.data = .fields vs) (hcq : vs[1]? = some (.str qual tq))
    (l1 : clos.lookup (Str.ofString "put") = some k1) (h1 : (k1, o1) ∈ news) (e1 : o1.data = .cell (some (.ref 48)))
    (l2 : clos.lookup (Str.ofString "page") = some k2) (h2 : (k2, o2) ∈ news) (e2 : o2.data = .cell (some (.ref d))) : SpecXG w 8 f [] [] news "ValueError" := by
  subst hp hb hs
  dsimp only [lam3p, handS, orAt, argOf, lamP, lamB, lamS, ifC, lawB, topS, fnB, fnS, forB, PySem.Challenge.pw_nb0156_01, List.getD, List.getElem?_cons_succ, List.getElem?_cons_zero, Option.getD_some] at hf
  intro p loose mean mg mb dp un gd cn cs a ccd cl outer A₀ base h₀ L m s Q E hbare hz XB TB B F X N T hk hr hu h
  refine wpAny_call ?_
  k_dflt (refine' kla_code ?k1 ?k2 ?k3 ?k4 ?k5 ?kA ?kF ?kK ?k6 ?k7 ?k8 ?k9 ?kB ?_ ?c2 ?c3 ?c4 ?c5; (case kA => exact rfl); (case kF => exact rfl); (case kK => exact hk); (case k1 => exact B); (case k2 => exact F); (case k3 => exact X); (case k4 => exact N); (case k5 => exact T); (case k6 => exact hf); (case k7 => exact codeRec_news N hc hcd hcq); (case k8 => ktr_room); (case k9 => exact rfl); (case c5 => decide); (case kB => exact locs rfl); (case c2 => exact rfl); (case c3 => exact rfl); (case c4 => exact rfl); k_whole)
  intro g' L' h' FG' F' N' B' X' T'
  k_with_none
  (k_with "free" => (first | (refine' nameX_F N' l1 h1 e1 ?_ rfl rfl ?b1 ?b2; (case b1 => decide); (case b2 => decide)) | (refine' nameX_F N' l2 h2 e2 ?_ rfl rfl ?b1 ?b2; (case b1 => decide); (case b2 => decide))))
  (k_with "bis" => ((with_unfolding_all refine' call_byX (putX_l3 _ _) B' ?k2 X' ?k4 T' ?k6 ?k7 ?k8 ?_); (case k2 => exact F'); (case k4 => exact N'); (case k6 => rfl); (case k7 => ktr_room); (case k8 => ktr_units); intro e8 h8 tk8 th8; dsimp only))
  (k_with "leave" => ((with_unfolding_all refine' leave_thrown B' th8 ?_); intro h7 R7 U7))
  k_steps
  exact h e8 h7 _ s.gens hbare ⟨g', FG', U7, R7⟩
theorem deed_lf5 {w : World} {f c' : Nat} {news : List (Addr × Obj)} {nm qual : Str} {pm ctv : Value} {params : Arguments} {body : Expr} {scope : Scope} {clos : List (Str × Addr)} {k1 k2 k3 : Nat} {o1 o2 o3 : Obj} {d : Nat} {hv : Value} {oc : Obj} {vs : Array Value} {tq : Tok}
    (hp : params = lamP lam5f) (hb : body = lamB lam5f) (hs : scope = lamS lam5f)
    (hf : (f, kla_obj nm qual params body scope clos pm c' ctv) ∈ news)
    (hc : (c', oc) ∈ news) (hcd : oc.data = .fields vs) (hcq : vs[1]? = some (.str qual tq))
    (l1 : clos.lookup (Str.ofString "find") = some k1) (h1 : (k1, o1) ∈ news) (e1 : o1.data = .cell (some (.ref 57)))
    (l2 : clos.lookup (Str.ofString "page") = some k2) (h2 : (k2, o2) ∈ news) (e2 : o2.data = .cell (some (.ref d)))
    (l3 : clos.lookup (Str.ofString "hi") = some k3) (h3 : (k3, o3) ∈ news) (e3 : o3.data = .cell (some hv)) : SpecXG w 8 f [] [] news "ValueError" := by
  subst hp hb hs
  dsimp only [lam5f, handS, orAt, argOf, lamP, lamB, lamS, ifC, lawB, topS, fnB, fnS, forB, PySem.Challenge.pw_nb0156_01, List.getD, List.getElem?_cons_succ, List.getElem?_cons_zero, Option.getD_some] at hf
  intro p loose mean mg mb dp un gd cn cs a ccd cl outer A₀ base h₀ L m s Q E hbare hz XB TB B F X N T hk hr hu h
  refine wpAny_call ?_
  k_dflt (refine' kla_code ?k1 ?k2 ?k3 ?k4 ?k5 ?kA ?kF ?kK ?k6 ?k7 ?k8 ?k9 ?kB ?_ ?c2 ?c3 ?c4 ?c5; (case kA => exact rfl); (case kF => exact rfl); (case kK => exact hk); (case k1 => exact B); (case k2 => exact F); (case k3 => exact X); (case k4 => exact N); (case k5 => exact T); (case k6 => exact hf); (case k7 => exact codeRec_news N hc hcd hcq); (case k8 => ktr_room); (case k9 => exact rfl); (case c5 => decide); (case kB => exact locs rfl); (case c2 => exact rfl); (case c3 => exact rfl); (case c4 => exact rfl); k_whole)
  intro g' L' h' FG' F' N' B' X' T'
  k_with_none
  (k_with "free" => (first | (refine' nameX_F N' l1 h1 e1 ?_ rfl rfl ?b1 ?b2; (case b1 => decide); (case b2 => decide)) | (refine' nameX_F N' l2 h2 e2 ?_ rfl rfl ?b1 ?b2; (case b1 => decide); (case b2 => decide)) | (refine' nameX_F N' l3 h3 e3 ?_ rfl rfl ?b1 ?b2; (case b1 => decide); (case b2 => decide))))
  (k_with "bis" => ((with_unfolding_all refine' call_byX (bisX_l5 _ _ _) B' ?k2 X' ?k4 T' ?k6 ?k7 ?k8 ?_); (case k2 => exact F'); (case k4 => exact N'); (case k6 => rfl); (case k7 => ktr_room); (case k8 => ktr_units); intro e8 h8 tk8 th8; dsimp only))
  (k_with "leave" => ((with_unfolding_all refine' leave_thrown B' th8 ?_); intro h7 R7 U7))
  k_steps
  exact h e8 h7 _ s.gens hbare ⟨g', FG', U7, R7⟩
theorem deed_lp5 {w : World} {f c' : Nat} {news : List (Addr × Obj)} {nm qual : Str} {pm ctv : Value} {params : Arguments} {body : Expr} {scope : Scope} {clos : List (Str × Addr)} {k1 k2 k3 : Nat} {o1 o2 o3 : Obj} {d : Nat} {hv : Value} {oc : Obj} {vs : Array Value} {tq : Tok}
    (hp : params = lamP lam5p) (hb : body = lamB lam5p) (hs : scope = lamS lam5p)
    (hf : (f, kla_obj nm qual params body scope clos pm c' ctv) ∈ news)
    (hc : (c', oc) ∈ news) (hcd : oc.data = .fields vs) (hcq : vs[1]? = some (.str qual tq))
    (l1 : clos.lookup (Str.ofString "put") = some k1) (h1 : (k1, o1) ∈ news) (e1 : o1.data = .cell (some (.ref 48)))
    (l2 : clos.lookup (Str.ofString "page") = some k2) (h2 : (k2, o2) ∈ news) (e2 : o2.data = .cell (some (.ref d)))
    (l3 : clos.lookup (Str.ofString "hi") = some k3) (h3 : (k3, o3) ∈ news) (e3 : o3.data = .cell (some hv)) : SpecXG w 8 f [] [] news "ValueError" := by
  subst hp hb hs
  dsimp only [lam5p, handS, orAt, argOf, lamP, lamB, lamS, ifC, lawB, topS, fnB, fnS, forB, PySem.Challenge.pw_nb0156_01, List.getD, List.getElem?_cons_succ, List.getElem?_cons_zero, Option.getD_some] at hf
  intro p loose mean mg mb dp un gd cn cs a ccd cl outer A₀ base h₀ L m s Q E hbare hz XB TB B F X N T hk hr hu h
  refine wpAny_call ?_
  k_dflt (refine' kla_code ?k1 ?k2 ?k3 ?k4 ?k5 ?kA ?kF ?kK ?k6 ?k7 ?k8 ?k9 ?kB ?_ ?c2 ?c3 ?c4 ?c5; (case kA => exact rfl); (case kF => exact rfl); (case kK => exact hk); (case k1 => exact B); (case k2 => exact F); (case k3 => exact X); (case k4 => exact N); (case k5 => exact T); (case k6 => exact hf); (case k7 => exact codeRec_news N hc hcd hcq); (case k8 => ktr_room); (case k9 => exact rfl); (case c5 => decide); (case kB => exact locs rfl); (case c2 => exact rfl); (case c3 => exact rfl); (case c4 => exact rfl); k_whole)
  intro g' L' h' FG' F' N' B' X' T'
  k_with_none
  (k_with "free" => (first | (refine' nameX_F N' l1 h1 e1 ?_ rfl rfl ?b1 ?b2; (case b1 => decide); (case b2 => decide)) | (refine' nameX_F N' l2 h2 e2 ?_ rfl rfl ?b1 ?b2; (case b1 => decide); (case b2 => decide)) | (refine' nameX_F N' l3 h3 e3 ?_ rfl rfl ?b1 ?b2; (case b1 => decide); (case b2 => decide))))
  (k_with "bis" => ((with_unfolding_all refine' call_byX (putX_l5 _ _ (by decide) _ _) B' ?k2 X' ?k4 T' ?k6 ?k7 ?k8 ?_); (case k2 => exact F'); (case k4 => exact N'); (case k6 => rfl); (case k7 => ktr_room); (case k8 => ktr_units); intro e8 h8 tk8 th8; dsimp only))
  (k_with "leave" => ((with_unfolding_all refine' leave_thrown B' th8 ?_); intro h7 R7 U7))
  k_steps
  exact h e8 h7 _ s.gens hbare ⟨g', FG', U7, R7⟩
theorem deed_rf3 {w : World} {f c' : Nat} {news : List (Addr × Obj)} {nm qual : Str} {pm ctv : Value} {params : Arguments} {body : Expr} {scope : Scope} {clos : List (Str × Addr)} {k1 k2 k3 : Nat} {o1 o2 o3 : Obj} {d : Nat} {hv : Value} {oc : Obj} {vs : Array Value} {tq : Tok}
    (hp : params = lamP lam3f) (hb : body = lamB lam3f) (hs : scope = lamS lam3f)
    (hf : (f, kla_obj nm qual params body scope clos pm c' ctv) ∈ news)
    (hc : (c', oc) ∈ news) (hcd : oc.data = .fields vs) (hcq : vs[1]? = some (.str qual tq))
    (l1 : clos.lookup (Str.ofString "find") = some k1) (h1 : (k1, o1) ∈ news) (e1 : o1.data = .cell (some (.ref 39)))
    (l2 : clos.lookup (Str.ofString "page") = some k2) (h2 : (k2, o2) ∈ news) (e2 : o2.data = .cell (some (.ref d))) : SpecXG w 8 f [] [] news "ValueError" := by
  subst hp hb hs
  dsimp only [lam3f, handS, orAt, argOf, lamP, lamB, lamS, ifC, lawB, topS, fnB, fnS, forB, PySem.Challenge.pw_nb0156_01, List.getD, List.getElem?_cons_succ, List.getElem?_cons_zero, Option.getD_some] at hf
  intro p loose mean mg mb dp un gd cn cs a ccd cl outer A₀ base h₀ L m s Q E hbare hz XB TB B F X N T hk hr hu h
  refine wpAny_call ?_
  k_dflt (refine' kla_code ?k1 ?k2 ?k3 ?k4 ?k5 ?kA ?kF ?kK ?k6 ?k7 ?k8 ?k9 ?kB ?_ ?c2 ?c3 ?c4 ?c5; (case kA => exact rfl); (case kF => exact rfl); (case kK => exact hk); (case k1 => exact B); (case k2 => exact F); (case k3 => exact X); (case k4 => exact N); (case k5 => exact T); (case k6 => exact hf); (case k7 => exact codeRec_news N hc hcd hcq); (case k8 => ktr_room); (case k9 => exact rfl); (case c5 => decide); (case kB => exact locs rfl); (case c2 => exact rfl); (case c3 => exact rfl); (case c4 => exact rfl); k_whole)
  intro g' L' h' FG' F' N' B' X' T'
  k_with_none
  (k_with "free" => (first | (refine' nameX_F N' l1 h1 e1 ?_ rfl rfl ?b1 ?b2; (case b1 => decide); (case b2 => decide)) | (refine' nameX_F N' l2 h2 e2 ?_ rfl rfl ?b1 ?b2; (case b1 => decide); (case b2 => decide))))
  (k_with "bis" => ((with_unfolding_all refine' call_byX (bisX_r3 _ .none _) B' ?k2 X' ?k4 T' ?k6 ?k7 ?k8 ?_); (case k2 => exact F'); (case k4 => exact N'); (case k6 => rfl); (case k7 => ktr_room); (case k8 => ktr_units); intro e8 h8 tk8 th8; dsimp only))
  (k_with "leave" => ((with_unfolding_all refine' leave_thrown B' th8 ?_); intro h7 R7 U7))
  k_steps
  exact h e8 h7 _ s.gens hbare ⟨g', FG', U7, R7⟩
theorem deed_rp3 {w : World} {f c' : Nat} {news : List (Addr × Obj)} {nm qual : Str} {pm ctv : Value} {params : Arguments} {body : Expr} {scope : Scope} {clos : List (Str × Addr)} {k1 k2 k3 : Nat} {o1 o2 o3 : Obj} {d : Nat} {hv : Value} {oc : Obj} {vs : Array Value} {tq : Tok}
    (hp : params = lamP lam3p) (hb : body = lamB lam3p) (hs : scope = lamS lam3p)
    (hf : (f, kla_obj nm qual params body scope clos pm c' ctv) ∈ news)
    (hc : (c', oc) ∈ news) (hcd : oc.data = .fields vs) (hcq : vs[1]? = some (.str qual tq))
    (l1 : clos.lookup (Str.ofString "put") = some k1) (h1 : (k1, o1) ∈ news) (e1 : o1.data = .cell (some (.ref 30)))
    (l2 : clos.lookup (Str.ofString "page") = some k2) (h2 : (k2, o2) ∈ news) (e2 : o2.data = .cell (some (.ref d))) : SpecXG w 8 f [] [] news "ValueError" := by
  subst hp hb hs
  dsimp only [lam3p, handS, orAt, argOf, lamP, lamB, lamS, ifC, lawB, topS, fnB, fnS, forB, PySem.Challenge.pw_nb0156_01, List.getD, List.getElem?_cons_succ, List.getElem?_cons_zero, Option.getD_some] at hf
  intro p loose mean mg mb dp un gd cn cs a ccd cl outer A₀ base h₀ L m s Q E hbare hz XB TB B F X N T hk hr hu h
  refine wpAny_call ?_
  k_dflt (refine' kla_code ?k1 ?k2 ?k3 ?k4 ?k5 ?kA ?kF ?kK ?k6 ?k7 ?k8 ?k9 ?kB ?_ ?c2 ?c3 ?c4 ?c5; (case kA => exact rfl); (case kF => exact rfl); (case kK => exact hk); (case k1 => exact B); (case k2 => exact F); (case k3 => exact X); (case k4 => exact N); (case k5 => exact T); (case k6 => exact hf); (case k7 => exact codeRec_news N hc hcd hcq); (case k8 => ktr_room); (case k9 => exact rfl); (case c5 => decide); (case kB => exact locs rfl); (case c2 => exact rfl); (case c3 => exact rfl); (case c4 => exact rfl); k_whole)
  intro g' L' h' FG' F' N' B' X' T'
  k_with_none
  (k_with "free" => (first | (refine' nameX_F N' l1 h1 e1 ?_ rfl rfl ?b1 ?b2; (case b1 => decide); (case b2 => decide)) | (refine' nameX_F N' l2 h2 e2 ?_ rfl rfl ?b1 ?b2; (case b1 => decide); (case b2 => decide))))
  (k_with "bis" => ((with_unfolding_all refine' call_byX (putX_r3 _ _) B' ?k2 X' ?k4 T' ?k6 ?k7 ?k8 ?_); (case k2 => exact F'); (case k4 => exact N'); (case k6 => rfl); (case k7 => ktr_room); (case k8 => ktr_units); intro e8 h8 tk8 th8; dsimp only))
  (k_with "leave" => ((with_unfolding_all refine' leave_thrown B' th8 ?_); intro h7 R7 U7))
  k_steps
  exact h e8 h7 _ s.gens hbare ⟨g', FG', U7, R7⟩
theorem deed_rf5 {w : World} {f c' : Nat} {news : List (Addr × Obj)} {nm qual : Str} {pm ctv : Value} {params : Arguments} {body : Expr} {scope : Scope} {clos : List (Str × Addr)} {k1 k2 k3 : Nat} {o1 o2 o3 : Obj} {d : Nat} {hv : Value} {oc : Obj} {vs : Array Value} {tq : Tok}
    (hp : params = lamP lam5f) (hb : body = lamB lam5f) (hs : scope = lamS lam5f)
    (hf : (f, kla_obj nm qual params body scope clos pm c' ctv) ∈ news)
    (hc : (c', oc) ∈ news) (hcd : oc.data = .fields vs) (hcq : vs[1]? = some (.str qual tq))
    (l1 : clos.lookup (Str.ofString "find") = some k1) (h1 : (k1, o1) ∈ news) (e1 : o1.data = .cell (some (.ref 39)))
    (l2 : clos.lookup (Str.ofString "page") = some k2) (h2 : (k2, o2) ∈ news) (e2 : o2.data = .cell (some (.ref d)))
    (l3 : clos.lookup (Str.ofString "hi") = some k3) (h3 : (k3, o3) ∈ news) (e3 : o3.data = .cell (some hv)) : SpecXG w 8 f [] [] news "ValueError" := by
  subst hp hb hs
  dsimp only [lam5f, handS, orAt, argOf, lamP, lamB, lamS, ifC, lawB, topS, fnB, fnS, forB, PySem.Challenge.pw_nb0156_01, List.getD, List.getElem?_cons_succ, List.getElem?_cons_zero, Option.getD_some] at hf
  intro p loose mean mg mb dp un gd cn cs a ccd cl outer A₀ base h₀ L m s Q E hbare hz XB TB B F X N T hk hr hu h
  refine wpAny_call ?_
  k_dflt (refine' kla_code ?k1 ?k2 ?k3 ?k4 ?k5 ?kA ?kF ?kK ?k6 ?k7 ?k8 ?k9 ?kB ?_ ?c2 ?c3 ?c4 ?c5; (case kA => exact rfl); (case kF => exact rfl); (case kK => exact hk); (case k1 => exact B); (case k2 => exact F); (case k3 => exact X); (case k4 => exact N); (case k5 => exact T); (case k6 => exact hf); (case k7 => exact codeRec_news N hc hcd hcq); (case k8 => ktr_room); (case k9 => exact rfl); (case c5 => decide); (case kB => exact locs rfl); (case c2 => exact rfl); (case c3 => exact rfl); (case c4 => exact rfl); k_whole)
  intro g' L' h' FG' F' N' B' X' T'
  k_with_none
  (k_with "free" => (first | (refine' nameX_F N' l1 h1 e1 ?_ rfl rfl ?b1 ?b2; (case b1 => decide); (case b2 => decide)) | (refine' nameX_F N' l2 h2 e2 ?_ rfl rfl ?b1 ?b2; (case b1 => decide); (case b2 => decide)) | (refine' nameX_F N' l3 h3 e3 ?_ rfl rfl ?b1 ?b2; (case b1 => decide); (case b2 => decide))))
  (k_with "bis" => ((with_unfolding_all refine' call_byX (bisX_r5 _ _ _) B' ?k2 X' ?k4 T' ?k6 ?k7 ?k8 ?_); (case k2 => exact F'); (case k4 => exact N'); (case k6 => rfl); (case k7 => ktr_room); (case k8 => ktr_units); intro e8 h8 tk8 th8; dsimp only))
  (k_with "leave" => ((with_unfolding_all refine' leave_thrown B' th8 ?_); intro h7 R7 U7))
  k_steps
  exact h e8 h7 _ s.gens hbare ⟨g', FG', U7, R7⟩
theorem deed_rp5 {w : World} {f c' : Nat} {news : List (Addr × Obj)} {nm qual : Str} {pm ctv : Value} {params : Arguments} {body : Expr} {scope : Scope} {clos : List (Str × Addr)} {k1 k2 k3 : Nat} {o1 o2 o3 : Obj} {d : Nat} {hv : Value} {oc : Obj} {vs : Array Value} {tq : Tok}
    (hp : params = lamP lam5p) (hb : body = lamB lam5p) (hs : scope = lamS lam5p)
    (hf : (f, kla_obj nm qual params body scope clos pm c' ctv) ∈ news)
    (hc : (c', oc) ∈ news) (hcd : oc.data = .fields vs) (hcq : vs[1]? = some (.str qual tq))
    (l1 : clos.lookup (Str.ofString "put") = some k1) (h1 : (k1, o1) ∈ news) (e1 : o1.data = .cell (some (.ref 30)))
    (l2 : clos.lookup (Str.ofString "page") = some k2) (h2 : (k2, o2) ∈ news) (e2 : o2.data = .cell (some (.ref d)))
    (l3 : clos.lookup (Str.ofString "hi") = some k3) (h3 : (k3, o3) ∈ news) (e3 : o3.data = .cell (some hv)) : SpecXG w 8 f [] [] news "ValueError" := by
  subst hp hb hs
  dsimp only [lam5p, handS, orAt, argOf, lamP, lamB, lamS, ifC, lawB, topS, fnB, fnS, forB, PySem.Challenge.pw_nb0156_01, List.getD, List.getElem?_cons_succ, List.getElem?_cons_zero, Option.getD_some] at hf
  intro p loose mean mg mb dp un gd cn cs a ccd cl outer A₀ base h₀ L m s Q E hbare hz XB TB B F X N T hk hr hu h
  refine wpAny_call ?_
  k_dflt (refine' kla_code ?k1 ?k2 ?k3 ?k4 ?k5 ?kA ?kF ?kK ?k6 ?k7 ?k8 ?k9 ?kB ?_ ?c2 ?c3 ?c4 ?c5; (case kA => exact rfl); (case kF => exact rfl); (case kK => exact hk); (case k1 => exact B); (case k2 => exact F); (case k3 => exact X); (case k4 => exact N); (case k5 => exact T); (case k6 => exact hf); (case k7 => exact codeRec_news N hc hcd hcq); (case k8 => ktr_room); (case k9 => exact rfl); (case c5 => decide); (case kB => exact locs rfl); (case c2 => exact rfl); (case c3 => exact rfl); (case c4 => exact rfl); k_whole)
  intro g' L' h' FG' F' N' B' X' T'
  k_with_none
  (k_with "free" => (first | (refine' nameX_F N' l1 h1 e1 ?_ rfl rfl ?b1 ?b2; (case b1 => decide); (case b2 => decide)) | (refine' nameX_F N' l2 h2 e2 ?_ rfl rfl ?b1 ?b2; (case b1 => decide); (case b2 => decide)) | (refine' nameX_F N' l3 h3 e3 ?_ rfl rfl ?b1 ?b2; (case b1 => decide); (case b2 => decide))))
  (k_with "bis" => ((with_unfolding_all refine' call_byX (putX_r5 _ _ (by decide) _ _) B' ?k2 X' ?k4 T' ?k6 ?k7 ?k8 ?_); (case k2 => exact F'); (case k4 => exact N'); (case k6 => rfl); (case k7 => ktr_room); (case k8 => ktr_units); intro e8 h8 tk8 th8; dsimp only))
  (k_with "leave" => ((with_unfolding_all refine' leave_thrown B' th8 ?_); intro h7 R7 U7))
  k_steps
  exact h e8 h7 _ s.gens hbare ⟨g', FG', U7, R7⟩
end
end Mine
end

section
open PySem PySem.W PyProof.Rows
set_option Elab.async false
set_option maxRecDepth 100000
set_option maxHeartbeats 400000
set_option linter.unusedVariables false
namespace Mine
/-- the table of the codes that a def has made, in the ledger -/
def TabOk (P : Addr) (qual : Str) (ps : Array Value) (news : List (Addr × Obj)) : Prop :=
  TriplesOk ps.toList ∧ ∀ pos cv, codeAmong pos ps.toList = some cv → ∃ c oc vs t, cv = .ref c ∧ c ≠ P ∧ (c, oc) ∈ news ∧ oc.data = .fields vs ∧ vs[1]? = some (.str qual t)
theorem triples_snoc {a b : Nat} {c : Value} : ∀ (l : List Value), TriplesOk l → TriplesOk (l ++ [rawInt a, rawInt b, c]) := by
  intro l h
  fun_induction TriplesOk l with
  | case1 => exact trivial
  | case2 x t y u z rest ih => exact ih h
  | case3 => exact h.elim
theorem among_snoc {pos : Pos} {a b : Nat} {c cv : Value} : ∀ (l : List Value), TriplesOk l → codeAmong pos (l ++ [rawInt a, rawInt b, c]) = some cv → codeAmong pos l = some cv ∨ cv = c := by
  intro l h
  fun_induction TriplesOk l with
  | case1 =>
    intro q
    simp only [List.nil_append, codeAmong, rawInt] at q
    split at q
    · exact .inr (Option.some.inj q).symm
    · cases q
  | case2 x t y u z rest ih =>
    intro q
    simp only [List.cons_append, codeAmong] at q ⊢
    split at q
    · rename_i hq; rw [if_pos hq]; exact .inl q
    · rename_i hq; rw [if_neg hq]; exact ih h q
  | case3 => exact h.elim
section
variable {M : Model} {A : Around} {E : Value → Shared → Prop} {s : Shared} {h₀ : Heap} {L a c P : Addr} {m mg mb : Str → Option Value} {cn : Str} {cs : Scope} {ccd : Value} {cl : List (Str × Addr)} {news : List (Addr × Obj)} {g : Obj → List (Addr × Obj)}
  {p : Program} {loose : List Str} {mean : ExcName → Option Value} {params : Arguments} {body : Expr} {scope : Scope} {ps : Array Value} {pos : Pos} {clos : List (Str × Addr)}
end
end Mine
end

section
open PySem PySem.W PyProof.Rows
set_option Elab.async false
set_option maxRecDepth 100000
set_option maxHeartbeats 400000
set_option linter.unusedVariables false
namespace Mine
section
variable {prog : Program} {w : World} {A : Around} {E : Value → Shared → Prop} {Q : Flow → Shared → Prop} {s : Shared} {env : Env}
theorem for_list {target iter : Expr} {body : List Stmt} {pos : Pos} (J : Array Value → Addr → Addr → Nat → Shared → Prop) (hh : A.handled = none)
    (hs : ∀ x, foldedSetIterable iter env x = pure x)
    (hit : wpAny (model prog w) A (eval iter env) (fun x s₁ => ∃ D items, x = .ref D ∧ s₁.heap.IsList D items ∧ J items D s₁.heap.objs.size 0 { s₁ with heap := s₁.heap.push { cls := .type "list_iterator", data := .fields #[.ref D, .int 0 0] } }) E s)
    (hJ : ∀ items D It i s, J items D It i s → s.heap.IsListIter It D i ∧ s.heap.IsList D items ∧ D ≠ It)
    (turn : ∀ (items : Array Value) D It i s v h' tk, i < items.size → items[i]? = some v → J items D It i s → h'.IsListIter It D (i + 1) → (∀ b o, b ≠ It → s.heap.get? b = some o → h'.get? b = some o) →
      wpAny (model prog w) A (assign target env v) (fun _ s₂ => wpAny (model prog w) A (execs body env) (fun f s₃ => match f with
        | .next | .cont => J items D It (i + 1) s₃
        | .brk => Q .next s₃
        | .ret v => Q (.ret v) s₃) E s₂) E { s with heap := h', toks := tk })
    (done : ∀ (items : Array Value) D It s h' tk, J items D It items.size s → (∀ b o, b ≠ It → s.heap.get? b = some o → h'.get? b = some o) → Q .next { s with heap := h', toks := tk })
    (hE : PassesOwn (model prog w) A env E) :
    wpAny (model prog w) A (exec (.For target iter body [] pos) env) Q E s := by
  rw [exec_For]
  refine wpAny_bind (wpAny_standAt ?_)
  refine wpAny_bind (wpAny_mono hit (fun x s₁ h₁ => ?_) fun _ _ e => e)
  obtain ⟨D, items, rfl, hl, hj⟩ := h₁
  refine wpAny_bind (wpAny_of_eq (hs _) ?_)
  refine wpAny_bind (wpAny_standAt ?_)
  refine wpAny_bind (wpAny_holding (wpAny_pyIter_list hl ?_))
  refine wpAny_runOwn ?_
  have hA : A.mark none = A := by cases A; rfl
  rw [hA]
  refine codeAny_forLoop_any (fun n s' => ∃ i, i + n = items.size ∧ J items D s₁.heap.objs.size i s') (fun n s' hI => ?_) items.size ⟨0, Nat.zero_add _, hj⟩
  obtain ⟨i, hi, hJi⟩ := hI
  obtain ⟨st1, st2, hne⟩ := hJ _ _ _ _ _ hJi
  have W := Walks.list (prog := prog) (w := w) (A := A) hh s₁.heap.objs.size D hne items
  have back : ∀ {α : Type} {t : Sem α} {Q' : α → Shared → Prop} {s''}, wpAny (model prog w) A t Q' E s'' → wpAny (model prog w) A t Q' (notedBy (model prog w) A env fun e s' => cameBackBy (model prog w) A env E e s') s'' := fun h => wpAny_passesOwn hE h
  cases n with
  | zero =>
    have e : i = items.size := by omega
    subst e
    refine W.done s' _ _ ⟨st1, st2⟩ fun h' tk hk => ?_
    exact wpAny_pure (done _ _ _ s' h' tk hJi fun b o hb q => hk b o (by simpa using hb) q)
  | succ n =>
    have hlt' : i < items.size := by omega
    refine W.item i s' _ _ hlt' ⟨st1, st2⟩ fun v h' tk hv hst hk => ?_
    refine letGo_listiter hst.1 ?_
    refine back (wpAny_mono (turn _ _ _ i s' v h' tk hlt' hv hJi hst.1 fun b o hb q => hk b o (by simpa using hb) q) (fun _ s₂ h₂ => back (wpAny_mono h₂ (fun f s₃ h₃ => ?_) fun _ _ x => x)) fun _ _ x => x)
    cases f with
    | next => exact ⟨n, by omega, i + 1, by omega, h₃⟩
    | cont => exact ⟨n, by omega, i + 1, by omega, h₃⟩
    | brk => exact h₃
    | ret v => exact h₃
end
end Mine
end

section
open PySem PySem.W PyProof.Rows
set_option Elab.async false
set_option maxRecDepth 100000
set_option maxHeartbeats 400000
set_option linter.unusedVariables false
namespace Mine
abbrev iterObj (oI : Obj) (D : Addr) (i : Nat) : Prop := oI.cls = .type "list_iterator" ∧ oI.data = .fields #[.ref D, .int i 0]
section
variable {prog : Program} {w : World} {A : Around} {E : Value → Shared → Prop} {Q : Flow → Shared → Prop} {s : Shared} {env : Env} {h₀ : Heap} {L : Addr}
end
end Mine
end

section
open PySem PySem.W PyProof.Rows
set_option Elab.async false
set_option maxRecDepth 100000
set_option maxHeartbeats 400000
set_option linter.unusedVariables false
namespace Mine
theorem execs_app {M : Model} {A : Around} {env : Env} {E : Value → Shared → Prop} {b : List Stmt} {Q : Flow → Shared → Prop} {a : List Stmt} {s : Shared}
    (h : wpAny M A (execs a env) (fun f s' => match f with | .next => wpAny M A (execs b env) Q E s' | f => Q f s') E s) : wpAny M A (execs (a ++ b) env) Q E s := by
  intro Γ p hΓ
  have h' := h Γ p hΓ
  clear h
  induction a generalizing p s with
  | nil => exact h' Γ p hΓ
  | cons st a ih =>
    rw [List.cons_append, execs_cons, Sem.wp_bind']
    rw [execs_cons, Sem.wp_bind'] at h'
    refine Sem.wp_mono M Γ _ (fun f p' s' h'' => ?_) (fun _ _ _ h' => h') _ _ h'
    cases f with
    | next => exact ih _ h''
    | _ => exact h''
/-- how a turn of a loop over enumerate(list) stands -/
inductive EnumAt {σ : Type} (h₀ : Heap) (L : Addr) (s : Shared) (led : σ → List (Addr × Obj)) (I : Nat → σ → (Str → Option Value) → Prop) (It : Addr) (oE oI : Obj) (i : Nat) (s' : Shared) : Prop where
  | mk (x : σ) (m : Str → Option Value) (h' : Heap) (tk' : Nat) (e : s' = { s with heap := h', toks := tk' }) (F : Fr h₀ L h' m) (N : News h₀ L h' ((It + 1, oE) :: (It, oI) :: led x)) (hI : I i x m) (ne : ∀ q ∈ led x, q.1 ≠ It ∧ q.1 ≠ It + 1)
/-- the loop's invariant: n turns are left -/
inductive EnumInv {σ : Type} (h₀ : Heap) (L : Addr) (s : Shared) (led : σ → List (Addr × Obj)) (I : Nat → σ → (Str → Option Value) → Prop) (items : List Value) (aS It : Addr) (n : Nat) (s' : Shared) : Prop where
  | mk (i : Nat) (x : σ) (m : Str → Option Value) (h' : Heap) (tk' : Nat) (oE oI : Obj) (hin : i + n = items.length) (e : s' = { s with heap := h', toks := tk' }) (F : Fr h₀ L h' m) (N : News h₀ L h' ((It + 1, oE) :: (It, oI) :: led x)) (hI : I i x m) (ne : ∀ q ∈ led x, q.1 ≠ It ∧ q.1 ≠ It + 1) (st : (∃ old, IsEnum h' (It + 1) It i old) ∧ h'.IsListIter It aS i ∧ h'.IsList aS items.toArray)
section
variable {prog : Program} {w : World} {A : Around} {E : Value → Shared → Prop} {Q : Flow → Shared → Prop} {s : Shared} {h₀ : Heap} {L a : Addr} {cn : Str} {cs : Scope} {ccd : Value} {cl : List (Str × Addr)}
theorem for_enum {σ : Type} {xi xv : Str} {pi pv pt pos : Pos} {ix : Nat} {iter : Expr} {body : List Stmt} {aS : Nat} {items : List Value} {c : Nat} {m₀ : Str → Option Value} (led : σ → List (Addr × Obj)) (I : Nat → σ → (Str → Option Value) → Prop) (x₀ : σ) (hh : A.handled = none)
    (hs : ∀ x, foldedSetIterable iter (envX cn cs L a ccd cl) x = pure x) (hk : cs.kind = .function) (hi : (envX cn cs L a ccd cl).kindOf xi = some .local) (hv : (envX cn cs L a ccd cl).kindOf xv = some .local)
    (hS : ∀ x, (aS, W.listOf items.toArray c) ∈ led x)
    (hit : ∀ Q', wpAny (model prog w) A (call (.type "enumerate") [.ref aS]) Q' E s → wpAny (model prog w) A (eval iter (envX cn cs L a ccd cl)) Q' E s)
    (F : Fr h₀ L s.heap m₀) (N : News h₀ L s.heap (led x₀)) (h0 : I 0 x₀ m₀)
    (turn : ∀ It i v t x m h' tk' oE oI, i < items.length → items[i]? = some v → I i x m → (∀ q ∈ led x₀, q.1 < It) → Fr h₀ L h' (fun y => if y = xv then some v else if y = xi then some (.int i t) else m y) → News h₀ L h' ((It + 1, oE) :: (It, oI) :: led x) → (∀ q ∈ led x, q.1 ≠ It ∧ q.1 ≠ It + 1) →
      wpAny (model prog w) A (execs body (envX cn cs L a ccd cl)) (fun f s₃ => match f with
        | .next | .cont => EnumAt h₀ L s led I It oE oI (i + 1) s₃
        | .brk => Q .next s₃
        | .ret v => Q (.ret v) s₃) E { s with heap := h', toks := tk' })
    (done : ∀ x m h' tk', I items.length x m → Fr h₀ L h' m → News h₀ L h' (led x) → Q .next { s with heap := h', toks := tk' })
    (hE : PassesOwn (model prog w) A (envX cn cs L a ccd cl) E) :
    wpAny (model prog w) A (exec (.For (.Tuple [.Name xi pi, .Name xv pv] ix pt) iter body [] pos) (envX cn cs L a ccd cl)) Q E s := by
  rw [exec_For]
  refine wpAny_bind (wpAny_standAt ?_)
  have hl : s.heap.IsList aS items.toArray := News.isList N (hS x₀)
  have hlt : aS < s.heap.objs.size := Heap.lt_size (N _ (hS x₀)).1
  have hLs : L < s.heap.objs.size := F.ns.lt
  refine wpAny_bind (hit _ (call_enumerate_list hl fun h₁ hEn hIt hsz hk₁ => ?_))
  refine wpAny_bind (wpAny_of_eq (hs _) ?_)
  refine wpAny_bind (wpAny_standAt ?_)
  refine wpAny_bind (wpAny_holding (wpAny_pyIter_enum hEn ?_))
  refine wpAny_runOwn ?_
  have hA : A.mark none = A := by cases A; rfl
  rw [hA]
  generalize hIt8 : s.heap.objs.size = It at *
  have hb : ∀ q ∈ led x₀, q.1 < It := fun q hq => hIt8 ▸ Heap.lt_size (N q hq).1
  have hnew : ∀ b, It ≤ b → h₀.get? b = none := fun b hb' => Heap.get?_none_of_le (Nat.le_trans F.above (Nat.le_trans (Nat.le_of_lt hLs) hb'))
  have W := (WalksT.enumerate (prog := prog) (w := w) (A := A) hh (It + 1) It aS (Nat.succ_ne_self _) (Nat.ne_of_lt (Nat.lt_succ_of_lt hlt)) (Nat.ne_of_lt hlt) items.toArray).toU
  have hsz' : items.toArray.size = items.length := by simp
  rw [hsz'] at W
  refine codeAny_forLoop_any (EnumInv h₀ L s led I items aS It) (fun n s' hI => ?_) items.length ?_
  · obtain ⟨i, x, m, h', tk', oE, oI, hin, rfl, F', N', hI', hne, hst⟩ := hI
    have back : ∀ {α : Type} {t : Sem α} {Q' : α → Shared → Prop} {s''}, wpAny (model prog w) A t Q' E s'' → wpAny (model prog w) A t Q' (notedBy (model prog w) A (envX cn cs L a ccd cl) fun e s' => cameBackBy (model prog w) A (envX cn cs L a ccd cl) E e s') s'' := fun h => wpAny_passesOwn hE h
    have next : ∀ h₂ : Heap, (∀ b o, b ∉ [It + 1, It] → h'.get? b = some o → h₂.get? b = some o) → Fr h₀ L h₂ m ∧ News h₀ L h₂ (led x) := fun h₂ hk₂ => by
      refine ⟨⟨F'.ns.at' fun o e => hk₂ L o ?_ e, fun b o e => hk₂ b o ?_ (F'.keep b o e), F'.above⟩, fun q hq => ⟨hk₂ _ _ ?_ (N' q (.tail _ (.tail _ hq))).1, (N' q (.tail _ (.tail _ hq))).2⟩⟩
      · intro hm
        rcases List.mem_cons.mp hm with e | hm
        · exact Nat.ne_of_lt (Nat.lt_succ_of_lt hLs) e
        · exact Nat.ne_of_lt hLs (List.mem_singleton.mp hm)
      · intro hm
        rcases List.mem_cons.mp hm with e' | hm
        · rw [e', hnew _ (Nat.le_succ _)] at e; cases e
        · rw [List.mem_singleton.mp hm, hnew _ (Nat.le_refl _)] at e; cases e
      · intro hm
        rcases List.mem_cons.mp hm with e' | hm
        · exact (hne q hq).2 e'
        · exact (hne q hq).1 (List.mem_singleton.mp hm)
    cases n with
    | zero =>
      have e : i = items.length := by omega
      subst e
      refine W.done _ _ _ hst fun h₂ tk₂ hk₂ => ?_
      obtain ⟨F₂, N₂⟩ := next h₂ hk₂
      exact wpAny_pure (done x m h₂ tk₂ hI' F₂ N₂)
    | succ n =>
      have hlt' : i < items.length := by omega
      refine W.item i _ _ _ hlt' hst fun Tp vals h₂ tk₂ hP hT hM hk₂ => ?_
      obtain ⟨t, v, hv', rfl⟩ := hP
      have hv'' : items[i]? = some v := by simpa using hv'
      refine W.go _ _ _ i Tp _ _ _ hM fun h₃ hst₃ hk₃ => ?_
      have hT₃ : IsTup h₃ Tp #[.int i t, v] := by
        obtain ⟨o, ho, hr⟩ := hT
        exact ⟨o, hk₃ _ _ (W.apart i Tp _ hM) ho, hr⟩
      obtain ⟨⟨old, hE₃⟩, hI₃, hL₃⟩ := hst₃
      obtain ⟨oI', hoI, hoI2⟩ := id hI₃
      have hE₃' : ∃ oE', h₃.get? (It + 1) = some oE' := ⟨_, hE₃⟩
      obtain ⟨oE', hoE⟩ := hE₃'
      obtain ⟨F₃, N₃⟩ := next h₃ fun b o hb e => hk₃ b o hb (hk₂ b o hb e)
      have N₄ : News h₀ L h₃ ((It + 1, oE') :: (It, oI') :: led x) := fun q hq => by
        rcases List.mem_cons.mp hq with rfl | hq
        · exact ⟨hoE, Nat.ne_of_gt (Nat.lt_succ_of_lt hLs), hnew _ (Nat.le_succ _)⟩
        · rcases List.mem_cons.mp hq with rfl | hq
          · exact ⟨hoI, Nat.ne_of_gt hLs, hnew _ (Nat.le_refl _)⟩
          · exact N₃ q hq
      refine back (unpackN_ (s := { s with heap := h₃, toks := tk₂ }) F₃ N₄ hT₃ hh rfl rfl fun h₄ F₄ N₅ => ?_)
      refine assignInOrder_cons (wpAny_assign_Name (storeX_L F₄ N₅ (fun h₅ F₅ N₆ => ?_) hk hi))
      refine assignInOrder_cons (wpAny_assign_Name (storeX_L F₅ N₆ (fun h₆ F₆ N₇ => ?_) hk hv))
      refine assignInOrder_nil ?_
      refine back (wpAny_mono (turn It i v t x m h₆ _ oE' oI' hlt' hv'' hI' hb F₆ N₇ hne) (fun f s₃ h₃' => ?_) fun _ _ e => e)
      have fin : EnumAt h₀ L s led I It oE' oI' (i + 1) s₃ → ∃ m, m < n + 1 ∧ EnumInv h₀ L s led I items aS It m s₃ := by
        rintro ⟨x', m', h₇, tk₇, rfl, F₇, N₈, hI₇, hne'⟩
        refine ⟨n, Nat.lt_succ_self _, i + 1, x', m', h₇, tk₇, oE', oI', by omega, rfl, F₇, N₈, hI₇, hne', ?_, ?_, News.isList (fun q hq => N₈ q (.tail _ (.tail _ hq))) (hS x')⟩
        · refine ⟨old, ?_⟩
          have e1 := (N₈ _ (.head _)).1
          rw [hE₃] at hoE
          cases hoE
          exact e1
        · exact ⟨oI', (N₈ _ (.tail _ (.head _))).1, hoI2⟩
      cases f with
      | next => exact fin h₃'
      | cont => exact fin h₃'
      | brk => exact h₃'
      | ret v => exact h₃'
  · have N₁ : News h₀ L h₁ (led x₀) := N.grown hk₁
    obtain ⟨oI, hoI, hoI2⟩ := id hIt
    have hE₃' : ∃ oE', h₁.get? (It + 1) = some oE' := ⟨_, hEn⟩
    obtain ⟨oE, hoE⟩ := hE₃'
    refine ⟨0, x₀, m₀, h₁, s.toks, oE, oI, by omega, rfl, F.keeps hk₁, fun q hq => ?_, h0, fun q hq => ⟨Nat.ne_of_lt (hb q hq), Nat.ne_of_lt (Nat.lt_succ_of_lt (hb q hq))⟩, ⟨⟨_, hEn⟩, hIt, hl.at fun o e => hk₁ _ o e⟩⟩
    rcases List.mem_cons.mp hq with rfl | hq
    · exact ⟨hoE, Nat.ne_of_gt (Nat.lt_succ_of_lt hLs), hnew _ (Nat.le_succ _)⟩
    · rcases List.mem_cons.mp hq with rfl | hq
      · exact ⟨hoI, Nat.ne_of_gt hLs, hnew _ (Nat.le_refl _)⟩
      · exact N₁ q hq
end
end Mine
end

section
open PySem PySem.W PyProof.Rows
set_option Elab.async false
set_option linter.unusedVariables false
namespace Mine
/-- the strict part of a total order -/
structure Strict {β : Type} (lt : β → β → Bool) : Prop where
  tr : ∀ a b c, lt a b = false → lt b c = false → lt a c = false
  as : ∀ a b, lt a b = true → lt b a = false
section
variable {α β : Type} {lt : β → β → Bool} {key : α → β}
def tst (lt : β → β → Bool) (hand : Bool) (k y : β) : Bool := if hand then !lt y k else lt k y
def SortedBy (lt : β → β → Bool) (key : α → β) (l : List α) : Prop := l.Pairwise fun a b => lt (key b) (key a) = false
theorem tst_mono (S : Strict lt) {hand : Bool} {ka kb y : β} (h : lt kb ka = false) (hb : tst lt hand kb y = true) : tst lt hand ka y = true := by
  cases hand with
  | false =>
    simp only [tst, Bool.false_eq_true, if_false] at hb ⊢
    cases q : lt ka y with
    | true => rfl
    | false => rw [S.tr _ _ _ h q] at hb; cases hb
  | true =>
    simp only [tst, if_true] at hb ⊢
    rw [S.tr y kb ka (by simpa using hb) h]; rfl
theorem sorted_get (x : α) : ∀ {l : List α}, SortedBy lt key l → ∀ i j : Nat, i < j → j < l.length → lt (key (l.getD j x)) (key (l.getD i x)) = false := by
  intro l h i j hij hj
  have := List.pairwise_iff_getElem.mp h i j (Nat.lt_trans hij hj) hj hij
  rw [List.getD_eq_getElem?_getD, List.getD_eq_getElem?_getD, List.getElem?_eq_getElem hj, List.getElem?_eq_getElem (Nat.lt_trans hij hj)]
  exact this
theorem mono_of_sorted (S : Strict lt) (x : α) {l : List α} (h : SortedBy lt key l) (hand : Bool) (y : β) : ∀ i j : Nat, i ≤ j → j < l.length → tst lt hand (key (l.getD j x)) y = true → tst lt hand (key (l.getD i x)) y = true := by
  intro i j hij hj hb
  rcases Nat.lt_or_eq_of_le hij with q | rfl
  · exact tst_mono S (sorted_get x h i j q hj) hb
  · exact hb
end
/-- a test that holds up to k and no further -/
def SplitAt (c : Nat → Bool) (n k : Nat) : Prop := k ≤ n ∧ (∀ i, i < k → c i = true) ∧ (∀ i, k ≤ i → i < n → c i = false)
theorem cnt_split {c : Nat → Bool} {n k : Nat} (h : SplitAt c n k) : cnt c n = k := by
  obtain ⟨hk, h1, h2⟩ := h
  induction n with
  | zero => rw [cnt_zero]; lia
  | succ n ih =>
    rw [cnt_succ]
    by_cases q : k ≤ n
    · rw [ih q fun i hi hn => h2 i hi (by lia), h2 n q (by lia)]; simp
    · have e : k = n + 1 := by lia
      subst e
      have : cnt c n = n := by
        clear ih h2 hk q
        have : ∀ m, m ≤ n → cnt c m = m := by
          intro m
          induction m with
          | zero => intro _; rfl
          | succ m ih => intro hm; rw [cnt_succ, ih (by lia), h1 m (by lia)]; simp
        exact this n (Nat.le_refl _)
      rw [this, h1 n (by lia)]; simp
theorem split_of_mono {c : Nat → Bool} {n : Nat} (hm : ∀ i j : Nat, i ≤ j → j < n → c j = true → c i = true) : ∃ k, SplitAt c n k := by
  induction n with
  | zero => exact ⟨0, Nat.le_refl _, fun i h => absurd h (Nat.not_lt_zero _), fun i _ h => absurd h (Nat.not_lt_zero _)⟩
  | succ n ih =>
    obtain ⟨k, hk, h1, h2⟩ := ih fun i j hij hj => hm i j hij (by lia)
    cases q : c n with
    | true => exact ⟨n + 1, Nat.le_refl _, fun i hi => hm i n (by lia) (by lia) q, fun i h h' => by lia⟩
    | false =>
      refine ⟨k, by lia, h1, fun i h h' => ?_⟩
      rcases Nat.lt_or_eq_of_le (Nat.le_of_lt_succ h') with z | rfl
      · exact h2 i h z
      · exact q
theorem split_cnt {c : Nat → Bool} {n : Nat} (hm : ∀ i j : Nat, i ≤ j → j < n → c j = true → c i = true) : SplitAt c n (cnt c n) := by
  obtain ⟨k, h⟩ := split_of_mono hm
  rw [cnt_split h]; exact h
end Mine
end

section
open PySem PySem.W PyProof.Rows
set_option Elab.async false
set_option linter.unusedVariables false
namespace Mine
theorem bis_clamp {c : Nat → Bool} {n k : Nat} {lo hi r : Int} (h : SplitAt c n k) (h0 : 0 ≤ lo) (hlh : lo ≤ hi) (hn : hi ≤ n) (R : BisRes lo hi c r) : r = min (max (k : Int) lo) hi := by
  obtain ⟨hk, h1, h2⟩ := h
  obtain ⟨r1, r2, r3, r4⟩ := R
  rcases Int.lt_trichotomy r (min (max (k : Int) lo) hi) with q | q | q
  · exfalso
    have a1 := r4 r.toNat (by omega) (by omega)
    have a2 := h1 r.toNat (by omega)
    rw [a1] at a2; cases a2
  · exact q
  · exfalso
    have hk' : (k : Int) < r := by omega
    have a1 := r3 (r - 1).toNat (by omega) (by omega)
    have a2 := h2 (r - 1).toNat (by omega) (by omega)
    rw [a1] at a2; cases a2
theorem bis_whole {c : Nat → Bool} {n k : Nat} {r : Int} (h : SplitAt c n k) (R : BisRes 0 n c r) : r = k := by
  have := bis_clamp h (Int.le_refl 0) (by omega) (Int.le_refl _) R
  have := h.1
  omega
theorem strict_int : Strict (fun a b : Int => decide (a < b)) := ⟨fun a b c h1 h2 => by
  simp only [decide_eq_false_iff_not] at *; omega, fun a b h => by simp only [decide_eq_true_eq, decide_eq_false_iff_not] at *; omega⟩
theorem strict_str : Strict StrLt := ⟨fun a b c h1 h2 => by
  simp only [StrLt, decide_eq_false_iff_not] at *
  exact List.not_lt.mpr (List.le_trans (List.not_lt.mp h2) (List.not_lt.mp h1)), fun a b h => by
  simp only [StrLt, decide_eq_true_eq, decide_eq_false_iff_not] at *
  exact List.lt_asymm h⟩
section
variable {α β : Type} {lt : β → β → Bool} {key : α → β}
theorem sorted_ins (S : Strict lt) (x : α) {l : List α} (h : SortedBy lt key l) (hand : Bool) {y : α} {k : Nat} (hk : SplitAt (fun i => tst lt hand (key (l.getD i x)) (key y)) l.length k) : SortedBy lt key (ins l k y) := by
  have ht : ∀ a ∈ l.take k, tst lt hand (key a) (key y) = true := fun a ha => by
    obtain ⟨i, hi, e⟩ := List.mem_iff_getElem.mp ha
    have hi' : i < k := by rw [List.length_take] at hi; omega
    have := hk.2.1 i hi'
    rw [List.getElem_take] at e
    dsimp only at this
    rw [List.getD_eq_getElem?_getD, List.getElem?_eq_getElem (by have := hk.1; omega)] at this
    rw [← e]; exact this
  have hd : ∀ a ∈ l.drop k, tst lt hand (key a) (key y) = false := fun a ha => by
    obtain ⟨i, hi, e⟩ := List.mem_iff_getElem.mp ha
    rw [List.length_drop] at hi
    have := hk.2.2 (k + i) (by omega) (by omega)
    rw [List.getElem_drop] at e
    dsimp only at this
    rw [List.getD_eq_getElem?_getD, List.getElem?_eq_getElem (by omega)] at this
    rw [← e]; exact this
  have below : ∀ a, tst lt hand (key a) (key y) = true → lt (key y) (key a) = false := fun a q => by
    cases hand with
    | false => exact S.as _ _ (by simpa [tst] using q)
    | true => simpa [tst] using q
  have above : ∀ a, tst lt hand (key a) (key y) = false → lt (key a) (key y) = false := fun a q => by
    cases hand with
    | false => simpa [tst] using q
    | true => exact S.as _ _ (by simpa [tst] using q)
  unfold SortedBy ins
  rw [Int.toNat_natCast]
  have hsp := List.take_append_drop k l
  unfold SortedBy at h
  rw [← hsp, List.pairwise_append] at h
  rw [List.pairwise_append]
  refine ⟨h.1, List.pairwise_cons.mpr ⟨fun a ha => above a (hd a ha), h.2.1⟩, fun a ha b hb => ?_⟩
  rcases List.mem_cons.mp hb with rfl | hb
  · exact below a (ht a ha)
  · exact h.2.2 a ha b hb
end
theorem restored_append (tag : Str) (l l' : List Str) : restored tag (l ++ l') = restored tag l ++ restored tag l' := by
  unfold restored; rw [List.filter_append, List.map_append]
theorem restored_ins (tag : Str) (l : List Str) (k : Nat) (y : Str) : restored tag (ins l k y) = if onSide tag y then ins (restored tag l) (restored tag (l.take k)).length (Txt.slice y (some 2) none) else restored tag l := by
  have e : restored tag l = restored tag (l.take k) ++ restored tag (l.drop k) := by rw [← restored_append, List.take_append_drop]
  have e1 : restored tag (y :: l.drop k) = (if onSide tag y then [Txt.slice y (some 2) none] else []) ++ restored tag (l.drop k) := by
    unfold restored
    by_cases q : onSide tag y = true
    · rw [List.filter_cons_of_pos q, if_pos q]; rfl
    · rw [List.filter_cons_of_neg q, if_neg q]; rfl
  unfold ins
  rw [Int.toNat_natCast, restored_append, e1]
  by_cases q : onSide tag y = true
  · rw [if_pos q, if_pos q, Int.toNat_natCast, e, List.take_left, List.drop_left]; rfl
  · rw [if_neg q, if_neg q, e]; rfl
end Mine
end

section
open PySem PySem.W PyProof.Rows
set_option Elab.async false
set_option linter.unusedVariables false
namespace Mine
abbrev letterOf (l : Str) : Str := Txt.slice l (some 2) (some 3)
abbrev restOf (l : Str) : Str := Txt.slice l (some 2) none
abbrev firstOf (l : Str) : Str := Txt.slice l none (some 1)
theorem split_take {α : Type} {t : α → Bool} (x : α) {l : List α} {k : Nat} (hk : SplitAt (fun i => t (l.getD i x)) l.length k) : (∀ a ∈ l.take k, t a = true) ∧ (∀ a ∈ l.drop k, t a = false) := by
  refine ⟨fun a ha => ?_, fun a ha => ?_⟩
  · obtain ⟨i, hi, e⟩ := List.mem_iff_getElem.mp ha
    have hi' : i < k := by rw [List.length_take] at hi; lia
    have := hk.2.1 i hi'
    rw [List.getElem_take] at e
    dsimp only at this
    rw [List.getD_eq_getElem?_getD, List.getElem?_eq_getElem (by have := hk.1; lia)] at this
    rw [← e]; exact this
  · obtain ⟨i, hi, e⟩ := List.mem_iff_getElem.mp ha
    rw [List.length_drop] at hi
    have := hk.2.2 (k + i) (by lia) (by lia)
    rw [List.getElem_drop] at e
    dsimp only at this
    rw [List.getD_eq_getElem?_getD, List.getElem?_eq_getElem (by lia)] at this
    rw [← e]; exact this
theorem split_append {α : Type} {t : α → Bool} (x : α) {l l' : List α} (h1 : ∀ a ∈ l, t a = true) (h2 : ∀ a ∈ l', t a = false) : SplitAt (fun i => t ((l ++ l').getD i x)) (l ++ l').length l.length := by
  refine ⟨by rw [List.length_append]; lia, fun i hi => ?_, fun i hi hn => ?_⟩
  · dsimp only
    rw [List.getD_eq_getElem?_getD, List.getElem?_append_left hi, List.getElem?_eq_getElem hi]
    exact h1 _ (List.getElem_mem _)
  · dsimp only
    rw [List.length_append] at hn
    have : i - l.length < l'.length := by lia
    rw [List.getD_eq_getElem?_getD, List.getElem?_append_right hi, List.getElem?_eq_getElem this]
    exact h2 _ (List.getElem_mem _)
theorem side_split (hfr : ∀ l : Str, firstOf (restOf l) = letterOf l) (tag : Str) (hand : Bool) (y : Str) {l : List Str} {k : Nat} (hk : SplitAt (fun i => tst StrLt hand (letterOf (l.getD i Str.empty)) y) l.length k) :
    SplitAt (fun i => tst StrLt hand (firstOf ((restored tag l).getD i Str.empty)) y) (restored tag l).length (restored tag (l.take k)).length := by
  obtain ⟨h1, h2⟩ := split_take (t := fun a => tst StrLt hand (letterOf a) y) Str.empty hk
  have e : restored tag l = restored tag (l.take k) ++ restored tag (l.drop k) := by rw [← restored_append, List.take_append_drop]
  have mem : ∀ (m : List Str) a, a ∈ restored tag m → ∃ b ∈ m, a = restOf b := fun m a ha => by
    obtain ⟨b, hb, q⟩ := List.mem_map.mp ha
    exact ⟨b, (List.mem_filter.mp hb).1, q.symm⟩
  rw [e]
  refine split_append (t := fun a => tst StrLt hand (firstOf a) y) Str.empty (fun a ha => ?_) (fun a ha => ?_)
  · obtain ⟨b, hb, rfl⟩ := mem _ a ha
    show tst StrLt hand (firstOf (restOf b)) y = true
    rw [hfr]; exact h1 b hb
  · obtain ⟨b, hb, rfl⟩ := mem _ a ha
    show tst StrLt hand (firstOf (restOf b)) y = false
    rw [hfr]; exact h2 b hb
theorem restored_take (tag : Str) (l : List Str) (k : Nat) : restored tag (l.take k) = (restored tag l).take (restored tag (l.take k)).length := by
  have e : restored tag l = restored tag (l.take k) ++ restored tag (l.drop k) := by rw [← restored_append, List.take_append_drop]
  rw [e, List.take_left]
end Mine
end

section
open PySem PySem.W PyProof.Rows PySem.Builtin PySem.Builtin.Str
set_option Elab.async false
set_option linter.unusedVariables false
namespace Mine
theorem idx_ss (a b n : Nat) : strSliceIndices (some (a : Int)) (some (b : Int)) 1 n = strSliceIndices (some ((min a n : Nat) : Int)) (some ((min b n : Nat) : Int)) 1 n := by
  have h1 : ¬ ((a : Int) < 0) := by lia
  have h2 : ¬ ((b : Int) < 0) := by lia
  have h3 : ¬ (((min a n : Nat) : Int) < 0) := by lia
  have h4 : ¬ (((min b n : Nat) : Int) < 0) := by lia
  have e1 : max (0 : Int) (min (a : Int) (n : Int)) = max (0 : Int) (min ((min a n : Nat) : Int) (n : Int)) := by lia
  have e2 : max (0 : Int) (min (b : Int) (n : Int)) = max (0 : Int) (min ((min b n : Nat) : Int) (n : Int)) := by lia
  simp only [strSliceIndices, h1, h2, h3, h4, if_false, e1, e2, show ((1 : Int) > 0) = True from by simp, if_true]
theorem idx_sn (a n : Nat) : strSliceIndices (some (a : Int)) none 1 n = strSliceIndices (some (a : Int)) (some (n : Int)) 1 n := by
  have h2 : ¬ ((n : Int) < 0) := by lia
  have e2 : max (0 : Int) (min (n : Int) (n : Int)) = n := by lia
  simp only [strSliceIndices, h2, if_false, e2, show ((1 : Int) > 0) = True from by simp, if_true]
theorem idx_ns (b n : Nat) : strSliceIndices none (some (b : Int)) 1 n = strSliceIndices (some ((0 : Nat) : Int)) (some (b : Int)) 1 n := by
  have h2 : ¬ (((0 : Nat) : Int) < 0) := by lia
  have e2 : max (0 : Int) (min ((0 : Nat) : Int) (n : Int)) = 0 := by lia
  simp only [strSliceIndices, h2, if_false, e2, show ((1 : Int) > 0) = True from by simp, if_true]
theorem slice_list_ss (x : PySem.Str) {a b : Nat} (hab : a ≤ b) : (Txt.slice x (some (a : Int)) (some (b : Int))).cps.toList = (x.cps.toList.take b).drop a := by
  have hl : x.cps.toList.length = x.length := by simp [Str.length]
  have e : (strSliceIndices (some (a : Int)) (some (b : Int)) 1 x.length).filterMap (x.cps[·]?) = (x.cps.toList.take b).drop a := by
    rw [idx_ss, StrLaws.sliced_plain x (by lia) (by lia), List.drop_take]
    by_cases q : a ≤ x.length
    · rw [Nat.min_eq_left q]
      by_cases q2 : b ≤ x.length
      · rw [Nat.min_eq_left q2]
      · rw [Nat.min_eq_right (by lia), List.take_of_length_le (by rw [List.length_drop]; lia), List.take_of_length_le (by rw [List.length_drop]; lia)]
    · rw [Nat.min_eq_right (by lia), List.drop_of_length_le (by lia), List.drop_of_length_le (by lia)]
      simp
  unfold Txt.slice
  split
  · rename_i h
    have hn : (strSliceIndices (some (a : Int)) (some (b : Int)) 1 x.length).length = x.length := by simpa using h
    rw [idx_ss, StrLaws.strSliceIndices_plain (by lia) (by lia), List.length_map, List.length_range] at hn
    by_cases q : x.length = 0
    · have : x.cps.toList = [] := List.length_eq_zero_iff.mp (by lia)
      rw [this]; simp
    · have ha : a = 0 := by lia
      have hb : x.length ≤ b := by lia
      rw [ha, List.drop_zero, List.take_of_length_le (by lia)]
  · exact e
theorem slice_list_sn (x : PySem.Str) (a : Nat) : (Txt.slice x (some (a : Int)) none).cps.toList = x.cps.toList.drop a := by
  have hl : x.cps.toList.length = x.length := by simp [Str.length]
  by_cases q : a ≤ x.length
  · have : Txt.slice x (some (a : Int)) none = Txt.slice x (some (a : Int)) (some (x.length : Int)) := by unfold Txt.slice; rw [idx_sn]
    rw [this, slice_list_ss x q, List.take_of_length_le (by lia)]
  · have : Txt.slice x (some (a : Int)) none = Txt.slice x (some (a : Int)) (some (a : Int)) := by
      unfold Txt.slice
      rw [idx_sn, idx_ss a x.length, idx_ss a a, Nat.min_eq_right (by lia), Nat.min_self]
    rw [this, slice_list_ss x (Nat.le_refl _), List.drop_of_length_le (by rw [List.length_take]; lia), List.drop_of_length_le (by lia)]
theorem slice_list_ns (x : PySem.Str) (b : Nat) : (Txt.slice x none (some (b : Int))).cps.toList = x.cps.toList.take b := by
  have : Txt.slice x none (some (b : Int)) = Txt.slice x (some ((0 : Nat) : Int)) (some (b : Int)) := by unfold Txt.slice; rw [idx_ns]
  rw [this, slice_list_ss x (Nat.zero_le _), List.drop_zero]
theorem str_ext {x y : PySem.Str} (h : x.cps.toList = y.cps.toList) : x = y := by
  obtain ⟨⟨a⟩⟩ := x
  obtain ⟨⟨b⟩⟩ := y
  cases h
  rfl
theorem first_rest (l : PySem.Str) : firstOf (restOf l) = letterOf l := by
  apply str_ext
  have e1 := slice_list_ns (restOf l) 1
  have e2 := slice_list_sn l 2
  have e3 := slice_list_ss l (a := 2) (b := 3) (by decide)
  show (Txt.slice (restOf l) none (some ((1 : Nat) : Int))).cps.toList = (Txt.slice l (some ((2 : Nat) : Int)) (some ((3 : Nat) : Int))).cps.toList
  rw [e1, e3]
  show List.take 1 (Txt.slice l (some ((2 : Nat) : Int)) none).cps.toList = _
  rw [e2, List.drop_take]
end Mine
end

section
open PySem PySem.W PyProof.Rows
set_option Elab.async false
set_option linter.unusedVariables false
namespace Mine
theorem rest_app {c r : Str} (hc : c.length = 2) : restOf (c ++ r) = r := by
  apply str_ext
  have := slice_list_sn (c ++ r) 2
  show (Txt.slice (c ++ r) (some ((2 : Nat) : Int)) none).cps.toList = _
  rw [this, Str.cps_append, Array.toList_append]
  have hl : c.cps.toList.length = 2 := by simpa [Str.length] using hc
  rw [← hl, List.drop_left]
theorem code_app {c r : Str} (hc : c.length = 2) : Txt.slice (c ++ r) none (some 2) = c := by
  apply str_ext
  have := slice_list_ns (c ++ r) 2
  show (Txt.slice (c ++ r) none (some ((2 : Nat) : Int))).cps.toList = _
  rw [this, Str.cps_append, Array.toList_append]
  have hl : c.cps.toList.length = 2 := by simpa [Str.length] using hc
  rw [← hl, List.take_left]
theorem letter_app {c r : Str} (hc : c.length = 2) : letterOf (c ++ r) = firstOf r := by
  rw [← first_rest, rest_app hc]
theorem first_app {c r : Str} (hc : c.length = 1) : firstOf (c ++ r) = c := by
  apply str_ext
  have := slice_list_ns (c ++ r) 1
  show (Txt.slice (c ++ r) none (some ((1 : Nat) : Int))).cps.toList = _
  rw [this, Str.cps_append, Array.toList_append]
  have hl : c.cps.toList.length = 1 := by simpa [Str.length] using hc
  rw [← hl, List.take_left]
theorem onSide_app (tag : Str) {c r : Str} (hc : c.length = 2) : onSide tag (c ++ r) = ([Str.ofString "  ", tag] : List Str).any (· == c) := by
  unfold onSide; rw [code_app hc]
/-- the state of the rows while the law lays lines -/
structure Rows (T M P : List Str) (N : List Nm) : Prop where
  minus : M = restored (Str.ofString "- ") T
  plus : P = restored (Str.ofString "+ ") T
  sorted : SortedBy StrLt letterOf T
  ordered : SortedBy (fun a b : Int => decide (a < b)) Nm.val N
  short : ∀ l ∈ T, l.length ≤ 100
theorem restored_len {tag : Str} {T : List Str} (h : ∀ l ∈ T, l.length ≤ 100) : ∀ l ∈ restored tag T, l.length ≤ 100 := fun l hl => by
  obtain ⟨b, hb, rfl⟩ := List.mem_map.mp hl
  exact Nat.le_trans (Txt.slice_le b _ _) (h b (List.mem_filter.mp hb).1)
theorem ins_mem {α : Type} {l : List α} {r : Int} {y a : α} (h : a ∈ ins l r y) : a = y ∨ a ∈ l := by
  rcases List.mem_append.mp h with h | h
  · exact .inr (List.mem_of_mem_take h)
  · rcases List.mem_cons.mp h with h | h
    · exact .inl h
    · exact .inr (List.mem_of_mem_drop h)
theorem ins_length {α : Type} (l : List α) (r : Int) (y : α) : (ins l r y).length = l.length + 1 := by
  unfold ins
  rw [List.length_append, List.length_cons, List.length_take, List.length_drop]
  lia
/-- where a hand lays -/
def atS (hand : Bool) (T : List Str) (y : Str) : Nat := cnt (fun i => tst StrLt hand (letterOf (T.getD i Str.empty)) y) T.length
def atN (hand : Bool) (N : List Nm) (y : Nm) : Nat := cnt (fun i => tst (fun a b : Int => decide (a < b)) hand (N.getD i (.i 0)).val y.val) N.length
theorem atS_split (hand : Bool) {T : List Str} (y : Str) (h : SortedBy StrLt letterOf T) : SplitAt (fun i => tst StrLt hand (letterOf (T.getD i Str.empty)) y) T.length (atS hand T y) :=
  split_cnt (mono_of_sorted strict_str Str.empty h hand y)
theorem atN_split (hand : Bool) {N : List Nm} (y : Nm) (h : SortedBy (fun a b : Int => decide (a < b)) Nm.val N) : SplitAt (fun i => tst (fun a b : Int => decide (a < b)) hand (N.getD i (.i 0)).val y.val) N.length (atN hand N y) :=
  split_cnt (mono_of_sorted strict_int (Nm.i 0) h hand y.val)
theorem Rows.lay {T M P : List Str} {N : List Nm} (R : Rows T M P N) (hand : Bool) {line : Str} (hl : line.length ≤ 100) (mark : Nm) :
    Rows (ins T (atS hand T (letterOf line)) line) (if onSide (Str.ofString "- ") line then ins M (restored (Str.ofString "- ") (T.take (atS hand T (letterOf line)))).length (restOf line) else M)
      (if onSide (Str.ofString "+ ") line then ins P (restored (Str.ofString "+ ") (T.take (atS hand T (letterOf line)))).length (restOf line) else P) (ins N (atN hand N mark) mark) := by
  refine ⟨?_, ?_, sorted_ins strict_str Str.empty R.sorted hand (atS_split hand _ R.sorted), sorted_ins strict_int (Nm.i 0) R.ordered hand (atN_split hand _ R.ordered), fun l h => ?_⟩
  · rw [restored_ins, R.minus]
  · rw [restored_ins, R.plus]
  · rcases ins_mem h with rfl | h
    · exact hl
    · exact R.short l h
end Mine
end

section
open PySem PySem.W PyProof.Rows
set_option Elab.async false
set_option linter.unusedVariables false
namespace Mine
def findA (hand : Bool) : Addr := if hand then 39 else 57
def putA (hand : Bool) : Addr := if hand then 30 else 48
def handI (hand : Bool) : Int := if hand then 1 else 0
theorem Spec.to {w : World} {k : Nat} {f : Addr} {vs : List Value} {kw : List (Str × Value)} {news news' : List (Addr × Obj)} {res res' : Value → Prop} (S : Spec w k f vs kw news news' res) (h : ∀ v, res v → res' v) : Spec w k f vs kw news news' res' := by
  intro p loose mean mg mb dp un gd cn cs a ccd cl outer A₀ base h₀ L m s Q E h1 h2 h3 h4 h5 h6 h7 h8 h9
  exact S p loose mean mg mb dp un gd cn cs a ccd cl outer A₀ base h₀ L m s Q E h1 h2 h3 h4 h5 h6 h7 h8 fun v h' tk' hr => h9 v h' tk' (h v hr)
theorem SpecR.to {w : World} {k : Nat} {f : Addr} {vs : List Value} {kw : List (Str × Value)} {news : List (Addr × Obj)} {news' : Int → List (Addr × Obj)} {res : Int → Value → Prop} (S : SpecR w k f vs kw news news' res) {K : Int} (h : ∀ i v, res i v → i = K ∧ v = .none) : Spec w k f vs kw news (news' K) (fun v => v = .none) := by
  intro p loose mean mg mb dp un gd cn cs a ccd cl outer A₀ base h₀ L m s Q E h1 h2 h3 h4 h5 h6 h7 h8 h9
  refine S p loose mean mg mb dp un gd cn cs a ccd cl outer A₀ base h₀ L m s Q E h1 h2 h3 h4 h5 h6 h7 h8 fun i v h' tk' hr F N => ?_
  obtain ⟨rfl, hv⟩ := h i v hr
  exact h9 v h' tk' hv F N
theorem SplitAt.mono {c : Nat → Bool} {n k : Nat} (h : SplitAt c n k) : ∀ i j : Nat, i ≤ j → j < n → c j = true → c i = true := fun i j hij hj hc => by
  by_cases q : j < k
  · exact h.2.1 i (by omega)
  · rw [h.2.2 j (by omega) hj] at hc; cases hc
abbrev ltI (a b : Int) : Bool := decide (a < b)
abbrev tS (hand : Bool) (lines : List Str) (x : Str) (i : Nat) : Bool := tst StrLt hand (letterOf (lines.getD i Str.empty)) x
abbrev tF (hand : Bool) (lines : List Str) (x : Str) (i : Nat) : Bool := tst StrLt hand (firstOf (lines.getD i Str.empty)) x
abbrev tW (hand : Bool) (lines : List Str) (x : Str) (i : Nat) : Bool := tst StrLt hand (lines.getD i Str.empty) x
abbrev tN (hand : Bool) (ns : List Nm) (x : Nm) (i : Nat) : Bool := tst (fun a b : Int => decide (a < b)) hand (ns.getD i (.i 0)).val x.val
/-- the nearer bound, or the count -/
abbrev clamp (k : Nat) (lo hi : Int) : Int := min (max (k : Int) lo) hi
section
variable {w : World} {d : Addr} {its : List Value} {n k : Nat} {news : List (Addr × Obj)} {lines : List Str} {ns : List Nm} {lo hi : Int} {g : Obj → List (Addr × Obj)}
theorem find_64 (hand : Bool) {f : Addr} (hf : f = findA hand) (x : Str) (tx : Tok) (hS : StrsAre its lines) (hlen : ∀ l ∈ lines, l.length ≤ 100) (hmem : (d, W.listOf its.toArray n) ∈ news) (hsz : lines.length < 1000) (hk : SplitAt (tS hand lines x) lines.length k) :
    Spec w 3 f [.ref d, .str x tx] [(Str.ofString "key", .ref 64)] news news (fun v => ∃ t, v = .int k t) := by
  subst hf
  cases hand
  · exact (bis_l64_1 x tx lines hS hlen hmem hsz _ (fun i _ => rfl) hk.mono).to fun v ⟨r, t, e, R⟩ => ⟨t, by rw [e, bis_whole hk R]⟩
  · exact (bis_r64_1 x tx lines hS hlen hmem hsz _ (fun i _ => rfl) hk.mono).to fun v ⟨r, t, e, R⟩ => ⟨t, by rw [e, bis_whole hk R]⟩
theorem find_64b (hand : Bool) {f : Addr} (hf : f = findA hand) (x : Str) (tx : Tok) (tl th : Tok) (hS : StrsAre its lines) (hlen : ∀ l ∈ lines, l.length ≤ 100) (hmem : (d, W.listOf its.toArray n) ∈ news) (hsz : lines.length < 1000) (h0 : 0 ≤ lo) (hlh : lo ≤ hi) (hhi : hi ≤ lines.length) (hk : SplitAt (tS hand lines x) lines.length k) :
    Spec w 3 f [.ref d, .str x tx, .int lo tl, .int hi th] [(Str.ofString "key", .ref 64)] news news (fun v => ∃ t, v = .int (clamp k lo hi) t) := by
  subst hf
  cases hand
  · exact (bis_l64_2 x tx lo hi tl th lines hS hlen hmem hsz h0 hlh hhi _ (fun i _ => rfl) hk.mono).to fun v ⟨r, t, e, R⟩ => ⟨t, by rw [e, bis_clamp hk h0 hlh hhi R]⟩
  · exact (bis_r64_2 x tx lo hi tl th lines hS hlen hmem hsz h0 hlh hhi _ (fun i _ => rfl) hk.mono).to fun v ⟨r, t, e, R⟩ => ⟨t, by rw [e, bis_clamp hk h0 hlh hhi R]⟩
theorem find_71 (hand : Bool) {f : Addr} (hf : f = findA hand) (x : Str) (tx : Tok) (hS : StrsAre its lines) (hlen : ∀ l ∈ lines, l.length ≤ 100) (hmem : (d, W.listOf its.toArray n) ∈ news) (hsz : lines.length < 1000) (hk : SplitAt (tF hand lines x) lines.length k) :
    Spec w 3 f [.ref d, .str x tx] [(Str.ofString "key", .ref 71)] news news (fun v => ∃ t, v = .int k t) := by
  subst hf
  cases hand
  · exact (bis_l71_1 x tx lines hS hlen hmem hsz _ (fun i _ => rfl) hk.mono).to fun v ⟨r, t, e, R⟩ => ⟨t, by rw [e, bis_whole hk R]⟩
  · exact (bis_r71_1 x tx lines hS hlen hmem hsz _ (fun i _ => rfl) hk.mono).to fun v ⟨r, t, e, R⟩ => ⟨t, by rw [e, bis_whole hk R]⟩
theorem find_n (hand : Bool) {f : Addr} (hf : f = findA hand) {xv : Value} {xn : Nm} (hx : NmIs xv xn) (hS : NmsAre its ns) (hmem : (d, W.listOf its.toArray n) ∈ news) (hsz : ns.length < 1000) (hk : SplitAt (tN hand ns xn) ns.length k) :
    Spec w 3 f [.ref d, xv] [] news news (fun v => ∃ t, v = .int k t) := by
  subst hf
  cases hand
  · exact (bis_ln_1 xv xn hx ns hS hmem hsz _ (fun i _ => rfl) hk.mono).to fun v ⟨r, t, e, R⟩ => ⟨t, by rw [e, bis_whole hk R]⟩
  · exact (bis_rn_1 xv xn hx ns hS hmem hsz _ (fun i _ => rfl) hk.mono).to fun v ⟨r, t, e, R⟩ => ⟨t, by rw [e, bis_whole hk R]⟩
theorem find_nb (hand : Bool) {f : Addr} (hf : f = findA hand) {xv : Value} {xn : Nm} (hx : NmIs xv xn) (tl th : Tok) (hS : NmsAre its ns) (hmem : (d, W.listOf its.toArray n) ∈ news) (hsz : ns.length < 1000) (h0 : 0 ≤ lo) (hlh : lo ≤ hi) (hhi : hi ≤ ns.length) (hk : SplitAt (tN hand ns xn) ns.length k) :
    Spec w 3 f [.ref d, xv, .int lo tl, .int hi th] [] news news (fun v => ∃ t, v = .int (clamp k lo hi) t) := by
  subst hf
  cases hand
  · exact (bis_ln_2 xv xn hx lo hi tl th ns hS hmem hsz h0 hlh hhi _ (fun i _ => rfl) hk.mono).to fun v ⟨r, t, e, R⟩ => ⟨t, by rw [e, bis_clamp hk h0 hlh hhi R]⟩
  · exact (bis_rn_2 xv xn hx lo hi tl th ns hS hmem hsz h0 hlh hhi _ (fun i _ => rfl) hk.mono).to fun v ⟨r, t, e, R⟩ => ⟨t, by rw [e, bis_clamp hk h0 hlh hhi R]⟩
theorem put_64 (hand : Bool) {f : Addr} (hf : f = putA hand) (x : Str) (tx : Tok) (hx : x.length ≤ 100) (hS : StrsAre its lines) (hlen : ∀ l ∈ lines, l.length ≤ 100) (U : UpdF d (W.listOf its.toArray n) news g) (hsz : lines.length < 1000) (hk : SplitAt (tS hand lines (letterOf x)) lines.length k) :
    Spec w 5 f [.ref d, .str x tx] [(Str.ofString "key", .ref 64)] news (g (W.listOf (ins its k (.str x tx)).toArray (n + 1))) (fun v => v = .none) := by
  subst hf
  cases hand
  · exact (put_l64_1 x tx hx lines hS hlen U hsz _ (fun i _ => rfl) hk.mono).to fun r v ⟨e, R⟩ => ⟨bis_whole hk R, e⟩
  · exact (put_r64_1 x tx hx lines hS hlen U hsz _ (fun i _ => rfl) hk.mono).to fun r v ⟨e, R⟩ => ⟨bis_whole hk R, e⟩
theorem put_64b (hand : Bool) {f : Addr} (hf : f = putA hand) (x : Str) (tx : Tok) (tl th : Tok) (hx : x.length ≤ 100) (hS : StrsAre its lines) (hlen : ∀ l ∈ lines, l.length ≤ 100) (U : UpdF d (W.listOf its.toArray n) news g) (hsz : lines.length < 1000) (h0 : 0 ≤ lo) (hlh : lo ≤ hi) (hhi : hi ≤ lines.length) (hk : SplitAt (tS hand lines (letterOf x)) lines.length k) :
    Spec w 5 f [.ref d, .str x tx, .int lo tl, .int hi th] [(Str.ofString "key", .ref 64)] news (g (W.listOf (ins its (clamp k lo hi) (.str x tx)).toArray (n + 1))) (fun v => v = .none) := by
  subst hf
  cases hand
  · exact (put_l64_2 x tx hx lo hi tl th lines hS hlen U hsz h0 hlh hhi _ (fun i _ => rfl) hk.mono).to fun r v ⟨e, R⟩ => ⟨bis_clamp hk h0 hlh hhi R, e⟩
  · exact (put_r64_2 x tx hx lo hi tl th lines hS hlen U hsz h0 hlh hhi _ (fun i _ => rfl) hk.mono).to fun r v ⟨e, R⟩ => ⟨bis_clamp hk h0 hlh hhi R, e⟩
theorem put_71 (hand : Bool) {f : Addr} (hf : f = putA hand) (x : Str) (tx : Tok) (hx : x.length ≤ 100) (hS : StrsAre its lines) (hlen : ∀ l ∈ lines, l.length ≤ 100) (U : UpdF d (W.listOf its.toArray n) news g) (hsz : lines.length < 1000) (hk : SplitAt (tF hand lines (firstOf x)) lines.length k) :
    Spec w 5 f [.ref d, .str x tx] [(Str.ofString "key", .ref 71)] news (g (W.listOf (ins its k (.str x tx)).toArray (n + 1))) (fun v => v = .none) := by
  subst hf
  cases hand
  · exact (put_l71_1 x tx hx lines hS hlen U hsz _ (fun i _ => rfl) hk.mono).to fun r v ⟨e, R⟩ => ⟨bis_whole hk R, e⟩
  · exact (put_r71_1 x tx hx lines hS hlen U hsz _ (fun i _ => rfl) hk.mono).to fun r v ⟨e, R⟩ => ⟨bis_whole hk R, e⟩
theorem put_n (hand : Bool) {f : Addr} (hf : f = putA hand) {xv : Value} {xn : Nm} (hx : NmIs xv xn) (hS : NmsAre its ns) (U : UpdF d (W.listOf its.toArray n) news g) (hsz : ns.length < 1000) (hk : SplitAt (tN hand ns xn) ns.length k) :
    Spec w 5 f [.ref d, xv] [] news (g (W.listOf (ins its k xv).toArray (n + 1))) (fun v => v = .none) := by
  subst hf
  cases hand
  · exact (put_ln_1 xv xn hx ns hS U hsz _ (fun i _ => rfl) hk.mono).to fun r v ⟨e, R⟩ => ⟨bis_whole hk R, e⟩
  · exact (put_rn_1 xv xn hx ns hS U hsz _ (fun i _ => rfl) hk.mono).to fun r v ⟨e, R⟩ => ⟨bis_whole hk R, e⟩
theorem put_nb (hand : Bool) {f : Addr} (hf : f = putA hand) {xv : Value} {xn : Nm} (hx : NmIs xv xn) (tl th : Tok) (hS : NmsAre its ns) (U : UpdF d (W.listOf its.toArray n) news g) (hsz : ns.length < 1000) (h0 : 0 ≤ lo) (hlh : lo ≤ hi) (hhi : hi ≤ ns.length) (hk : SplitAt (tN hand ns xn) ns.length k) :
    Spec w 5 f [.ref d, xv, .int lo tl, .int hi th] [] news (g (W.listOf (ins its (clamp k lo hi) xv).toArray (n + 1))) (fun v => v = .none) := by
  subst hf
  cases hand
  · exact (put_ln_2 xv xn hx lo hi tl th ns hS U hsz h0 hlh hhi _ (fun i _ => rfl) hk.mono).to fun r v ⟨e, R⟩ => ⟨bis_clamp hk h0 hlh hhi R, e⟩
  · exact (put_rn_2 xv xn hx lo hi tl th ns hS U hsz h0 hlh hhi _ (fun i _ => rfl) hk.mono).to fun r v ⟨e, R⟩ => ⟨bis_clamp hk h0 hlh hhi R, e⟩
theorem count_t (hand : Bool) {i : Int} (hi : i = handI hand) (x : Str) (tx th : Tok) (hS : StrsAre its lines) (hmem : (d, W.listOf its.toArray n) ∈ news) (hsz : lines.length < 1000) (hk : SplitAt (tW hand lines x) lines.length k) :
    Spec w 3 76 [.ref d, .str x tx, .int i th] [] news news (fun v => ∃ t, v = .int k t) := by
  subst hi
  cases hand
  · exact (cnt_t0 x tx th lines hS hmem hsz _ (fun i _ => rfl)).to fun v ⟨t, e⟩ => ⟨t, by rw [e]; exact congrArg (fun z : Nat => Value.int z t) (cnt_split hk)⟩
  · exact (cnt_t1 x tx th lines hS hmem hsz _ (fun i _ => rfl)).to fun v ⟨t, e⟩ => ⟨t, by rw [e]; exact congrArg (fun z : Nat => Value.int z t) (cnt_split hk)⟩
theorem count_n (hand : Bool) {i : Int} (hi : i = handI hand) {xv : Value} {xn : Nm} (hx : NmIs xv xn) (th : Tok) (hS : NmsAre its ns) (hmem : (d, W.listOf its.toArray n) ∈ news) (hsz : ns.length < 1000) (hk : SplitAt (tN hand ns xn) ns.length k) :
    Spec w 3 76 [.ref d, xv, .int i th] [] news news (fun v => ∃ t, v = .int k t) := by
  subst hi
  cases hand
  · exact (cnt_n0 xv xn hx th ns hS hmem hsz _ (fun i _ => rfl)).to fun v ⟨t, e⟩ => ⟨t, by rw [e]; exact congrArg (fun z : Nat => Value.int z t) (cnt_split hk)⟩
  · exact (cnt_n1 xv xn hx th ns hS hmem hsz _ (fun i _ => rfl)).to fun v ⟨t, e⟩ => ⟨t, by rw [e]; exact congrArg (fun z : Nat => Value.int z t) (cnt_split hk)⟩
end
end Mine
end

section
open PySem PySem.W PyProof.Rows
set_option Elab.async false
set_option maxRecDepth 100000
set_option maxHeartbeats 8000000
set_option linter.unusedVariables false
namespace Mine
theorem fillK20 (w : World) (h : Heap) (_ : (hd.heap_39 w.params).In h) : PySem.Challenge.rw_nb0156_01.row.prog = PySem.Challenge.rw_nb0156_01.row.prog ∧ (hd.heap_39 w.params) = hd.heap_39 w.params := by
  k_fill
  exact ⟨rfl, rfl⟩
abbrev lawE (L fa : Addr) : Env := envOfC (Str.ofString "law") lawS L fa (Value.ref 87)
abbrev lawA (L fa : Addr) : Around := callerA.deeper (lawE L fa)
/-- the law's numbers -/
def stepsOf (ns : List Int) : List Int := (ns.take 18).map (fun k => k.fmod 1000000) ++ [91, 232, 16, 206, 141, 102]
def codesL : List Str := [Str.ofString "  ", Str.ofString "- ", Str.ofString "+ ", Str.ofString "? ", Str.ofString " -", Str.ofString "-+", Str.ofString "+-"]
theorem steps_b : ∀ x ∈ ([91, 232, 16, 206, 141, 102] : List Int), 0 ≤ x ∧ x < 1000000 := by decide
theorem steps_bound {ns : List Int} : ∀ x ∈ stepsOf ns, 0 ≤ x ∧ x < 1000000 := by
  intro x hx
  rcases List.mem_append.mp hx with h | h
  · obtain ⟨k, _, rfl⟩ := List.mem_map.mp h
    exact ⟨Int.fmod_nonneg_of_pos _ (by decide), Int.fmod_lt_of_pos _ (by decide)⟩
  · exact steps_b x h
theorem steps_len (ns : List Int) : 6 ≤ (stepsOf ns).length ∧ (stepsOf ns).length ≤ 24 := by
  unfold stepsOf
  rw [List.length_append, List.length_map, List.length_take]
  simp only [List.length_cons, List.length_nil]
  lia
theorem news_sub {h₀ h : Heap} {L : Addr} {l all : List (Addr × Obj)} (N : News h₀ L h all) (hs : SubL l all) : News h₀ L h l := fun p hp => N p (hs.mem p hp)
section
theorem law_A {w : World} {p : Program} {loose : List Str} {mean : ExcName → Option Value} {mg mb : Str → Option Value} {h₀ : Heap} {L fa : Nat} {s : Shared} {Q : Flow → Shared → Prop} {E : Value → Shared → Prop}
   {u : Str → Option Value} {c1 c2 c3 c4 c5 c6 : Obj} {sa : Nat} {vs : List Value} {ns : List Int} {v1 : Option Value}
   (B : Below callerA h₀ [] h₀) (X : (hd.heap_39 w.params).In h₀) (T : Top p loose mean mg mb h₀) (C : CodeHd h₀ 87 85) (h85 : 85 < L)
   (hl : h₀.IsList sa vs.toArray) (hI : IntsAre vs ns) (hlen : ns.length ≤ 63)
   (F : Fr h₀ L s.heap (kstB u [(Str.ofString "script", .ref sa)]))
   (N : News h₀ L s.heap [(L + 1 + 1 + 1 + 1 + 1 + 1, c6), (L + 1 + 1 + 1 + 1 + 1, c5), (L + 1 + 1 + 1 + 1, c4), (L + 1 + 1 + 1, c3), (L + 1 + 1, c2), (L + 1, c1), (85, tabObj #[])])
   (d1 : c1.data = .cell v1)
   (hQ : ∀ (aF aU aC aD aM aP aK aT aN aS : Nat) (o1 : Obj) (cv sv : List Value) (u' : Str → Option Value) h' tk', StrsAre cv codesL → IntsAre sv (stepsOf ns) → o1.data = .cell (some (.ref aD)) →
      L + 6 < aF → aF < aU → aU < aC → aC < aD → aD < aM → aM < aP → aP < aK → aK < aT → aT < aN → aN < aS →
      Fr h₀ L h' (kstB u' [(Str.ofString "steps", .ref aS), (Str.ofString "plain", .ref aN), (Str.ofString "told", .ref aT), (Str.ofString "marks", .ref aK), (Str.ofString "plus", .ref aP), (Str.ofString "minus", .ref aM), (Str.ofString "codes", .ref aC), (Str.ofString "puts", .ref aU), (Str.ofString "finds", .ref aF)]) →
      News h₀ L h' [(aS, W.listOf sv.toArray 0), (aN, W.listOf #[] 0), (aT, W.listOf #[] 0), (aK, W.listOf #[] 0), (aP, W.listOf #[] 0), (aM, W.listOf #[] 0), (aD, W.listOf #[] 0), (aC, W.listOf cv.toArray 0), (aU, W.listOf #[.ref 48, .ref 30] 0), (aF, W.listOf #[.ref 57, .ref 39] 0),
        (L + 1 + 1 + 1 + 1 + 1 + 1, c6), (L + 1 + 1 + 1 + 1 + 1, c5), (L + 1 + 1 + 1 + 1, c4), (L + 1 + 1 + 1, c3), (L + 1 + 1, c2), (L + 1, o1), (85, tabObj #[])] → Q .next { s with heap := h', toks := tk' }) :
   wpAny (model PySem.Challenge.rw_nb0156_01.row.prog w) (lawA L fa) (execs (lawB.take 10) (lawE L fa)) Q E s := by
  dsimp only [lawA, lawE, lawB, lawS, topS, fnB, fnS, forB, ifE, ifT, PySem.Challenge.pw_nb0156_01, List.getD, List.getElem?_cons_succ, List.getElem?_cons_zero, Option.getD_some, List.drop, List.take]
  dsimp only [kstB] at F
  k_with_none
  k_steps
  rename Fr _ _ _ _ => fF
  rename News _ _ _ _ => nF
  rename IntsAre _ (_ ++ _) => iF
  refine hQ _ _ _ _ _ _ _ _ _ _ _ ?cv _ _ _ _ ?hc iF (by assumption) ?_ ?_ ?_ ?_ ?_ ?_ ?_ ?_ ?_ ?_ (frame_as _ fF (by kst_all)) (news_sub nF ?hn)
  case hn => k_subL
  case hc => repeat' constructor
  all_goals omega
end
end Mine
end

section
open PySem PySem.W PyProof.Rows
set_option Elab.async false
set_option maxRecDepth 100000
set_option maxHeartbeats 8000000
set_option linter.unusedVariables false
namespace Mine
theorem fillK21 (w : World) (h : Heap) (_ : (hd.heap_39 w.params).In h) : PySem.Challenge.rw_nb0156_01.row.prog = PySem.Challenge.rw_nb0156_01.row.prog ∧ (hd.heap_39 w.params) = hd.heap_39 w.params := by
  k_fill
  exact ⟨rfl, rfl⟩
def lettersL : List Str := [Str.ofString "", Str.ofString "a", Str.ofString "b", Str.ofString "c"]
theorem fm_bound (x : Int) {k : Int} (hk : 0 < k) : 0 ≤ x.fmod k ∧ x.fmod k < k := ⟨Int.fmod_nonneg_of_pos _ hk, Int.fmod_lt_of_pos _ hk⟩
theorem codes_len (k : Nat) : (codesL.getD k Str.empty).length ≤ 2 := by
  match k with
  | 0 | 1 | 2 | 3 | 4 | 5 | 6 => decide
  | k + 7 => exact Nat.zero_le _
theorem codes_two {c : Str} (h : c ∈ codesL) : c.length = 2 := by
  simp only [codesL, List.mem_cons, List.not_mem_nil, or_false] at h
  rcases h with rfl | rfl | rfl | rfl | rfl | rfl | rfl <;> rfl
theorem getD_mem {α : Type} {l : List α} {k : Nat} {x : α} (h : k < l.length) : l.getD k x ∈ l := by
  rw [List.getD_eq_getElem?_getD, List.getElem?_eq_getElem h]; exact List.getElem_mem _
theorem letters_len (k : Nat) : (lettersL.getD k Str.empty).length ≤ 1 := by
  match k with
  | 0 | 1 | 2 | 3 => decide
  | k + 4 => exact Nat.zero_le _
theorem letters_one {k : Nat} (hk : k < lettersL.length) (h : (lettersL.getD k Str.empty != Str.ofString "") = true) : (lettersL.getD k Str.empty).length = 1 := by
  match k, hk with
  | 0, _ => exact absurd h (by decide)
  | 1, _ | 2, _ | 3, _ => rfl
theorem letters_none {k : Nat} (h : (lettersL.getD k Str.empty != Str.ofString "") = false) : lettersL.getD k Str.empty = Str.ofString "" := by
  simpa [bne] using h
theorem add_fits {x y : Str} (h1 : x.length ≤ 50) (h2 : y.length ≤ 50) : x.length + y.length ≤ sizeLine := by rw [sizeLine_eq]; omega
def okS (x : Str) : Prop := ∀ c ∈ x.cps.toList, c < 128
theorem ok_append {a b : Str} (ha : okS a) (hb : okS b) : okS (a ++ b) := by
  intro c hc
  rw [Str.cps_append, Array.toList_append] at hc
  rcases List.mem_append.mp hc with h | h
  · exact ha c h
  · exact hb c h
theorem okS_of {x : Str} (h : (x.cps.toList.all fun c => Nat.blt c 128) = true) : okS x := fun c hc => by
  have := List.all_eq_true.mp h c hc
  exact Nat.le_of_ble_eq_true this
theorem codes_ok {c : Str} (h : c ∈ codesL) : okS c := by
  simp only [codesL, List.mem_cons, List.not_mem_nil, or_false] at h
  rcases h with rfl | rfl | rfl | rfl | rfl | rfl | rfl <;> exact okS_of (by decide +kernel)
theorem letters_ok (k : Nat) : okS (lettersL.getD k Str.empty) := by
  match k with
  | 0 | 1 | 2 | 3 => exact okS_of (by decide +kernel)
  | k + 4 => exact okS_of rfl
theorem sign_ok {c : Nat} (h : c < 128) : okS { cps := #[c] } := fun d hd => by
  rw [List.mem_singleton.mp hd]; exact h
theorem nil_ok : okS (Str.ofString "") := okS_of (by decide +kernel)
theorem first_nil : firstOf (Str.ofString "") = Str.ofString "" := by decide +kernel
abbrev mainB : List Stmt := forB (lawB.getD 10 default)
/-- the names that the loop keeps -/
abbrev nmA (aS aN aT aK aP aM aC aU aF : Nat) : List (Str × Value) := [(Str.ofString "steps", .ref aS), (Str.ofString "plain", .ref aN), (Str.ofString "told", .ref aT), (Str.ofString "marks", .ref aK), (Str.ofString "plus", .ref aP), (Str.ofString "minus", .ref aM), (Str.ofString "codes", .ref aC), (Str.ofString "puts", .ref aU), (Str.ofString "finds", .ref aF)]
section
theorem reset10 : True := by
  w_top off
  exact trivial
local macro_rules | `(tactic| walk_at "subscriptTail") => `(tactic| k_extra "item")
local macro_rules | `(tactic| walk_at "binaryOp Add str str") => `(tactic| k_extra "add")
theorem turn_1a {w : World} {p : Program} {loose : List Str} {mean : ExcName → Option Value} {mg mb : Str → Option Value} {h₀ : Heap} {L fa : Nat} {s : Shared} {Q : Flow → Shared → Prop} {E : Value → Shared → Prop}
   {u : Str → Option Value} {aS aN aT aK aP aM aC aU aF : Nat} {cv : List Value} {more : List (Addr × Obj)} {x : Int} {i : Nat} {tx ti : Tok}
   (B : Below callerA h₀ [] h₀) (X : (hd.heap_39 w.params).In h₀) (T : Top p loose mean mg mb h₀)
   (F : Fr h₀ L s.heap (kstB u ([(Str.ofString "x", .int x tx), (Str.ofString "place", .int i ti)] ++ nmA aS aN aT aK aP aM aC aU aF)))
   (N : News h₀ L s.heap ((aC, W.listOf cv.toArray 0) :: more)) (hcv : StrsAre cv codesL) (hx0 : 0 ≤ x) (hx1 : x < 1000000) (hi : i < 24)
   (hQ : ∀ code letter rest t1 t2 t3 t4 h' tk' u', code ∈ codesL → firstOf rest = letter → rest.length ≤ 2 → okS rest →
     Fr h₀ L h' (kstB u' ([(Str.ofString "line", .str (code ++ rest) t4), (Str.ofString "rest", .str rest t3), (Str.ofString "letter", .str letter t2), (Str.ofString "code", .str code t1), (Str.ofString "x", .int x tx)] ++ nmA aS aN aT aK aP aM aC aU aF)) →
     News h₀ L h' ((aC, W.listOf cv.toArray 0) :: more) → Q .next { s with heap := h', toks := tk' }) :
   wpAny (model PySem.Challenge.rw_nb0156_01.row.prog w) (lawA L fa) (execs (mainB.take 4) (lawE L fa)) Q E s := by
  dsimp only [mainB, lawA, lawE, lawB, lawS, topS, fnB, fnS, forB, ifE, ifT, PySem.Challenge.pw_nb0156_01, List.getD, List.getElem?_cons_succ, List.getElem?_cons_zero, Option.getD_some, List.drop, List.take]
  dsimp only [kstB, nmA, List.cons_append, List.nil_append] at F
  have hcl : codesL.length = 7 := rfl
  k_with_none
  have b7 := fm_bound x (k := 7) (by decide)
  have b4 := fm_bound (x.fdiv 7) (k := 4) (by decide)
  have hll : lettersL.length = 4 := rfl
  (k_with "item" => (first
    | (k_dflt (refine' KTb.item_list (ws := codesL) (vs := cv) (News.isList ?n (List.Mem.head _)) hcv ?i0 ?i1 ?i2 ?_; (case n => k_asm); (case i0 => omega); (case i1 => omega); (case i2 => omega); intro t9 hlt9))
    | (k_dflt (refine' KTb.item_list (ws := lettersL) (News.isList ?n (List.Mem.head _)) ?st ?i0 ?i1 ?i2 ?_; (case n => k_asm); (case st => (repeat constructor)); (case i0 => omega); (case i1 => omega); (case i2 => omega); intro t8 hlt8))))
  have hc9 := codes_len (x.fmod 7).toNat
  have hl9 := letters_len ((x.fdiv 7).fmod 4).toNat
  have lr9 : ∀ c : Nat, (lettersL.getD ((x.fdiv 7).fmod 4).toNat Str.empty ++ { cps := #[c] }).length ≤ 2 := fun c => by
    rw [Str.length_append]; exact Nat.add_le_add hl9 (Nat.le_refl 1)
  have ok9 : okS (lettersL.getD ((x.fdiv 7).fmod 4).toNat Str.empty ++ { cps := #[((65 : Int) + (i : Int)).toNat] }) := ok_append (letters_ok _) (sign_ok (by omega))
  (k_with "add" => (first
    | (refine PyProof.Rows.add_str (hsz := add_fits (Nat.le_trans hl9 (by decide)) (Nat.le_of_ble_eq_true rfl)) ?_; intro t7 tk7)
    | (refine PyProof.Rows.add_str (hsz := add_fits (Nat.le_trans hc9 (by decide)) (Nat.le_trans (lr9 _) (by decide))) ?_; intro t7 tk7)
    | (refine PyProof.Rows.add_str (hsz := add_fits (Nat.le_trans hc9 (by decide)) (Nat.le_of_ble_eq_true rfl)) ?_; intro t7 tk7)))
  k_steps
  all_goals (rename Fr _ _ _ _ => fF; rename News _ _ _ _ => nF)
  · exact hQ (codesL.getD (x.fmod 7).toNat Str.empty) _ _ _ _ _ _ _ _ _ (getD_mem (by omega)) (first_app (letters_one hlt8 (by assumption))) (lr9 ((65 : Int) + (i : Int)).toNat) ok9 (frame_as _ fF (by dsimp only [nmA, List.cons_append, List.nil_append]; kst_all)) (fun p hp => nF p (List.Mem.tail _ hp))
  · rename (_ != _) = false => hf
    exact hQ (codesL.getD (x.fmod 7).toNat Str.empty) _ _ _ _ _ _ _ _ _ (getD_mem (by omega)) (first_nil.trans (letters_none hf).symm) (by decide) nil_ok (frame_as _ fF (by dsimp only [nmA, List.cons_append, List.nil_append]; kst_all)) (fun p hp => nF p (List.Mem.tail _ hp))
end
end Mine
end

section
open PySem PySem.W PyProof.Rows
set_option Elab.async false
set_option maxRecDepth 100000
set_option maxHeartbeats 8000000
set_option linter.unusedVariables false
namespace Mine
theorem fillK22 (w : World) (h : Heap) (_ : (hd.heap_39 w.params).In h) : PySem.Challenge.rw_nb0156_01.row.prog = PySem.Challenge.rw_nb0156_01.row.prog ∧ (hd.heap_39 w.params) = hd.heap_39 w.params := by
  k_fill
  exact ⟨rfl, rfl⟩
def Nm.small : Nm → Prop
  | .i k => -10 ≤ k ∧ k ≤ 10
  | .b _ => True
section
theorem turn_1b {w : World} {p : Program} {loose : List Str} {mean : ExcName → Option Value} {mg mb : Str → Option Value} {h₀ : Heap} {L fa : Nat} {s : Shared} {Q : Flow → Shared → Prop} {E : Value → Shared → Prop}
   {u : Str → Option Value} {aS aN aT aK aP aM aC aU aF : Nat} {more : List (Addr × Obj)} {x : Int} {i : Nat} {tx t1 t2 t3 t4 : Tok} {code letter rest line : Str}
   (B : Below callerA h₀ [] h₀) (X : (hd.heap_39 w.params).In h₀) (T : Top p loose mean mg mb h₀)
   (F : Fr h₀ L s.heap (kstB u ([(Str.ofString "line", .str line t4), (Str.ofString "rest", .str rest t3), (Str.ofString "letter", .str letter t2), (Str.ofString "code", .str code t1), (Str.ofString "x", .int x tx)] ++ nmA aS aN aT aK aP aM aC aU aF)))
   (N : News h₀ L s.heap more) (hx0 : 0 ≤ x) (hx1 : x < 1000000)
   (hQ : ∀ mv nm t5 h' tk' u', NmIs mv nm → nm.small →
     Fr h₀ L h' (kstB u' ([(Str.ofString "mark", mv), (Str.ofString "hand", .int ((x.fdiv 28).fmod 2) t5), (Str.ofString "line", .str line t4), (Str.ofString "rest", .str rest t3), (Str.ofString "letter", .str letter t2), (Str.ofString "code", .str code t1)] ++ nmA aS aN aT aK aP aM aC aU aF)) →
     News h₀ L h' more → Q .next { s with heap := h', toks := tk' }) :
   wpAny (model PySem.Challenge.rw_nb0156_01.row.prog w) (lawA L fa) (execs ((mainB.drop 4).take 3) (lawE L fa)) Q E s := by
  dsimp only [mainB, lawA, lawE, lawB, lawS, topS, fnB, fnS, forB, ifE, ifT, PySem.Challenge.pw_nb0156_01, List.getD, List.getElem?_cons_succ, List.getElem?_cons_zero, Option.getD_some, List.drop, List.take]
  dsimp only [kstB, nmA, List.cons_append, List.nil_append] at F
  have b3 := fm_bound (x.fdiv 56) (k := 3) (by decide)
  k_with_none
  k_steps
  all_goals (rename Fr _ _ _ _ => fF; rename News _ _ _ _ => nF)
  all_goals first
    | exact hQ (.int ((x.fdiv 56).fmod 3) _) (.i ((x.fdiv 56).fmod 3)) _ _ _ _ (.int _ _) ⟨by omega, by omega⟩ (frame_as _ fF (by dsimp only [nmA, List.cons_append, List.nil_append]; kst_all)) nF
    | exact hQ (.bool _) (.b _) _ _ _ _ (.bool _) trivial (frame_as _ fF (by dsimp only [nmA, List.cons_append, List.nil_append]; kst_all)) nF
end
end Mine
end

section
open PySem PySem.W PyProof.Rows
set_option Elab.async false
set_option maxRecDepth 100000
set_option maxHeartbeats 8000000
set_option linter.unusedVariables false
namespace Mine
theorem fillK23 (w : World) (h : Heap) (_ : (hd.heap_39 w.params).In h) : PySem.Challenge.rw_nb0156_01.row.prog = PySem.Challenge.rw_nb0156_01.row.prog ∧ (hd.heap_39 w.params) = hd.heap_39 w.params := by
  k_fill
  exact ⟨rfl, rfl⟩
theorem allLt_lt {d : Nat} : ∀ {l : List (Addr × Obj)}, AllLt d l → ∀ q ∈ l, @LT.lt Nat _ q.1 d
  | [], _, _, h => nomatch h
  | p :: r, h, q, hq => by
    rcases List.mem_cons.mp hq with rfl | hq
    · exact h.1
    · exact allLt_lt h.2 q hq
theorem strs_ins {vs : List Value} {ls : List Str} (h : StrsAre vs ls) (r : Int) (x : Str) (t : Tok) : StrsAre (ins vs r (.str x t)) (ins ls r x) := (h.take' _).append' (.cons _ _ (h.drop' _))
theorem nms_ins {vs : List Value} {ns : List Nm} (h : NmsAre vs ns) (r : Int) {v : Value} {n : Nm} (hv : NmIs v n) : NmsAre (ins vs r v) (ins ns r n) := (h.take _).append (.cons hv (h.drop _))
section
theorem reset11 : True := by
  w_top off
  exact trivial
local macro_rules | `(tactic| k_all) => `(tactic| assumption)
local macro_rules | `(tactic| walk_at "call ref") => `(tactic| k_extra "put")
theorem turn_2 {w : World} {p : Program} {loose : List Str} {mean : ExcName → Option Value} {mg mb : Str → Option Value} {h₀ : Heap} {L fa : Nat} {s : Shared} {Q : Flow → Shared → Prop} {E : Value → Shared → Prop}
   {u : Str → Option Value} {aS aN aT aK aP aM aC aU aF aD : Nat} {more : List (Addr × Obj)} {t1 t2 t3 t4 t5 : Tok} {code letter rest line : Str} {mv : Value} {nm : Nm} {hand : Bool} {dv kv : List Value} {dn kn : Nat} {c1 c5 : Obj} {v5 : Option Value} {TL : List Str} {NL : List Nm} {kT kN : Nat}
   (B : Below callerA h₀ [] h₀) (X : (hd.heap_39 w.params).In h₀) (T : Top p loose mean mg mb h₀) (h85 : 85 < L)
   (F : Fr h₀ L s.heap (kstB u ([(Str.ofString "mark", mv), (Str.ofString "hand", .int (handI hand) t5), (Str.ofString "line", .str line t4), (Str.ofString "rest", .str rest t3), (Str.ofString "letter", .str letter t2), (Str.ofString "code", .str code t1)] ++ nmA aS aN aT aK aP aM aC aU aF)))
   (N : News h₀ L s.heap ((aU, W.listOf #[.ref 48, .ref 30] 0) :: (aD, W.listOf dv.toArray dn) :: (aK, W.listOf kv.toArray kn) :: (L + 1 + 1 + 1 + 1 + 1, c5) :: (L + 1, c1) :: more))
   (d1 : c1.data = .cell (some (.ref aD))) (d5 : c5.data = .cell v5) (o1 : L + 6 < aU) (o2 : aU < aD) (o3 : aD < aK) (hmD : ∀ q ∈ more, q.1 ≠ aD) (hmK : ∀ q ∈ more, q.1 ≠ aK) (hm5 : ∀ q ∈ more, q.1 ≠ L + 1 + 1 + 1 + 1 + 1)
   (hm : NmIs mv nm) (hd : StrsAre dv TL) (hk : NmsAre kv NL) (hdl : ∀ l ∈ TL, l.length ≤ 100) (hll : line.length ≤ 100) (hz : TL.length < 1000) (hz2 : NL.length < 1000)
   (sT : SplitAt (tS hand TL (letterOf line)) TL.length kT) (sN : SplitAt (tN hand NL nm) NL.length kN)
   (hQ : ∀ aG c5' h' tk' u', c5'.data = .cell (some (.ref (putA hand))) → @LT.lt Nat _ aK aG → (∀ q ∈ more, @LT.lt Nat _ q.1 aG) →
     Fr h₀ L h' (kstB u' ([(Str.ofString "given", .ref aG), (Str.ofString "mark", mv), (Str.ofString "hand", .int (handI hand) t5), (Str.ofString "line", .str line t4), (Str.ofString "rest", .str rest t3), (Str.ofString "letter", .str letter t2), (Str.ofString "code", .str code t1)] ++ nmA aS aN aT aK aP aM aC aU aF)) →
     News h₀ L h' ((aG, W.listOf #[.none, .none] 0) :: (aU, W.listOf #[.ref 48, .ref 30] 0) :: (aD, W.listOf (ins dv kT (.str line t4)).toArray (dn + 1)) :: (aK, W.listOf (ins kv kN mv).toArray (kn + 1)) :: (L + 1 + 1 + 1 + 1 + 1, c5') :: (L + 1, c1) :: more) → Q .next { s with heap := h', toks := tk' }) :
   wpAny (model PySem.Challenge.rw_nb0156_01.row.prog w) (lawA L fa) (execs ((mainB.drop 7).take 2) (lawE L fa)) Q E s := by
  dsimp only [mainB, lawA, lawE, lawB, lawS, topS, fnB, fnS, forB, ifE, ifT, PySem.Challenge.pw_nb0156_01, List.getD, List.getElem?_cons_succ, List.getElem?_cons_zero, Option.getD_some, List.drop, List.take]
  dsimp only [kstB, nmA, List.cons_append, List.nil_append] at F
  cases hand
  · k_with_none
    replace F : Fr h₀ L s.heap (kstB u ([(Str.ofString "mark", mv), (Str.ofString "hand", .int 0 t5), (Str.ofString "line", .str line t4), (Str.ofString "rest", .str rest t3), (Str.ofString "letter", .str letter t2), (Str.ofString "code", .str code t1)] ++ nmA aS aN aT aK aP aM aC aU aF)) := F
    dsimp only [kstB, nmA, List.cons_append, List.nil_append] at F
    (k_with "put" => (first
      | ((with_unfolding_all refine' call_by (put_64 false rfl line _ hll hd hdl ?U hz sT) ?k1 ?k2 ?k3 ?k4 ?k5 ?k6 ?k7 ?k8 ?_); (case k1 => exact B); (case k2 => k_asm); (case k3 => k_asm); (case k4 => k_asm); (case k5 => k_asm); (case U => k_updF); (case k6 => rfl); (case k7 => ktr_room); (case k8 => ktr_units); intro v9 h9 tk9 hv9 F9 N9; subst hv9)
      | ((with_unfolding_all refine' call_by (put_n false rfl hm hk ?U hz2 sN) ?k1 ?k2 ?k3 ?k4 ?k5 ?k6 ?k7 ?k8 ?_); (case k1 => exact B); (case k2 => k_asm); (case k3 => k_asm); (case k4 => k_asm); (case k5 => k_asm); (case U => k_updF); (case k6 => rfl); (case k7 => ktr_room); (case k8 => ktr_units); intro v9 h9 tk9 hv9 F9 N9; subst hv9)))
    k_steps
    rename Fr _ _ _ _ => fF
    rename News _ _ _ _ => nF
    rename _ ∧ _ ∧ _ ∧ _ ∧ _ ∧ AllLt _ more => lF
    exact hQ _ _ _ _ _ (by assumption) lF.2.2.1 (allLt_lt lF.2.2.2.2.2) (frame_as _ fF (by dsimp only [nmA, List.cons_append, List.nil_append]; kst_all)) nF
  · k_with_none
    replace F : Fr h₀ L s.heap (kstB u ([(Str.ofString "mark", mv), (Str.ofString "hand", .int 1 t5), (Str.ofString "line", .str line t4), (Str.ofString "rest", .str rest t3), (Str.ofString "letter", .str letter t2), (Str.ofString "code", .str code t1)] ++ nmA aS aN aT aK aP aM aC aU aF)) := F
    dsimp only [kstB, nmA, List.cons_append, List.nil_append] at F
    (k_with "put" => (first
      | ((with_unfolding_all refine' call_by (put_64 true rfl line _ hll hd hdl ?U hz sT) ?k1 ?k2 ?k3 ?k4 ?k5 ?k6 ?k7 ?k8 ?_); (case k1 => exact B); (case k2 => k_asm); (case k3 => k_asm); (case k4 => k_asm); (case k5 => k_asm); (case U => k_updF); (case k6 => rfl); (case k7 => ktr_room); (case k8 => ktr_units); intro v9 h9 tk9 hv9 F9 N9; subst hv9)
      | ((with_unfolding_all refine' call_by (put_n true rfl hm hk ?U hz2 sN) ?k1 ?k2 ?k3 ?k4 ?k5 ?k6 ?k7 ?k8 ?_); (case k1 => exact B); (case k2 => k_asm); (case k3 => k_asm); (case k4 => k_asm); (case k5 => k_asm); (case U => k_updF); (case k6 => rfl); (case k7 => ktr_room); (case k8 => ktr_units); intro v9 h9 tk9 hv9 F9 N9; subst hv9)))
    k_steps
    rename Fr _ _ _ _ => fF
    rename News _ _ _ _ => nF
    rename _ ∧ _ ∧ _ ∧ _ ∧ _ ∧ AllLt _ more => lF
    exact hQ _ _ _ _ _ (by assumption) lF.2.2.1 (allLt_lt lF.2.2.2.2.2) (frame_as _ fF (by dsimp only [nmA, List.cons_append, List.nil_append]; kst_all)) nF
end
end Mine
end

section
open PySem PySem.W PyProof.Rows
set_option Elab.async false
set_option maxRecDepth 100000
set_option maxHeartbeats 8000000
set_option linter.unusedVariables false
namespace Mine
theorem fillK24 (w : World) (h : Heap) (_ : (hd.heap_39 w.params).In h) : PySem.Challenge.rw_nb0156_01.row.prog = PySem.Challenge.rw_nb0156_01.row.prog ∧ (hd.heap_39 w.params) = hd.heap_39 w.params := by
  k_fill
  exact ⟨rfl, rfl⟩
/-- a row of nothing but None -/
def Nones (gv : List Value) : Prop := ∀ v ∈ gv, v = Value.none
theorem nones_snoc {gv : List Value} (h : Nones gv) : Nones (gv ++ [.none]) := fun v hv => by
  rcases List.mem_append.mp hv with hv | hv
  · exact h v hv
  · exact List.mem_singleton.mp hv
section
theorem reset12 : True := by
  w_top off
  exact trivial
local macro_rules | `(tactic| k_all) => `(tactic| assumption)
local macro_rules | `(tactic| walk_at "call ref") => `(tactic| k_extra "put")
local macro_rules | `(tactic| walk_at "compareOp In str ref") => `(tactic| k_extra "in")
local macro_rules | `(tactic| walk_at "getMethod ref") => `(tactic| k_extra "method")
local macro_rules | `(tactic| walk_at "call builtin:list.append") => `(tactic| k_extra "append")
theorem append_at {prog : Program} {w : World} {A : Around} {E : Value → Shared → Prop} {s : Shared} {h₀ : Heap} {L D : Addr} {m : Str → Option Value} {news : List (Addr × Obj)} {g : Obj → List (Addr × Obj)} {its : List Value} {n : Nat} {y : Value} {Q : Value → Shared → Prop} (F : Fr h₀ L s.heap m) (N : News h₀ L s.heap news) (U : UpdF D (W.listOf its.toArray n) news g)
    (hz : its.length < 1000) (h : ∀ h', Fr h₀ L h' m → News h₀ L h' (g (W.listOf (its ++ [y]).toArray (n + 1))) → Q .none { s with heap := h' }) :
    wpAny (model prog w) A (call (.builtin "list.append") [.ref D, y]) Q E s :=
  append_K F N (updF_upd U) (fun h' F' N' => h h' F' (by rw [List.push_toArray] at N'; exact N')) (by rw [List.size_toArray, sizeLine_eq]; omega)

theorem turn_3 {w : World} {p : Program} {loose : List Str} {mean : ExcName → Option Value} {mg mb : Str → Option Value} {h₀ : Heap} {L fa : Nat} {s : Shared} {Q : Flow → Shared → Prop} {E : Value → Shared → Prop}
   {u : Str → Option Value} {aS aN aT aK aP aM aC aU aF aG : Nat} {more : List (Addr × Obj)} {t1 t2 t3 t4 t5 : Tok} {code letter rest line : Str} {mv : Value} {hand : Bool} {xv gv : List Value} {xn gn : Nat} {c5 : Obj} {XL : List Str} {kX : Nat}
   (B : Below callerA h₀ [] h₀) (X : (hd.heap_39 w.params).In h₀) (T : Top p loose mean mg mb h₀) (h85 : 85 < L)
   (F : Fr h₀ L s.heap (kstB u ([(Str.ofString "given", .ref aG), (Str.ofString "mark", mv), (Str.ofString "hand", .int (handI hand) t5), (Str.ofString "line", .str line t4), (Str.ofString "rest", .str rest t3), (Str.ofString "letter", .str letter t2), (Str.ofString "code", .str code t1)] ++ nmA aS aN aT aK aP aM aC aU aF)))
   (N : News h₀ L s.heap ((aG, W.listOf gv.toArray gn) :: (aM, W.listOf xv.toArray xn) :: (L + 1 + 1 + 1 + 1 + 1, c5) :: more))
   (d5 : c5.data = .cell (some (.ref (putA hand)))) (o1 : L + 6 < aM) (o2 : aM < aG) (hmG : ∀ q ∈ more, q.1 ≠ aG) (hmX : ∀ q ∈ more, q.1 ≠ aM)
   (hg : Nones gv) (hgl : gv.length < 10) (hx : StrsAre xv XL) (hxl : ∀ l ∈ XL, l.length ≤ 100) (hrl : rest.length ≤ 100) (hz : XL.length < 1000)
   (sX : SplitAt (tF hand XL (firstOf rest)) XL.length kX)
   (hQ : ∀ gv' gn' xv' xn' h' tk' u', Nones gv' → gv'.length ≤ gv.length + 1 → StrsAre xv' (if ([Str.ofString "  ", Str.ofString "- "] : List Str).any (· == code) then ins XL kX rest else XL) →
     Fr h₀ L h' (kstB u' ([(Str.ofString "given", .ref aG), (Str.ofString "mark", mv), (Str.ofString "hand", .int (handI hand) t5), (Str.ofString "line", .str line t4), (Str.ofString "rest", .str rest t3), (Str.ofString "letter", .str letter t2), (Str.ofString "code", .str code t1)] ++ nmA aS aN aT aK aP aM aC aU aF)) →
     News h₀ L h' ((aG, W.listOf gv'.toArray gn') :: (aM, W.listOf xv'.toArray xn') :: (L + 1 + 1 + 1 + 1 + 1, c5) :: more) → Q .next { s with heap := h', toks := tk' }) :
   wpAny (model PySem.Challenge.rw_nb0156_01.row.prog w) (lawA L fa) (execs ((mainB.drop 9).take 1) (lawE L fa)) Q E s := by
  dsimp only [mainB, lawA, lawE, lawB, lawS, topS, fnB, fnS, forB, ifE, ifT, PySem.Challenge.pw_nb0156_01, List.getD, List.getElem?_cons_succ, List.getElem?_cons_zero, Option.getD_some, List.drop, List.take]
  dsimp only [kstB, nmA, List.cons_append, List.nil_append] at F
  cases hand
  · k_with_none
    replace d5 : c5.data = .cell (some (.ref 48)) := d5
    (k_with "in" => (k_dflt (refine' in_list_strs (ys := [Str.ofString "  ", Str.ofString "- "]) (News.isList ?n (List.Mem.head _)) (.cons _ _ (.cons _ _ .nil)) ?_; (case n => k_asm))))
    (k_with "put" => (first | ((with_unfolding_all refine' call_by (put_71 false rfl rest _ hrl hx hxl ?U hz sX) ?k1 ?k2 ?k3 ?k4 ?k5 ?k6 ?k7 ?k8 ?_); (case k1 => exact B); (case k2 => k_asm); (case k3 => k_asm); (case k4 => k_asm); (case k5 => k_asm); (case U => k_updF); (case k6 => rfl); (case k7 => ktr_room); (case k8 => ktr_units); intro v9 h9 tk9 hv9 F9 N9; subst hv9)))
    (k_with "append" => (refine' append_at (its := gv) ?k1 ?k2 ?U (by omega) ?_; (case k1 => k_asm); (case k2 => k_asm); (case U => k_updF); intro h8 F8 N8))
    k_steps
    · rename (_ = true) => hb9
      exact hQ (gv ++ [.none]) _ _ _ _ _ _ (nones_snoc hg) (by simp) (by rw [if_pos hb9]; exact strs_ins hx _ _ _) (frame_as _ F8 (by dsimp only [nmA, List.cons_append, List.nil_append]; kst_all)) (fun p hp => N8 p (List.Mem.tail _ hp))
    · rename Fr _ _ _ _ => fF
      rename News _ _ _ _ => nF
      rename (_ = false) => hb9
      exact hQ gv _ _ _ _ _ _ hg (Nat.le_succ _) (by rw [hb9]; exact hx) (frame_as _ fF (by dsimp only [nmA, List.cons_append, List.nil_append]; kst_all)) (fun p hp => nF p (List.Mem.tail _ hp))
  · k_with_none
    replace d5 : c5.data = .cell (some (.ref 30)) := d5
    (k_with "in" => (k_dflt (refine' in_list_strs (ys := [Str.ofString "  ", Str.ofString "- "]) (News.isList ?n (List.Mem.head _)) (.cons _ _ (.cons _ _ .nil)) ?_; (case n => k_asm))))
    (k_with "put" => (first | ((with_unfolding_all refine' call_by (put_71 true rfl rest _ hrl hx hxl ?U hz sX) ?k1 ?k2 ?k3 ?k4 ?k5 ?k6 ?k7 ?k8 ?_); (case k1 => exact B); (case k2 => k_asm); (case k3 => k_asm); (case k4 => k_asm); (case k5 => k_asm); (case U => k_updF); (case k6 => rfl); (case k7 => ktr_room); (case k8 => ktr_units); intro v9 h9 tk9 hv9 F9 N9; subst hv9)))
    (k_with "append" => (refine' append_at (its := gv) ?k1 ?k2 ?U (by omega) ?_; (case k1 => k_asm); (case k2 => k_asm); (case U => k_updF); intro h8 F8 N8))
    k_steps
    · rename (_ = true) => hb9
      exact hQ (gv ++ [.none]) _ _ _ _ _ _ (nones_snoc hg) (by simp) (by rw [if_pos hb9]; exact strs_ins hx _ _ _) (frame_as _ F8 (by dsimp only [nmA, List.cons_append, List.nil_append]; kst_all)) (fun p hp => N8 p (List.Mem.tail _ hp))
    · rename Fr _ _ _ _ => fF
      rename News _ _ _ _ => nF
      rename (_ = false) => hb9
      exact hQ gv _ _ _ _ _ _ hg (Nat.le_succ _) (by rw [hb9]; exact hx) (frame_as _ fF (by dsimp only [nmA, List.cons_append, List.nil_append]; kst_all)) (fun p hp => nF p (List.Mem.tail _ hp))
theorem turn_4 {w : World} {p : Program} {loose : List Str} {mean : ExcName → Option Value} {mg mb : Str → Option Value} {h₀ : Heap} {L fa : Nat} {s : Shared} {Q : Flow → Shared → Prop} {E : Value → Shared → Prop}
   {u : Str → Option Value} {aS aN aT aK aP aM aC aU aF aG : Nat} {more : List (Addr × Obj)} {t1 t2 t3 t4 t5 : Tok} {code letter rest line : Str} {mv : Value} {hand : Bool} {xv gv : List Value} {xn gn : Nat} {c5 : Obj} {XL : List Str} {kX : Nat}
   (B : Below callerA h₀ [] h₀) (X : (hd.heap_39 w.params).In h₀) (T : Top p loose mean mg mb h₀) (h85 : 85 < L)
   (F : Fr h₀ L s.heap (kstB u ([(Str.ofString "given", .ref aG), (Str.ofString "mark", mv), (Str.ofString "hand", .int (handI hand) t5), (Str.ofString "line", .str line t4), (Str.ofString "rest", .str rest t3), (Str.ofString "letter", .str letter t2), (Str.ofString "code", .str code t1)] ++ nmA aS aN aT aK aP aM aC aU aF)))
   (N : News h₀ L s.heap ((aG, W.listOf gv.toArray gn) :: (aP, W.listOf xv.toArray xn) :: (L + 1 + 1 + 1 + 1 + 1, c5) :: more))
   (d5 : c5.data = .cell (some (.ref (putA hand)))) (o1 : L + 6 < aP) (o2 : aP < aG) (hmG : ∀ q ∈ more, q.1 ≠ aG) (hmX : ∀ q ∈ more, q.1 ≠ aP)
   (hg : Nones gv) (hgl : gv.length < 10) (hx : StrsAre xv XL) (hxl : ∀ l ∈ XL, l.length ≤ 100) (hrl : rest.length ≤ 100) (hz : XL.length < 1000)
   (sX : SplitAt (tF hand XL (firstOf rest)) XL.length kX)
   (hQ : ∀ gv' gn' xv' xn' h' tk' u', Nones gv' → gv'.length ≤ gv.length + 1 → StrsAre xv' (if ([Str.ofString "  ", Str.ofString "+ "] : List Str).any (· == code) then ins XL kX rest else XL) →
     Fr h₀ L h' (kstB u' ([(Str.ofString "given", .ref aG), (Str.ofString "mark", mv), (Str.ofString "hand", .int (handI hand) t5), (Str.ofString "line", .str line t4), (Str.ofString "rest", .str rest t3), (Str.ofString "letter", .str letter t2), (Str.ofString "code", .str code t1)] ++ nmA aS aN aT aK aP aM aC aU aF)) →
     News h₀ L h' ((aG, W.listOf gv'.toArray gn') :: (aP, W.listOf xv'.toArray xn') :: (L + 1 + 1 + 1 + 1 + 1, c5) :: more) → Q .next { s with heap := h', toks := tk' }) :
   wpAny (model PySem.Challenge.rw_nb0156_01.row.prog w) (lawA L fa) (execs ((mainB.drop 10).take 1) (lawE L fa)) Q E s := by
  dsimp only [mainB, lawA, lawE, lawB, lawS, topS, fnB, fnS, forB, ifE, ifT, PySem.Challenge.pw_nb0156_01, List.getD, List.getElem?_cons_succ, List.getElem?_cons_zero, Option.getD_some, List.drop, List.take]
  dsimp only [kstB, nmA, List.cons_append, List.nil_append] at F
  cases hand
  · k_with_none
    replace d5 : c5.data = .cell (some (.ref 48)) := d5
    (k_with "in" => (k_dflt (refine' in_list_strs (ys := [Str.ofString "  ", Str.ofString "+ "]) (News.isList ?n (List.Mem.head _)) (.cons _ _ (.cons _ _ .nil)) ?_; (case n => k_asm))))
    (k_with "put" => (first | ((with_unfolding_all refine' call_by (put_71 false rfl rest _ hrl hx hxl ?U hz sX) ?k1 ?k2 ?k3 ?k4 ?k5 ?k6 ?k7 ?k8 ?_); (case k1 => exact B); (case k2 => k_asm); (case k3 => k_asm); (case k4 => k_asm); (case k5 => k_asm); (case U => k_updF); (case k6 => rfl); (case k7 => ktr_room); (case k8 => ktr_units); intro v9 h9 tk9 hv9 F9 N9; subst hv9)))
    (k_with "append" => (refine' append_at (its := gv) ?k1 ?k2 ?U (by omega) ?_; (case k1 => k_asm); (case k2 => k_asm); (case U => k_updF); intro h8 F8 N8))
    k_steps
    · rename (_ = true) => hb9
      exact hQ (gv ++ [.none]) _ _ _ _ _ _ (nones_snoc hg) (by simp) (by rw [if_pos hb9]; exact strs_ins hx _ _ _) (frame_as _ F8 (by dsimp only [nmA, List.cons_append, List.nil_append]; kst_all)) (fun p hp => N8 p (List.Mem.tail _ hp))
    · rename Fr _ _ _ _ => fF
      rename News _ _ _ _ => nF
      rename (_ = false) => hb9
      exact hQ gv _ _ _ _ _ _ hg (Nat.le_succ _) (by rw [hb9]; exact hx) (frame_as _ fF (by dsimp only [nmA, List.cons_append, List.nil_append]; kst_all)) (fun p hp => nF p (List.Mem.tail _ hp))
  · k_with_none
    replace d5 : c5.data = .cell (some (.ref 30)) := d5
    (k_with "in" => (k_dflt (refine' in_list_strs (ys := [Str.ofString "  ", Str.ofString "+ "]) (News.isList ?n (List.Mem.head _)) (.cons _ _ (.cons _ _ .nil)) ?_; (case n => k_asm))))
    (k_with "put" => (first | ((with_unfolding_all refine' call_by (put_71 true rfl rest _ hrl hx hxl ?U hz sX) ?k1 ?k2 ?k3 ?k4 ?k5 ?k6 ?k7 ?k8 ?_); (case k1 => exact B); (case k2 => k_asm); (case k3 => k_asm); (case k4 => k_asm); (case k5 => k_asm); (case U => k_updF); (case k6 => rfl); (case k7 => ktr_room); (case k8 => ktr_units); intro v9 h9 tk9 hv9 F9 N9; subst hv9)))
    (k_with "append" => (refine' append_at (its := gv) ?k1 ?k2 ?U (by omega) ?_; (case k1 => k_asm); (case k2 => k_asm); (case U => k_updF); intro h8 F8 N8))
    k_steps
    · rename (_ = true) => hb9
      exact hQ (gv ++ [.none]) _ _ _ _ _ _ (nones_snoc hg) (by simp) (by rw [if_pos hb9]; exact strs_ins hx _ _ _) (frame_as _ F8 (by dsimp only [nmA, List.cons_append, List.nil_append]; kst_all)) (fun p hp => N8 p (List.Mem.tail _ hp))
    · rename Fr _ _ _ _ => fF
      rename News _ _ _ _ => nF
      rename (_ = false) => hb9
      exact hQ gv _ _ _ _ _ _ hg (Nat.le_succ _) (by rw [hb9]; exact hx) (frame_as _ fF (by dsimp only [nmA, List.cons_append, List.nil_append]; kst_all)) (fun p hp => nF p (List.Mem.tail _ hp))
end
end Mine
end

section
open PySem PySem.W PyProof.Rows
set_option Elab.async false
set_option maxRecDepth 100000
set_option maxHeartbeats 8000000
set_option linter.unusedVariables false
namespace Mine
theorem fillK25 (w : World) (h : Heap) (_ : (hd.heap_39 w.params).In h) : PySem.Challenge.rw_nb0156_01.row.prog = PySem.Challenge.rw_nb0156_01.row.prog ∧ (hd.heap_39 w.params) = hd.heap_39 w.params := by
  k_fill
  exact ⟨rfl, rfl⟩
section
open LCg
variable {prog : Program} {w : World} {A : Around} {h₀ : Heap} {L : Addr} {m : Str → Option Value} {env : Env} {elt : Expr} {x : Str} {scope : Scope} {cl : List (Str × Addr)} {s : Shared} {S : List (Addr × Obj) → Prop} {P : Nat → Value → Prop} {Fin : List Value → List (Addr × Obj) → Prop} {news : List (Addr × Obj)}
theorem comp_map {n : Nat} (g : Nat → Str)
    (turn : ∀ i v I oI C oC D m₂ ys h tk (E' : Value → Shared → Prop), i < n → P i v → NsObj oC m₂ → m₂ x = some v → Fr h₀ L h m → News h₀ L h ((I, oI) :: (C, oC) :: (D, lst ys) :: news) → Off3 I C D news → ((@Ne Nat I C) ∧ (@Ne Nat I D) ∧ (@Ne Nat C D)) →
      wpAny (model prog w) A (eval elt (compEnvC scope cl C env)) (CompEnd h₀ L m { s with heap := h, toks := tk } I oI C oC D (lst ys) S (fun y news' => (∃ t, y = .str (g i) t) ∧ news' = news)) E' { s with heap := h, toks := tk })
    (fin : ∀ ys, StrsAre ys ((List.range n).map g) → Fin ys news) : CompRest prog w A h₀ L m env elt x scope cl s S P Fin n 0 [] news := by
  have key : ∀ (j i : Nat) (ys : List Value), i + j = n → StrsAre ys ((List.range i).map g) → CompRest prog w A h₀ L m env elt x scope cl s S P Fin j i ys news := by
    intro j
    induction j with
    | zero =>
      intro i ys hi hy
      have e : i = n := by omega
      subst e
      exact CompRest.zero (fin ys hy)
    | succ j ih =>
      intro i ys hi hy
      refine CompRest.succ ?_
      intro v I oI C oC D m₂ h tk E' hv hC hx F N off ne
      refine wpAny_mono (turn i v I oI C oC D m₂ ys h tk E' (by omega) hv hC hx F N off ne) (fun y s₂ hq => ?_) fun _ _ e => e
      obtain ⟨h', tk', nw, e, F', N', off', hS, ⟨t, rfl⟩, rfl⟩ := hq
      refine ⟨h', tk', _, e, F', N', off', hS, ih (i + 1) _ (by omega) ?_⟩
      rw [List.range_succ, List.map_append]
      exact hy.append' (.cons _ _ .nil)
  exact key n 0 [] (by omega) .nil
end
theorem cnt_false (n : Nat) : cnt (fun _ => false) n = 0 := by
  induction n with
  | zero => rfl
  | succ n ih => rw [cnt_succ, ih]; rfl
theorem map_range_getD {α β : Type} (l : List α) (x : α) (f : α → β) : (List.range l.length).map (fun i => f (l.getD i x)) = l.map f := by
  conv => rhs; rw [← range_getD l x, List.map_map]
  rfl
section
theorem reset13 : True := by
  w_top off
  exact trivial
local macro_rules | `(tactic| walk_at "none such") => `(tactic| fail "none such")
local macro_rules | `(tactic| walk_at "CompSrcT") => `(tactic| k_extra "src")
local macro_rules | `(tactic| walk_at "CompSrc") => `(tactic| k_extra "src")
local macro_rules | `(tactic| walk_at "CompEnd") => `(tactic| k_extra "comp end")
local macro_rules | `(tactic| walk_at "call ref") => `(tactic| k_extra "call")
theorem turn_5 {w : World} {p : Program} {loose : List Str} {mean : ExcName → Option Value} {mg mb : Str → Option Value} {h₀ : Heap} {L fa : Nat} {s : Shared} {Q : Flow → Shared → Prop} {E : Value → Shared → Prop}
   {u : Str → Option Value} {aS aN aT aK aP aM aC aU aF aG : Nat} {more : List (Addr × Obj)} {t1 t2 t3 t4 t5 : Tok} {code letter rest line : Str} {mv hv : Value} {gv : List Value} {gn : Nat}
   (B : Below callerA h₀ [] h₀) (X : (hd.heap_39 w.params).In h₀) (T : Top p loose mean mg mb h₀) (h85 : 85 < L)
   (F : Fr h₀ L s.heap (kstB u ([(Str.ofString "given", .ref aG), (Str.ofString "mark", mv), (Str.ofString "hand", hv), (Str.ofString "line", .str line t4), (Str.ofString "rest", .str rest t3), (Str.ofString "letter", .str letter t2), (Str.ofString "code", .str code t1)] ++ nmA aS aN aT aK aP aM aC aU aF)))
   (N : News h₀ L s.heap ((aG, W.listOf gv.toArray gn) :: more))
   (hg : Nones gv) (hgl : gv.length < 10)
   (hQ : ∀ h' tk' u',
     Fr h₀ L h' (kstB u' ([(Str.ofString "mark", mv), (Str.ofString "hand", hv), (Str.ofString "line", .str line t4), (Str.ofString "letter", .str letter t2)] ++ nmA aS aN aT aK aP aM aC aU aF)) →
     News h₀ L h' more → Q .next { s with heap := h', toks := tk' }) :
   wpAny (model PySem.Challenge.rw_nb0156_01.row.prog w) (lawA L fa) (execs ((mainB.drop 11).take 1) (lawE L fa)) Q E s := by
  dsimp only [mainB, lawA, lawE, lawB, lawS, topS, fnB, fnS, forB, ifE, ifT, PySem.Challenge.pw_nb0156_01, List.getD, List.getElem?_cons_succ, List.getElem?_cons_zero, Option.getD_some, List.drop, List.take]
  dsimp only [kstB, nmA, List.cons_append, List.nil_append] at F
  k_with_none
  (k_with "src" => (refine' LCt.CompSrcT.ledger (its := gv.toArray) ?k1 ?k2 ?k3 ?k4 ?k5 ?_; (case k1 => rfl); (case k2 => k_asm); (case k3 => k_asm); (case k4 => exact List.Mem.head _); (case k5 => (rw [List.size_toArray, sizeLine_eq]; omega)); intro g9; (try rw [List.size_toArray]); refine' compT_count (fun _ => false) ?t1 ?t2; (case' t1 => (intro i9 v9 I9 oI9 C9 oC9 D9 m9 ys9 h9 tk9 E9 hi9 hv9 hC9 hx9 F9 N9 off9 ne9; obtain rfl : v9 = .none := hg v9 (List.mem_of_getElem? (by simpa using hv9)))); (case' t2 => (intro ys9 hl9; obtain rfl : ys9 = [] := List.length_eq_zero_iff.mp (hl9.trans (cnt_false _))))))
  (k_with "comp end" => (exact compEnd_of (by k_asm) (by k_asm) off9 (Or.inr ⟨_, List.Mem.head _, rfl, _, rfl⟩) ⟨rfl, rfl⟩))
  k_steps
  rename Fr _ _ _ _ => fF
  rename News _ _ _ _ => nF
  exact hQ _ _ _ (frame_as _ fF (by dsimp only [nmA, List.cons_append, List.nil_append]; kst_all)) (fun p hp => nF p (List.Mem.tail _ (List.Mem.tail _ (List.Mem.tail _ hp))))
theorem turn_6 {w : World} {p : Program} {loose : List Str} {mean : ExcName → Option Value} {mg mb : Str → Option Value} {h₀ : Heap} {L fa : Nat} {s : Shared} {Q : Flow → Shared → Prop} {E : Value → Shared → Prop}
   {u : Str → Option Value} {aS aN aT aK aP aM aC aU aF : Nat} {more : List (Addr × Obj)} {t2 t4 t5 : Tok} {letter line : Str} {mv : Value} {hand : Bool} {tv : List Value} {tn : Nat} {TL : List Str} {kT : Nat}
   (B : Below callerA h₀ [] h₀) (X : (hd.heap_39 w.params).In h₀) (T : Top p loose mean mg mb h₀) (h85 : 85 < L)
   (F : Fr h₀ L s.heap (kstB u ([(Str.ofString "mark", mv), (Str.ofString "hand", .int (handI hand) t5), (Str.ofString "line", .str line t4), (Str.ofString "letter", .str letter t2)] ++ nmA aS aN aT aK aP aM aC aU aF)))
   (N : News h₀ L s.heap ((aT, W.listOf tv.toArray tn) :: more))
   (ht : StrsAre tv TL) (htl : ∀ l ∈ TL, l.length ≤ 100) (hz : TL.length < 1000) (sT : SplitAt (tW hand (TL.map letterOf) letter) (TL.map letterOf).length kT)
   (hQ : ∀ ta h' tk' u',
     Fr h₀ L h' (kstB u' ([(Str.ofString "at", .int kT ta), (Str.ofString "mark", mv), (Str.ofString "hand", .int (handI hand) t5), (Str.ofString "line", .str line t4), (Str.ofString "letter", .str letter t2)] ++ nmA aS aN aT aK aP aM aC aU aF)) →
     News h₀ L h' ((aT, W.listOf tv.toArray tn) :: more) → Q .next { s with heap := h', toks := tk' }) :
   wpAny (model PySem.Challenge.rw_nb0156_01.row.prog w) (lawA L fa) (execs ((mainB.drop 12).take 1) (lawE L fa)) Q E s := by
  dsimp only [mainB, lawA, lawE, lawB, lawS, topS, fnB, fnS, forB, ifE, ifT, PySem.Challenge.pw_nb0156_01, List.getD, List.getElem?_cons_succ, List.getElem?_cons_zero, Option.getD_some, List.drop, List.take]
  dsimp only [kstB, nmA, List.cons_append, List.nil_append] at F
  have hl8 := ht.length
  have hz' : (TL.map letterOf).length < 1000 := by rw [List.length_map]; exact hz
  k_with_none
  (k_with "src" => (refine' LCg.CompSrc.ledger (its := tv.toArray) ?k1 ?k2 ?k3 ?k4 ?k5 ?_; (case k1 => rfl); (case k2 => k_asm); (case k3 => k_asm); (case k4 => exact List.Mem.head _); (case k5 => (rw [List.size_toArray, sizeLine_eq]; omega)); intro g9; (try rw [List.size_toArray, hl8]); refine' comp_map (fun i => letterOf (TL.getD i Str.empty)) ?t1 ?t2; (case' t1 => (intro i9 v9 I9 oI9 C9 oC9 D9 m9 ys9 h9 tk9 E9 hi9 hv9 hC9 hx9 F9 N9 off9 ne9; obtain ⟨t9, e9⟩ := strs_at ht hv9; subst e9)); (case' t2 => (intro ys9 hy9; rw [map_range_getD] at hy9))))
  (k_with "call" => (first
    | ((with_unfolding_all refine' call_by (letter_spec w _ _ _ (len_getD htl)) ?k1 ?k2 ?k3 ?k4 ?k5 ?k6 ?k7 ?k8 ?_); (case k1 => exact B); (case k2 => k_asm); (case k3 => k_asm); (case k4 => k_asm); (case k5 => k_asm); (case k6 => rfl); (case k7 => ktr_room); (case k8 => ktr_units); intro v8 h8 tk8 hv8 F8 N8; obtain ⟨t8, e8⟩ := hv8; subst e8)
    | ((with_unfolding_all refine' call_by (count_t hand rfl letter _ _ hy9 ?U hz' sT) ?k1 ?k2 ?k3 ?k4 ?k5 ?k6 ?k7 ?k8 ?_); (case k1 => exact B); (case k2 => k_asm); (case k3 => k_asm); (case k4 => k_asm); (case k5 => k_asm); (case U => k_dflt (exact List.Mem.head _)); (case k6 => rfl); (case k7 => ktr_room); (case k8 => ktr_units); intro v8 h8 tk8 hv8 F8 N8; obtain ⟨t8, e8⟩ := hv8; subst e8)))
  (k_with "comp end" => (exact compEnd_of (by k_asm) (by k_asm) off9 (Or.inr ⟨_, List.Mem.head _, rfl, _, rfl⟩) ⟨⟨_, rfl⟩, rfl⟩))
  k_steps
  rename Fr _ _ _ _ => fF
  rename News _ _ _ _ => nF
  exact hQ _ _ _ _ (frame_as _ fF (by dsimp only [nmA, List.cons_append, List.nil_append]; kst_all)) (fun p hp => nF p (List.Mem.tail _ hp))
end
end Mine
end

section
open PySem PySem.W PyProof.Rows
set_option Elab.async false
set_option maxRecDepth 100000
set_option maxHeartbeats 8000000
set_option linter.unusedVariables false
namespace Mine
theorem fillK26 (w : World) (h : Heap) (_ : (hd.heap_39 w.params).In h) : PySem.Challenge.rw_nb0156_01.row.prog = PySem.Challenge.rw_nb0156_01.row.prog ∧ (hd.heap_39 w.params) = hd.heap_39 w.params := by
  k_fill
  exact ⟨rfl, rfl⟩
theorem mx_nat {y : Int} (n : Nat) (h : 0 ≤ y) : max 0 (min y (n : Int)) = ((min y.toNat n : Nat) : Int) := by
  obtain ⟨k, rfl⟩ := Int.eq_ofNat_of_zero_le h
  rw [Int.toNat_natCast]
  rcases Nat.le_total k n with q | q
  · rw [Int.min_eq_left (Int.ofNat_le.mpr q), Int.max_eq_right (Int.natCast_nonneg k), Nat.min_eq_left q]
  · rw [Int.min_eq_right (Int.ofNat_le.mpr q), Int.max_eq_right (Int.natCast_nonneg n), Nat.min_eq_right q]
theorem pick_to {vs : List Value} {y : Int} (h : 0 ≤ y) : (slicePick vs.toArray none (some y) none).toList = vs.take y.toNat := by
  have e : sliceBounds none (some y) none vs.toArray.size = (((0 : Nat) : Int), ((min y.toNat vs.toArray.size : Nat) : Int), 1) := by
    simp only [sliceBounds, Option.getD_none, show (1 : Int) > 0 by decide, if_true, if_neg (Int.not_lt.mpr h), mx_nat _ h]
    rfl
  rw [kmk_pick_nat _ e]
  show (vs.drop 0).take (min y.toNat vs.toArray.size - 0) = _
  rw [List.drop_zero, Nat.sub_zero, List.size_toArray, kmk_take_min]
theorem pick_from {vs : List Value} {x : Int} (h : 0 ≤ x) : (slicePick vs.toArray (some x) none none).toList = vs.drop x.toNat := by
  have e : sliceBounds (some x) none none vs.toArray.size = (((min x.toNat vs.toArray.size : Nat) : Int), ((vs.toArray.size : Nat) : Int), 1) := by
    simp only [sliceBounds, Option.getD_none, show (1 : Int) > 0 by decide, if_true, if_neg (Int.not_lt.mpr h), mx_nat _ h]
  rw [kmk_pick_nat _ e]
  show (vs.drop (min x.toNat vs.toArray.size)).take (vs.toArray.size - min x.toNat vs.toArray.size) = _
  rw [List.size_toArray, kmk_drop_min, List.take_of_length_le (by rw [List.length_drop]; exact Nat.sub_le_sub_left (Nat.min_le_left _ _) _)]
theorem arr_fits {vs : List Value} (h : vs.length < 1000) : vs.toArray.size ≤ sizeLine := by rw [List.size_toArray, sizeLine_eq]; lia
theorem add_two {prog : Program} {w : World} {A : Around} {E : Value → Shared → Prop} {s : Shared} {h₀ : Heap} {L a b : Addr} {m : Str → Option Value} {news : List (Addr × Obj)} {vs ws : List Value} {na nb : Nat} {Q : Value → Shared → Prop} (F : Fr h₀ L s.heap m) (N : News h₀ L s.heap news) (ha : (a, W.listOf vs.toArray na) ∈ news) (hb : (b, W.listOf ws.toArray nb) ∈ news)
    (hza : vs.length < 1000) (hzb : ws.length < 1000)
    (h : ∀ D h', Fr h₀ L h' m → News h₀ L h' ((D, W.listOf (vs ++ ws).toArray 0) :: news) → (∀ p ∈ news, p.1 < D) → Q (.ref D) { s with heap := h' }) : wpAny (model prog w) A (binaryOp .Add (.ref a) (.ref b)) Q E s :=
  kmk_add_lit F N (News.isList N ha) (News.isList N hb) rfl h (by rw [sizeLine_eq]; show vs.length + ws.length ≤ _; omega)
section
theorem reset14 : True := by
  w_top off
  exact trivial
local macro_rules | `(tactic| walk_at "subscriptTail Name Slice ref ref") => `(tactic| k_extra "slice")
local macro_rules | `(tactic| walk_at "binaryOp Add ref ref") => `(tactic| k_extra "cat")
theorem turn_7 {w : World} {p : Program} {loose : List Str} {mean : ExcName → Option Value} {mg mb : Str → Option Value} {h₀ : Heap} {L fa : Nat} {s : Shared} {Q : Flow → Shared → Prop} {E : Value → Shared → Prop}
   {u : Str → Option Value} {aS aN aT aK aP aM aC aU aF : Nat} {more : List (Addr × Obj)} {t2 t4 ta : Tok} {letter line : Str} {mv hv : Value} {tv : List Value} {tn : Nat} {kT : Nat}
   (B : Below callerA h₀ [] h₀) (X : (hd.heap_39 w.params).In h₀) (T : Top p loose mean mg mb h₀) (h85 : 85 < L)
   (F : Fr h₀ L s.heap (kstB u ([(Str.ofString "at", .int kT ta), (Str.ofString "mark", mv), (Str.ofString "hand", hv), (Str.ofString "line", .str line t4), (Str.ofString "letter", .str letter t2)] ++ nmA aS aN aT aK aP aM aC aU aF)))
   (N : News h₀ L s.heap ((aT, W.listOf tv.toArray tn) :: more))
   (hz : tv.length < 900)
   (hQ : ∀ aT' h' tk' u', (∀ q ∈ more, @LT.lt Nat _ q.1 aT') →
     Fr h₀ L h' (kstB u' ([(Str.ofString "mark", mv), (Str.ofString "hand", hv)] ++ nmA aS aN aT' aK aP aM aC aU aF)) →
     News h₀ L h' ((aT', W.listOf (ins tv kT (.str line t4)).toArray 0) :: more) → Q .next { s with heap := h', toks := tk' }) :
   wpAny (model PySem.Challenge.rw_nb0156_01.row.prog w) (lawA L fa) (execs ((mainB.drop 13).take 1) (lawE L fa)) Q E s := by
  dsimp only [mainB, lawA, lawE, lawB, lawS, topS, fnB, fnS, forB, ifE, ifT, PySem.Challenge.pw_nb0156_01, List.getD, List.getElem?_cons_succ, List.getElem?_cons_zero, Option.getD_some, List.drop, List.take]
  dsimp only [kstB, nmA, List.cons_append, List.nil_append] at F
  k_with_none
  have hz1 : (tv.take (kT : Int).toNat).length < 950 := Nat.lt_of_le_of_lt (List.length_take_le' _ _) (by omega)
  have hz2 : (tv.drop (kT : Int).toNat).length < 950 := by rw [List.length_drop]; omega
  (k_with "slice" => (first
    | (k_dflt (refine' kmk_slice_lit (its := tv.toArray) ?F ?N (News.isList ?N2 ?m) .none (.int _ _) (pick_to (Int.natCast_nonneg kT)) ?_ ?s ?t (arr_fits (by omega)); (case F => k_asm); (case N => k_asm); (case N2 => k_asm); (case m => k_mem); (case s => with_unfolding_all rfl); (case t => kmk_pure)); intro D' h' F' N' l1; (try k_lt l1); (try k_sweep))
    | (k_dflt (refine' kmk_slice_lit (its := tv.toArray) ?F ?N (News.isList ?N2 ?m) (.int _ _) .none (pick_from (Int.natCast_nonneg kT)) ?_ ?s ?t (arr_fits (by omega)); (case F => k_asm); (case N => k_asm); (case N2 => k_asm); (case m => k_mem); (case s => with_unfolding_all rfl); (case t => kmk_pure)); intro D' h' F' N' l1; (try k_lt l1); (try k_sweep))))
  (k_with "cat" => (k_dflt (refine' add_two ?F ?N ?a ?b ?za ?zb ?_; (case F => k_asm); (case N => k_asm); (case a => k_mem); (case b => k_mem); (case za => ((try simp only [List.length_append, List.length_cons, List.length_nil]); omega)); (case zb => ((try simp only [List.length_append, List.length_cons, List.length_nil]); omega))); intro D' h' F' N' l1; (try k_lt l1); (try k_sweep)))
  k_steps
  rename Fr _ _ _ _ => fF
  rename News _ _ _ _ => nF
  rename _ ∧ _ ∧ _ ∧ _ ∧ _ ∧ AllLt _ more => lF
  refine hQ _ _ _ _ (allLt_lt lF.2.2.2.2.2) (frame_as _ fF (by dsimp only [nmA, List.cons_append, List.nil_append]; kst_all)) (fun q hq => ?_)
  rcases List.mem_cons.mp hq with rfl | hq
  · have := nF _ (List.Mem.head _)
    rw [List.append_assoc] at this
    exact this
  · exact nF q (List.Mem.tail _ (List.Mem.tail _ (List.Mem.tail _ (List.Mem.tail _ (List.Mem.tail _ (List.Mem.tail _ hq))))))
end
end Mine
end

section
open PySem PySem.W PyProof.Rows
set_option Elab.async false
set_option maxRecDepth 100000
set_option maxHeartbeats 8000000
set_option linter.unusedVariables false
namespace Mine
theorem fillK27 (w : World) (h : Heap) (_ : (hd.heap_39 w.params).In h) : PySem.Challenge.rw_nb0156_01.row.prog = PySem.Challenge.rw_nb0156_01.row.prog ∧ (hd.heap_39 w.params) = hd.heap_39 w.params := by
  k_fill
  exact ⟨rfl, rfl⟩
section
theorem reset15 : True := by
  w_top off
  exact trivial
local macro_rules | `(tactic| walk_at "subscriptTail Name Slice ref ref") => `(tactic| k_extra "slice")
local macro_rules | `(tactic| walk_at "binaryOp Add ref ref") => `(tactic| k_extra "cat")
local macro_rules | `(tactic| walk_at "call ref") => `(tactic| k_extra "call")
theorem turn_8 {w : World} {p : Program} {loose : List Str} {mean : ExcName → Option Value} {mg mb : Str → Option Value} {h₀ : Heap} {L fa : Nat} {s : Shared} {Q : Flow → Shared → Prop} {E : Value → Shared → Prop}
   {u : Str → Option Value} {aS aN aT aK aP aM aC aU aF : Nat} {more : List (Addr × Obj)} {t5 : Tok} {mv : Value} {nm : Nm} {hand : Bool} {nv : List Value} {nn : Nat} {kN : Nat} {NL : List Nm}
   (B : Below callerA h₀ [] h₀) (X : (hd.heap_39 w.params).In h₀) (T : Top p loose mean mg mb h₀) (h85 : 85 < L)
   (F : Fr h₀ L s.heap (kstB u ([(Str.ofString "mark", mv), (Str.ofString "hand", .int (handI hand) t5)] ++ nmA aS aN aT aK aP aM aC aU aF)))
   (N : News h₀ L s.heap ((aN, W.listOf nv.toArray nn) :: more))
   (hm : NmIs mv nm) (hn : NmsAre nv NL) (hz : NL.length < 900) (sN : SplitAt (tN hand NL nm) NL.length kN)
   (hQ : ∀ aN' h' tk' u', (∀ q ∈ more, @LT.lt Nat _ q.1 aN') →
     Fr h₀ L h' (kstB u' (nmA aS aN' aT aK aP aM aC aU aF)) →
     News h₀ L h' ((aN', W.listOf (ins nv kN mv).toArray 0) :: more) → Q .next { s with heap := h', toks := tk' }) :
   wpAny (model PySem.Challenge.rw_nb0156_01.row.prog w) (lawA L fa) (execs ((mainB.drop 14).take 2) (lawE L fa)) Q E s := by
  dsimp only [mainB, lawA, lawE, lawB, lawS, topS, fnB, fnS, forB, ifE, ifT, PySem.Challenge.pw_nb0156_01, List.getD, List.getElem?_cons_succ, List.getElem?_cons_zero, Option.getD_some, List.drop, List.take]
  dsimp only [kstB, nmA, List.cons_append, List.nil_append] at F
  have hl8 := hn.length
  have hz' : NL.length < 1000 := by omega
  have hz1 : (nv.take (kN : Int).toNat).length < 950 := Nat.lt_of_le_of_lt (List.length_take_le' _ _) (by omega)
  have hz2 : (nv.drop (kN : Int).toNat).length < 950 := by rw [List.length_drop]; omega
  k_with_none
  (k_with "call" => ((with_unfolding_all refine' call_by (count_n hand rfl hm _ hn ?U hz' sN) ?k1 ?k2 ?k3 ?k4 ?k5 ?k6 ?k7 ?k8 ?_); (case k1 => exact B); (case k2 => k_asm); (case k3 => k_asm); (case k4 => k_asm); (case k5 => k_asm); (case U => k_dflt (exact List.Mem.head _)); (case k6 => rfl); (case k7 => ktr_room); (case k8 => ktr_units); intro v8 h8 tk8 hv8 F8 N8; obtain ⟨t8, e8⟩ := hv8; subst e8))
  (k_with "slice" => (first
    | (k_dflt (refine' kmk_slice_lit (its := nv.toArray) ?F ?N (News.isList ?N2 ?m) .none (.int _ _) (pick_to (Int.natCast_nonneg kN)) ?_ ?s ?t (arr_fits (by omega)); (case F => k_asm); (case N => k_asm); (case N2 => k_asm); (case m => k_mem); (case s => with_unfolding_all rfl); (case t => kmk_pure)); intro D' h' F' N' l1; (try k_lt l1); (try k_sweep))
    | (k_dflt (refine' kmk_slice_lit (its := nv.toArray) ?F ?N (News.isList ?N2 ?m) (.int _ _) .none (pick_from (Int.natCast_nonneg kN)) ?_ ?s ?t (arr_fits (by omega)); (case F => k_asm); (case N => k_asm); (case N2 => k_asm); (case m => k_mem); (case s => with_unfolding_all rfl); (case t => kmk_pure)); intro D' h' F' N' l1; (try k_lt l1); (try k_sweep))))
  (k_with "cat" => (k_dflt (refine' add_two ?F ?N ?a ?b ?za ?zb ?_; (case F => k_asm); (case N => k_asm); (case a => k_mem); (case b => k_mem); (case za => ((try simp only [List.length_append, List.length_cons, List.length_nil]); omega)); (case zb => ((try simp only [List.length_append, List.length_cons, List.length_nil]); omega))); intro D' h' F' N' l1; (try k_lt l1); (try k_sweep)))
  k_steps
  rename Fr _ _ _ _ => fF
  rename News _ _ _ _ => nF
  rename _ ∧ _ ∧ _ ∧ _ ∧ _ ∧ AllLt _ more => lF
  refine hQ _ _ _ _ (allLt_lt lF.2.2.2.2.2) (frame_as _ fF (by dsimp only [nmA, List.cons_append, List.nil_append]; kst_all)) (fun q hq => ?_)
  rcases List.mem_cons.mp hq with rfl | hq
  · have := nF _ (List.Mem.head _)
    rw [List.append_assoc] at this
    exact this
  · exact nF q (List.Mem.tail _ (List.Mem.tail _ (List.Mem.tail _ (List.Mem.tail _ (List.Mem.tail _ (List.Mem.tail _ hq))))))
end
end Mine
end

section
open PySem PySem.W PyProof.Rows
set_option Elab.async false
set_option maxRecDepth 100000
set_option maxHeartbeats 1000000
set_option linter.unusedVariables false
namespace Mine
def AllP (P : Nat → Prop) : List (Addr × Obj) → Prop
  | [] => True
  | q :: r => P q.1 ∧ AllP P r
theorem allP_of {P : Nat → Prop} : ∀ {l : List (Addr × Obj)}, AllP P l → ∀ q ∈ l, P q.1
  | [], _, _, h => nomatch h
  | p :: r, h, q, hq => by
    rcases List.mem_cons.mp hq with rfl | hq
    · exact h.1
    · exact allP_of h.2 q hq
theorem allP_to {P : Nat → Prop} : ∀ {l : List (Addr × Obj)}, (∀ q ∈ l, P q.1) → AllP P l
  | [], _ => trivial
  | p :: r, h => ⟨h p (.head _), allP_to fun q hq => h q (.tail _ hq)⟩
theorem splitAt_congr {c c' : Nat → Bool} {n k : Nat} (h : SplitAt c n k) (e : ∀ i, i < n → c i = c' i) : SplitAt c' n k :=
  ⟨h.1, fun i hi => (e i (Nat.lt_of_lt_of_le hi h.1)) ▸ h.2.1 i hi, fun i hi hn => (e i hn) ▸ h.2.2 i hi hn⟩
theorem split_map {hand : Bool} {TL : List Str} {x : Str} {k : Nat} (h : SplitAt (tS hand TL x) TL.length k) : SplitAt (tW hand (TL.map letterOf) x) (TL.map letterOf).length k := by
  rw [List.length_map]
  refine splitAt_congr h fun i hi => ?_
  show tst StrLt hand _ x = tst StrLt hand _ x
  rw [List.getD_eq_getElem?_getD, List.getD_eq_getElem?_getD, List.getElem?_map, List.getElem?_eq_getElem hi]
  rfl
theorem split_side {tag : Str} {hand : Bool} {TL : List Str} {y : Str} {k : Nat} (h : SplitAt (tS hand TL y) TL.length k) : SplitAt (tF hand (restored tag TL) y) (restored tag TL).length (restored tag (TL.take k)).length :=
  side_split first_rest tag hand y h
theorem restored_le (tag : Str) (l : List Str) : (restored tag l).length ≤ l.length := by
  unfold restored; rw [List.length_map]; exact List.length_filter_le _ _
theorem split16 {l : List Stmt} (h : l.length = 16) : l = l.take 4 ++ ((l.drop 4).take 3 ++ ((l.drop 7).take 2 ++ ((l.drop 9).take 1 ++ ((l.drop 10).take 1 ++ ((l.drop 11).take 1 ++ ((l.drop 12).take 1 ++ ((l.drop 13).take 1 ++ (l.drop 14).take 2))))))) := by
  have key : ∀ n k, (l.drop n).take k ++ l.drop (n + k) = l.drop n := fun n k => by rw [← List.drop_drop, List.take_append_drop]
  have e14 : (l.drop 14).take 2 = l.drop 14 := List.take_of_length_le (by rw [List.length_drop, h]; decide)
  rw [e14, key 13 1, key 12 1, key 11 1, key 10 1, key 9 1, key 7 2, key 4 3, List.take_append_drop]
/-- the main loop's state -/
structure MSt where
  aT : Nat
  aN : Nat
  dv : List Value
  mv : List Value
  pv : List Value
  kv : List Value
  tv : List Value
  nv : List Value
  dn : Nat
  mn : Nat
  pn : Nat
  kn : Nat
  tn : Nat
  nn : Nat
  c5 : Obj
  TL : List Str
  ML : List Str
  PL : List Str
  NL : List Nm
abbrev mled (L aS aK aP aM aC aU aF aD : Nat) (cv sv : List Value) (c1 c2 c3 c4 c6 : Obj) (x : MSt) : List (Addr × Obj) :=
  [(x.aT, W.listOf x.tv.toArray x.tn), (x.aN, W.listOf x.nv.toArray x.nn), (aS, W.listOf sv.toArray 0), (aK, W.listOf x.kv.toArray x.kn), (aP, W.listOf x.pv.toArray x.pn), (aM, W.listOf x.mv.toArray x.mn), (aD, W.listOf x.dv.toArray x.dn), (aC, W.listOf cv.toArray 0), (aU, W.listOf #[.ref 48, .ref 30] 0), (aF, W.listOf #[.ref 57, .ref 39] 0),
    (L + 1 + 1 + 1 + 1 + 1 + 1, c6), (L + 1 + 1 + 1 + 1 + 1, x.c5), (L + 1 + 1 + 1 + 1, c4), (L + 1 + 1 + 1, c3), (L + 1 + 1, c2), (L + 1, c1), (85, tabObj #[])]
/-- what holds of it -/
structure MInv (aS aK aP aM aC aU aF : Nat) (i : Nat) (x : MSt) (m : Str → Option Value) : Prop where
  fr : ∃ u, m = kstB u (nmA aS x.aN x.aT aK aP aM aC aU aF)
  c5 : ∃ v, x.c5.data = .cell v
  oT : aK < x.aT
  oN : aK < x.aN
  d : StrsAre x.dv x.TL
  t : StrsAre x.tv x.TL
  m : StrsAre x.mv x.ML
  p : StrsAre x.pv x.PL
  k : NmsAre x.kv x.NL
  n : NmsAre x.nv x.NL
  rows : Rows x.TL x.ML x.PL x.NL
  lT : x.TL.length = i
  lN : x.NL.length = i
  okT : ∀ l ∈ x.TL, okS l
  okN : ∀ n ∈ x.NL, n.small
theorem hand_of (x : Int) : ∃ hand, (x.fdiv 28).fmod 2 = handI hand := by
  have := fm_bound (x.fdiv 28) (k := 2) (by decide)
  by_cases h : (x.fdiv 28).fmod 2 = 0
  · exact ⟨false, h⟩
  · exact ⟨true, by show _ = 1; omega⟩
theorem ints_at {vs : List Value} {ns : List Int} (h : IntsAre vs ns) {i : Nat} {v : Value} (hv : vs[i]? = some v) : ∃ k t, v = .int k t ∧ k ∈ ns := by
  obtain ⟨n, t, e, hn⟩ := h.at i v hv
  exact ⟨n, t, e, List.mem_of_getElem? hn⟩
theorem off2_cons {It a : Nat} {o : Obj} {l : List (Addr × Obj)} (p : a ≠ It ∧ a ≠ It + 1) (r : ∀ q ∈ l, q.1 ≠ It ∧ q.1 ≠ It + 1) : ∀ q ∈ (a, o) :: l, q.1 ≠ It ∧ q.1 ≠ It + 1 := fun q hq =>
  (List.mem_cons.mp hq).elim (fun e => e ▸ p) (fun h => r q h)
theorem off2_nil {It : Nat} : ∀ q ∈ ([] : List (Addr × Obj)), q.1 ≠ It ∧ q.1 ≠ It + 1 := fun q hq => absurd hq List.not_mem_nil
theorem both_lt {a It : Nat} (h : a < It) : a ≠ It ∧ a ≠ It + 1 := ⟨Nat.ne_of_lt h, Nat.ne_of_lt (Nat.lt_succ_of_lt h)⟩
theorem both_or {a It : Nat} (h : It + 1 < a ∨ a < It) : a ≠ It ∧ a ≠ It + 1 := h.elim (fun h => ⟨Nat.ne_of_gt (Nat.lt_of_succ_lt h), Nat.ne_of_gt h⟩) both_lt
theorem both_1 {L It : Nat} (h : L + 6 < It) : L + 1 ≠ It ∧ L + 1 ≠ It + 1 := both_lt (by omega)
theorem both_2 {L It : Nat} (h : L + 6 < It) : L + 1 + 1 ≠ It ∧ L + 1 + 1 ≠ It + 1 := both_lt (by omega)
theorem both_3 {L It : Nat} (h : L + 6 < It) : L + 1 + 1 + 1 ≠ It ∧ L + 1 + 1 + 1 ≠ It + 1 := both_lt (by omega)
theorem both_4 {L It : Nat} (h : L + 6 < It) : L + 1 + 1 + 1 + 1 ≠ It ∧ L + 1 + 1 + 1 + 1 ≠ It + 1 := both_lt (by omega)
theorem both_5 {L It : Nat} (h : L + 6 < It) : L + 1 + 1 + 1 + 1 + 1 ≠ It ∧ L + 1 + 1 + 1 + 1 + 1 ≠ It + 1 := both_lt (by omega)
theorem both_6 {L It : Nat} (h : L + 6 < It) : L + 1 + 1 + 1 + 1 + 1 + 1 ≠ It ∧ L + 1 + 1 + 1 + 1 + 1 + 1 ≠ It + 1 := both_lt (by omega)
theorem both_85 {L It : Nat} (h0 : 85 < L) (h : L + 6 < It) : 85 ≠ It ∧ 85 ≠ It + 1 := both_lt (by omega)
theorem mled_ne {L aS aK aP aM aC aU aF aD It : Nat} {cv sv : List Value} {c1 c2 c3 c4 c6 : Obj} {x : MSt} (h85 : 85 < L) (o1 : L + 6 < aF) (o2 : aF < aU) (o3 : aU < aC) (o4 : aC < aD) (o5 : aD < aM) (o6 : aM < aP) (o7 : aP < aK) (o8 : aK < aS) (o9 : aS < It)
    (hT : It + 1 < x.aT ∨ x.aT < It) (hN : It + 1 < x.aN ∨ x.aN < It) : ∀ q ∈ mled L aS aK aP aM aC aU aF aD cv sv c1 c2 c3 c4 c6 x, q.1 ≠ It ∧ q.1 ≠ It + 1 :=
  off2_cons (both_or hT) (off2_cons (both_or hN) (off2_cons (both_lt o9) (off2_cons (both_lt (Nat.lt_trans o8 o9)) (off2_cons (both_lt (Nat.lt_trans o7 (Nat.lt_trans o8 o9))) (off2_cons (both_lt (Nat.lt_trans o6 (Nat.lt_trans o7 (Nat.lt_trans o8 o9)))) (off2_cons (both_lt (Nat.lt_trans o5 (Nat.lt_trans o6 (Nat.lt_trans o7 (Nat.lt_trans o8 o9))))) (off2_cons (both_lt (Nat.lt_trans o4 (Nat.lt_trans o5 (Nat.lt_trans o6 (Nat.lt_trans o7 (Nat.lt_trans o8 o9)))))) (off2_cons (both_lt (Nat.lt_trans o3 (Nat.lt_trans o4 (Nat.lt_trans o5 (Nat.lt_trans o6 (Nat.lt_trans o7 (Nat.lt_trans o8 o9))))))) (off2_cons (both_lt (Nat.lt_trans o2 (Nat.lt_trans o3 (Nat.lt_trans o4 (Nat.lt_trans o5 (Nat.lt_trans o6 (Nat.lt_trans o7 (Nat.lt_trans o8 o9)))))))) (off2_cons (both_6 (Nat.lt_trans o1 (Nat.lt_trans o2 (Nat.lt_trans o3 (Nat.lt_trans o4 (Nat.lt_trans o5 (Nat.lt_trans o6 (Nat.lt_trans o7 (Nat.lt_trans o8 o9))))))))) (off2_cons (both_5 (Nat.lt_trans o1 (Nat.lt_trans o2 (Nat.lt_trans o3 (Nat.lt_trans o4 (Nat.lt_trans o5 (Nat.lt_trans o6 (Nat.lt_trans o7 (Nat.lt_trans o8 o9))))))))) (off2_cons (both_4 (Nat.lt_trans o1 (Nat.lt_trans o2 (Nat.lt_trans o3 (Nat.lt_trans o4 (Nat.lt_trans o5 (Nat.lt_trans o6 (Nat.lt_trans o7 (Nat.lt_trans o8 o9))))))))) (off2_cons (both_3 (Nat.lt_trans o1 (Nat.lt_trans o2 (Nat.lt_trans o3 (Nat.lt_trans o4 (Nat.lt_trans o5 (Nat.lt_trans o6 (Nat.lt_trans o7 (Nat.lt_trans o8 o9))))))))) (off2_cons (both_2 (Nat.lt_trans o1 (Nat.lt_trans o2 (Nat.lt_trans o3 (Nat.lt_trans o4 (Nat.lt_trans o5 (Nat.lt_trans o6 (Nat.lt_trans o7 (Nat.lt_trans o8 o9))))))))) (off2_cons (both_1 (Nat.lt_trans o1 (Nat.lt_trans o2 (Nat.lt_trans o3 (Nat.lt_trans o4 (Nat.lt_trans o5 (Nat.lt_trans o6 (Nat.lt_trans o7 (Nat.lt_trans o8 o9))))))))) (off2_cons (both_85 h85 (Nat.lt_trans o1 (Nat.lt_trans o2 (Nat.lt_trans o3 (Nat.lt_trans o4 (Nat.lt_trans o5 (Nat.lt_trans o6 (Nat.lt_trans o7 (Nat.lt_trans o8 o9))))))))) (off2_nil)))))))))))))))))
theorem main_len : mainB.length = 16 := by decide +kernel
section
theorem main_turn {w : World} {p : Program} {loose : List Str} {mean : ExcName → Option Value} {mg mb : Str → Option Value} {h₀ : Heap} {L fa : Nat} {s : Shared} {E : Value → Shared → Prop} {Q : Flow → Shared → Prop}
   {aS aK aP aM aC aU aF aD It : Nat} {oE oI : Obj} {cv sv : List Value} {c1 c2 c3 c4 c6 : Obj} {ns : List Int} {i : Nat} {v : Value} {t : Tok} {x : MSt} {m : Str → Option Value} {h' : Heap} {tk' : Nat}
   (B : Below callerA h₀ [] h₀) (X : (hd.heap_39 w.params).In h₀) (T : Top p loose mean mg mb h₀) (h85 : 85 < L)
   (hcv : StrsAre cv codesL) (hsv : IntsAre sv (stepsOf ns)) (d1 : c1.data = .cell (some (.ref aD)))
   (o1 : L + 6 < aF) (o2 : aF < aU) (o3 : aU < aC) (o4 : aC < aD) (o5 : aD < aM) (o6 : aM < aP) (o7 : aP < aK) (o8 : aK < aS) (o9 : aS < It)
   (hi : i < sv.length) (hv : sv[i]? = some v) (I : MInv aS aK aP aM aC aU aF i x m)
   (F : Fr h₀ L h' (fun y => if y = Str.ofString "x" then some v else if y = Str.ofString "place" then some (.int i t) else m y))
   (N : News h₀ L h' ((It + 1, oE) :: (It, oI) :: mled L aS aK aP aM aC aU aF aD cv sv c1 c2 c3 c4 c6 x))
   (hne : ∀ q ∈ mled L aS aK aP aM aC aU aF aD cv sv c1 c2 c3 c4 c6 x, q.1 ≠ It ∧ q.1 ≠ It + 1)
   (hQ : ∀ s₃, EnumAt h₀ L s (mled L aS aK aP aM aC aU aF aD cv sv c1 c2 c3 c4 c6) (MInv aS aK aP aM aC aU aF) It oE oI (i + 1) s₃ → Q .next s₃) :
   wpAny (model PySem.Challenge.rw_nb0156_01.row.prog w) (lawA L fa) (execs mainB (lawE L fa)) Q E { s with heap := h', toks := tk' } := by
  obtain ⟨⟨u, rfl⟩, ⟨v5, d5⟩, oT, oN, sd, st, sm, sp, sk, sn, R, lT, lN, okT, okN⟩ := I
  obtain ⟨xk, tx, rfl, hxm⟩ := ints_at hsv hv
  obtain ⟨hx0, hx1⟩ := steps_bound xk hxm
  have hlen := steps_len ns
  have hsl := hsv.length
  have hi24 : i < 24 := by omega
  obtain ⟨hand, hh⟩ := hand_of xk
  rw [split16 main_len]
  have F1 := frame_as ([(Str.ofString "x", .int xk tx), (Str.ofString "place", .int i t)] ++ nmA aS x.aN x.aT aK aP aM aC aU aF) F (by dsimp only [nmA, List.cons_append, List.nil_append]; kst_all)
  have N1 : News h₀ L h' ((aC, W.listOf cv.toArray 0) :: [(It + 1, oE), (It, oI), (x.aT, W.listOf x.tv.toArray x.tn), (x.aN, W.listOf x.nv.toArray x.nn), (aS, W.listOf sv.toArray 0), (aK, W.listOf x.kv.toArray x.kn), (aP, W.listOf x.pv.toArray x.pn), (aM, W.listOf x.mv.toArray x.mn), (aD, W.listOf x.dv.toArray x.dn), (aU, W.listOf #[.ref 48, .ref 30] 0), (aF, W.listOf #[.ref 57, .ref 39] 0), (L + 1 + 1 + 1 + 1 + 1 + 1, c6), (L + 1 + 1 + 1 + 1 + 1, x.c5), (L + 1 + 1 + 1 + 1, c4), (L + 1 + 1 + 1, c3), (L + 1 + 1, c2), (L + 1, c1), (85, tabObj #[])]) := news_pick [9, 0, 1, 2, 3, 4, 5, 6, 7, 8, 10, 11, 12, 13, 14, 15, 16, 17, 18] 19 N rfl
  refine execs_app (turn_1a (s := { s with heap := h', toks := tk' }) B X T F1 N1 hcv hx0 hx1 hi24 ?_)
  intro code letter rest t1 t2 t3 t4 h1 tk1 u1 hc hf hr hro F2 N2
  dsimp only
  refine execs_app (turn_1b (i := 0) (s := { s with heap := h1, toks := tk1 }) B X T F2 N2 hx0 hx1 ?_)
  intro mv nm t5 h2 tk2 u2 hm hsm F3 N3
  dsimp only
  rw [hh] at F3
  have hcl := codes_two hc
  have hle : letterOf (code ++ rest) = letter := (letter_app hcl).trans hf
  have hll : (code ++ rest).length ≤ 100 := by rw [Str.length_append, hcl]; omega
  have sT := atS_split hand (letterOf (code ++ rest)) R.sorted
  have sN := atN_split hand nm R.ordered
  have hz1 : x.TL.length < 1000 := by omega
  have hz2 : x.NL.length < 1000 := by omega
  have N4 : News h₀ L h2 ((aU, W.listOf #[.ref 48, .ref 30] 0) :: (aD, W.listOf x.dv.toArray x.dn) :: (aK, W.listOf x.kv.toArray x.kn) :: (L + 1 + 1 + 1 + 1 + 1, x.c5) :: (L + 1, c1) :: [(It + 1, oE), (It, oI), (x.aT, W.listOf x.tv.toArray x.tn), (x.aN, W.listOf x.nv.toArray x.nn), (aS, W.listOf sv.toArray 0), (aP, W.listOf x.pv.toArray x.pn), (aM, W.listOf x.mv.toArray x.mn), (aC, W.listOf cv.toArray 0), (aF, W.listOf #[.ref 57, .ref 39] 0), (L + 1 + 1 + 1 + 1 + 1 + 1, c6), (L + 1 + 1 + 1 + 1, c4), (L + 1 + 1 + 1, c3), (L + 1 + 1, c2), (85, tabObj #[])]) := news_pick [10, 9, 6, 13, 17, 1, 2, 3, 4, 5, 7, 8, 0, 11, 12, 14, 15, 16, 18] 19 N3 rfl
  refine execs_app (turn_2 (s := { s with heap := h2, toks := tk2 }) B X T h85 F3 N4 d1 d5 (Nat.lt_trans o1 o2) (Nat.lt_trans o3 o4) (Nat.lt_trans o5 (Nat.lt_trans o6 o7)) (off_cons (Nat.ne_of_gt (Nat.lt_succ_of_lt (Nat.lt_trans o5 (Nat.lt_trans o6 (Nat.lt_trans o7 (Nat.lt_trans o8 o9)))))) (off_cons (Nat.ne_of_gt (Nat.lt_trans o5 (Nat.lt_trans o6 (Nat.lt_trans o7 (Nat.lt_trans o8 o9))))) (off_cons (Nat.ne_of_gt (Nat.lt_trans (Nat.lt_trans o5 (Nat.lt_trans o6 o7)) oT)) (off_cons (Nat.ne_of_gt (Nat.lt_trans (Nat.lt_trans o5 (Nat.lt_trans o6 o7)) oN)) (off_cons (Nat.ne_of_gt (Nat.lt_trans o5 (Nat.lt_trans o6 (Nat.lt_trans o7 o8)))) (off_cons (Nat.ne_of_gt (Nat.lt_trans o5 o6)) (off_cons (Nat.ne_of_gt o5) (off_cons (Nat.ne_of_lt o4) (off_cons (Nat.ne_of_lt (Nat.lt_trans o2 (Nat.lt_trans o3 o4))) (off_cons (Ne.symm (far6 (Nat.lt_trans o1 (Nat.lt_trans o2 (Nat.lt_trans o3 o4))))) (off_cons (Ne.symm (far4 (Nat.lt_trans o1 (Nat.lt_trans o2 (Nat.lt_trans o3 o4))))) (off_cons (Ne.symm (far3 (Nat.lt_trans o1 (Nat.lt_trans o2 (Nat.lt_trans o3 o4))))) (off_cons (Ne.symm (far2 (Nat.lt_trans o1 (Nat.lt_trans o2 (Nat.lt_trans o3 o4))))) (off_cons (Ne.symm (far85 h85 (Nat.lt_trans o1 (Nat.lt_trans o2 (Nat.lt_trans o3 o4))))) (off_nil))))))))))))))) (off_cons (Nat.ne_of_gt (Nat.lt_succ_of_lt (Nat.lt_trans o8 o9))) (off_cons (Nat.ne_of_gt (Nat.lt_trans o8 o9)) (off_cons (Nat.ne_of_gt oT) (off_cons (Nat.ne_of_gt oN) (off_cons (Nat.ne_of_gt o8) (off_cons (Nat.ne_of_lt o7) (off_cons (Nat.ne_of_lt (Nat.lt_trans o6 o7)) (off_cons (Nat.ne_of_lt (Nat.lt_trans o4 (Nat.lt_trans o5 (Nat.lt_trans o6 o7)))) (off_cons (Nat.ne_of_lt (Nat.lt_trans o2 (Nat.lt_trans o3 (Nat.lt_trans o4 (Nat.lt_trans o5 (Nat.lt_trans o6 o7)))))) (off_cons (Ne.symm (far6 (Nat.lt_trans o1 (Nat.lt_trans o2 (Nat.lt_trans o3 (Nat.lt_trans o4 (Nat.lt_trans o5 (Nat.lt_trans o6 o7)))))))) (off_cons (Ne.symm (far4 (Nat.lt_trans o1 (Nat.lt_trans o2 (Nat.lt_trans o3 (Nat.lt_trans o4 (Nat.lt_trans o5 (Nat.lt_trans o6 o7)))))))) (off_cons (Ne.symm (far3 (Nat.lt_trans o1 (Nat.lt_trans o2 (Nat.lt_trans o3 (Nat.lt_trans o4 (Nat.lt_trans o5 (Nat.lt_trans o6 o7)))))))) (off_cons (Ne.symm (far2 (Nat.lt_trans o1 (Nat.lt_trans o2 (Nat.lt_trans o3 (Nat.lt_trans o4 (Nat.lt_trans o5 (Nat.lt_trans o6 o7)))))))) (off_cons (Ne.symm (far85 h85 (Nat.lt_trans o1 (Nat.lt_trans o2 (Nat.lt_trans o3 (Nat.lt_trans o4 (Nat.lt_trans o5 (Nat.lt_trans o6 o7)))))))) (off_nil))))))))))))))) (off_cons (far5 (Nat.lt_succ_of_lt (Nat.lt_trans o1 (Nat.lt_trans o2 (Nat.lt_trans o3 (Nat.lt_trans o4 (Nat.lt_trans o5 (Nat.lt_trans o6 (Nat.lt_trans o7 (Nat.lt_trans o8 o9)))))))))) (off_cons (far5 (Nat.lt_trans o1 (Nat.lt_trans o2 (Nat.lt_trans o3 (Nat.lt_trans o4 (Nat.lt_trans o5 (Nat.lt_trans o6 (Nat.lt_trans o7 (Nat.lt_trans o8 o9))))))))) (off_cons (far5 (Nat.lt_trans (Nat.lt_trans o1 (Nat.lt_trans o2 (Nat.lt_trans o3 (Nat.lt_trans o4 (Nat.lt_trans o5 (Nat.lt_trans o6 o7)))))) oT)) (off_cons (far5 (Nat.lt_trans (Nat.lt_trans o1 (Nat.lt_trans o2 (Nat.lt_trans o3 (Nat.lt_trans o4 (Nat.lt_trans o5 (Nat.lt_trans o6 o7)))))) oN)) (off_cons (far5 (Nat.lt_trans o1 (Nat.lt_trans o2 (Nat.lt_trans o3 (Nat.lt_trans o4 (Nat.lt_trans o5 (Nat.lt_trans o6 (Nat.lt_trans o7 o8)))))))) (off_cons (far5 (Nat.lt_trans o1 (Nat.lt_trans o2 (Nat.lt_trans o3 (Nat.lt_trans o4 (Nat.lt_trans o5 o6)))))) (off_cons (far5 (Nat.lt_trans o1 (Nat.lt_trans o2 (Nat.lt_trans o3 (Nat.lt_trans o4 o5))))) (off_cons (far5 (Nat.lt_trans o1 (Nat.lt_trans o2 o3))) (off_cons (far5 o1) (off_cons nc65 (off_cons nc45 (off_cons nc35 (off_cons nc25 (off_cons (z5 h85) (off_nil))))))))))))))) hm sd sk R.short hll hz1 hz2 sT sN ?_)
  intro aG c5' h3 tk3 u3 d5' oG hG F5 N5
  dsimp only
  have sM : SplitAt (tF hand x.ML (firstOf rest)) x.ML.length (restored (Str.ofString "- ") (x.TL.take (atS hand x.TL (letterOf (code ++ rest))))).length := by rw [R.minus, hf, ← hle]; exact split_side sT
  have sP : SplitAt (tF hand x.PL (firstOf rest)) x.PL.length (restored (Str.ofString "+ ") (x.TL.take (atS hand x.TL (letterOf (code ++ rest))))).length := by rw [R.plus, hf, ← hle]; exact split_side sT
  have hML : ∀ l ∈ x.ML, l.length ≤ 100 := by rw [R.minus]; exact restored_len R.short
  have hPL : ∀ l ∈ x.PL, l.length ≤ 100 := by rw [R.plus]; exact restored_len R.short
  have hzM : x.ML.length < 1000 := by rw [R.minus]; exact Nat.lt_of_le_of_lt (restored_le _ _) hz1
  have hzP : x.PL.length < 1000 := by rw [R.plus]; exact Nat.lt_of_le_of_lt (restored_le _ _) hz1
  have N6 : News h₀ L h3 ((aG, W.listOf [Value.none, Value.none].toArray 0) :: (aM, W.listOf x.mv.toArray x.mn) :: (L + 1 + 1 + 1 + 1 + 1, c5') :: [(It + 1, oE), (It, oI), (x.aT, W.listOf x.tv.toArray x.tn), (x.aN, W.listOf x.nv.toArray x.nn), (aS, W.listOf sv.toArray 0), (aK, W.listOf (ins x.kv (atN hand x.NL nm) mv).toArray (x.kn + 1)), (aP, W.listOf x.pv.toArray x.pn), (aD, W.listOf (ins x.dv (atS hand x.TL (letterOf (code ++ rest))) (.str (code ++ rest) t4)).toArray (x.dn + 1)), (aC, W.listOf cv.toArray 0), (aU, W.listOf #[.ref 48, .ref 30] 0), (aF, W.listOf #[.ref 57, .ref 39] 0), (L + 1 + 1 + 1 + 1 + 1 + 1, c6), (L + 1 + 1 + 1 + 1, c4), (L + 1 + 1 + 1, c3), (L + 1 + 1, c2), (L + 1, c1), (85, tabObj #[])]) := news_pick [0, 12, 4, 6, 7, 8, 9, 10, 3, 11, 2, 13, 1, 14, 15, 16, 17, 18, 5, 19] 20 N5 rfl
  refine execs_app (turn_3 (s := { s with heap := h3, toks := tk3 }) B X T h85 F5 N6 d5' (Nat.lt_trans o1 (Nat.lt_trans o2 (Nat.lt_trans o3 (Nat.lt_trans o4 o5)))) (Nat.lt_trans (Nat.lt_trans o6 o7) oG) (off_cons (Nat.ne_of_lt (hG _ (mem_ix 0 rfl))) (off_cons (Nat.ne_of_lt (hG _ (mem_ix 1 rfl))) (off_cons (Nat.ne_of_lt (hG _ (mem_ix 2 rfl))) (off_cons (Nat.ne_of_lt (hG _ (mem_ix 3 rfl))) (off_cons (Nat.ne_of_lt (hG _ (mem_ix 4 rfl))) (off_cons (Nat.ne_of_lt oG) (off_cons (Nat.ne_of_lt (hG _ (mem_ix 5 rfl))) (off_cons (Nat.ne_of_lt (Nat.lt_trans (Nat.lt_trans o5 (Nat.lt_trans o6 o7)) oG)) (off_cons (Nat.ne_of_lt (hG _ (mem_ix 7 rfl))) (off_cons (Nat.ne_of_lt (Nat.lt_trans (Nat.lt_trans o3 (Nat.lt_trans o4 (Nat.lt_trans o5 (Nat.lt_trans o6 o7)))) oG)) (off_cons (Nat.ne_of_lt (hG _ (mem_ix 8 rfl))) (off_cons (Nat.ne_of_lt (hG _ (mem_ix 9 rfl))) (off_cons (Nat.ne_of_lt (hG _ (mem_ix 10 rfl))) (off_cons (Nat.ne_of_lt (hG _ (mem_ix 11 rfl))) (off_cons (Nat.ne_of_lt (hG _ (mem_ix 12 rfl))) (off_cons (Ne.symm (far1 (Nat.lt_trans (Nat.lt_trans o1 (Nat.lt_trans o2 (Nat.lt_trans o3 (Nat.lt_trans o4 (Nat.lt_trans o5 (Nat.lt_trans o6 o7)))))) oG))) (off_cons (Nat.ne_of_lt (hG _ (mem_ix 13 rfl))) (off_nil)))))))))))))))))) (off_cons (Nat.ne_of_gt (Nat.lt_succ_of_lt (Nat.lt_trans o6 (Nat.lt_trans o7 (Nat.lt_trans o8 o9))))) (off_cons (Nat.ne_of_gt (Nat.lt_trans o6 (Nat.lt_trans o7 (Nat.lt_trans o8 o9)))) (off_cons (Nat.ne_of_gt (Nat.lt_trans (Nat.lt_trans o6 o7) oT)) (off_cons (Nat.ne_of_gt (Nat.lt_trans (Nat.lt_trans o6 o7) oN)) (off_cons (Nat.ne_of_gt (Nat.lt_trans o6 (Nat.lt_trans o7 o8))) (off_cons (Nat.ne_of_gt (Nat.lt_trans o6 o7)) (off_cons (Nat.ne_of_gt o6) (off_cons (Nat.ne_of_lt o5) (off_cons (Nat.ne_of_lt (Nat.lt_trans o4 o5)) (off_cons (Nat.ne_of_lt (Nat.lt_trans o3 (Nat.lt_trans o4 o5))) (off_cons (Nat.ne_of_lt (Nat.lt_trans o2 (Nat.lt_trans o3 (Nat.lt_trans o4 o5)))) (off_cons (Ne.symm (far6 (Nat.lt_trans o1 (Nat.lt_trans o2 (Nat.lt_trans o3 (Nat.lt_trans o4 o5)))))) (off_cons (Ne.symm (far4 (Nat.lt_trans o1 (Nat.lt_trans o2 (Nat.lt_trans o3 (Nat.lt_trans o4 o5)))))) (off_cons (Ne.symm (far3 (Nat.lt_trans o1 (Nat.lt_trans o2 (Nat.lt_trans o3 (Nat.lt_trans o4 o5)))))) (off_cons (Ne.symm (far2 (Nat.lt_trans o1 (Nat.lt_trans o2 (Nat.lt_trans o3 (Nat.lt_trans o4 o5)))))) (off_cons (Ne.symm (far1 (Nat.lt_trans o1 (Nat.lt_trans o2 (Nat.lt_trans o3 (Nat.lt_trans o4 o5)))))) (off_cons (Ne.symm (far85 h85 (Nat.lt_trans o1 (Nat.lt_trans o2 (Nat.lt_trans o3 (Nat.lt_trans o4 o5)))))) (off_nil)))))))))))))))))) (by simp [Nones]) (by decide) sm hML (Nat.le_trans hr (by decide)) hzM sM ?_)
  intro gv gn mv' mn' h4 tk4 u4 hg4 hgl4 sm' F7 N7
  dsimp only
  have N8 : News h₀ L h4 ((aG, W.listOf gv.toArray gn) :: (aP, W.listOf x.pv.toArray x.pn) :: (L + 1 + 1 + 1 + 1 + 1, c5') :: [(It + 1, oE), (It, oI), (x.aT, W.listOf x.tv.toArray x.tn), (x.aN, W.listOf x.nv.toArray x.nn), (aS, W.listOf sv.toArray 0), (aK, W.listOf (ins x.kv (atN hand x.NL nm) mv).toArray (x.kn + 1)), (aM, W.listOf mv'.toArray mn'), (aD, W.listOf (ins x.dv (atS hand x.TL (letterOf (code ++ rest))) (.str (code ++ rest) t4)).toArray (x.dn + 1)), (aC, W.listOf cv.toArray 0), (aU, W.listOf #[.ref 48, .ref 30] 0), (aF, W.listOf #[.ref 57, .ref 39] 0), (L + 1 + 1 + 1 + 1 + 1 + 1, c6), (L + 1 + 1 + 1 + 1, c4), (L + 1 + 1 + 1, c3), (L + 1 + 1, c2), (L + 1, c1), (85, tabObj #[])]) := news_pick [0, 9, 2, 3, 4, 5, 6, 7, 8, 1, 10, 11, 12, 13, 14, 15, 16, 17, 18, 19] 20 N7 rfl
  have hgl5 : gv.length < 10 := Nat.lt_of_le_of_lt hgl4 (by decide)
  refine execs_app (turn_4 (s := { s with heap := h4, toks := tk4 }) B X T h85 F7 N8 d5' (Nat.lt_trans o1 (Nat.lt_trans o2 (Nat.lt_trans o3 (Nat.lt_trans o4 (Nat.lt_trans o5 o6))))) (Nat.lt_trans o7 oG) (off_cons (Nat.ne_of_lt (hG _ (mem_ix 0 rfl))) (off_cons (Nat.ne_of_lt (hG _ (mem_ix 1 rfl))) (off_cons (Nat.ne_of_lt (hG _ (mem_ix 2 rfl))) (off_cons (Nat.ne_of_lt (hG _ (mem_ix 3 rfl))) (off_cons (Nat.ne_of_lt (hG _ (mem_ix 4 rfl))) (off_cons (Nat.ne_of_lt oG) (off_cons (Nat.ne_of_lt (hG _ (mem_ix 6 rfl))) (off_cons (Nat.ne_of_lt (Nat.lt_trans (Nat.lt_trans o5 (Nat.lt_trans o6 o7)) oG)) (off_cons (Nat.ne_of_lt (hG _ (mem_ix 7 rfl))) (off_cons (Nat.ne_of_lt (Nat.lt_trans (Nat.lt_trans o3 (Nat.lt_trans o4 (Nat.lt_trans o5 (Nat.lt_trans o6 o7)))) oG)) (off_cons (Nat.ne_of_lt (hG _ (mem_ix 8 rfl))) (off_cons (Nat.ne_of_lt (hG _ (mem_ix 9 rfl))) (off_cons (Nat.ne_of_lt (hG _ (mem_ix 10 rfl))) (off_cons (Nat.ne_of_lt (hG _ (mem_ix 11 rfl))) (off_cons (Nat.ne_of_lt (hG _ (mem_ix 12 rfl))) (off_cons (Ne.symm (far1 (Nat.lt_trans (Nat.lt_trans o1 (Nat.lt_trans o2 (Nat.lt_trans o3 (Nat.lt_trans o4 (Nat.lt_trans o5 (Nat.lt_trans o6 o7)))))) oG))) (off_cons (Nat.ne_of_lt (hG _ (mem_ix 13 rfl))) (off_nil)))))))))))))))))) (off_cons (Nat.ne_of_gt (Nat.lt_succ_of_lt (Nat.lt_trans o7 (Nat.lt_trans o8 o9)))) (off_cons (Nat.ne_of_gt (Nat.lt_trans o7 (Nat.lt_trans o8 o9))) (off_cons (Nat.ne_of_gt (Nat.lt_trans o7 oT)) (off_cons (Nat.ne_of_gt (Nat.lt_trans o7 oN)) (off_cons (Nat.ne_of_gt (Nat.lt_trans o7 o8)) (off_cons (Nat.ne_of_gt o7) (off_cons (Nat.ne_of_lt o6) (off_cons (Nat.ne_of_lt (Nat.lt_trans o5 o6)) (off_cons (Nat.ne_of_lt (Nat.lt_trans o4 (Nat.lt_trans o5 o6))) (off_cons (Nat.ne_of_lt (Nat.lt_trans o3 (Nat.lt_trans o4 (Nat.lt_trans o5 o6)))) (off_cons (Nat.ne_of_lt (Nat.lt_trans o2 (Nat.lt_trans o3 (Nat.lt_trans o4 (Nat.lt_trans o5 o6))))) (off_cons (Ne.symm (far6 (Nat.lt_trans o1 (Nat.lt_trans o2 (Nat.lt_trans o3 (Nat.lt_trans o4 (Nat.lt_trans o5 o6))))))) (off_cons (Ne.symm (far4 (Nat.lt_trans o1 (Nat.lt_trans o2 (Nat.lt_trans o3 (Nat.lt_trans o4 (Nat.lt_trans o5 o6))))))) (off_cons (Ne.symm (far3 (Nat.lt_trans o1 (Nat.lt_trans o2 (Nat.lt_trans o3 (Nat.lt_trans o4 (Nat.lt_trans o5 o6))))))) (off_cons (Ne.symm (far2 (Nat.lt_trans o1 (Nat.lt_trans o2 (Nat.lt_trans o3 (Nat.lt_trans o4 (Nat.lt_trans o5 o6))))))) (off_cons (Ne.symm (far1 (Nat.lt_trans o1 (Nat.lt_trans o2 (Nat.lt_trans o3 (Nat.lt_trans o4 (Nat.lt_trans o5 o6))))))) (off_cons (Ne.symm (far85 h85 (Nat.lt_trans o1 (Nat.lt_trans o2 (Nat.lt_trans o3 (Nat.lt_trans o4 (Nat.lt_trans o5 o6))))))) (off_nil)))))))))))))))))) hg4 hgl5 sp hPL (Nat.le_trans hr (by decide)) hzP sP ?_)
  intro gv' gn' pv' pn' h5 tk5 u5 hg6 hgl6 sp' F8 N9
  dsimp only
  have N10 : News h₀ L h5 ((aG, W.listOf gv'.toArray gn') :: [(It + 1, oE), (It, oI), (x.aT, W.listOf x.tv.toArray x.tn), (x.aN, W.listOf x.nv.toArray x.nn), (aS, W.listOf sv.toArray 0), (aK, W.listOf (ins x.kv (atN hand x.NL nm) mv).toArray (x.kn + 1)), (aP, W.listOf pv'.toArray pn'), (aM, W.listOf mv'.toArray mn'), (aD, W.listOf (ins x.dv (atS hand x.TL (letterOf (code ++ rest))) (.str (code ++ rest) t4)).toArray (x.dn + 1)), (aC, W.listOf cv.toArray 0), (aU, W.listOf #[.ref 48, .ref 30] 0), (aF, W.listOf #[.ref 57, .ref 39] 0), (L + 1 + 1 + 1 + 1 + 1 + 1, c6), (L + 1 + 1 + 1 + 1 + 1, c5'), (L + 1 + 1 + 1 + 1, c4), (L + 1 + 1 + 1, c3), (L + 1 + 1, c2), (L + 1, c1), (85, tabObj #[])]) := news_pick [0, 3, 4, 5, 6, 7, 8, 1, 9, 10, 11, 12, 13, 14, 2, 15, 16, 17, 18, 19] 20 N9 rfl
  have hgl7 : gv'.length < 10 := Nat.lt_of_le_of_lt hgl6 (by have : gv.length ≤ 3 := hgl4; omega)
  refine execs_app (turn_5 (t5 := 0) (s := { s with heap := h5, toks := tk5 }) B X T h85 F8 N10 hg6 hgl7 ?_)
  intro h6 tk6 u6 F9 N11
  dsimp only
  have N12 : News h₀ L h6 ((x.aT, W.listOf x.tv.toArray x.tn) :: [(It + 1, oE), (It, oI), (x.aN, W.listOf x.nv.toArray x.nn), (aS, W.listOf sv.toArray 0), (aK, W.listOf (ins x.kv (atN hand x.NL nm) mv).toArray (x.kn + 1)), (aP, W.listOf pv'.toArray pn'), (aM, W.listOf mv'.toArray mn'), (aD, W.listOf (ins x.dv (atS hand x.TL (letterOf (code ++ rest))) (.str (code ++ rest) t4)).toArray (x.dn + 1)), (aC, W.listOf cv.toArray 0), (aU, W.listOf #[.ref 48, .ref 30] 0), (aF, W.listOf #[.ref 57, .ref 39] 0), (L + 1 + 1 + 1 + 1 + 1 + 1, c6), (L + 1 + 1 + 1 + 1 + 1, c5'), (L + 1 + 1 + 1 + 1, c4), (L + 1 + 1 + 1, c3), (L + 1 + 1, c2), (L + 1, c1), (85, tabObj #[])]) := news_pick [2, 0, 1, 3, 4, 5, 6, 7, 8, 9, 10, 11, 12, 13, 14, 15, 16, 17, 18] 19 N11 rfl
  have sT' : SplitAt (tW hand (x.TL.map letterOf) letter) (x.TL.map letterOf).length (atS hand x.TL (letterOf (code ++ rest))) := by rw [← hle]; exact split_map sT
  refine execs_app (turn_6 (s := { s with heap := h6, toks := tk6 }) B X T h85 F9 N12 st R.short hz1 sT' ?_)
  intro ta h7 tk7 u7 F10 N13
  dsimp only
  have hzt : x.tv.length < 900 := by rw [st.length]; omega
  refine execs_app (turn_7 (s := { s with heap := h7, toks := tk7 }) B X T h85 F10 N13 hzt ?_)
  intro aT' h8 tk8 u8 oT' F11 N14
  dsimp only
  have N15 : News h₀ L h8 ((x.aN, W.listOf x.nv.toArray x.nn) :: [(It + 1, oE), (It, oI), (aT', W.listOf (ins x.tv (atS hand x.TL (letterOf (code ++ rest))) (.str (code ++ rest) t4)).toArray 0), (aS, W.listOf sv.toArray 0), (aK, W.listOf (ins x.kv (atN hand x.NL nm) mv).toArray (x.kn + 1)), (aP, W.listOf pv'.toArray pn'), (aM, W.listOf mv'.toArray mn'), (aD, W.listOf (ins x.dv (atS hand x.TL (letterOf (code ++ rest))) (.str (code ++ rest) t4)).toArray (x.dn + 1)), (aC, W.listOf cv.toArray 0), (aU, W.listOf #[.ref 48, .ref 30] 0), (aF, W.listOf #[.ref 57, .ref 39] 0), (L + 1 + 1 + 1 + 1 + 1 + 1, c6), (L + 1 + 1 + 1 + 1 + 1, c5'), (L + 1 + 1 + 1 + 1, c4), (L + 1 + 1 + 1, c3), (L + 1 + 1, c2), (L + 1, c1), (85, tabObj #[])]) := news_pick [3, 1, 2, 0, 4, 5, 6, 7, 8, 9, 10, 11, 12, 13, 14, 15, 16, 17, 18] 19 N14 rfl
  refine turn_8 (s := { s with heap := h8, toks := tk8 }) B X T h85 F11 N15 hm sn (by omega) sN ?_
  intro aN' h9 tk9 u9 oN' F12 N16
  have RR := R.lay hand hll nm
  rw [rest_app hcl, onSide_app _ hcl, onSide_app _ hcl] at RR
  refine hQ _ ⟨⟨aT', aN', ins x.dv (atS hand x.TL (letterOf (code ++ rest))) (.str (code ++ rest) t4), mv', pv', ins x.kv (atN hand x.NL nm) mv, ins x.tv (atS hand x.TL (letterOf (code ++ rest))) (.str (code ++ rest) t4), ins x.nv (atN hand x.NL nm) mv, x.dn + 1, mn', pn', x.kn + 1, 0, 0, c5',
    ins x.TL (atS hand x.TL (letterOf (code ++ rest))) (code ++ rest), _, _, ins x.NL (atN hand x.NL nm) nm⟩, _, h9, tk9, rfl, F12, news_pick [1, 2, 3, 0, 4, 5, 6, 7, 8, 9, 10, 11, 12, 13, 14, 15, 16, 17, 18] 19 N16 rfl, ⟨⟨u9, rfl⟩, ⟨_, d5'⟩, oT' _ (mem_ix 4 rfl), oN' _ (mem_ix 4 rfl), strs_ins sd _ _ _, strs_ins st _ _ _, sm', sp', nms_ins sk _ hm, nms_ins sn _ hm, RR, ?_, ?_, fun l hl => ?_, fun n hn => ?_⟩, mled_ne (x := ⟨aT', aN', _, _, _, _, _, _, _, _, _, _, _, _, _, _, _, _, _⟩) h85 o1 o2 o3 o4 o5 o6 o7 o8 o9 (.inl (oT' _ (mem_ix 0 rfl))) (.inl (oN' _ (mem_ix 0 rfl)))⟩
  · show (ins x.TL _ _).length = i + 1; rw [ins_length, lT]
  · show (ins x.NL _ _).length = i + 1; rw [ins_length, lN]
  · rcases ins_mem hl with rfl | hl
    · exact ok_append (codes_ok hc) hro
    · exact okT l hl
  · rcases ins_mem hn with rfl | hn
    · exact hsm
    · exact okN n hn
end
end Mine
end

section
open PySem PySem.W PyProof.Rows
set_option Elab.async false
set_option maxRecDepth 100000
set_option maxHeartbeats 1000000
set_option linter.unusedVariables false
namespace Mine
theorem fillK28 (w : World) (h : Heap) (_ : (hd.heap_39 w.params).In h) : PySem.Challenge.rw_nb0156_01.row.prog = PySem.Challenge.rw_nb0156_01.row.prog ∧ (hd.heap_39 w.params) = hd.heap_39 w.params := by
  k_fill
  exact ⟨rfl, rfl⟩
theorem rows_nil : Rows [] [] [] [] := ⟨rfl, rfl, List.Pairwise.nil, List.Pairwise.nil, fun l h => nomatch h⟩
section
theorem reset16 : True := by
  w_top off
  exact trivial
local macro_rules | `(tactic| walk_at "call type:enumerate") => `(tactic| k_extra "enum")
theorem enum_eval {w : World} {p : Program} {loose : List Str} {mean : ExcName → Option Value} {mg mb : Str → Option Value} {h₀ : Heap} {L fa : Nat} {s : Shared} {E : Value → Shared → Prop} {u : Str → Option Value} {aS aN aT aK aP aM aC aU aF : Nat} {news : List (Addr × Obj)} {np sp cp : Pos} {Q : Value → Shared → Prop}
    (X : (hd.heap_39 w.params).In h₀) (T : Top p loose mean mg mb h₀) (F : Fr h₀ L s.heap (kstB u (nmA aS aN aT aK aP aM aC aU aF))) (N : News h₀ L s.heap news)
    (h : wpAny (model PySem.Challenge.rw_nb0156_01.row.prog w) (lawA L fa) (call (.type "enumerate") [.ref aS]) Q E s) :
    wpAny (model PySem.Challenge.rw_nb0156_01.row.prog w) (lawA L fa) (eval (.Call (.Name (Str.ofString "enumerate") np) [.Name (Str.ofString "steps") sp] [] cp) (lawE L fa)) Q E s := by
  dsimp only [lawA, lawE, lawB, lawS, topS, fnB, fnS, forB, ifE, ifT, PySem.Challenge.pw_nb0156_01, List.getD, List.getElem?_cons_succ, List.getElem?_cons_zero, Option.getD_some, List.drop, List.take] at h ⊢
  dsimp only [kstB, nmA, List.cons_append, List.nil_append] at F
  k_with_none
  (k_with "enum" => (exact h))
  k_steps
theorem law_B {w : World} {p : Program} {loose : List Str} {mean : ExcName → Option Value} {mg mb : Str → Option Value} {h₀ : Heap} {L fa : Nat} {s : Shared} {Q : Flow → Shared → Prop} {E : Value → Shared → Prop}
   {u : Str → Option Value} {aF aU aC aD aM aP aK aT aN aS : Nat} {c1 c2 c3 c4 c5 c6 : Obj} {cv sv : List Value} {ns : List Int} {v5 : Option Value}
   (B : Below callerA h₀ [] h₀) (X : (hd.heap_39 w.params).In h₀) (T : Top p loose mean mg mb h₀) (h85 : 85 < L)
   (hcv : StrsAre cv codesL) (hsv : IntsAre sv (stepsOf ns)) (d1 : c1.data = .cell (some (.ref aD))) (d5 : c5.data = .cell v5)
   (o1 : L + 6 < aF) (o2 : aF < aU) (o3 : aU < aC) (o4 : aC < aD) (o5 : aD < aM) (o6 : aM < aP) (o7 : aP < aK) (o8 : aK < aT) (o9 : aT < aN) (o10 : aN < aS)
   (F : Fr h₀ L s.heap (kstB u (nmA aS aN aT aK aP aM aC aU aF)))
   (N : News h₀ L s.heap [(aS, W.listOf sv.toArray 0), (aN, W.listOf #[] 0), (aT, W.listOf #[] 0), (aK, W.listOf #[] 0), (aP, W.listOf #[] 0), (aM, W.listOf #[] 0), (aD, W.listOf #[] 0), (aC, W.listOf cv.toArray 0), (aU, W.listOf #[.ref 48, .ref 30] 0), (aF, W.listOf #[.ref 57, .ref 39] 0),
        (L + 1 + 1 + 1 + 1 + 1 + 1, c6), (L + 1 + 1 + 1 + 1 + 1, c5), (L + 1 + 1 + 1 + 1, c4), (L + 1 + 1 + 1, c3), (L + 1 + 1, c2), (L + 1, c1), (85, tabObj #[])])
   (hE : PassesOwn (model PySem.Challenge.rw_nb0156_01.row.prog w) (lawA L fa) (lawE L fa) E)
   (hQ : ∀ x m h' tk', MInv aS aK aP aM aC aU aF sv.length x m → Fr h₀ L h' m → News h₀ L h' (mled L aS aK aP aM aC aU aF aD cv sv c1 c2 c3 c4 c6 x) → Q .next { s with heap := h', toks := tk' }) :
   wpAny (model PySem.Challenge.rw_nb0156_01.row.prog w) (lawA L fa) (execs ((lawB.drop 10).take 1) (lawE L fa)) Q E s := by
  obtain ⟨pi, pv, ix, pt, np, sp, cp, fp, e⟩ : ∃ pi pv ix pt np sp cp fp, (lawB.drop 10).take 1 = [.For (.Tuple [.Name (Str.ofString "place") pi, .Name (Str.ofString "x") pv] ix pt) (.Call (.Name (Str.ofString "enumerate") np) [.Name (Str.ofString "steps") sp] [] cp) mainB [] fp] := ⟨_, _, _, _, _, _, _, _, rfl⟩
  rw [e]
  refine wpAny_execs_cons ?_
  refine for_enum (cn := Str.ofString "law") (cs := lawS) (L := L) (a := fa) (ccd := .ref 87) (cl := cellsFrom (L + 1) lawS.names []) (items := sv) (c := 0) (aS := aS) (mled L aS aK aP aM aC aU aF aD cv sv c1 c2 c3 c4 c6) (MInv aS aK aP aM aC aU aF)
    ⟨aT, aN, [], [], [], [], [], [], 0, 0, 0, 0, 0, 0, c5, [], [], [], []⟩ rfl (fun x => rfl) rfl rfl rfl (fun x => .tail _ (.tail _ (.head _))) (fun Q' h => enum_eval X T F N h) F (news_sub N (by k_subL)) ?_ ?_ ?_ hE
  · exact ⟨⟨u, rfl⟩, ⟨_, d5⟩, o8, Nat.lt_trans o8 o9, .nil, .nil, .nil, .nil, .nil, .nil, rows_nil, rfl, rfl, (fun l h => nomatch h), (fun n h => nomatch h)⟩
  · intro It i v t x m h' tk' oE oI hi hv hI hlt F' N' hne
    have hIt := hlt _ (.tail _ (.tail _ (.head _)))
    refine main_turn (s := s) (Q := fun f s₃ => match f with
        | .next | .cont => EnumAt h₀ L s (mled L aS aK aP aM aC aU aF aD cv sv c1 c2 c3 c4 c6) (MInv aS aK aP aM aC aU aF) It oE oI (i + 1) s₃
        | .brk => _
        | .ret v => _) B X T h85 hcv hsv d1 o1 o2 o3 o4 o5 o6 o7 (Nat.lt_trans o8 (Nat.lt_trans o9 o10)) hIt hi hv hI F' N' hne fun s₃ h => h
  · intro x m h' tk' hI F' N'
    exact wpAny_execs_nil (hQ x m h' tk' hI F' N')
end
end Mine
end

section
open PySem PySem.W PyProof.Rows
set_option Elab.async false
set_option maxRecDepth 100000
set_option maxHeartbeats 1000000
set_option linter.unusedVariables false
namespace Mine
theorem lr_ok {x : Str} (h : okS x) : (x.cps.all fun c => decide (c < 0x110000)) = true := by
  rw [← Array.all_toList, List.all_eq_true]
  intro c hc
  have := h c hc
  exact decide_eq_true (by omega)
theorem lr_canLay : ∀ ls : List Str, (∀ l ∈ ls, okS l) → PyData.canLayAll0 (ls.map PyData.str) = true
  | [], _ => rfl
  | a :: r, h => by
    simp only [List.map_cons, PyData.canLayAll0, PyData.canLay0, lr_canLay r (fun l hl => h l (.tail _ hl)), Bool.and_true]
    exact lr_ok (h a (.head _))
theorem lr_depth : ∀ ls : List Str, PyData.depthAll (ls.map PyData.str) = 0
  | [] => rfl
  | _ :: r => by simp [PyData.depthAll, PyData.depth, lr_depth r]
theorem lr_same : ∀ ls : List Str, PySem.Spec.sameAll (ls.map PyData.str) (ls.map PyData.str) = true
  | [] => by simp [PySem.Spec.sameAll]
  | a :: r => by simp only [List.map_cons, PySem.Spec.sameAll, PySem.Spec.same, lr_same r]; simp
theorem lr_shaped {ls : List Str} (h : ∀ l ∈ ls, okS l) : SeqAt.shaped (.list (ls.map PyData.str)) = true := by
  simp [SeqAt.shaped, PyData.canLay0, PyData.depth, lr_canLay ls h, lr_depth]
section
variable {prog : Program} {w : World} {A : Around} {E : Value → Shared → Prop} {s : Shared} {h₀ : Heap} {L a b : Addr} {m : Str → Option Value} {news : List (Addr × Obj)} {xs ys : List Value} {na nb : Nat} {ls : List Str} {Q : Value → Shared → Prop}
theorem ne_strs (N : News h₀ L s.heap news) (ha : (a, W.listOf xs.toArray na) ∈ news) (hb : (b, W.listOf ys.toArray nb) ∈ news)
    (hx : StrsAre xs ls) (hy : StrsAre ys ls) (hl : ∀ l ∈ ls, okS l) (hu : A.units + 64 < cLine) (h : Q (.bool false) s) :
    wpAny (model prog w) A (compareOp .NotEq (.ref a) (.ref b)) Q E s :=
  ne_dataH_same (reads_newData (News.isList N ha) hx.carried) (reads_newData (News.isList N hb) hy.carried) (lr_shaped hl) (lr_shaped hl) hu (SeqAt.noMix_of_shape (.list .str) rfl _ _ (list_map_has fun _ => rfl) (list_map_has fun _ => rfl)) (by rw [show PySem.Spec.same (.list (ls.map PyData.str)) (.list (ls.map PyData.str)) = true from by simp only [PySem.Spec.same]; exact lr_same ls]; exact h)
theorem ne_same {x : Str} {t u : Tok} (h : Q (.bool false) s) : wpAny (model prog w) A (compareOp .NotEq (.str x t) (.str x u)) Q E s :=
  PyProof.Rows.ne_str (by simpa using h)
theorem ne_ints {k : Int} {t u : Tok} (h : Q (.bool false) s) : wpAny (model prog w) A (compareOp .NotEq (.int k t) (.int k u)) Q E s :=
  PyProof.Rows.ne_int (by simpa using h)
def nmData : Nm → PyData
  | .i k => .int k
  | .b v => .bool v
theorem nms_carried {vs : List Value} {ns : List Nm} (h : NmsAre vs ns) : CarriedAll vs (ns.map nmData) := by
  induction h with
  | nil => exact .nil
  | cons a r ih => cases a with
    | int k t => exact .cons (.int k t) ih
    | bool v => exact .cons (.bool v) ih
theorem nm_some : ∀ n : Nat, n < 21 → (nmData (.i ((n : Int) - 10))).showable = true ∧ (nmData (.i ((n : Int) - 10))).shown.length ≤ 5 := by decide +kernel
theorem nm_show {n : Nm} (h : n.small) : (nmData n).showable = true ∧ (nmData n).shown.length ≤ 5 := by
  cases n with
  | b v => cases v <;> exact ⟨rfl, by decide⟩
  | i k =>
    obtain ⟨h1, h2⟩ : -10 ≤ k ∧ k ≤ 10 := h
    have e : k = ((k + 10).toNat : Int) - 10 := by omega
    rw [e]
    exact nm_some _ (by omega)
theorem nms_showable : ∀ {ns : List Nm}, (∀ n ∈ ns, n.small) → PyData.showableAll (ns.map nmData) = true
  | [], _ => rfl
  | a :: r, h => by
    simp only [List.map_cons, PyData.showableAll, (nm_show (h a (.head _))).1, nms_showable (fun n hn => h n (.tail _ hn)), Bool.and_true]
theorem nms_nodict : ∀ ns : List Nm, PyData.hasDictAll (ns.map nmData) = false
  | [] => rfl
  | .i k :: r => by simp only [List.map_cons, nmData, PyData.hasDictAll, PyData.hasDict, nms_nodict r]; rfl
  | .b v :: r => by simp only [List.map_cons, nmData, PyData.hasDictAll, PyData.hasDict, nms_nodict r]; rfl
theorem nms_depth : ∀ ns : List Nm, PyData.depthAll (ns.map nmData) = 0
  | [] => rfl
  | .i k :: r => by simp [nmData, PyData.depthAll, PyData.depth, nms_depth r]
  | .b v :: r => by simp [nmData, PyData.depthAll, PyData.depth, nms_depth r]
theorem nms_piled : ∀ {ns : List Nm}, (∀ n ∈ ns, n.small) → piled (PyData.shownAll (ns.map nmData)) ≤ 7 * ns.length
  | [], _ => Nat.le_refl _
  | a :: r, h => by
    have h1 := (nm_show (h a (.head _))).2
    have h2 := nms_piled (ns := r) fun n hn => h n (.tail _ hn)
    simp only [List.map_cons, PyData.shownAll, piled_cons, List.length_cons]
    omega
theorem text_len : ∀ ts : List Str, (listText ts).length ≤ piled ts + 2
  | [] => by decide
  | t :: r => by
    have h := textFrom_length_pos r 1 (("[" : Str) ++ (if (0 : Nat) > 0 then ", " else "" : String) ++ t) (Nat.succ_pos 0)
    have e : ((("[" : Str) ++ (if (0 : Nat) > 0 then ", " else "" : String) ++ t)).length = 1 + t.length := by
      rw [strLen_append, strLen_append]; rfl
    have hX : (listText (t :: r)).length = (textFrom 0 "[" (t :: r)).length + 1 := by
      show (textFrom 0 "[" (t :: r) ++ "]").length = _
      rw [strLen_append]; rfl
    have hY : (textFrom 0 "[" (t :: r)).length = (textFrom 1 (("[" : Str) ++ (if (0 : Nat) > 0 then ", " else "" : String) ++ t) r).length := rfl
    rw [hX, hY, h, e, piled_cons]; omega
/-- how a row of marks is shown -/
def showN (ns : List Nm) : Str := (PyData.list (ns.map nmData)).shown
theorem repr_nms {ns : List Nm} (F : Fr h₀ L s.heap m) (N : News h₀ L s.heap news) (ha : (a, W.listOf xs.toArray na) ∈ news) (hx : NmsAre xs ns) (hs : ∀ n ∈ ns, n.small) (hz : ns.length < 1000) (hg : A.guards = some []) (hu : A.units + 2 < cLine)
    (h : ∀ h' u tk, Fr h₀ L h' m → News h₀ L h' news → Q (.str (showN ns) u) { s with heap := h', toks := tk }) : wpAny (model prog w) A (call (.builtin "repr") [.ref a]) Q E s := by
  refine repr_of_reads' (d := .list (ns.map nmData)) (reads_newData (News.isList N ha) (nms_carried hx)) (by simpa [PyData.showable] using nms_showable hs) (fun q => ?_) hg ?_ (fun _ _ e => e) (fun h' u tk hk => h h' u tk (F.keeps hk) (N.grown hk)) ?_
  · simp only [PyData.hasDict, nms_nodict] at q; cases q
  · simp only [PyData.depth, nms_depth]; omega
  · have h1 := text_len (PyData.shownAll (ns.map nmData))
    have h2 := nms_piled hs
    simp only [PyData.shown]
    rw [sizeLine_eq]
    omega
end
end Mine
end

section
open PySem PySem.W PyProof.Rows
set_option Elab.async false
set_option maxRecDepth 100000
set_option maxHeartbeats 8000000
set_option linter.unusedVariables false
namespace Mine
theorem fillK30 (w : World) (h : Heap) (_ : (hd.heap_39 w.params).In h) : PySem.Challenge.rw_nb0156_01.row.prog = PySem.Challenge.rw_nb0156_01.row.prog ∧ (hd.heap_39 w.params) = hd.heap_39 w.params := by
  k_fill
  exact ⟨rfl, rfl⟩
section
theorem reset17 : True := by
  w_top off
  exact trivial
local macro_rules | `(tactic| walk_at "compareOp NotEq ref ref") => `(tactic| k_extra "ne")
local macro_rules | `(tactic| walk_at "compareOp NotEq str str") => `(tactic| k_extra "nes")
local macro_rules | `(tactic| walk_at "call builtin:repr") => `(tactic| k_extra "repr")
theorem law_C {w : World} {p : Program} {loose : List Str} {mean : ExcName → Option Value} {mg mb : Str → Option Value} {h₀ : Heap} {L fa : Nat} {s : Shared} {Q : Flow → Shared → Prop} {E : Value → Shared → Prop}
   {u : Str → Option Value} {aS aN aT aK aP aM aC aU aF aD : Nat} {more : List (Addr × Obj)} {c1 : Obj} {dv tv kv nv : List Value} {dn tn kn nn : Nat} {TL : List Str} {NL : List Nm}
   (B : Below callerA h₀ [] h₀) (X : (hd.heap_39 w.params).In h₀) (T : Top p loose mean mg mb h₀) (h85 : 85 < L)
   (F : Fr h₀ L s.heap (kstB u (nmA aS aN aT aK aP aM aC aU aF)))
   (N : News h₀ L s.heap ((aT, W.listOf tv.toArray tn) :: (aN, W.listOf nv.toArray nn) :: (aK, W.listOf kv.toArray kn) :: (aD, W.listOf dv.toArray dn) :: (L + 1, c1) :: more))
   (d1 : c1.data = .cell (some (.ref aD)))
   (hd : StrsAre dv TL) (ht : StrsAre tv TL) (hk : NmsAre kv NL) (hn : NmsAre nv NL) (okT : ∀ l ∈ TL, okS l) (okN : ∀ n ∈ NL, n.small) (hz : NL.length < 1000)
   (hQ : ∀ h' tk', Fr h₀ L h' (kstB u (nmA aS aN aT aK aP aM aC aU aF)) →
     News h₀ L h' ((aT, W.listOf tv.toArray tn) :: (aN, W.listOf nv.toArray nn) :: (aK, W.listOf kv.toArray kn) :: (aD, W.listOf dv.toArray dn) :: (L + 1, c1) :: more) → Q .next { s with heap := h', toks := tk' }) :
   wpAny (model PySem.Challenge.rw_nb0156_01.row.prog w) (lawA L fa) (execs ((lawB.drop 11).take 1) (lawE L fa)) Q E s := by
  dsimp only [lawA, lawE, lawB, lawS, topS, fnB, fnS, forB, ifE, ifT, PySem.Challenge.pw_nb0156_01, List.getD, List.getElem?_cons_succ, List.getElem?_cons_zero, Option.getD_some, List.drop, List.take]
  dsimp only [kstB, nmA, List.cons_append, List.nil_append] at F hQ
  k_with_none
  (k_with "ne" => (k_dflt (refine' ne_strs ?N ?a ?b hd ht okT ?u ?_; (case N => k_asm); (case a => k_mem); (case b => k_mem); (case u => ktr_units))))
  (k_with "nes" => (refine ne_same ?_))
  (k_with "repr" => (first
    | (k_dflt (refine' repr_nms ?F ?N ?a hk okN hz ?g ?u ?_; (case F => k_asm); (case N => k_asm); (case a => k_mem); (case g => rfl); (case u => ktr_units)); intro h9 u9 tk9 F9 N9)
    | (k_dflt (refine' repr_nms ?F ?N ?a hn okN hz ?g ?u ?_; (case F => k_asm); (case N => k_asm); (case a => k_mem); (case g => rfl); (case u => ktr_units)); intro h9 u9 tk9 F9 N9)))
  k_steps
  exact hQ _ _ F9 N9
end
end Mine
end

section
open PySem PySem.W PyProof.Rows
set_option Elab.async false
set_option maxRecDepth 100000
set_option maxHeartbeats 8000000
set_option linter.unusedVariables false
namespace Mine
theorem fillK31 (w : World) (h : Heap) (_ : (hd.heap_39 w.params).In h) : PySem.Challenge.rw_nb0156_01.row.prog = PySem.Challenge.rw_nb0156_01.row.prog ∧ (hd.heap_39 w.params) = hd.heap_39 w.params := by
  k_fill
  exact ⟨rfl, rfl⟩
/-- the names of the second half -/
abbrev nmP (aN aT aK aP aM aU aF aL : Nat) (lo : Int) (tl : Tok) : List (Str × Value) := [(Str.ofString "lo", .int lo tl), (Str.ofString "letters", .ref aL), (Str.ofString "plain", .ref aN), (Str.ofString "told", .ref aT), (Str.ofString "marks", .ref aK), (Str.ofString "plus", .ref aP), (Str.ofString "minus", .ref aM), (Str.ofString "puts", .ref aU), (Str.ofString "finds", .ref aF)]
theorem bounds_of {S : Int} {n : Nat} : 0 ≤ S.fmod (n + 1) ∧ S.fmod (n + 1) ≤ n ∧ 0 ≤ (S.fdiv (n + 1)).fmod (n + 1 - S.fmod (n + 1)) ∧ (S.fdiv (n + 1)).fmod (n + 1 - S.fmod (n + 1)) ≤ n - S.fmod (n + 1) := by
  have h1 := fm_bound S (k := (n + 1 : Int)) (by omega)
  have h2 := fm_bound (S.fdiv (n + 1)) (k := (n + 1 - S.fmod (n + 1) : Int)) (by omega)
  omega
theorem off1_ne {d : Nat} : ∀ {l : List (Addr × Obj)}, LCg.Off1 d l → ∀ q ∈ l, @Ne Nat q.1 d
  | [], _, _, h => nomatch h
  | p :: r, h, q, hq => by
    rcases List.mem_cons.mp hq with rfl | hq
    · exact h.1
    · exact off1_ne h.2 q hq
theorem subL_of : ∀ {l all : List (Addr × Obj)}, (∀ q ∈ l, q ∈ all) → SubL l all
  | [], _, _ => trivial
  | p :: r, all, h => ⟨h p (.head _), subL_of fun q hq => h q (.tail _ hq)⟩
section
theorem reset18 : True := by
  w_top off
  exact trivial
local macro_rules | `(tactic| k_all) => `(tactic| assumption)
local macro_rules | `(tactic| walk_at "CompSrc") => `(tactic| k_extra "src")
local macro_rules | `(tactic| walk_at "CompEnd") => `(tactic| k_extra "comp end")
local macro_rules | `(tactic| walk_at "call ref") => `(tactic| k_extra "call")
local macro_rules | `(tactic| walk_at "call builtin:len") => `(tactic| k_extra "len")
theorem law_D {w : World} {p : Program} {loose : List Str} {mean : ExcName → Option Value} {mg mb : Str → Option Value} {h₀ : Heap} {L fa : Nat} {s : Shared} {Q : Flow → Shared → Prop} {E : Value → Shared → Prop}
   {u : Str → Option Value} {aS aN aT aK aP aM aC aU aF : Nat} {more : List (Addr × Obj)} {c3 : Obj} {v3 : Option Value} {tv sv : List Value} {tn : Nat} {TL : List Str} {ns : List Int}
   (B : Below callerA h₀ [] h₀) (X : (hd.heap_39 w.params).In h₀) (T : Top p loose mean mg mb h₀) (h85 : 85 < L)
   (F : Fr h₀ L s.heap (kstB u (nmA aS aN aT aK aP aM aC aU aF)))
   (N : News h₀ L s.heap ((aT, W.listOf tv.toArray tn) :: (aS, W.listOf sv.toArray 0) :: (L + 1 + 1 + 1, c3) :: more))
   (d3 : c3.data = .cell v3) (o1 : L + 6 < aT) (o2 : L + 6 < aS) (hm3 : ∀ q ∈ more, q.1 ≠ L + 1 + 1 + 1)
   (ht : StrsAre tv TL) (htl : ∀ l ∈ TL, l.length ≤ 100) (hz : TL.length ≤ 24) (hsv : IntsAre sv (stepsOf ns))
   (hQ : ∀ (aL : Nat) (lv : List Value) (ln : Nat) (lo hi : Int) (tl th : Tok) (c3' : Obj) (h' : Heap) (tk' : Nat) (u' : Str → Option Value), 0 ≤ lo → lo ≤ hi → hi ≤ TL.length → StrsAre lv (TL.map letterOf) → c3'.data = .cell (some (.int hi th)) → @Ne Nat aL aT → (∀ q ∈ more, @Ne Nat q.1 aL) →
     Fr h₀ L h' (kstB u' (nmP aN aT aK aP aM aU aF aL lo tl)) →
     News h₀ L h' ((aL, W.listOf lv.toArray ln) :: (aT, W.listOf tv.toArray tn) :: (L + 1 + 1 + 1, c3') :: more) → Q .next { s with heap := h', toks := tk' }) :
   wpAny (model PySem.Challenge.rw_nb0156_01.row.prog w) (lawA L fa) (execs ((lawB.drop 12).take 4) (lawE L fa)) Q E s := by
  dsimp only [lawA, lawE, lawB, lawS, topS, fnB, fnS, forB, ifE, ifT, PySem.Challenge.pw_nb0156_01, List.getD, List.getElem?_cons_succ, List.getElem?_cons_zero, Option.getD_some, List.drop, List.take]
  dsimp only [kstB, nmA, List.cons_append, List.nil_append] at F
  have hl8 := ht.length
  have hlen := steps_len ns
  have hsl := hsv.length
  have hb9 := bounds_of (S := (stepsOf ns).sum) (n := TL.length)
  k_with_none
  (k_with "src" => (refine' LCg.CompSrc.ledger (its := tv.toArray) ?k1 ?k2 ?k3 ?k4 ?k5 ?_; (case k1 => rfl); (case k2 => k_asm); (case k3 => k_asm); (case k4 => exact List.Mem.head _); (case k5 => (rw [List.size_toArray, sizeLine_eq]; omega)); intro g9; (try rw [List.size_toArray, hl8]); refine' comp_map (fun i => letterOf (TL.getD i Str.empty)) ?t1 ?t2; (case' t1 => (intro i9 v9 I9 oI9 C9 oC9 D9 m9 ys9 h9 tk9 E9 hi9 hv9 hC9 hx9 F9 N9 off9 ne9; obtain ⟨t9, e9⟩ := strs_at ht hv9; subst e9)); (case' t2 => (intro ys9 hy9; rw [map_range_getD] at hy9))))
  (k_with "call" => ((with_unfolding_all refine' call_by (letter_spec w _ _ _ (len_getD htl)) ?k1 ?k2 ?k3 ?k4 ?k5 ?k6 ?k7 ?k8 ?_); (case k1 => exact B); (case k2 => k_asm); (case k3 => k_asm); (case k4 => k_asm); (case k5 => k_asm); (case k6 => rfl); (case k7 => ktr_room); (case k8 => ktr_units); intro v8 h8 tk8 hv8 F8 N8; obtain ⟨t8, e8⟩ := hv8; subst e8))
  (k_with "comp end" => (exact compEnd_of (by k_asm) (by k_asm) off9 (Or.inr ⟨_, List.Mem.head _, rfl, _, rfl⟩) ⟨⟨_, rfl⟩, rfl⟩))
  (k_with "len" => (k_dflt (refine' kst_len (us := tv) (k := TL.length) ?k1 ?k2 hl8 ?k4 ?_; (case k1 => k_asm); (case k2 => k_mem); (case k4 => omega))))
  k_steps
  rename Fr _ _ _ _ => fF
  rename News _ _ _ _ => nF
  rename _ ∧ _ ∧ _ ∧ LCg.Off1 _ more => lF
  have nG := news_sub (l := (_, W.listOf ys9.toArray _) :: (aT, W.listOf tv.toArray tn) :: (L + 1 + 1 + 1, _) :: more) nF ⟨.head _, .tail _ (.head _), .tail _ (.tail _ (.tail _ (.head _))), subL_of fun q hq => .tail _ (.tail _ (.tail _ (.tail _ hq)))⟩
  exact hQ _ ys9 _ ((stepsOf ns).sum.fmod (TL.length + 1)) ((stepsOf ns).sum.fmod (TL.length + 1) + ((stepsOf ns).sum.fdiv (TL.length + 1)).fmod (TL.length + 1 - (stepsOf ns).sum.fmod (TL.length + 1))) _ _ _ _ _ _ hb9.1 (by omega) (by omega) hy9 (by assumption) (Ne.symm lF.1) (off1_ne lF.2.2.2) (frame_as _ fF (by dsimp only [nmP]; kst_all)) nG
end
end Mine
end

section
open PySem PySem.W PyProof.Rows
set_option Elab.async false
set_option maxRecDepth 100000
set_option maxHeartbeats 8000000
set_option linter.unusedVariables false
namespace Mine
theorem fillK32 (w : World) (h : Heap) (_ : (hd.heap_39 w.params).In h) : PySem.Challenge.rw_nb0156_01.row.prog = PySem.Challenge.rw_nb0156_01.row.prog ∧ (hd.heap_39 w.params) = hd.heap_39 w.params := by
  k_fill
  exact ⟨rfl, rfl⟩
theorem mem_take_drop {a : Nat} {α : Type} {x : α} {l : List α} (h : x ∈ (l.drop a)) : x ∈ l := List.mem_of_mem_drop h
theorem ok_rest {l : Str} (h : okS l) : okS (restOf l) := fun c hc => by
  have e := slice_list_sn l 2
  have hc' : c ∈ (Txt.slice l (some ((2 : Nat) : Int)) none).cps.toList := hc
  rw [e] at hc'
  exact h c (List.mem_of_mem_drop hc')
theorem ok_restored {tag : Str} {TL : List Str} (h : ∀ l ∈ TL, okS l) : ∀ l ∈ restored tag TL, okS l := fun l hl => by
  obtain ⟨b, hb, rfl⟩ := List.mem_map.mp hl
  exact ok_rest (h b (List.mem_filter.mp hb).1)
section
theorem reset19 : True := by
  w_top off
  exact trivial
local macro_rules | `(tactic| walk_at "compareOp NotEq ref ref") => `(tactic| k_extra "ne")
local macro_rules | `(tactic| walk_at "call ref") => `(tactic| k_extra "restore")
local macro_rules | `(tactic| walk_at "call type:list") => `(tactic| k_extra "list")

theorem side_1 {w : World} {p : Program} {loose : List Str} {mean : ExcName → Option Value} {mg mb : Str → Option Value} {h₀ : Heap} {L fa : Nat} {s : Shared} {Q : Flow → Shared → Prop} {E : Value → Shared → Prop}
   {u : Str → Option Value} {aR aD : Nat} {more : List (Addr × Obj)} {c1 c6 : Obj} {dv rv : List Value} {dn rn : Nat} {TL : List Str} {tw : Tok}
   (B : Below callerA h₀ [] h₀) (X : (hd.heap_39 w.params).In h₀) (T : Top p loose mean mg mb h₀) (h85 : 85 < L)
   (F : Fr h₀ L s.heap (kstB u [(Str.ofString "row", .ref aR)]))
   (N : News h₀ L s.heap ((aR, W.listOf rv.toArray rn) :: (aD, W.listOf dv.toArray dn) :: (L + 1, c1) :: (L + 1 + 1 + 1 + 1 + 1 + 1, c6) :: more))
   (d1 : c1.data = .cell (some (.ref aD))) (d6 : c6.data = .cell (some (.int 1 tw))) (hb : AllBare s.gens)
   (hd : StrsAre dv TL) (hr : StrsAre rv (restored (Str.ofString "- ") TL)) (hdl : ∀ l ∈ TL, l.length ≤ 100) (okT : ∀ l ∈ TL, okS l) (hz : TL.length < 1000)
   (hQ : ∀ h' tk' g', AllBare g' → Fr h₀ L h' (kstB u [(Str.ofString "row", .ref aR)]) →
     News h₀ L h' ((aR, W.listOf rv.toArray rn) :: (aD, W.listOf dv.toArray dn) :: (L + 1, c1) :: (L + 1 + 1 + 1 + 1 + 1 + 1, c6) :: more) → Q .next { s with heap := h', toks := tk', gens := g' }) :
   wpAny (model PySem.Challenge.rw_nb0156_01.row.prog w) (lawA L fa) (execs (forB (lawB.getD 16 default)) (lawE L fa)) Q E s := by
  dsimp only [lawA, lawE, lawB, lawS, topS, fnB, fnS, forB, ifE, ifT, PySem.Challenge.pw_nb0156_01, List.getD, List.getElem?_cons_succ, List.getElem?_cons_zero, Option.getD_some, List.drop, List.take]
  dsimp only [kstB, List.cons_append, List.nil_append] at F hQ
  have okR := ok_restored (tag := Str.ofString "- ") okT
  k_with_none
  (k_with "restore" => (first
    | ((with_unfolding_all refine' call_restore (d := aD) (wv := .int 1 tw) ?k1 X ?k2 T ?room hb ?_); (case k1 => k_asm); (case k2 => k_asm); (case room => ktr_room); intro C9 h9 g9 tk9 F9 N9 hC9 G9; (try dsimp only))
    | ((with_unfolding_all refine' call_restore (d := aD) (wv := .str (Str.ofString "1") _) ?k1 X ?k2 T ?room hb8 ?_); (case k1 => k_asm); (case k2 => k_asm); (case room => ktr_room); intro C9 h9 g9 tk9 F9 N9 hC9 G9; (try dsimp only))))
  (k_with "list" => (first
    | ((with_unfolding_all refine' list_restore (.i1 _) ?hh ?room G9 F9 X N9 hC9 T ?hm hd hdl hz ?_); (case hh => rfl); (case room => ktr_room); (case hm => k_mem); intro D8 c8 h8 tk8 g8 ys8 st8 F8 N8 lt8 hb8; (try dsimp only))
    | ((with_unfolding_all refine' list_restore (.s1 _) ?hh ?room G9 F9 X N9 hC9 T ?hm hd hdl hz ?_); (case hh => rfl); (case room => ktr_room); (case hm => k_mem); intro D8 c8 h8 tk8 g8 ys8 st8 F8 N8 lt8 hb8; (try dsimp only))))
  (k_with "ne" => (k_dflt (refine' ne_strs N8 ?a ?b st8 hr okR ?u ?_; (case a => k_mem); (case b => k_mem); (case u => ktr_units))))
  k_steps
  exact hQ _ _ _ hb8 F8 (fun p hp => N8 p (List.Mem.tail _ (List.Mem.tail _ hp)))
theorem side_2 {w : World} {p : Program} {loose : List Str} {mean : ExcName → Option Value} {mg mb : Str → Option Value} {h₀ : Heap} {L fa : Nat} {s : Shared} {Q : Flow → Shared → Prop} {E : Value → Shared → Prop}
   {u : Str → Option Value} {aR aD : Nat} {more : List (Addr × Obj)} {c1 c6 : Obj} {dv rv : List Value} {dn rn : Nat} {TL : List Str} {tw : Tok}
   (B : Below callerA h₀ [] h₀) (X : (hd.heap_39 w.params).In h₀) (T : Top p loose mean mg mb h₀) (h85 : 85 < L)
   (F : Fr h₀ L s.heap (kstB u [(Str.ofString "row", .ref aR)]))
   (N : News h₀ L s.heap ((aR, W.listOf rv.toArray rn) :: (aD, W.listOf dv.toArray dn) :: (L + 1, c1) :: (L + 1 + 1 + 1 + 1 + 1 + 1, c6) :: more))
   (d1 : c1.data = .cell (some (.ref aD))) (d6 : c6.data = .cell (some (.int 2 tw))) (hb : AllBare s.gens)
   (hd : StrsAre dv TL) (hr : StrsAre rv (restored (Str.ofString "+ ") TL)) (hdl : ∀ l ∈ TL, l.length ≤ 100) (okT : ∀ l ∈ TL, okS l) (hz : TL.length < 1000)
   (hQ : ∀ h' tk' g', AllBare g' → Fr h₀ L h' (kstB u [(Str.ofString "row", .ref aR)]) →
     News h₀ L h' ((aR, W.listOf rv.toArray rn) :: (aD, W.listOf dv.toArray dn) :: (L + 1, c1) :: (L + 1 + 1 + 1 + 1 + 1 + 1, c6) :: more) → Q .next { s with heap := h', toks := tk', gens := g' }) :
   wpAny (model PySem.Challenge.rw_nb0156_01.row.prog w) (lawA L fa) (execs (forB (lawB.getD 16 default)) (lawE L fa)) Q E s := by
  dsimp only [lawA, lawE, lawB, lawS, topS, fnB, fnS, forB, ifE, ifT, PySem.Challenge.pw_nb0156_01, List.getD, List.getElem?_cons_succ, List.getElem?_cons_zero, Option.getD_some, List.drop, List.take]
  dsimp only [kstB, List.cons_append, List.nil_append] at F hQ
  have okR := ok_restored (tag := Str.ofString "+ ") okT
  k_with_none
  (k_with "restore" => (first
    | ((with_unfolding_all refine' call_restore (d := aD) (wv := .int 2 tw) ?k1 X ?k2 T ?room hb ?_); (case k1 => k_asm); (case k2 => k_asm); (case room => ktr_room); intro C9 h9 g9 tk9 F9 N9 hC9 G9; (try dsimp only))
    | ((with_unfolding_all refine' call_restore (d := aD) (wv := .str (Str.ofString "2") _) ?k1 X ?k2 T ?room hb8 ?_); (case k1 => k_asm); (case k2 => k_asm); (case room => ktr_room); intro C9 h9 g9 tk9 F9 N9 hC9 G9; (try dsimp only))))
  (k_with "list" => (first
    | ((with_unfolding_all refine' list_restore (.i2 _) ?hh ?room G9 F9 X N9 hC9 T ?hm hd hdl hz ?_); (case hh => rfl); (case room => ktr_room); (case hm => k_mem); intro D8 c8 h8 tk8 g8 ys8 st8 F8 N8 lt8 hb8; (try dsimp only))
    | ((with_unfolding_all refine' list_restore (.s2 _) ?hh ?room G9 F9 X N9 hC9 T ?hm hd hdl hz ?_); (case hh => rfl); (case room => ktr_room); (case hm => k_mem); intro D8 c8 h8 tk8 g8 ys8 st8 F8 N8 lt8 hb8; (try dsimp only))))
  (k_with "ne" => (k_dflt (refine' ne_strs N8 ?a ?b st8 hr okR ?u ?_; (case a => k_mem); (case b => k_mem); (case u => ktr_units))))
  k_steps
  exact hQ _ _ _ hb8 F8 (fun p hp => N8 p (List.Mem.tail _ (List.Mem.tail _ hp)))
end
end Mine
end

section
open PySem PySem.W PyProof.Rows
set_option Elab.async false
set_option maxRecDepth 100000
set_option maxHeartbeats 400000
set_option linter.unusedVariables false
namespace Mine
/-- how a turn of a loop over a ledger's list stands -/
inductive LedAt2 {σ : Type} (h₀ : Heap) (L : Addr) (s : Shared) (led : List Value → σ → List (Addr × Obj)) (I : List Value → Nat → σ → (Str → Option Value) → Prop) (items : Array Value) (D It : Addr) (i : Nat) (s' : Shared) : Prop where
  | mk (x : σ) (m : Str → Option Value) (h' : Heap) (tk' : Nat) (g' : Array GenState) (oI : Obj) (c : Nat) (e : s' = { s with heap := h', toks := tk', gens := g' }) (hb : AllBare g') (F : Fr h₀ L h' m) (N : News h₀ L h' ((It, oI) :: (D, W.listOf items c) :: led items.toList x)) (hI : I items.toList i x m) (hO : iterObj oI D i) (hn : D ≠ It) (ne : ∀ q ∈ led items.toList x, q.1 ≠ It)
section
variable {prog : Program} {w : World} {A : Around} {E : Value → Shared → Prop} {Q : Flow → Shared → Prop} {s : Shared} {env : Env} {h₀ : Heap} {L : Addr}
theorem for_led2 {σ : Type} {target iter : Expr} {body : List Stmt} {pos : Pos} (led : List Value → σ → List (Addr × Obj)) (I : List Value → Nat → σ → (Str → Option Value) → Prop) (hh : A.handled = none)
    (hs : ∀ x, foldedSetIterable iter env x = pure x)
    (hit : wpAny (model prog w) A (eval iter env) (fun v s₁ => ∃ items D c x m h' tk' g', v = .ref D ∧ s₁ = { s with heap := h', toks := tk', gens := g' } ∧ AllBare g' ∧ Fr h₀ L h' m ∧ News h₀ L h' ((D, W.listOf items.toArray c) :: led items x) ∧ I items 0 x m) E s)
    (turn : ∀ (items : List Value) D It i v x m h' tk' g' oI c, i < items.length → items[i]? = some v → I items i x m → AllBare g' → Fr h₀ L h' m → News h₀ L h' ((It, oI) :: (D, W.listOf items.toArray c) :: led items x) → iterObj oI D (i + 1) → D ≠ It → (∀ q ∈ led items x, q.1 ≠ It) →
      ∀ P : Flow → Shared → Prop, (∀ s₃, LedAt2 h₀ L s led I items.toArray D It (i + 1) s₃ → P .next s₃) → wpAny (model prog w) A (assign target env v) (fun _ s₂ => wpAny (model prog w) A (execs body env) P E s₂) E { s with heap := h', toks := tk', gens := g' })
    (done : ∀ (items : List Value) x m h' tk' g', I items items.length x m → AllBare g' → Fr h₀ L h' m → News h₀ L h' (led items x) → Q .next { s with heap := h', toks := tk', gens := g' })
    (hE : PassesOwn (model prog w) A env E) :
    wpAny (model prog w) A (exec (.For target iter body [] pos) env) Q E s := by
  refine for_list (LedAt2 h₀ L s led I) hh hs (wpAny_mono hit (fun v s₁ h₁ => ?_) fun _ _ e => e) (fun items D It i s' hJ => ?_) (fun items D It i s' v h' tk hi hv hJ hit' hk => ?_) (fun items D It s' h' tk hJ hk => ?_) hE
  · obtain ⟨items, D, c, x, m, h', tk', g', rfl, rfl, hb, F, N, hI⟩ := h₁
    refine ⟨D, items.toArray, rfl, News.isList N (.head _), x, m, _, tk', g', { cls := .type "list_iterator", data := .fields #[.ref D, .int 0 0] }, c, rfl, hb, F.keeps fun b o e => Heap.get?_push_of_some _ e, fun q hq => ?_, hI, ⟨rfl, rfl⟩, Nat.ne_of_lt (Heap.lt_size (N _ (.head _)).1), fun q hq => Nat.ne_of_lt (Heap.lt_size (N _ (.tail _ hq)).1)⟩
    rcases List.mem_cons.mp hq with rfl | hq
    · exact ⟨Heap.get?_push_size _ rfl, Nat.ne_of_gt F.ns.lt, Heap.get?_none_of_le (Nat.le_trans F.above (Nat.le_of_lt F.ns.lt))⟩
    · exact ⟨Heap.get?_push_of_some _ (N q hq).1, (N q hq).2⟩
  · obtain ⟨x, m, h', tk', g', oI, c, rfl, hb, F, N, hI, hO, hne, hq⟩ := hJ
    exact ⟨⟨oI, (N _ (.head _)).1, hO.1, hO.2⟩, News.isList N (.tail _ (.head _)), hne⟩
  · obtain ⟨x, m, h₁, tk', g', oI, c, rfl, hb, F, N, hI, hO, hne, hq⟩ := hJ
    obtain ⟨oI', e1, e2, e3⟩ := hit'
    have hIt := N _ (.head _)
    refine turn items.toList D It i v x m h' tk g' oI' c (by simpa using hi) (by simpa using hv) hI hb ⟨F.ns.at' fun o e => hk L o (Ne.symm hIt.2.1) e, fun b o e => hk b o (fun z => by rw [z, hIt.2.2] at e; cases e) (F.keep b o e), F.above⟩ (fun q hq' => ?_) ⟨e2, e3⟩ hne hq _ fun s₃ h => h
    rcases List.mem_cons.mp hq' with rfl | hq'
    · exact ⟨e1, hIt.2⟩
    · have := N q (.tail _ hq')
      refine ⟨hk _ _ ?_ this.1, this.2⟩
      rcases List.mem_cons.mp hq' with rfl | hq'
      · exact hne
      · exact hq q hq'
  · obtain ⟨x, m, h₁, tk', g', oI, c, rfl, hb, F, N, hI, hO, hne, hq⟩ := hJ
    have hIt := N _ (.head _)
    refine done items.toList x m h' tk g' (by simpa using hI) hb ⟨F.ns.at' fun o e => hk L o (Ne.symm hIt.2.1) e, fun b o e => hk b o (fun z => by rw [z, hIt.2.2] at e; cases e) (F.keep b o e), F.above⟩ fun q hq' => ?_
    have := N q (.tail _ (.tail _ hq'))
    exact ⟨hk _ _ (hq q hq') this.1, this.2⟩
end
end Mine
end

section
open PySem PySem.W PyProof.Rows
set_option Elab.async false
set_option maxRecDepth 100000
set_option maxHeartbeats 2000000
set_option linter.unusedVariables false
namespace Mine
theorem fillK33 (w : World) (h : Heap) (_ : (hd.heap_39 w.params).In h) : PySem.Challenge.rw_nb0156_01.row.prog = PySem.Challenge.rw_nb0156_01.row.prog ∧ (hd.heap_39 w.params) = hd.heap_39 w.params := by
  k_fill
  exact ⟨rfl, rfl⟩
def forI : Stmt → Expr
  | .For _ i _ _ _ => i
  | _ => .Constant .none 0 default
abbrev tupO (vs : Array Value) : Obj := { cls := .type "tuple", data := .seq vs }
theorem news_ne {h₀ h : Heap} {L a b : Addr} {news : List (Addr × Obj)} {o1 o2 : Obj} (N : News h₀ L h news) (h1 : (a, o1) ∈ news) (h2 : (b, o2) ∈ news) (hd : o1.data ≠ o2.data) : a ≠ b := fun e => by
  have e1 := (N _ h1).1
  have e2 := (N _ h2).1
  subst e
  rw [e1] at e2
  cases e2
  exact hd rfl
section
theorem eval_pairs {w : World} {p : Program} {loose : List Str} {mean : ExcName → Option Value} {mg mb : Str → Option Value} {h₀ : Heap} {L fa : Nat} {s : Shared} {Q : Value → Shared → Prop} {E : Value → Shared → Prop}
   {u : Str → Option Value} {aM aP : Nat} {news : List (Addr × Obj)} {e : Expr}
   (he : e = forI (lawB.getD 16 default))
   (X : (hd.heap_39 w.params).In h₀) (T : Top p loose mean mg mb h₀)
   (F : Fr h₀ L s.heap (kstB u [(Str.ofString "plus", .ref aP), (Str.ofString "minus", .ref aM)])) (N : News h₀ L s.heap news)
   (hQ : ∀ D T1 T2 t1 t2 h' tk', Fr h₀ L h' (kstB u [(Str.ofString "plus", .ref aP), (Str.ofString "minus", .ref aM)]) →
     News h₀ L h' ((D, W.listOf [.ref T1, .ref T2].toArray 0) :: (T1, tupO #[.int 1 t1, .ref aM]) :: (T2, tupO #[.int 2 t2, .ref aP]) :: news) → Q (.ref D) { s with heap := h', toks := tk' }) :
   wpAny (model PySem.Challenge.rw_nb0156_01.row.prog w) (lawA L fa) (eval e (lawE L fa)) Q E s := by
  subst he
  dsimp only [forI, lawA, lawE, lawB, lawS, topS, fnB, fnS, forB, ifE, ifT, PySem.Challenge.pw_nb0156_01, List.getD, List.getElem?_cons_succ, List.getElem?_cons_zero, Option.getD_some, List.drop, List.take]
  dsimp only [kstB, List.cons_append, List.nil_append] at F hQ
  k_with_none
  k_steps
  rename Fr _ _ _ _ => fF
  rename News _ _ _ _ => nF
  exact hQ _ _ _ _ _ _ _ fF (news_sub nF ⟨.head _, .tail _ (.tail _ (.head _)), .tail _ (.head _), subL_of fun q hq => .tail _ (.tail _ (.tail _ hq))⟩)
structure ESt where
  T1 : Nat
  T2 : Nat
  t1 : Tok
  t2 : Tok
  c6 : Obj
abbrev eled (L aM aP : Nat) (rest : List (Addr × Obj)) (x : ESt) : List (Addr × Obj) :=
  (x.T1, tupO #[.int 1 x.t1, .ref aM]) :: (x.T2, tupO #[.int 2 x.t2, .ref aP]) :: (L + 1 + 1 + 1 + 1 + 1 + 1, x.c6) :: rest
theorem law_E {w : World} {p : Program} {loose : List Str} {mean : ExcName → Option Value} {mg mb : Str → Option Value} {h₀ : Heap} {L fa : Nat} {s : Shared} {Q : Flow → Shared → Prop} {E : Value → Shared → Prop}
   {u : Str → Option Value} {aN aT aK aP aM aU aF aL aD : Nat} {lo : Int} {tl : Tok} {more : List (Addr × Obj)} {c1 c6 : Obj} {v6 : Option Value} {dv mv pv : List Value} {dn mn pn : Nat} {TL : List Str}
   (B : Below callerA h₀ [] h₀) (X : (hd.heap_39 w.params).In h₀) (T : Top p loose mean mg mb h₀) (h85 : 85 < L)
   (F : Fr h₀ L s.heap (kstB u (nmP aN aT aK aP aM aU aF aL lo tl)))
   (N : News h₀ L s.heap ((L + 1 + 1 + 1 + 1 + 1 + 1, c6) :: (aM, W.listOf mv.toArray mn) :: (aP, W.listOf pv.toArray pn) :: (aD, W.listOf dv.toArray dn) :: (L + 1, c1) :: more))
   (d1 : c1.data = .cell (some (.ref aD))) (d6 : c6.data = .cell v6) (hb : AllBare s.gens)
   (hm6 : ∀ q ∈ (aM, W.listOf mv.toArray mn) :: (aP, W.listOf pv.toArray pn) :: (aD, W.listOf dv.toArray dn) :: (L + 1, c1) :: more, q.1 ≠ L + 1 + 1 + 1 + 1 + 1 + 1)
   (hd : StrsAre dv TL) (hm : StrsAre mv (restored (Str.ofString "- ") TL)) (hp : StrsAre pv (restored (Str.ofString "+ ") TL)) (hdl : ∀ l ∈ TL, l.length ≤ 100) (okT : ∀ l ∈ TL, okS l) (hz : TL.length < 1000)
   (hE : PassesOwn (model PySem.Challenge.rw_nb0156_01.row.prog w) (lawA L fa) (lawE L fa) E)
   (hQ : ∀ c6' v6' h' tk' g' u', c6'.data = .cell v6' → AllBare g' → Fr h₀ L h' (kstB u' (nmP aN aT aK aP aM aU aF aL lo tl)) →
     News h₀ L h' ((L + 1 + 1 + 1 + 1 + 1 + 1, c6') :: (aM, W.listOf mv.toArray mn) :: (aP, W.listOf pv.toArray pn) :: (aD, W.listOf dv.toArray dn) :: (L + 1, c1) :: more) → Q .next { s with heap := h', toks := tk', gens := g' }) :
   wpAny (model PySem.Challenge.rw_nb0156_01.row.prog w) (lawA L fa) (execs ((lawB.drop 16).take 1) (lawE L fa)) Q E s := by
  obtain ⟨p1, p2, ix, pt, it, fp, e, ei⟩ : ∃ p1 p2 ix pt it fp, (lawB.drop 16).take 1 = [.For (.Tuple [.Name (Str.ofString "which") p1, .Name (Str.ofString "row") p2] ix pt) it (forB (lawB.getD 16 default)) [] fp] ∧ it = forI (lawB.getD 16 default) := ⟨_, _, _, _, _, _, rfl, rfl⟩
  rw [e]
  refine wpAny_execs_cons ?_
  refine for_led2 (h₀ := h₀) (L := L) (σ := ESt) (fun _ x => eled L aM aP ((aM, W.listOf mv.toArray mn) :: (aP, W.listOf pv.toArray pn) :: (aD, W.listOf dv.toArray dn) :: (L + 1, c1) :: more) x)
    (fun items i x m => items = [.ref x.T1, .ref x.T2] ∧ (∃ v, x.c6.data = .cell v) ∧ ∃ u', m = kstB u' (nmP aN aT aK aP aM aU aF aL lo tl)) rfl (fun x => by rw [ei]; rfl) ?_ ?_ ?_ hE
  · refine eval_pairs (u := kstB u (nmP aN aT aK aP aM aU aF aL lo tl)) ei X T (frame_as _ F (by dsimp only [nmP]; kst_all)) N ?_
    intro D T1 T2 t1 t2 h' tk' F' N'
    exact ⟨[.ref T1, .ref T2], D, 0, ⟨T1, T2, t1, t2, c6⟩, _, h', tk', s.gens, rfl, rfl, hb, frame_as (nmP aN aT aK aP aM aU aF aL lo tl) F' (by dsimp only [nmP]; kst_all), N', rfl, ⟨_, d6⟩, _, rfl⟩
  · intro items D It i v x m h' tk' g' oI c hi hv hI hb' F' N' hO hne hq P hP
    obtain ⟨rfl, ⟨v6', d6'⟩, u', rfl⟩ := hI
    have nI : It ≠ L + 1 + 1 + 1 + 1 + 1 + 1 := Ne.symm (hq _ (.tail _ (.tail _ (.head _))))
    have nD : D ≠ L + 1 + 1 + 1 + 1 + 1 + 1 := news_ne N' (.tail _ (.head _)) (.tail _ (.tail _ (.tail _ (.tail _ (.head _))))) (by rw [d6']; nofun)
    have n1 : x.T1 ≠ L + 1 + 1 + 1 + 1 + 1 + 1 := news_ne N' (.tail _ (.tail _ (.head _))) (.tail _ (.tail _ (.tail _ (.tail _ (.head _))))) (by rw [d6']; nofun)
    have n2 : x.T2 ≠ L + 1 + 1 + 1 + 1 + 1 + 1 := news_ne N' (.tail _ (.tail _ (.tail _ (.head _)))) (.tail _ (.tail _ (.tail _ (.tail _ (.head _))))) (by rw [d6']; nofun)
    match i, hi with
    | 0, _ =>
      obtain rfl : v = .ref x.T1 := by simpa using hv.symm
      refine unpackN_ (s := { s with heap := h', toks := tk', gens := g' }) F' N' (News.isTup N' (.tail _ (.tail _ (.head _)))) rfl rfl rfl fun h₁ F₁ N₁ => ?_
      refine assignInOrder_cons (wpAny_assign_Name (storeX_C (c := L + 1 + 1 + 1 + 1 + 1 + 1) F₁ N₁ rfl (.tail nI (.tail nD (.tail n1 (.tail n2 (.head hm6))))) d6' (fun h₂ o₂ F₂ N₂ d₂ => ?_) rfl rfl))
      refine assignInOrder_cons (wpAny_assign_Name (storeX_L F₂ N₂ (fun h₃ F₃ N₃ => ?_) rfl rfl))
      refine assignInOrder_nil ?_
      have N₄ : News h₀ L h₃ ((aM, W.listOf mv.toArray mn) :: (aD, W.listOf dv.toArray dn) :: (L + 1, c1) :: (L + 1 + 1 + 1 + 1 + 1 + 1, o₂) :: (It, oI) :: (D, W.listOf [.ref x.T1, .ref x.T2].toArray c) :: (x.T1, tupO #[.int 1 x.t1, .ref aM]) :: (x.T2, tupO #[.int 2 x.t2, .ref aP]) :: (aP, W.listOf pv.toArray pn) :: more) := news_pick [5, 7, 8, 4, 0, 1, 2, 3, 6] 9 N₃ rfl
      refine side_1 (u := kstB u' (nmP aN aT aK aP aM aU aF aL lo tl)) (s := { s with heap := h₃, toks := tk' + 1, gens := g' }) B X T h85 F₃ N₄ d1 d₂ hb' hd hm hdl okT hz ?_
      intro h₄ tk₄ g₄ hb₄ F₄ N₅
      exact hP _ ⟨⟨x.T1, x.T2, x.t1, x.t2, o₂⟩, _, h₄, tk₄, g₄, oI, c, rfl, hb₄, frame_as (nmP aN aT aK aP aM aU aF aL lo tl) F₄ (by dsimp only [nmP]; kst_all), news_pick [4, 5, 6, 7, 3, 0, 8, 1, 2] 9 N₅ rfl, ⟨rfl, ⟨_, d₂⟩, _, rfl⟩, hO, hne, off_cons (hq _ (.head _)) (off_cons (hq _ (.tail _ (.head _))) (off_cons (Ne.symm nI) fun q h => hq q (.tail _ (.tail _ (.tail _ h)))))⟩
    | 1, _ =>
      obtain rfl : v = .ref x.T2 := by simpa using hv.symm
      refine unpackN_ (s := { s with heap := h', toks := tk', gens := g' }) F' N' (News.isTup N' (.tail _ (.tail _ (.tail _ (.head _))))) rfl rfl rfl fun h₁ F₁ N₁ => ?_
      refine assignInOrder_cons (wpAny_assign_Name (storeX_C (c := L + 1 + 1 + 1 + 1 + 1 + 1) F₁ N₁ rfl (.tail nI (.tail nD (.tail n1 (.tail n2 (.head hm6))))) d6' (fun h₂ o₂ F₂ N₂ d₂ => ?_) rfl rfl))
      refine assignInOrder_cons (wpAny_assign_Name (storeX_L F₂ N₂ (fun h₃ F₃ N₃ => ?_) rfl rfl))
      refine assignInOrder_nil ?_
      have N₄ : News h₀ L h₃ ((aP, W.listOf pv.toArray pn) :: (aD, W.listOf dv.toArray dn) :: (L + 1, c1) :: (L + 1 + 1 + 1 + 1 + 1 + 1, o₂) :: (It, oI) :: (D, W.listOf [.ref x.T1, .ref x.T2].toArray c) :: (x.T1, tupO #[.int 1 x.t1, .ref aM]) :: (x.T2, tupO #[.int 2 x.t2, .ref aP]) :: (aM, W.listOf mv.toArray mn) :: more) := news_pick [6, 7, 8, 4, 0, 1, 2, 3, 5] 9 N₃ rfl
      refine side_2 (u := kstB u' (nmP aN aT aK aP aM aU aF aL lo tl)) (s := { s with heap := h₃, toks := tk' + 1, gens := g' }) B X T h85 F₃ N₄ d1 d₂ hb' hd hp hdl okT hz ?_
      intro h₄ tk₄ g₄ hb₄ F₄ N₅
      exact hP _ ⟨⟨x.T1, x.T2, x.t1, x.t2, o₂⟩, _, h₄, tk₄, g₄, oI, c, rfl, hb₄, frame_as (nmP aN aT aK aP aM aU aF aL lo tl) F₄ (by dsimp only [nmP]; kst_all), news_pick [4, 5, 6, 7, 3, 8, 0, 1, 2] 9 N₅ rfl, ⟨rfl, ⟨_, d₂⟩, _, rfl⟩, hO, hne, off_cons (hq _ (.head _)) (off_cons (hq _ (.tail _ (.head _))) (off_cons (Ne.symm nI) fun q h => hq q (.tail _ (.tail _ (.tail _ h)))))⟩
    | i + 2, hi => exact absurd hi (by simp)
  · intro items x m h' tk' g' hI hb' F' N'
    obtain ⟨rfl, ⟨v6', d6'⟩, u', rfl⟩ := hI
    exact wpAny_execs_nil (hQ x.c6 v6' h' tk' g' u' d6' hb' F' (fun q hq => N' q (.tail _ (.tail _ hq))))
end
end Mine
end

section
open PySem PySem.W PyProof.Rows
set_option Elab.async false
set_option maxRecDepth 100000
set_option maxHeartbeats 8000000
set_option linter.unusedVariables false
namespace Mine
theorem fillK34 (w : World) (h : Heap) (_ : (hd.heap_39 w.params).In h) : PySem.Challenge.rw_nb0156_01.row.prog = PySem.Challenge.rw_nb0156_01.row.prog ∧ (hd.heap_39 w.params) = hd.heap_39 w.params := by
  k_fill
  exact ⟨rfl, rfl⟩

abbrev hndB : List Stmt := forB (lawB.getD 17 default)
abbrev letB : List Stmt := forB (hndB.getD 2 default)
abbrev markB : List Stmt := forB (hndB.getD 3 default)
theorem ne_intsE {prog : Program} {w : World} {A : Around} {E : Value → Shared → Prop} {s : Shared} {Q : Value → Shared → Prop} {a b : Int} {t u : Tok} (e : a = b) (h : Q (.bool false) s) : wpAny (model prog w) A (compareOp .NotEq (.int a t) (.int b u)) Q E s := by
  subst e; exact ne_ints h
theorem clamp_if (a lo hi : Int) : (if hi < (if a < lo then lo else a) then hi else if a < lo then lo else a) = min (max a lo) hi := by
  split <;> split <;> lia
theorem fr_twice {h₀ h : Heap} {L : Addr} {x : Str} {a b : Option Value} {m : Str → Option Value} (F : Fr h₀ L h (fun y => if y = x then a else if y = x then b else m y)) : Fr h₀ L h (fun y => if y = x then a else m y) := by
  have e : (fun y => if y = x then a else if y = x then b else m y) = (fun y => if y = x then a else m y) := funext fun y => by by_cases q : y = x <;> simp [q]
  rw [e] at F; exact F
section
theorem reset20 : True := by
  w_top off
  exact trivial
local macro_rules | `(tactic| walk_at "call ref") => `(tactic| k_extra "call")
local macro_rules | `(tactic| walk_at "compareOp NotEq int int") => `(tactic| k_extra "nei")
theorem let_a {w : World} {p : Program} {loose : List Str} {mean : ExcName → Option Value} {mg mb : Str → Option Value} {h₀ : Heap} {L fa : Nat} {s : Shared} {Q : Flow → Shared → Prop} {E : Value → Shared → Prop}
   {u : Str → Option Value} {more : List (Addr × Obj)} {aL aD : Nat} {c1 c2 : Obj} {dv lv : List Value} {dn ln kT : Nat} {TL : List Str} {th tt : Tok} {hand : Bool} {letter : Str}
   (B : Below callerA h₀ [] h₀) (X : (hd.heap_39 w.params).In h₀) (T : Top p loose mean mg mb h₀)
   (F : Fr h₀ L s.heap (kstB u [(Str.ofString "letter", .str letter tt), (Str.ofString "hand", .int (handI hand) th), (Str.ofString "letters", .ref aL)]))
   (N : News h₀ L s.heap ((aL, W.listOf lv.toArray ln) :: (aD, W.listOf dv.toArray dn) :: (L + 1, c1) :: (L + 1 + 1, c2) :: more))
   (d1 : c1.data = .cell (some (.ref aD))) (d2 : c2.data = .cell (some (.ref (findA hand))))
   (sd : StrsAre dv TL) (sl : StrsAre lv (TL.map letterOf)) (hdl : ∀ l ∈ TL, l.length ≤ 100) (hz : TL.length < 1000) (sT : SplitAt (tS hand TL letter) TL.length kT)
   (hQ : ∀ ta h' tk', Fr h₀ L h' (kstB u [(Str.ofString "at", .int kT ta), (Str.ofString "letter", .str letter tt), (Str.ofString "hand", .int (handI hand) th), (Str.ofString "letters", .ref aL)]) → News h₀ L h' ((aL, W.listOf lv.toArray ln) :: (aD, W.listOf dv.toArray dn) :: (L + 1, c1) :: (L + 1 + 1, c2) :: more) → Q .next { s with heap := h', toks := tk' }) :
   wpAny (model PySem.Challenge.rw_nb0156_01.row.prog w) (lawA L fa) (execs (letB.take 2) (lawE L fa)) Q E s := by
  dsimp only [letB, markB, hndB, lawA, lawE, lawB, lawS, topS, fnB, fnS, forB, ifE, ifT, PySem.Challenge.pw_nb0156_01, List.getD, List.getElem?_cons_succ, List.getElem?_cons_zero, Option.getD_some, List.drop, List.take]
  dsimp only [kstB] at F hQ
  have sW := split_map sT
  have hz' : (TL.map letterOf).length < 1000 := by rw [List.length_map]; exact hz
  cases hand
  · k_with_none
    replace d2 : c2.data = .cell (some (.ref 57)) := d2
    (k_with "call" => (first
      | ((with_unfolding_all refine' call_by (count_t false rfl letter _ _ sl ?U hz' sW) ?k1 ?k2 ?k3 ?k4 ?k5 ?k6 ?k7 ?k8 ?_); (case k1 => exact B); (case k2 => k_asm); (case k3 => k_asm); (case k4 => k_asm); (case k5 => k_asm); (case U => k_dflt (exact List.Mem.head _)); (case k6 => rfl); (case k7 => ktr_room); (case k8 => ktr_units); intro v8 h8 tk8 hv8 F8 N8; obtain ⟨t8, e8⟩ := hv8; subst e8)
      | ((with_unfolding_all refine' call_by (find_64 false rfl letter _ sd hdl ?U hz sT) ?k1 ?k2 ?k3 ?k4 ?k5 ?k6 ?k7 ?k8 ?_); (case k1 => exact B); (case k2 => k_asm); (case k3 => k_asm); (case k4 => k_asm); (case k5 => k_asm); (case U => k_dflt (exact List.Mem.tail _ (List.Mem.head _))); (case k6 => rfl); (case k7 => ktr_room); (case k8 => ktr_units); intro v8 h8 tk8 hv8 F8 N8; obtain ⟨t8, e8⟩ := hv8; subst e8)))
    (k_with "nei" => (refine ne_ints ?_))
    k_steps
    exact hQ _ _ _ F8 N8
  · k_with_none
    replace d2 : c2.data = .cell (some (.ref 39)) := d2
    (k_with "call" => (first
      | ((with_unfolding_all refine' call_by (count_t true rfl letter _ _ sl ?U hz' sW) ?k1 ?k2 ?k3 ?k4 ?k5 ?k6 ?k7 ?k8 ?_); (case k1 => exact B); (case k2 => k_asm); (case k3 => k_asm); (case k4 => k_asm); (case k5 => k_asm); (case U => k_dflt (exact List.Mem.head _)); (case k6 => rfl); (case k7 => ktr_room); (case k8 => ktr_units); intro v8 h8 tk8 hv8 F8 N8; obtain ⟨t8, e8⟩ := hv8; subst e8)
      | ((with_unfolding_all refine' call_by (find_64 true rfl letter _ sd hdl ?U hz sT) ?k1 ?k2 ?k3 ?k4 ?k5 ?k6 ?k7 ?k8 ?_); (case k1 => exact B); (case k2 => k_asm); (case k3 => k_asm); (case k4 => k_asm); (case k5 => k_asm); (case U => k_dflt (exact List.Mem.tail _ (List.Mem.head _))); (case k6 => rfl); (case k7 => ktr_room); (case k8 => ktr_units); intro v8 h8 tk8 hv8 F8 N8; obtain ⟨t8, e8⟩ := hv8; subst e8)))
    (k_with "nei" => (refine ne_ints ?_))
    k_steps
    exact hQ _ _ _ F8 N8
theorem let_c {w : World} {p : Program} {loose : List Str} {mean : ExcName → Option Value} {mg mb : Str → Option Value} {h₀ : Heap} {L fa : Nat} {s : Shared} {Q : Flow → Shared → Prop} {E : Value → Shared → Prop}
   {u : Str → Option Value} {more : List (Addr × Obj)} {aD : Nat} {c1 c2 c3 : Obj} {dv : List Value} {dn kT : Nat} {TL : List Str} {ta tt tl th : Tok} {hand : Bool} {letter : Str} {lo hi : Int}
   (B : Below callerA h₀ [] h₀) (X : (hd.heap_39 w.params).In h₀) (T : Top p loose mean mg mb h₀)
   (F : Fr h₀ L s.heap (kstB u [(Str.ofString "at", .int kT ta), (Str.ofString "letter", .str letter tt), (Str.ofString "lo", .int lo tl)]))
   (N : News h₀ L s.heap ((aD, W.listOf dv.toArray dn) :: (L + 1, c1) :: (L + 1 + 1, c2) :: (L + 1 + 1 + 1, c3) :: more))
   (d1 : c1.data = .cell (some (.ref aD))) (d2 : c2.data = .cell (some (.ref (findA hand)))) (d3 : c3.data = .cell (some (.int hi th)))
   (sd : StrsAre dv TL) (hdl : ∀ l ∈ TL, l.length ≤ 100) (hz : TL.length < 1000) (b0 : 0 ≤ lo) (b1 : lo ≤ hi) (b2 : hi ≤ TL.length) (sT : SplitAt (tS hand TL letter) TL.length kT)
   (hQ : ∀ ta h' tk', Fr h₀ L h' (kstB u [(Str.ofString "at", .int (clamp kT lo hi) ta), (Str.ofString "letter", .str letter tt), (Str.ofString "lo", .int lo tl)]) → News h₀ L h' ((aD, W.listOf dv.toArray dn) :: (L + 1, c1) :: (L + 1 + 1, c2) :: (L + 1 + 1 + 1, c3) :: more) → Q .next { s with heap := h', toks := tk' }) :
   wpAny (model PySem.Challenge.rw_nb0156_01.row.prog w) (lawA L fa) (execs ((letB.drop 3).take 2) (lawE L fa)) Q E s := by
  dsimp only [letB, markB, hndB, lawA, lawE, lawB, lawS, topS, fnB, fnS, forB, ifE, ifT, PySem.Challenge.pw_nb0156_01, List.getD, List.getElem?_cons_succ, List.getElem?_cons_zero, Option.getD_some, List.drop, List.take]
  dsimp only [kstB] at F hQ
  have hkT := sT.1
  cases hand
  · k_with_none
    replace d2 : c2.data = .cell (some (.ref 57)) := d2
    (k_with "call" => (((with_unfolding_all refine' call_by (find_64b false rfl letter _ _ _ sd hdl ?U hz b0 b1 b2 sT) ?k1 ?k2 ?k3 ?k4 ?k5 ?k6 ?k7 ?k8 ?_); (case k1 => exact B); (case k2 => k_asm); (case k3 => k_asm); (case k4 => k_asm); (case k5 => k_asm); (case U => k_dflt (exact List.Mem.head _)); (case k6 => rfl); (case k7 => ktr_room); (case k8 => ktr_units); intro v8 h8 tk8 hv8 F8 N8; obtain ⟨t8, e8⟩ := hv8; subst e8)))
    (k_with "nei" => (first | refine ne_ints ?_ | (refine ne_intsE (by first | rfl | (k_dflt (exact (clamp_if _ _ _).symm))) ?_)))
    k_steps
    simp only [clamp_if] at F8
    exact hQ _ _ _ (fr_twice F8) N8
  · k_with_none
    replace d2 : c2.data = .cell (some (.ref 39)) := d2
    (k_with "call" => (((with_unfolding_all refine' call_by (find_64b true rfl letter _ _ _ sd hdl ?U hz b0 b1 b2 sT) ?k1 ?k2 ?k3 ?k4 ?k5 ?k6 ?k7 ?k8 ?_); (case k1 => exact B); (case k2 => k_asm); (case k3 => k_asm); (case k4 => k_asm); (case k5 => k_asm); (case U => k_dflt (exact List.Mem.head _)); (case k6 => rfl); (case k7 => ktr_room); (case k8 => ktr_units); intro v8 h8 tk8 hv8 F8 N8; obtain ⟨t8, e8⟩ := hv8; subst e8)))
    (k_with "nei" => (first | refine ne_ints ?_ | (refine ne_intsE (by first | rfl | (k_dflt (exact (clamp_if _ _ _).symm))) ?_)))
    k_steps
    simp only [clamp_if] at F8
    exact hQ _ _ _ (fr_twice F8) N8
end
end Mine
end

section
open PySem PySem.W PyProof.Rows
set_option Elab.async false
set_option maxRecDepth 100000
set_option maxHeartbeats 8000000
set_option linter.unusedVariables false
namespace Mine
theorem fillK35 (w : World) (h : Heap) (_ : (hd.heap_39 w.params).In h) : PySem.Challenge.rw_nb0156_01.row.prog = PySem.Challenge.rw_nb0156_01.row.prog ∧ (hd.heap_39 w.params) = hd.heap_39 w.params := by
  k_fill
  exact ⟨rfl, rfl⟩

section
theorem reset21 : True := by
  w_top off
  exact trivial
local macro_rules | `(tactic| walk_at "call ref") => `(tactic| k_extra "call")
local macro_rules | `(tactic| walk_at "compareOp NotEq ref ref") => `(tactic| k_extra "ne")
local macro_rules | `(tactic| walk_at "subscriptTail Name Slice ref ref") => `(tactic| k_extra "slice")
local macro_rules | `(tactic| walk_at "call type:list") => `(tactic| k_extra "list")
theorem pair_1 {w : World} {p : Program} {loose : List Str} {mean : ExcName → Option Value} {mg mb : Str → Option Value} {h₀ : Heap} {L fa : Nat} {s : Shared} {Q : Flow → Shared → Prop} {E : Value → Shared → Prop}
   {u : Str → Option Value} {more : List (Addr × Obj)} {aR aD : Nat} {c1 c2 c6 : Obj} {dv rv : List Value} {dn rn kT : Nat} {TL : List Str} {ta tt tw : Tok} {hand : Bool} {letter : Str}
   (B : Below callerA h₀ [] h₀) (X : (hd.heap_39 w.params).In h₀) (T : Top p loose mean mg mb h₀)
   (F : Fr h₀ L s.heap (kstB u [(Str.ofString "row", .ref aR), (Str.ofString "at", .int kT ta), (Str.ofString "letter", .str letter tt)]))
   (N : News h₀ L s.heap ((aR, W.listOf rv.toArray rn) :: (aD, W.listOf dv.toArray dn) :: (L + 1, c1) :: (L + 1 + 1, c2) :: (L + 1 + 1 + 1 + 1 + 1 + 1, c6) :: more))
   (d1 : c1.data = .cell (some (.ref aD))) (d2 : c2.data = .cell (some (.ref (findA hand)))) (d6 : c6.data = .cell (some (.int 1 tw))) (hb : AllBare s.gens)
   (sd : StrsAre dv TL) (hr : StrsAre rv (restored (Str.ofString "- ") TL)) (hdl : ∀ l ∈ TL, l.length ≤ 100) (okT : ∀ l ∈ TL, okS l) (hz : TL.length < 900) (sT : SplitAt (tS hand TL letter) TL.length kT)
   (hQ : ∀ h' tk' g', AllBare g' → Fr h₀ L h' (kstB u [(Str.ofString "row", .ref aR), (Str.ofString "at", .int kT ta), (Str.ofString "letter", .str letter tt)]) → News h₀ L h' ((aR, W.listOf rv.toArray rn) :: (aD, W.listOf dv.toArray dn) :: (L + 1, c1) :: (L + 1 + 1, c2) :: (L + 1 + 1 + 1 + 1 + 1 + 1, c6) :: more) → Q .next { s with heap := h', toks := tk', gens := g' }) :
   wpAny (model PySem.Challenge.rw_nb0156_01.row.prog w) (lawA L fa) (execs (forB (letB.getD 2 default)) (lawE L fa)) Q E s := by
  dsimp only [letB, markB, hndB, lawA, lawE, lawB, lawS, topS, fnB, fnS, forB, ifE, ifT, PySem.Challenge.pw_nb0156_01, List.getD, List.getElem?_cons_succ, List.getElem?_cons_zero, Option.getD_some, List.drop, List.take]
  dsimp only [kstB] at F hQ
  have sX := split_side (tag := Str.ofString "- ") sT
  have hl8 := sd.length
  have hl7 := hr.length
  have hle := restored_le (Str.ofString "- ") TL
  have st1 : StrsAre (dv.take (kT : Int).toNat) (TL.take kT) := sd.take' _
  have stR : StrsAre (rv.take (((restored (Str.ofString "- ") (TL.take kT)).length : Nat) : Int).toNat) (restored (Str.ofString "- ") (TL.take kT)) := by
    have h := hr.take' (restored (Str.ofString "- ") (TL.take kT)).length
    rw [← restored_take] at h; exact h
  have hdl1 : ∀ l ∈ TL.take kT, l.length ≤ 100 := fun l hl => hdl l (List.mem_of_mem_take hl)
  have okR := ok_restored (tag := Str.ofString "- ") (TL := TL.take kT) fun l hl => okT l (List.mem_of_mem_take hl)
  have hdlR := restored_len (tag := Str.ofString "- ") hdl
  have hz1 : (TL.take kT).length < 1000 := Nat.lt_of_le_of_lt (List.length_take_le' _ _) (by omega)
  have hzR : (restored (Str.ofString "- ") TL).length < 1000 := by omega
  cases hand
  · k_with_none
    replace d2 : c2.data = .cell (some (.ref 57)) := d2
    (k_with "slice" => (first
      | (k_dflt (refine' kmk_slice_lit (its := dv.toArray) ?F ?N (News.isList ?N2 ?m) .none (.int _ _) (pick_to (Int.natCast_nonneg kT)) ?_ ?s ?t (arr_fits (by omega)); (case F => k_asm); (case N => k_asm); (case N2 => k_asm); (case m => k_mem); (case s => with_unfolding_all rfl); (case t => kmk_pure)); intro D' h' F' N' l1; (try k_sweep))
      | (k_dflt (refine' kmk_slice_lit (its := rv.toArray) ?F ?N (News.isList ?N2 ?m) .none (.int _ _) (pick_to (Int.natCast_nonneg _)) ?_ ?s ?t (arr_fits (by omega)); (case F => k_asm); (case N => k_asm); (case N2 => k_asm); (case m => k_mem); (case s => with_unfolding_all rfl); (case t => kmk_pure)); intro D' h' F' N' l1; (try k_sweep))))
    (k_with "call" => (first
      | ((with_unfolding_all refine' call_restore (wv := .int 1 tw) ?k1 X ?k2 T ?room hb ?_); (case k1 => k_asm); (case k2 => k_asm); (case room => ktr_room); intro C9 h9 g9 tk9 F9 N9 hC9 G9; (try dsimp only))
      | ((with_unfolding_all refine' call_by (find_71 false rfl letter _ hr hdlR ?U hzR sX) ?k1 ?k2 ?k3 ?k4 ?k5 ?k6 ?k7 ?k8 ?_); (case k1 => exact B); (case k2 => k_asm); (case k3 => k_asm); (case k4 => k_asm); (case k5 => k_asm); (case U => k_dflt (k_mem)); (case k6 => rfl); (case k7 => ktr_room); (case k8 => ktr_units); intro v8 h8 tk8 hv8 F8 N8; obtain ⟨t8, e8⟩ := hv8; subst e8)))
    (k_with "list" => ((with_unfolding_all refine' list_restore (.i1 _) ?hh ?room G9 F9 X N9 hC9 T ?hm st1 hdl1 hz1 ?_); (case hh => rfl); (case room => ktr_room); (case hm => k_dflt (k_mem)); intro D7 c7 h7 tk7 g7 ys7 st7 F7 N7 lt7 hb7; (try dsimp only)))
    (k_with "ne" => (k_dflt (refine' ne_strs ?N ?a ?b st7 stR okR ?u ?_; (case N => k_asm); (case a => k_mem); (case b => k_mem); (case u => ktr_units))))
    k_steps
    exact hQ _ _ _ hb7 F' (fun p hp => N' p (List.Mem.tail _ (List.Mem.tail _ (List.Mem.tail _ hp))))
  · k_with_none
    replace d2 : c2.data = .cell (some (.ref 39)) := d2
    (k_with "slice" => (first
      | (k_dflt (refine' kmk_slice_lit (its := dv.toArray) ?F ?N (News.isList ?N2 ?m) .none (.int _ _) (pick_to (Int.natCast_nonneg kT)) ?_ ?s ?t (arr_fits (by omega)); (case F => k_asm); (case N => k_asm); (case N2 => k_asm); (case m => k_mem); (case s => with_unfolding_all rfl); (case t => kmk_pure)); intro D' h' F' N' l1; (try k_sweep))
      | (k_dflt (refine' kmk_slice_lit (its := rv.toArray) ?F ?N (News.isList ?N2 ?m) .none (.int _ _) (pick_to (Int.natCast_nonneg _)) ?_ ?s ?t (arr_fits (by omega)); (case F => k_asm); (case N => k_asm); (case N2 => k_asm); (case m => k_mem); (case s => with_unfolding_all rfl); (case t => kmk_pure)); intro D' h' F' N' l1; (try k_sweep))))
    (k_with "call" => (first
      | ((with_unfolding_all refine' call_restore (wv := .int 1 tw) ?k1 X ?k2 T ?room hb ?_); (case k1 => k_asm); (case k2 => k_asm); (case room => ktr_room); intro C9 h9 g9 tk9 F9 N9 hC9 G9; (try dsimp only))
      | ((with_unfolding_all refine' call_by (find_71 true rfl letter _ hr hdlR ?U hzR sX) ?k1 ?k2 ?k3 ?k4 ?k5 ?k6 ?k7 ?k8 ?_); (case k1 => exact B); (case k2 => k_asm); (case k3 => k_asm); (case k4 => k_asm); (case k5 => k_asm); (case U => k_dflt (k_mem)); (case k6 => rfl); (case k7 => ktr_room); (case k8 => ktr_units); intro v8 h8 tk8 hv8 F8 N8; obtain ⟨t8, e8⟩ := hv8; subst e8)))
    (k_with "list" => ((with_unfolding_all refine' list_restore (.i1 _) ?hh ?room G9 F9 X N9 hC9 T ?hm st1 hdl1 hz1 ?_); (case hh => rfl); (case room => ktr_room); (case hm => k_dflt (k_mem)); intro D7 c7 h7 tk7 g7 ys7 st7 F7 N7 lt7 hb7; (try dsimp only)))
    (k_with "ne" => (k_dflt (refine' ne_strs ?N ?a ?b st7 stR okR ?u ?_; (case N => k_asm); (case a => k_mem); (case b => k_mem); (case u => ktr_units))))
    k_steps
    exact hQ _ _ _ hb7 F' (fun p hp => N' p (List.Mem.tail _ (List.Mem.tail _ (List.Mem.tail _ hp))))
theorem pair_2 {w : World} {p : Program} {loose : List Str} {mean : ExcName → Option Value} {mg mb : Str → Option Value} {h₀ : Heap} {L fa : Nat} {s : Shared} {Q : Flow → Shared → Prop} {E : Value → Shared → Prop}
   {u : Str → Option Value} {more : List (Addr × Obj)} {aR aD : Nat} {c1 c2 c6 : Obj} {dv rv : List Value} {dn rn kT : Nat} {TL : List Str} {ta tt tw : Tok} {hand : Bool} {letter : Str}
   (B : Below callerA h₀ [] h₀) (X : (hd.heap_39 w.params).In h₀) (T : Top p loose mean mg mb h₀)
   (F : Fr h₀ L s.heap (kstB u [(Str.ofString "row", .ref aR), (Str.ofString "at", .int kT ta), (Str.ofString "letter", .str letter tt)]))
   (N : News h₀ L s.heap ((aR, W.listOf rv.toArray rn) :: (aD, W.listOf dv.toArray dn) :: (L + 1, c1) :: (L + 1 + 1, c2) :: (L + 1 + 1 + 1 + 1 + 1 + 1, c6) :: more))
   (d1 : c1.data = .cell (some (.ref aD))) (d2 : c2.data = .cell (some (.ref (findA hand)))) (d6 : c6.data = .cell (some (.int 2 tw))) (hb : AllBare s.gens)
   (sd : StrsAre dv TL) (hr : StrsAre rv (restored (Str.ofString "+ ") TL)) (hdl : ∀ l ∈ TL, l.length ≤ 100) (okT : ∀ l ∈ TL, okS l) (hz : TL.length < 900) (sT : SplitAt (tS hand TL letter) TL.length kT)
   (hQ : ∀ h' tk' g', AllBare g' → Fr h₀ L h' (kstB u [(Str.ofString "row", .ref aR), (Str.ofString "at", .int kT ta), (Str.ofString "letter", .str letter tt)]) → News h₀ L h' ((aR, W.listOf rv.toArray rn) :: (aD, W.listOf dv.toArray dn) :: (L + 1, c1) :: (L + 1 + 1, c2) :: (L + 1 + 1 + 1 + 1 + 1 + 1, c6) :: more) → Q .next { s with heap := h', toks := tk', gens := g' }) :
   wpAny (model PySem.Challenge.rw_nb0156_01.row.prog w) (lawA L fa) (execs (forB (letB.getD 2 default)) (lawE L fa)) Q E s := by
  dsimp only [letB, markB, hndB, lawA, lawE, lawB, lawS, topS, fnB, fnS, forB, ifE, ifT, PySem.Challenge.pw_nb0156_01, List.getD, List.getElem?_cons_succ, List.getElem?_cons_zero, Option.getD_some, List.drop, List.take]
  dsimp only [kstB] at F hQ
  have sX := split_side (tag := Str.ofString "+ ") sT
  have hl8 := sd.length
  have hl7 := hr.length
  have hle := restored_le (Str.ofString "+ ") TL
  have st1 : StrsAre (dv.take (kT : Int).toNat) (TL.take kT) := sd.take' _
  have stR : StrsAre (rv.take (((restored (Str.ofString "+ ") (TL.take kT)).length : Nat) : Int).toNat) (restored (Str.ofString "+ ") (TL.take kT)) := by
    have h := hr.take' (restored (Str.ofString "+ ") (TL.take kT)).length
    rw [← restored_take] at h; exact h
  have hdl1 : ∀ l ∈ TL.take kT, l.length ≤ 100 := fun l hl => hdl l (List.mem_of_mem_take hl)
  have okR := ok_restored (tag := Str.ofString "+ ") (TL := TL.take kT) fun l hl => okT l (List.mem_of_mem_take hl)
  have hdlR := restored_len (tag := Str.ofString "+ ") hdl
  have hz1 : (TL.take kT).length < 1000 := Nat.lt_of_le_of_lt (List.length_take_le' _ _) (by omega)
  have hzR : (restored (Str.ofString "+ ") TL).length < 1000 := by omega
  cases hand
  · k_with_none
    replace d2 : c2.data = .cell (some (.ref 57)) := d2
    (k_with "slice" => (first
      | (k_dflt (refine' kmk_slice_lit (its := dv.toArray) ?F ?N (News.isList ?N2 ?m) .none (.int _ _) (pick_to (Int.natCast_nonneg kT)) ?_ ?s ?t (arr_fits (by omega)); (case F => k_asm); (case N => k_asm); (case N2 => k_asm); (case m => k_mem); (case s => with_unfolding_all rfl); (case t => kmk_pure)); intro D' h' F' N' l1; (try k_sweep))
      | (k_dflt (refine' kmk_slice_lit (its := rv.toArray) ?F ?N (News.isList ?N2 ?m) .none (.int _ _) (pick_to (Int.natCast_nonneg _)) ?_ ?s ?t (arr_fits (by omega)); (case F => k_asm); (case N => k_asm); (case N2 => k_asm); (case m => k_mem); (case s => with_unfolding_all rfl); (case t => kmk_pure)); intro D' h' F' N' l1; (try k_sweep))))
    (k_with "call" => (first
      | ((with_unfolding_all refine' call_restore (wv := .int 2 tw) ?k1 X ?k2 T ?room hb ?_); (case k1 => k_asm); (case k2 => k_asm); (case room => ktr_room); intro C9 h9 g9 tk9 F9 N9 hC9 G9; (try dsimp only))
      | ((with_unfolding_all refine' call_by (find_71 false rfl letter _ hr hdlR ?U hzR sX) ?k1 ?k2 ?k3 ?k4 ?k5 ?k6 ?k7 ?k8 ?_); (case k1 => exact B); (case k2 => k_asm); (case k3 => k_asm); (case k4 => k_asm); (case k5 => k_asm); (case U => k_dflt (k_mem)); (case k6 => rfl); (case k7 => ktr_room); (case k8 => ktr_units); intro v8 h8 tk8 hv8 F8 N8; obtain ⟨t8, e8⟩ := hv8; subst e8)))
    (k_with "list" => ((with_unfolding_all refine' list_restore (.i2 _) ?hh ?room G9 F9 X N9 hC9 T ?hm st1 hdl1 hz1 ?_); (case hh => rfl); (case room => ktr_room); (case hm => k_dflt (k_mem)); intro D7 c7 h7 tk7 g7 ys7 st7 F7 N7 lt7 hb7; (try dsimp only)))
    (k_with "ne" => (k_dflt (refine' ne_strs ?N ?a ?b st7 stR okR ?u ?_; (case N => k_asm); (case a => k_mem); (case b => k_mem); (case u => ktr_units))))
    k_steps
    exact hQ _ _ _ hb7 F' (fun p hp => N' p (List.Mem.tail _ (List.Mem.tail _ (List.Mem.tail _ hp))))
  · k_with_none
    replace d2 : c2.data = .cell (some (.ref 39)) := d2
    (k_with "slice" => (first
      | (k_dflt (refine' kmk_slice_lit (its := dv.toArray) ?F ?N (News.isList ?N2 ?m) .none (.int _ _) (pick_to (Int.natCast_nonneg kT)) ?_ ?s ?t (arr_fits (by omega)); (case F => k_asm); (case N => k_asm); (case N2 => k_asm); (case m => k_mem); (case s => with_unfolding_all rfl); (case t => kmk_pure)); intro D' h' F' N' l1; (try k_sweep))
      | (k_dflt (refine' kmk_slice_lit (its := rv.toArray) ?F ?N (News.isList ?N2 ?m) .none (.int _ _) (pick_to (Int.natCast_nonneg _)) ?_ ?s ?t (arr_fits (by omega)); (case F => k_asm); (case N => k_asm); (case N2 => k_asm); (case m => k_mem); (case s => with_unfolding_all rfl); (case t => kmk_pure)); intro D' h' F' N' l1; (try k_sweep))))
    (k_with "call" => (first
      | ((with_unfolding_all refine' call_restore (wv := .int 2 tw) ?k1 X ?k2 T ?room hb ?_); (case k1 => k_asm); (case k2 => k_asm); (case room => ktr_room); intro C9 h9 g9 tk9 F9 N9 hC9 G9; (try dsimp only))
      | ((with_unfolding_all refine' call_by (find_71 true rfl letter _ hr hdlR ?U hzR sX) ?k1 ?k2 ?k3 ?k4 ?k5 ?k6 ?k7 ?k8 ?_); (case k1 => exact B); (case k2 => k_asm); (case k3 => k_asm); (case k4 => k_asm); (case k5 => k_asm); (case U => k_dflt (k_mem)); (case k6 => rfl); (case k7 => ktr_room); (case k8 => ktr_units); intro v8 h8 tk8 hv8 F8 N8; obtain ⟨t8, e8⟩ := hv8; subst e8)))
    (k_with "list" => ((with_unfolding_all refine' list_restore (.i2 _) ?hh ?room G9 F9 X N9 hC9 T ?hm st1 hdl1 hz1 ?_); (case hh => rfl); (case room => ktr_room); (case hm => k_dflt (k_mem)); intro D7 c7 h7 tk7 g7 ys7 st7 F7 N7 lt7 hb7; (try dsimp only)))
    (k_with "ne" => (k_dflt (refine' ne_strs ?N ?a ?b st7 stR okR ?u ?_; (case N => k_asm); (case a => k_mem); (case b => k_mem); (case u => ktr_units))))
    k_steps
    exact hQ _ _ _ hb7 F' (fun p hp => N' p (List.Mem.tail _ (List.Mem.tail _ (List.Mem.tail _ hp))))
end
end Mine
end

section
open PySem PySem.W PyProof.Rows
set_option Elab.async false
set_option maxRecDepth 100000
set_option maxHeartbeats 8000000
set_option linter.unusedVariables false
namespace Mine
theorem fillK36 (w : World) (h : Heap) (_ : (hd.heap_39 w.params).In h) : PySem.Challenge.rw_nb0156_01.row.prog = PySem.Challenge.rw_nb0156_01.row.prog ∧ (hd.heap_39 w.params) = hd.heap_39 w.params := by
  k_fill
  exact ⟨rfl, rfl⟩

theorem ok_ins {TL : List Str} {k : Int} {y : Str} (h : ∀ l ∈ TL, okS l) (hy : okS y) : ∀ l ∈ ins TL k y, okS l := fun l hl => by
  rcases ins_mem hl with rfl | hl
  · exact hy
  · exact h l hl
theorem strs_cat {tv : List Value} {TL : List Str} (h : StrsAre tv TL) (k : Int) (y : Str) (t : Tok) : StrsAre ((tv.take k.toNat ++ [.str y t]) ++ tv.drop k.toNat) (ins TL k y) := by
  rw [List.append_assoc]; exact strs_ins h k y t
theorem dash_ok : okS (Str.ofString "- ") := okS_of (by decide +kernel)
theorem dash_letter {y : Str} : letterOf (Str.ofString "- " ++ y) = firstOf y := letter_app rfl
section
theorem reset22 : True := by
  w_top off
  exact trivial
local macro_rules | `(tactic| k_all) => `(tactic| assumption)
local macro_rules | `(tactic| walk_at "call ref") => `(tactic| k_extra "call")
local macro_rules | `(tactic| walk_at "compareOp NotEq ref ref") => `(tactic| k_extra "ne")
local macro_rules | `(tactic| walk_at "subscriptTail Name Slice ref ref") => `(tactic| k_extra "slice")
local macro_rules | `(tactic| walk_at "binaryOp Add ref ref") => `(tactic| k_extra "cat")
local macro_rules | `(tactic| walk_at "binaryOp Add str str") => `(tactic| k_extra "add")
local macro_rules | `(tactic| walk_at "call type:list") => `(tactic| (k_here; (with_reducible show wpAny _ _ (call (Value.type _) [Value.ref _]) _ _ _); k_extra "copy"))
theorem let_d {w : World} {p : Program} {loose : List Str} {mean : ExcName → Option Value} {mg mb : Str → Option Value} {h₀ : Heap} {L fa : Nat} {s : Shared} {Q : Flow → Shared → Prop} {E : Value → Shared → Prop}
   {u : Str → Option Value} {more : List (Addr × Obj)} {aD : Nat} {c1 c3 c4 c5 : Obj} {v4 : Option Value} {dv : List Value} {dn kT : Nat} {TL : List Str} {tt tl th : Tok} {hand : Bool} {letter : Str} {lo hi : Int}
   (B : Below callerA h₀ [] h₀) (X : (hd.heap_39 w.params).In h₀) (T : Top p loose mean mg mb h₀) (h85 : 85 < L)
   (F : Fr h₀ L s.heap (kstB u [(Str.ofString "letter", .str letter tt), (Str.ofString "lo", .int lo tl)]))
   (N : News h₀ L s.heap ((aD, W.listOf dv.toArray dn) :: (L + 1, c1) :: (L + 1 + 1 + 1, c3) :: (L + 1 + 1 + 1 + 1, c4) :: (L + 1 + 1 + 1 + 1 + 1, c5) :: more))
   (d1 : c1.data = .cell (some (.ref aD))) (d3 : c3.data = .cell (some (.int hi th))) (d4 : c4.data = .cell v4) (d5 : c5.data = .cell (some (.ref (putA hand))))
   (o1 : L + 6 < aD) (hm4 : ∀ q ∈ more, q.1 ≠ L + 1 + 1 + 1 + 1)
   (sd : StrsAre dv TL) (hdl : ∀ l ∈ TL, l.length ≤ 100) (hz : TL.length < 900) (hll : letter.length ≤ 10) (hfl : firstOf letter = letter) (b0 : 0 ≤ lo) (b1 : lo ≤ hi) (b2 : hi ≤ TL.length) (sT : SplitAt (tS hand TL letter) TL.length kT)
   (hQ : ∀ te (aG gn : Nat) c4' h' tk', c4'.data = .cell (some (.ref aG)) → Fr h₀ L h' (kstB u [(Str.ofString "line", .str (Str.ofString "- " ++ letter) te), (Str.ofString "letter", .str letter tt), (Str.ofString "lo", .int lo tl)]) → News h₀ L h' ((aG, W.listOf (ins dv (clamp kT lo hi) (.str (Str.ofString "- " ++ letter) te)).toArray gn) :: (aD, W.listOf dv.toArray dn) :: (L + 1, c1) :: (L + 1 + 1 + 1, c3) :: (L + 1 + 1 + 1 + 1, c4') :: (L + 1 + 1 + 1 + 1 + 1, c5) :: more) → Q .next { s with heap := h', toks := tk' }) :
   wpAny (model PySem.Challenge.rw_nb0156_01.row.prog w) (lawA L fa) (execs ((letB.drop 5).take 3) (lawE L fa)) Q E s := by
  dsimp only [letB, markB, hndB, lawA, lawE, lawB, lawS, topS, fnB, fnS, forB, ifE, ifT, PySem.Challenge.pw_nb0156_01, List.getD, List.getElem?_cons_succ, List.getElem?_cons_zero, Option.getD_some, List.drop, List.take]
  dsimp only [kstB] at F hQ
  have hl8 := sd.length
  have hz3 : TL.length < 1000 := by omega
  have hln : (Str.ofString "- " ++ letter).length ≤ 100 := by
    rw [Str.length_append]
    have : (Str.ofString "- ").length = 2 := rfl
    omega
  have sT' : SplitAt (tS hand TL (letterOf (Str.ofString "- " ++ letter))) TL.length kT := by rw [dash_letter, hfl]; exact sT
  cases hand
  · k_with_none
    replace d5 : c5.data = .cell (some (.ref 48)) := d5
    (k_with "copy" => ((with_unfolding_all refine' list_copyK ?k1 ?k2 ?k3 ?_ ?z; (case k1 => k_asm); (case k2 => k_asm); (case k3 => is_list); (case z => (rw [List.size_toArray, sizeLine_eq]; omega)); k_whole); intro D' c' h' F' N' l1; (have lM : ∀ q ∈ more, q.1 ≠ D' := fun q hq => Nat.ne_of_lt (l1 q (List.Mem.tail _ (List.Mem.tail _ (List.Mem.tail _ (List.Mem.tail _ (List.Mem.tail _ (hq)))))))); (try k_lt l1); (try k_sweep)))
    (k_with "add" => (refine PyProof.Rows.add_str (hsz := add_fits (by decide) (Nat.le_trans hll (by decide))) ?_; intro t7 tk7))
    (k_with "call" => (((with_unfolding_all refine' call_by (put_64b false rfl _ _ _ _ hln sd hdl ?U hz3 b0 b1 b2 sT') ?k1 ?k2 ?k3 ?k4 ?k5 ?k6 ?k7 ?k8 ?_); (case k1 => exact B); (case k2 => k_asm); (case k3 => k_asm); (case k4 => k_asm); (case k5 => k_asm); (case U => k_updF); (case k6 => rfl); (case k7 => ktr_room); (case k8 => ktr_units); intro v8 h8 tk8 hv8 F8 N8; subst hv8)))
    k_steps
    rename _ = Data.cell (some (Value.ref D')) => dG
    exact hQ _ D' _ _ _ _ dG F8 N8
  · k_with_none
    replace d5 : c5.data = .cell (some (.ref 30)) := d5
    (k_with "copy" => ((with_unfolding_all refine' list_copyK ?k1 ?k2 ?k3 ?_ ?z; (case k1 => k_asm); (case k2 => k_asm); (case k3 => is_list); (case z => (rw [List.size_toArray, sizeLine_eq]; omega)); k_whole); intro D' c' h' F' N' l1; (have lM : ∀ q ∈ more, q.1 ≠ D' := fun q hq => Nat.ne_of_lt (l1 q (List.Mem.tail _ (List.Mem.tail _ (List.Mem.tail _ (List.Mem.tail _ (List.Mem.tail _ (hq)))))))); (try k_lt l1); (try k_sweep)))
    (k_with "add" => (refine PyProof.Rows.add_str (hsz := add_fits (by decide) (Nat.le_trans hll (by decide))) ?_; intro t7 tk7))
    (k_with "call" => (((with_unfolding_all refine' call_by (put_64b true rfl _ _ _ _ hln sd hdl ?U hz3 b0 b1 b2 sT') ?k1 ?k2 ?k3 ?k4 ?k5 ?k6 ?k7 ?k8 ?_); (case k1 => exact B); (case k2 => k_asm); (case k3 => k_asm); (case k4 => k_asm); (case k5 => k_asm); (case U => k_updF); (case k6 => rfl); (case k7 => ktr_room); (case k8 => ktr_units); intro v8 h8 tk8 hv8 F8 N8; subst hv8)))
    k_steps
    rename _ = Data.cell (some (Value.ref D')) => dG
    exact hQ _ D' _ _ _ _ dG F8 N8
theorem let_e {w : World} {p : Program} {loose : List Str} {mean : ExcName → Option Value} {mg mb : Str → Option Value} {h₀ : Heap} {L fa : Nat} {s : Shared} {Q : Flow → Shared → Prop} {E : Value → Shared → Prop}
   {u : Str → Option Value} {more : List (Addr × Obj)} {aG aT gn : Nat} {c4 : Obj} {dv tv : List Value} {tn : Nat} {TL : List Str} {te ta : Tok} {line : Str} {k : Int}
   (B : Below callerA h₀ [] h₀) (X : (hd.heap_39 w.params).In h₀) (T : Top p loose mean mg mb h₀)
   (F : Fr h₀ L s.heap (kstB u [(Str.ofString "line", .str line te), (Str.ofString "at", .int k ta), (Str.ofString "told", .ref aT)]))
   (N : News h₀ L s.heap ((aG, W.listOf (ins dv k (.str line te)).toArray gn) :: (aT, W.listOf tv.toArray tn) :: (L + 1 + 1 + 1 + 1, c4) :: more))
   (d4 : c4.data = .cell (some (.ref aG)))
   (sd : StrsAre dv TL) (st : StrsAre tv TL) (okT : ∀ l ∈ TL, okS l) (hz : TL.length < 900) (okL : okS line) (k0 : 0 ≤ k)
   (hQ : ∀ h' tk', Fr h₀ L h' (kstB u [(Str.ofString "line", .str line te), (Str.ofString "at", .int k ta), (Str.ofString "told", .ref aT)]) → News h₀ L h' ((aG, W.listOf (ins dv k (.str line te)).toArray gn) :: (aT, W.listOf tv.toArray tn) :: (L + 1 + 1 + 1 + 1, c4) :: more) → Q .next { s with heap := h', toks := tk' }) :
   wpAny (model PySem.Challenge.rw_nb0156_01.row.prog w) (lawA L fa) (execs (letB.drop 8) (lawE L fa)) Q E s := by
  dsimp only [letB, markB, hndB, lawA, lawE, lawB, lawS, topS, fnB, fnS, forB, ifE, ifT, PySem.Challenge.pw_nb0156_01, List.getD, List.getElem?_cons_succ, List.getElem?_cons_zero, Option.getD_some, List.drop, List.take]
  dsimp only [kstB] at F hQ
  have hl7 := st.length
  have hz1 : (tv.take k.toNat).length < 950 := Nat.lt_of_le_of_lt (List.length_take_le' _ _) (by omega)
  have hz2 : (tv.drop k.toNat).length < 950 := by rw [List.length_drop]; omega
  have okI := ok_ins (k := k) okT okL
  have s1 := strs_ins sd k line te
  have s2 := strs_cat st k line te
  k_with_none
  (k_with "slice" => (first
      | (k_dflt (refine' kmk_slice_lit (its := tv.toArray) ?F ?N (News.isList ?N2 ?m) .none (.int _ _) (pick_to k0) ?_ ?s ?t (arr_fits (by omega)); (case F => k_asm); (case N => k_asm); (case N2 => k_asm); (case m => k_mem); (case s => with_unfolding_all rfl); (case t => kmk_pure)); intro D' h' F' N' l1; (try k_lt l1); (try k_sweep))
      | (k_dflt (refine' kmk_slice_lit (its := tv.toArray) ?F ?N (News.isList ?N2 ?m) (.int _ _) .none (pick_from k0) ?_ ?s ?t (arr_fits (by omega)); (case F => k_asm); (case N => k_asm); (case N2 => k_asm); (case m => k_mem); (case s => with_unfolding_all rfl); (case t => kmk_pure)); intro D' h' F' N' l1; (try k_lt l1); (try k_sweep))))
  (k_with "cat" => (k_dflt (refine' add_two ?F ?N ?a ?b ?za ?zb ?_; (case F => k_asm); (case N => k_asm); (case a => k_mem); (case b => k_mem); (case za => ((try simp only [List.length_append, List.length_cons, List.length_nil]); omega)); (case zb => ((try simp only [List.length_append, List.length_cons, List.length_nil]); omega))); intro D' h' F' N' l1; (try k_lt l1); (try k_sweep)))
  (k_with "ne" => (k_dflt (refine' ne_strs ?N ?a ?b s1 s2 okI ?u ?_; (case N => k_asm); (case a => k_mem); (case b => k_mem); (case u => ktr_units))))
  k_steps
  exact hQ _ _ F' (fun p hp => N' p (List.Mem.tail _ (List.Mem.tail _ (List.Mem.tail _ (List.Mem.tail _ (List.Mem.tail _ hp))))))
end
end Mine
end

section
open PySem PySem.W PyProof.Rows
set_option Elab.async false
set_option maxRecDepth 100000
set_option maxHeartbeats 8000000
set_option linter.unusedVariables false
namespace Mine
theorem fillK37 (w : World) (h : Heap) (_ : (hd.heap_39 w.params).In h) : PySem.Challenge.rw_nb0156_01.row.prog = PySem.Challenge.rw_nb0156_01.row.prog ∧ (hd.heap_39 w.params) = hd.heap_39 w.params := by
  k_fill
  exact ⟨rfl, rfl⟩

theorem nms_cat {nv : List Value} {NL : List Nm} (h : NmsAre nv NL) (k : Int) {v : Value} {n : Nm} (hv : NmIs v n) : NmsAre ((nv.take k.toNat ++ [v]) ++ nv.drop k.toNat) (ins NL k n) := by
  rw [List.append_assoc]; exact nms_ins h k hv
theorem small_ins {NL : List Nm} {k : Int} {n : Nm} (h : ∀ n ∈ NL, n.small) (hn : n.small) : ∀ m ∈ ins NL k n, m.small := fun m hm => by
  rcases ins_mem hm with rfl | hm
  · exact hn
  · exact h m hm
section
theorem reset23 : True := by
  w_top off
  exact trivial
local macro_rules | `(tactic| k_all) => `(tactic| assumption)
local macro_rules | `(tactic| walk_at "call ref") => `(tactic| k_extra "call")
local macro_rules | `(tactic| walk_at "compareOp NotEq int int") => `(tactic| k_extra "nei")
local macro_rules | `(tactic| walk_at "compareOp NotEq str str") => `(tactic| k_extra "nes")
local macro_rules | `(tactic| walk_at "call builtin:repr") => `(tactic| k_extra "repr")
local macro_rules | `(tactic| walk_at "subscriptTail Name Slice ref ref") => `(tactic| k_extra "slice")
local macro_rules | `(tactic| walk_at "binaryOp Add ref ref") => `(tactic| k_extra "cat")
local macro_rules | `(tactic| walk_at "call type:list") => `(tactic| (k_here; (with_reducible show wpAny _ _ (call (Value.type _) [Value.ref _]) _ _ _); k_extra "copy"))
theorem mark_a {w : World} {p : Program} {loose : List Str} {mean : ExcName → Option Value} {mg mb : Str → Option Value} {h₀ : Heap} {L fa : Nat} {s : Shared} {Q : Flow → Shared → Prop} {E : Value → Shared → Prop}
   {u : Str → Option Value} {more : List (Addr × Obj)} {aN aK : Nat} {c2 : Obj} {nv kv : List Value} {nn kn kN : Nat} {NL : List Nm} {th : Tok} {hand : Bool} {xv : Value} {xn : Nm}
   (B : Below callerA h₀ [] h₀) (X : (hd.heap_39 w.params).In h₀) (T : Top p loose mean mg mb h₀)
   (F : Fr h₀ L s.heap (kstB u [(Str.ofString "mark", xv), (Str.ofString "hand", .int (handI hand) th), (Str.ofString "plain", .ref aN), (Str.ofString "marks", .ref aK)]))
   (N : News h₀ L s.heap ((aN, W.listOf nv.toArray nn) :: (aK, W.listOf kv.toArray kn) :: (L + 1 + 1, c2) :: more))
   (d2 : c2.data = .cell (some (.ref (findA hand)))) (hx : NmIs xv xn)
   (sn : NmsAre nv NL) (sk : NmsAre kv NL) (hz : NL.length < 1000) (sN : SplitAt (tN hand NL xn) NL.length kN)
   (hQ : ∀ ta h' tk', Fr h₀ L h' (kstB u [(Str.ofString "at", .int kN ta), (Str.ofString "mark", xv), (Str.ofString "hand", .int (handI hand) th), (Str.ofString "plain", .ref aN), (Str.ofString "marks", .ref aK)]) → News h₀ L h' ((aN, W.listOf nv.toArray nn) :: (aK, W.listOf kv.toArray kn) :: (L + 1 + 1, c2) :: more) → Q .next { s with heap := h', toks := tk' }) :
   wpAny (model PySem.Challenge.rw_nb0156_01.row.prog w) (lawA L fa) (execs (markB.take 2) (lawE L fa)) Q E s := by
  dsimp only [letB, markB, hndB, lawA, lawE, lawB, lawS, topS, fnB, fnS, forB, ifE, ifT, PySem.Challenge.pw_nb0156_01, List.getD, List.getElem?_cons_succ, List.getElem?_cons_zero, Option.getD_some, List.drop, List.take]
  dsimp only [kstB] at F hQ
  cases hand
  · k_with_none
    replace d2 : c2.data = .cell (some (.ref 57)) := d2
    (k_with "call" => (first
      | ((with_unfolding_all refine' call_by (count_n false rfl hx _ sn ?U hz sN) ?k1 ?k2 ?k3 ?k4 ?k5 ?k6 ?k7 ?k8 ?_); (case k1 => exact B); (case k2 => k_asm); (case k3 => k_asm); (case k4 => k_asm); (case k5 => k_asm); (case U => k_dflt (exact List.Mem.head _)); (case k6 => rfl); (case k7 => ktr_room); (case k8 => ktr_units); intro v8 h8 tk8 hv8 F8 N8; obtain ⟨t8, e8⟩ := hv8; subst e8)
      | ((with_unfolding_all refine' call_by (find_n false rfl hx sk ?U hz sN) ?k1 ?k2 ?k3 ?k4 ?k5 ?k6 ?k7 ?k8 ?_); (case k1 => exact B); (case k2 => k_asm); (case k3 => k_asm); (case k4 => k_asm); (case k5 => k_asm); (case U => k_dflt (exact List.Mem.tail _ (List.Mem.head _))); (case k6 => rfl); (case k7 => ktr_room); (case k8 => ktr_units); intro v8 h8 tk8 hv8 F8 N8; obtain ⟨t8, e8⟩ := hv8; subst e8)))
    (k_with "nei" => (refine ne_ints ?_))
    k_steps
    exact hQ _ _ _ F8 N8
  · k_with_none
    replace d2 : c2.data = .cell (some (.ref 39)) := d2
    (k_with "call" => (first
      | ((with_unfolding_all refine' call_by (count_n true rfl hx _ sn ?U hz sN) ?k1 ?k2 ?k3 ?k4 ?k5 ?k6 ?k7 ?k8 ?_); (case k1 => exact B); (case k2 => k_asm); (case k3 => k_asm); (case k4 => k_asm); (case k5 => k_asm); (case U => k_dflt (exact List.Mem.head _)); (case k6 => rfl); (case k7 => ktr_room); (case k8 => ktr_units); intro v8 h8 tk8 hv8 F8 N8; obtain ⟨t8, e8⟩ := hv8; subst e8)
      | ((with_unfolding_all refine' call_by (find_n true rfl hx sk ?U hz sN) ?k1 ?k2 ?k3 ?k4 ?k5 ?k6 ?k7 ?k8 ?_); (case k1 => exact B); (case k2 => k_asm); (case k3 => k_asm); (case k4 => k_asm); (case k5 => k_asm); (case U => k_dflt (exact List.Mem.tail _ (List.Mem.head _))); (case k6 => rfl); (case k7 => ktr_room); (case k8 => ktr_units); intro v8 h8 tk8 hv8 F8 N8; obtain ⟨t8, e8⟩ := hv8; subst e8)))
    (k_with "nei" => (refine ne_ints ?_))
    k_steps
    exact hQ _ _ _ F8 N8
theorem mark_c {w : World} {p : Program} {loose : List Str} {mean : ExcName → Option Value} {mg mb : Str → Option Value} {h₀ : Heap} {L fa : Nat} {s : Shared} {Q : Flow → Shared → Prop} {E : Value → Shared → Prop}
   {u : Str → Option Value} {more : List (Addr × Obj)} {aK : Nat} {c2 c3 : Obj} {kv : List Value} {kn kN : Nat} {NL : List Nm} {ta tl th : Tok} {hand : Bool} {xv : Value} {xn : Nm} {lo hi : Int}
   (B : Below callerA h₀ [] h₀) (X : (hd.heap_39 w.params).In h₀) (T : Top p loose mean mg mb h₀)
   (F : Fr h₀ L s.heap (kstB u [(Str.ofString "at", .int kN ta), (Str.ofString "mark", xv), (Str.ofString "lo", .int lo tl), (Str.ofString "marks", .ref aK)]))
   (N : News h₀ L s.heap ((aK, W.listOf kv.toArray kn) :: (L + 1 + 1, c2) :: (L + 1 + 1 + 1, c3) :: more))
   (d2 : c2.data = .cell (some (.ref (findA hand)))) (d3 : c3.data = .cell (some (.int hi th))) (hx : NmIs xv xn)
   (sk : NmsAre kv NL) (hz : NL.length < 1000) (b0 : 0 ≤ lo) (b1 : lo ≤ hi) (b2 : hi ≤ NL.length) (sN : SplitAt (tN hand NL xn) NL.length kN)
   (hQ : ∀ ta h' tk', Fr h₀ L h' (kstB u [(Str.ofString "at", .int (clamp kN lo hi) ta), (Str.ofString "mark", xv), (Str.ofString "lo", .int lo tl), (Str.ofString "marks", .ref aK)]) → News h₀ L h' ((aK, W.listOf kv.toArray kn) :: (L + 1 + 1, c2) :: (L + 1 + 1 + 1, c3) :: more) → Q .next { s with heap := h', toks := tk' }) :
   wpAny (model PySem.Challenge.rw_nb0156_01.row.prog w) (lawA L fa) (execs ((markB.drop 2).take 2) (lawE L fa)) Q E s := by
  dsimp only [letB, markB, hndB, lawA, lawE, lawB, lawS, topS, fnB, fnS, forB, ifE, ifT, PySem.Challenge.pw_nb0156_01, List.getD, List.getElem?_cons_succ, List.getElem?_cons_zero, Option.getD_some, List.drop, List.take]
  dsimp only [kstB] at F hQ
  cases hand
  · k_with_none
    replace d2 : c2.data = .cell (some (.ref 57)) := d2
    (k_with "call" => (((with_unfolding_all refine' call_by (find_nb false rfl hx _ _ sk ?U hz b0 b1 b2 sN) ?k1 ?k2 ?k3 ?k4 ?k5 ?k6 ?k7 ?k8 ?_); (case k1 => exact B); (case k2 => k_asm); (case k3 => k_asm); (case k4 => k_asm); (case k5 => k_asm); (case U => k_dflt (exact List.Mem.head _)); (case k6 => rfl); (case k7 => ktr_room); (case k8 => ktr_units); intro v8 h8 tk8 hv8 F8 N8; obtain ⟨t8, e8⟩ := hv8; subst e8)))
    (k_with "nei" => (first | refine ne_ints ?_ | (refine ne_intsE (by first | rfl | (k_dflt (exact (clamp_if _ _ _).symm))) ?_)))
    k_steps
    simp only [clamp_if] at F8
    exact hQ _ _ _ (fr_twice F8) N8
  · k_with_none
    replace d2 : c2.data = .cell (some (.ref 39)) := d2
    (k_with "call" => (((with_unfolding_all refine' call_by (find_nb true rfl hx _ _ sk ?U hz b0 b1 b2 sN) ?k1 ?k2 ?k3 ?k4 ?k5 ?k6 ?k7 ?k8 ?_); (case k1 => exact B); (case k2 => k_asm); (case k3 => k_asm); (case k4 => k_asm); (case k5 => k_asm); (case U => k_dflt (exact List.Mem.head _)); (case k6 => rfl); (case k7 => ktr_room); (case k8 => ktr_units); intro v8 h8 tk8 hv8 F8 N8; obtain ⟨t8, e8⟩ := hv8; subst e8)))
    (k_with "nei" => (first | refine ne_ints ?_ | (refine ne_intsE (by first | rfl | (k_dflt (exact (clamp_if _ _ _).symm))) ?_)))
    k_steps
    simp only [clamp_if] at F8
    exact hQ _ _ _ (fr_twice F8) N8
theorem mark_d {w : World} {p : Program} {loose : List Str} {mean : ExcName → Option Value} {mg mb : Str → Option Value} {h₀ : Heap} {L fa : Nat} {s : Shared} {Q : Flow → Shared → Prop} {E : Value → Shared → Prop}
   {u : Str → Option Value} {more : List (Addr × Obj)} {aK : Nat} {c3 c4 c5 : Obj} {v4 : Option Value} {kv : List Value} {kn kN : Nat} {NL : List Nm} {tl th : Tok} {hand : Bool} {xv : Value} {xn : Nm} {lo hi : Int}
   (B : Below callerA h₀ [] h₀) (X : (hd.heap_39 w.params).In h₀) (T : Top p loose mean mg mb h₀) (h85 : 85 < L)
   (F : Fr h₀ L s.heap (kstB u [(Str.ofString "mark", xv), (Str.ofString "lo", .int lo tl), (Str.ofString "marks", .ref aK)]))
   (N : News h₀ L s.heap ((aK, W.listOf kv.toArray kn) :: (L + 1 + 1 + 1, c3) :: (L + 1 + 1 + 1 + 1, c4) :: (L + 1 + 1 + 1 + 1 + 1, c5) :: more))
   (d3 : c3.data = .cell (some (.int hi th))) (d4 : c4.data = .cell v4) (d5 : c5.data = .cell (some (.ref (putA hand)))) (hx : NmIs xv xn)
   (o1 : L + 6 < aK) (hm4 : ∀ q ∈ more, q.1 ≠ L + 1 + 1 + 1 + 1)
   (sk : NmsAre kv NL) (hz : NL.length < 900) (b0 : 0 ≤ lo) (b1 : lo ≤ hi) (b2 : hi ≤ NL.length) (sN : SplitAt (tN hand NL xn) NL.length kN)
   (hQ : ∀ (aG gn : Nat) c4' h' tk', c4'.data = .cell (some (.ref aG)) → Fr h₀ L h' (kstB u [(Str.ofString "mark", xv), (Str.ofString "lo", .int lo tl), (Str.ofString "marks", .ref aK)]) → News h₀ L h' ((aG, W.listOf (ins kv (clamp kN lo hi) xv).toArray gn) :: (aK, W.listOf kv.toArray kn) :: (L + 1 + 1 + 1, c3) :: (L + 1 + 1 + 1 + 1, c4') :: (L + 1 + 1 + 1 + 1 + 1, c5) :: more) → Q .next { s with heap := h', toks := tk' }) :
   wpAny (model PySem.Challenge.rw_nb0156_01.row.prog w) (lawA L fa) (execs ((markB.drop 4).take 2) (lawE L fa)) Q E s := by
  dsimp only [letB, markB, hndB, lawA, lawE, lawB, lawS, topS, fnB, fnS, forB, ifE, ifT, PySem.Challenge.pw_nb0156_01, List.getD, List.getElem?_cons_succ, List.getElem?_cons_zero, Option.getD_some, List.drop, List.take]
  dsimp only [kstB] at F hQ
  have hl8 := sk.length
  have hz3 : NL.length < 1000 := by omega
  cases hand
  · k_with_none
    replace d5 : c5.data = .cell (some (.ref 48)) := d5
    (k_with "copy" => ((with_unfolding_all refine' list_copyK ?k1 ?k2 ?k3 ?_ ?z; (case k1 => k_asm); (case k2 => k_asm); (case k3 => is_list); (case z => (rw [List.size_toArray, sizeLine_eq]; omega)); k_whole); intro D' c' h' F' N' l1; (have lM : ∀ q ∈ more, q.1 ≠ D' := fun q hq => Nat.ne_of_lt (l1 q (List.Mem.tail _ (List.Mem.tail _ (List.Mem.tail _ (List.Mem.tail _ (hq))))))); (try k_lt l1); (try k_sweep)))
    (k_with "call" => (((with_unfolding_all refine' call_by (put_nb false rfl hx _ _ sk ?U hz3 b0 b1 b2 sN) ?k1 ?k2 ?k3 ?k4 ?k5 ?k6 ?k7 ?k8 ?_); (case k1 => exact B); (case k2 => k_asm); (case k3 => k_asm); (case k4 => k_asm); (case k5 => k_asm); (case U => k_updF); (case k6 => rfl); (case k7 => ktr_room); (case k8 => ktr_units); intro v8 h8 tk8 hv8 F8 N8; subst hv8)))
    k_steps
    rename _ = Data.cell (some (Value.ref D')) => dG
    exact hQ D' _ _ _ _ dG F8 N8
  · k_with_none
    replace d5 : c5.data = .cell (some (.ref 30)) := d5
    (k_with "copy" => ((with_unfolding_all refine' list_copyK ?k1 ?k2 ?k3 ?_ ?z; (case k1 => k_asm); (case k2 => k_asm); (case k3 => is_list); (case z => (rw [List.size_toArray, sizeLine_eq]; omega)); k_whole); intro D' c' h' F' N' l1; (have lM : ∀ q ∈ more, q.1 ≠ D' := fun q hq => Nat.ne_of_lt (l1 q (List.Mem.tail _ (List.Mem.tail _ (List.Mem.tail _ (List.Mem.tail _ (hq))))))); (try k_lt l1); (try k_sweep)))
    (k_with "call" => (((with_unfolding_all refine' call_by (put_nb true rfl hx _ _ sk ?U hz3 b0 b1 b2 sN) ?k1 ?k2 ?k3 ?k4 ?k5 ?k6 ?k7 ?k8 ?_); (case k1 => exact B); (case k2 => k_asm); (case k3 => k_asm); (case k4 => k_asm); (case k5 => k_asm); (case U => k_updF); (case k6 => rfl); (case k7 => ktr_room); (case k8 => ktr_units); intro v8 h8 tk8 hv8 F8 N8; subst hv8)))
    k_steps
    rename _ = Data.cell (some (Value.ref D')) => dG
    exact hQ D' _ _ _ _ dG F8 N8
theorem mark_e {w : World} {p : Program} {loose : List Str} {mean : ExcName → Option Value} {mg mb : Str → Option Value} {h₀ : Heap} {L fa : Nat} {s : Shared} {Q : Flow → Shared → Prop} {E : Value → Shared → Prop}
   {u : Str → Option Value} {more : List (Addr × Obj)} {aG aN gn : Nat} {c4 : Obj} {kv nv : List Value} {nn : Nat} {NL : List Nm} {ta : Tok} {xv : Value} {xn : Nm} {k : Int}
   (B : Below callerA h₀ [] h₀) (X : (hd.heap_39 w.params).In h₀) (T : Top p loose mean mg mb h₀)
   (F : Fr h₀ L s.heap (kstB u [(Str.ofString "mark", xv), (Str.ofString "at", .int k ta), (Str.ofString "plain", .ref aN)]))
   (N : News h₀ L s.heap ((aG, W.listOf (ins kv k xv).toArray gn) :: (aN, W.listOf nv.toArray nn) :: (L + 1 + 1 + 1 + 1, c4) :: more))
   (d4 : c4.data = .cell (some (.ref aG))) (hx : NmIs xv xn) (hxs : xn.small)
   (sk : NmsAre kv NL) (sn : NmsAre nv NL) (okN : ∀ n ∈ NL, n.small) (hz : NL.length < 900) (k0 : 0 ≤ k)
   (hQ : ∀ h' tk', Fr h₀ L h' (kstB u [(Str.ofString "mark", xv), (Str.ofString "at", .int k ta), (Str.ofString "plain", .ref aN)]) → News h₀ L h' ((aG, W.listOf (ins kv k xv).toArray gn) :: (aN, W.listOf nv.toArray nn) :: (L + 1 + 1 + 1 + 1, c4) :: more) → Q .next { s with heap := h', toks := tk' }) :
   wpAny (model PySem.Challenge.rw_nb0156_01.row.prog w) (lawA L fa) (execs (markB.drop 6) (lawE L fa)) Q E s := by
  dsimp only [letB, markB, hndB, lawA, lawE, lawB, lawS, topS, fnB, fnS, forB, ifE, ifT, PySem.Challenge.pw_nb0156_01, List.getD, List.getElem?_cons_succ, List.getElem?_cons_zero, Option.getD_some, List.drop, List.take]
  dsimp only [kstB] at F hQ
  have hl7 := sn.length
  have hz1 : (nv.take k.toNat).length < 950 := Nat.lt_of_le_of_lt (List.length_take_le' _ _) (by omega)
  have hz2 : (nv.drop k.toNat).length < 950 := by rw [List.length_drop]; omega
  have okI := small_ins (k := k) okN hxs
  have hzI : (ins NL k xn).length < 1000 := by rw [ins_length]; omega
  have s1 := nms_ins sk k hx
  have s2 := nms_cat sn k hx
  k_with_none
  (k_with "slice" => (first
      | (k_dflt (refine' kmk_slice_lit (its := nv.toArray) ?F ?N (News.isList ?N2 ?m) .none (.int _ _) (pick_to k0) ?_ ?s ?t (arr_fits (by omega)); (case F => k_asm); (case N => k_asm); (case N2 => k_asm); (case m => k_mem); (case s => with_unfolding_all rfl); (case t => kmk_pure)); intro D' h' F' N' l1; (try k_lt l1); (try k_sweep))
      | (k_dflt (refine' kmk_slice_lit (its := nv.toArray) ?F ?N (News.isList ?N2 ?m) (.int _ _) .none (pick_from k0) ?_ ?s ?t (arr_fits (by omega)); (case F => k_asm); (case N => k_asm); (case N2 => k_asm); (case m => k_mem); (case s => with_unfolding_all rfl); (case t => kmk_pure)); intro D' h' F' N' l1; (try k_lt l1); (try k_sweep))))
  (k_with "cat" => (k_dflt (refine' add_two ?F ?N ?a ?b ?za ?zb ?_; (case F => k_asm); (case N => k_asm); (case a => k_mem); (case b => k_mem); (case za => ((try simp only [List.length_append, List.length_cons, List.length_nil]); omega)); (case zb => ((try simp only [List.length_append, List.length_cons, List.length_nil]); omega))); intro D' h' F' N' l1; (try k_lt l1); (try k_sweep)))
  (k_with "nes" => (refine ne_same ?_))
  (k_with "repr" => (first
    | (k_dflt (refine' repr_nms ?F ?N ?a s1 okI hzI ?g ?u ?_; (case F => k_asm); (case N => k_asm); (case a => k_mem); (case g => rfl); (case u => ktr_units)); intro h9 u9 tk9 F9 N9)
    | (k_dflt (refine' repr_nms ?F ?N ?a s2 okI hzI ?g ?u ?_; (case F => k_asm); (case N => k_asm); (case a => k_mem); (case g => rfl); (case u => ktr_units)); intro h9 u9 tk9 F9 N9)))
  k_steps
  exact hQ _ _ F9 (fun p hp => N9 p (List.Mem.tail _ (List.Mem.tail _ (List.Mem.tail _ (List.Mem.tail _ (List.Mem.tail _ hp))))))
end
end Mine
end

section
open PySem PySem.W PyProof.Rows
set_option Elab.async false
set_option maxRecDepth 100000
set_option maxHeartbeats 2000000
set_option linter.unusedVariables false
namespace Mine
theorem fillK38 (w : World) (h : Heap) (_ : (hd.heap_39 w.params).In h) : PySem.Challenge.rw_nb0156_01.row.prog = PySem.Challenge.rw_nb0156_01.row.prog ∧ (hd.heap_39 w.params) = hd.heap_39 w.params := by
  k_fill
  exact ⟨rfl, rfl⟩
abbrev nmQ (aN aT aK aP aM aU aF aL : Nat) (lo : Int) (tl : Tok) (kT : Nat) (ta : Tok) (letter : Str) (tt : Tok) (hand : Bool) (th : Tok) : List (Str × Value) :=
  (Str.ofString "at", .int kT ta) :: (Str.ofString "letter", .str letter tt) :: (Str.ofString "hand", .int (handI hand) th) :: nmP aN aT aK aP aM aU aF aL lo tl
section
theorem eval_pairs2 {w : World} {p : Program} {loose : List Str} {mean : ExcName → Option Value} {mg mb : Str → Option Value} {h₀ : Heap} {L fa : Nat} {s : Shared} {Q : Value → Shared → Prop} {E : Value → Shared → Prop}
   {u : Str → Option Value} {aM aP : Nat} {news : List (Addr × Obj)} {e : Expr}
   (he : e = forI (letB.getD 2 default))
   (X : (hd.heap_39 w.params).In h₀) (T : Top p loose mean mg mb h₀)
   (F : Fr h₀ L s.heap (kstB u [(Str.ofString "plus", .ref aP), (Str.ofString "minus", .ref aM)])) (N : News h₀ L s.heap news)
   (hQ : ∀ D T1 T2 t1 t2 h' tk', Fr h₀ L h' (kstB u [(Str.ofString "plus", .ref aP), (Str.ofString "minus", .ref aM)]) →
     News h₀ L h' ((D, W.listOf [.ref T1, .ref T2].toArray 0) :: (T1, tupO #[.int 1 t1, .ref aM]) :: (T2, tupO #[.int 2 t2, .ref aP]) :: news) → Q (.ref D) { s with heap := h', toks := tk' }) :
   wpAny (model PySem.Challenge.rw_nb0156_01.row.prog w) (lawA L fa) (eval e (lawE L fa)) Q E s := by
  subst he
  dsimp only [forI, letB, hndB, lawA, lawE, lawB, lawS, topS, fnB, fnS, forB, ifE, ifT, PySem.Challenge.pw_nb0156_01, List.getD, List.getElem?_cons_succ, List.getElem?_cons_zero, Option.getD_some, List.drop, List.take]
  dsimp only [kstB, List.cons_append, List.nil_append] at F hQ
  k_with_none
  k_steps
  rename Fr _ _ _ _ => fF
  rename News _ _ _ _ => nF
  exact hQ _ _ _ _ _ _ _ fF (news_sub nF ⟨.head _, .tail _ (.tail _ (.head _)), .tail _ (.head _), subL_of fun q hq => .tail _ (.tail _ (.tail _ hq))⟩)
theorem pair_loop {w : World} {p : Program} {loose : List Str} {mean : ExcName → Option Value} {mg mb : Str → Option Value} {h₀ : Heap} {L fa : Nat} {s : Shared} {Q : Flow → Shared → Prop} {E : Value → Shared → Prop}
   {u : Str → Option Value} {aN aT aK aP aM aU aF aL aD : Nat} {lo : Int} {tl : Tok} {more : List (Addr × Obj)} {c1 c2 c6 : Obj} {kT : Nat} {ta tt th : Tok} {hand : Bool} {letter : Str} {v6 : Option Value} {dv mv pv : List Value} {dn mn pn : Nat} {TL : List Str}
   (B : Below callerA h₀ [] h₀) (X : (hd.heap_39 w.params).In h₀) (T : Top p loose mean mg mb h₀) (h85 : 85 < L)
   (F : Fr h₀ L s.heap (kstB u (nmQ aN aT aK aP aM aU aF aL lo tl kT ta letter tt hand th)))
   (N : News h₀ L s.heap ((L + 1 + 1 + 1 + 1 + 1 + 1, c6) :: (aM, W.listOf mv.toArray mn) :: (aP, W.listOf pv.toArray pn) :: (aD, W.listOf dv.toArray dn) :: (L + 1, c1) :: (L + 1 + 1, c2) :: more))
   (d1 : c1.data = .cell (some (.ref aD))) (d2 : c2.data = .cell (some (.ref (findA hand)))) (d6 : c6.data = .cell v6) (hb : AllBare s.gens)
   (hm6 : ∀ q ∈ (aM, W.listOf mv.toArray mn) :: (aP, W.listOf pv.toArray pn) :: (aD, W.listOf dv.toArray dn) :: (L + 1, c1) :: (L + 1 + 1, c2) :: more, q.1 ≠ L + 1 + 1 + 1 + 1 + 1 + 1)
   (hd : StrsAre dv TL) (hm : StrsAre mv (restored (Str.ofString "- ") TL)) (hp : StrsAre pv (restored (Str.ofString "+ ") TL)) (hdl : ∀ l ∈ TL, l.length ≤ 100) (okT : ∀ l ∈ TL, okS l) (hz : TL.length < 900) (sT : SplitAt (tS hand TL letter) TL.length kT)
   (hE : PassesOwn (model PySem.Challenge.rw_nb0156_01.row.prog w) (lawA L fa) (lawE L fa) E)
   (hQ : ∀ c6' v6' h' tk' g' u', c6'.data = .cell v6' → AllBare g' → Fr h₀ L h' (kstB u' (nmQ aN aT aK aP aM aU aF aL lo tl kT ta letter tt hand th)) →
     News h₀ L h' ((L + 1 + 1 + 1 + 1 + 1 + 1, c6') :: (aM, W.listOf mv.toArray mn) :: (aP, W.listOf pv.toArray pn) :: (aD, W.listOf dv.toArray dn) :: (L + 1, c1) :: (L + 1 + 1, c2) :: more) → Q .next { s with heap := h', toks := tk', gens := g' }) :
   wpAny (model PySem.Challenge.rw_nb0156_01.row.prog w) (lawA L fa) (execs ((letB.drop 2).take 1) (lawE L fa)) Q E s := by
  obtain ⟨p1, p2, ix, pt, it, fp, e, ei⟩ : ∃ p1 p2 ix pt it fp, (letB.drop 2).take 1 = [.For (.Tuple [.Name (Str.ofString "which") p1, .Name (Str.ofString "row") p2] ix pt) it (forB (letB.getD 2 default)) [] fp] ∧ it = forI (letB.getD 2 default) := ⟨_, _, _, _, _, _, rfl, rfl⟩
  rw [e]
  refine wpAny_execs_cons ?_
  refine for_led2 (h₀ := h₀) (L := L) (σ := ESt) (fun _ x => eled L aM aP ((aM, W.listOf mv.toArray mn) :: (aP, W.listOf pv.toArray pn) :: (aD, W.listOf dv.toArray dn) :: (L + 1, c1) :: (L + 1 + 1, c2) :: more) x)
    (fun items i x m => items = [.ref x.T1, .ref x.T2] ∧ (∃ v, x.c6.data = .cell v) ∧ ∃ u', m = kstB u' (nmQ aN aT aK aP aM aU aF aL lo tl kT ta letter tt hand th)) rfl (fun x => by rw [ei]; rfl) ?_ ?_ ?_ hE
  · refine eval_pairs2 (u := kstB u (nmQ aN aT aK aP aM aU aF aL lo tl kT ta letter tt hand th)) ei X T (frame_as _ F (by dsimp only [nmQ, nmP]; kst_all)) N ?_
    intro D T1 T2 t1 t2 h' tk' F' N'
    exact ⟨[.ref T1, .ref T2], D, 0, ⟨T1, T2, t1, t2, c6⟩, _, h', tk', s.gens, rfl, rfl, hb, frame_as (nmQ aN aT aK aP aM aU aF aL lo tl kT ta letter tt hand th) F' (by dsimp only [nmQ, nmP]; kst_all), N', rfl, ⟨_, d6⟩, _, rfl⟩
  · intro items D It i v x m h' tk' g' oI c hi hv hI hb' F' N' hO hne hq P hP
    obtain ⟨rfl, ⟨v6', d6'⟩, u', rfl⟩ := hI
    have nI : It ≠ L + 1 + 1 + 1 + 1 + 1 + 1 := Ne.symm (hq _ (.tail _ (.tail _ (.head _))))
    have nD : D ≠ L + 1 + 1 + 1 + 1 + 1 + 1 := news_ne N' (.tail _ (.head _)) (.tail _ (.tail _ (.tail _ (.tail _ (.head _))))) (by rw [d6']; nofun)
    have n1 : x.T1 ≠ L + 1 + 1 + 1 + 1 + 1 + 1 := news_ne N' (.tail _ (.tail _ (.head _))) (.tail _ (.tail _ (.tail _ (.tail _ (.head _))))) (by rw [d6']; nofun)
    have n2 : x.T2 ≠ L + 1 + 1 + 1 + 1 + 1 + 1 := news_ne N' (.tail _ (.tail _ (.tail _ (.head _)))) (.tail _ (.tail _ (.tail _ (.tail _ (.head _))))) (by rw [d6']; nofun)
    match i, hi with
    | 0, _ =>
      obtain rfl : v = .ref x.T1 := by simpa using hv.symm
      refine unpackN_ (s := { s with heap := h', toks := tk', gens := g' }) F' N' (News.isTup N' (.tail _ (.tail _ (.head _)))) rfl rfl rfl fun h₁ F₁ N₁ => ?_
      refine assignInOrder_cons (wpAny_assign_Name (storeX_C (c := L + 1 + 1 + 1 + 1 + 1 + 1) F₁ N₁ rfl (.tail nI (.tail nD (.tail n1 (.tail n2 (.head hm6))))) d6' (fun h₂ o₂ F₂ N₂ d₂ => ?_) rfl rfl))
      refine assignInOrder_cons (wpAny_assign_Name (storeX_L F₂ N₂ (fun h₃ F₃ N₃ => ?_) rfl rfl))
      refine assignInOrder_nil ?_
      have N₄ : News h₀ L h₃ ((aM, W.listOf mv.toArray mn) :: (aD, W.listOf dv.toArray dn) :: (L + 1, c1) :: (L + 1 + 1, c2) :: (L + 1 + 1 + 1 + 1 + 1 + 1, o₂) :: (It, oI) :: (D, W.listOf [.ref x.T1, .ref x.T2].toArray c) :: (x.T1, tupO #[.int 1 x.t1, .ref aM]) :: (x.T2, tupO #[.int 2 x.t2, .ref aP]) :: (aP, W.listOf pv.toArray pn) :: more) := news_pick [5, 7, 8, 9, 4, 0, 1, 2, 3, 6] 10 N₃ rfl
      refine pair_1 (u := fun y => if y = Str.ofString "row" then some (.ref aM) else kstB u' (nmQ aN aT aK aP aM aU aF aL lo tl kT ta letter tt hand th) y) (s := { s with heap := h₃, toks := tk' + 1, gens := g' }) B X T (frame_as _ F₃ (by dsimp only [nmQ, nmP]; kst_all)) N₄ d1 d2 d₂ hb' hd hm hdl okT hz sT ?_
      intro h₄ tk₄ g₄ hb₄ F₄ N₅
      exact hP _ ⟨⟨x.T1, x.T2, x.t1, x.t2, o₂⟩, _, h₄, tk₄, g₄, oI, c, rfl, hb₄, frame_as (nmQ aN aT aK aP aM aU aF aL lo tl kT ta letter tt hand th) F₄ (by dsimp only [nmQ, nmP]; kst_all), news_pick [5, 6, 7, 8, 4, 0, 9, 1, 2, 3] 10 N₅ rfl, ⟨rfl, ⟨_, d₂⟩, _, rfl⟩, hO, hne, off_cons (hq _ (.head _)) (off_cons (hq _ (.tail _ (.head _))) (off_cons (Ne.symm nI) fun q h => hq q (.tail _ (.tail _ (.tail _ h)))))⟩
    | 1, _ =>
      obtain rfl : v = .ref x.T2 := by simpa using hv.symm
      refine unpackN_ (s := { s with heap := h', toks := tk', gens := g' }) F' N' (News.isTup N' (.tail _ (.tail _ (.tail _ (.head _))))) rfl rfl rfl fun h₁ F₁ N₁ => ?_
      refine assignInOrder_cons (wpAny_assign_Name (storeX_C (c := L + 1 + 1 + 1 + 1 + 1 + 1) F₁ N₁ rfl (.tail nI (.tail nD (.tail n1 (.tail n2 (.head hm6))))) d6' (fun h₂ o₂ F₂ N₂ d₂ => ?_) rfl rfl))
      refine assignInOrder_cons (wpAny_assign_Name (storeX_L F₂ N₂ (fun h₃ F₃ N₃ => ?_) rfl rfl))
      refine assignInOrder_nil ?_
      have N₄ : News h₀ L h₃ ((aP, W.listOf pv.toArray pn) :: (aD, W.listOf dv.toArray dn) :: (L + 1, c1) :: (L + 1 + 1, c2) :: (L + 1 + 1 + 1 + 1 + 1 + 1, o₂) :: (It, oI) :: (D, W.listOf [.ref x.T1, .ref x.T2].toArray c) :: (x.T1, tupO #[.int 1 x.t1, .ref aM]) :: (x.T2, tupO #[.int 2 x.t2, .ref aP]) :: (aM, W.listOf mv.toArray mn) :: more) := news_pick [6, 7, 8, 9, 4, 0, 1, 2, 3, 5] 10 N₃ rfl
      refine pair_2 (u := fun y => if y = Str.ofString "row" then some (.ref aP) else kstB u' (nmQ aN aT aK aP aM aU aF aL lo tl kT ta letter tt hand th) y) (s := { s with heap := h₃, toks := tk' + 1, gens := g' }) B X T (frame_as _ F₃ (by dsimp only [nmQ, nmP]; kst_all)) N₄ d1 d2 d₂ hb' hd hp hdl okT hz sT ?_
      intro h₄ tk₄ g₄ hb₄ F₄ N₅
      exact hP _ ⟨⟨x.T1, x.T2, x.t1, x.t2, o₂⟩, _, h₄, tk₄, g₄, oI, c, rfl, hb₄, frame_as (nmQ aN aT aK aP aM aU aF aL lo tl kT ta letter tt hand th) F₄ (by dsimp only [nmQ, nmP]; kst_all), news_pick [5, 6, 7, 8, 4, 9, 0, 1, 2, 3] 10 N₅ rfl, ⟨rfl, ⟨_, d₂⟩, _, rfl⟩, hO, hne, off_cons (hq _ (.head _)) (off_cons (hq _ (.tail _ (.head _))) (off_cons (Ne.symm nI) fun q h => hq q (.tail _ (.tail _ (.tail _ h)))))⟩
    | i + 2, hi => exact absurd hi (by simp)
  · intro items x m h' tk' g' hI hb' F' N'
    obtain ⟨rfl, ⟨v6', d6'⟩, u', rfl⟩ := hI
    exact wpAny_execs_nil (hQ x.c6 v6' h' tk' g' u' d6' hb' F' (fun q hq => N' q (.tail _ (.tail _ hq))))
end
end Mine
end

section
open PySem PySem.W PyProof.Rows
set_option Elab.async false
set_option maxRecDepth 100000
set_option maxHeartbeats 2000000
set_option linter.unusedVariables false
namespace Mine
theorem fillK39 (w : World) (h : Heap) (_ : (hd.heap_39 w.params).In h) : PySem.Challenge.rw_nb0156_01.row.prog = PySem.Challenge.rw_nb0156_01.row.prog ∧ (hd.heap_39 w.params) = hd.heap_39 w.params := by
  k_fill
  exact ⟨rfl, rfl⟩
def letters5 : List Str := [Str.ofString "", Str.ofString "a", Str.ofString "b", Str.ofString "c", Str.ofString "d"]
theorem letters5_fact {l : Str} (h : l ∈ letters5) : l.length ≤ 10 ∧ okS l ∧ firstOf l = l := by
  simp only [letters5, List.mem_cons, List.not_mem_nil, or_false] at h
  rcases h with rfl | rfl | rfl | rfl | rfl <;> exact ⟨by decide, okS_of (by decide +kernel), by decide +kernel⟩
theorem cut5 {l : List Stmt} : l = l.take 2 ++ ((l.drop 2).take 1 ++ ((l.drop 3).take 2 ++ ((l.drop 5).take 3 ++ l.drop 8))) := by
  have key : ∀ n k, (l.drop n).take k ++ l.drop (n + k) = l.drop n := fun n k => by rw [← List.drop_drop, List.take_append_drop]
  rw [key 5 3, key 3 2, key 2 1, List.take_append_drop]
theorem strs_mem {vs : List Value} {ls : List Str} (h : StrsAre vs ls) {i : Nat} {v : Value} (hv : vs[i]? = some v) : ∃ l t, v = .str l t ∧ l ∈ ls := by
  obtain ⟨y, t, e, hy⟩ := StrsAre.item h i v hv
  exact ⟨y, t, e, List.mem_of_getElem? hy⟩
section
theorem eval_letters {w : World} {p : Program} {loose : List Str} {mean : ExcName → Option Value} {mg mb : Str → Option Value} {h₀ : Heap} {L fa : Nat} {s : Shared} {Q : Value → Shared → Prop} {E : Value → Shared → Prop}
   {m : Str → Option Value} {news : List (Addr × Obj)} {e : Expr}
   (he : e = forI (hndB.getD 2 default))
   (X : (hd.heap_39 w.params).In h₀) (T : Top p loose mean mg mb h₀)
   (F : Fr h₀ L s.heap m) (N : News h₀ L s.heap news)
   (hQ : ∀ D ys h' tk', StrsAre ys letters5 → Fr h₀ L h' m → News h₀ L h' ((D, W.listOf ys.toArray 0) :: news) → Q (.ref D) { s with heap := h', toks := tk' }) :
   wpAny (model PySem.Challenge.rw_nb0156_01.row.prog w) (lawA L fa) (eval e (lawE L fa)) Q E s := by
  subst he
  dsimp only [forI, letB, hndB, lawA, lawE, lawB, lawS, topS, fnB, fnS, forB, ifE, ifT, PySem.Challenge.pw_nb0156_01, List.getD, List.getElem?_cons_succ, List.getElem?_cons_zero, Option.getD_some, List.drop, List.take]
  k_with_none
  k_steps
  rename Fr _ _ _ _ => fF
  rename News _ _ _ _ => nF
  refine hQ _ ?ys _ _ ?st fF ?hn
  case hn => exact nF
  case st => repeat' constructor
structure LSt where
  c4 : Obj
  c6 : Obj

abbrev nmH (aN aT aK aP aM aU aF aL : Nat) (lo : Int) (tl : Tok) (hand : Bool) (th : Tok) : List (Str × Value) := (Str.ofString "hand", .int (handI hand) th) :: nmP aN aT aK aP aM aU aF aL lo tl
theorem let_loop {w : World} {p : Program} {loose : List Str} {mean : ExcName → Option Value} {mg mb : Str → Option Value} {h₀ : Heap} {L fa : Nat} {s : Shared} {Q : Flow → Shared → Prop} {E : Value → Shared → Prop}
   {u : Str → Option Value} {aN aT aK aP aM aU aF aL aD : Nat} {lo hi : Int} {tl th thi : Tok} {hand : Bool} {more : List (Addr × Obj)} {c1 c2 c3 c4 c5 c6 : Obj} {v4 v6 : Option Value} {dv mv pv tv lv : List Value} {dn mn pn tn ln : Nat} {TL : List Str}
   (B : Below callerA h₀ [] h₀) (X : (hd.heap_39 w.params).In h₀) (T : Top p loose mean mg mb h₀) (h85 : 85 < L)
   (F : Fr h₀ L s.heap (kstB u (nmH aN aT aK aP aM aU aF aL lo tl hand th)))
   (N : News h₀ L s.heap ((L + 1 + 1 + 1 + 1 + 1 + 1, c6) :: (L + 1 + 1 + 1 + 1, c4) :: (aL, W.listOf lv.toArray ln) :: (aD, W.listOf dv.toArray dn) :: (aT, W.listOf tv.toArray tn) :: (aM, W.listOf mv.toArray mn) :: (aP, W.listOf pv.toArray pn) :: (L + 1, c1) :: (L + 1 + 1, c2) :: (L + 1 + 1 + 1, c3) :: (L + 1 + 1 + 1 + 1 + 1, c5) :: more))
   (d1 : c1.data = .cell (some (.ref aD))) (d2 : c2.data = .cell (some (.ref (findA hand)))) (d3 : c3.data = .cell (some (.int hi thi))) (d4 : c4.data = .cell v4) (d5 : c5.data = .cell (some (.ref (putA hand)))) (d6 : c6.data = .cell v6) (hb : AllBare s.gens)
   (oD : L + 6 < aD) (hm4 : ∀ q ∈ (aL, W.listOf lv.toArray ln) :: (aD, W.listOf dv.toArray dn) :: (aT, W.listOf tv.toArray tn) :: (aM, W.listOf mv.toArray mn) :: (aP, W.listOf pv.toArray pn) :: (L + 1, c1) :: (L + 1 + 1, c2) :: (L + 1 + 1 + 1, c3) :: (L + 1 + 1 + 1 + 1 + 1, c5) :: more, q.1 ≠ L + 1 + 1 + 1 + 1) (hm6 : ∀ q ∈ (aL, W.listOf lv.toArray ln) :: (aD, W.listOf dv.toArray dn) :: (aT, W.listOf tv.toArray tn) :: (aM, W.listOf mv.toArray mn) :: (aP, W.listOf pv.toArray pn) :: (L + 1, c1) :: (L + 1 + 1, c2) :: (L + 1 + 1 + 1, c3) :: (L + 1 + 1 + 1 + 1 + 1, c5) :: more, q.1 ≠ L + 1 + 1 + 1 + 1 + 1 + 1)
   (sd : StrsAre dv TL) (st : StrsAre tv TL) (sl : StrsAre lv (TL.map letterOf)) (sm : StrsAre mv (restored (Str.ofString "- ") TL)) (sp : StrsAre pv (restored (Str.ofString "+ ") TL)) (hdl : ∀ l ∈ TL, l.length ≤ 100) (okT : ∀ l ∈ TL, okS l) (hz : TL.length < 900) (so : SortedBy StrLt letterOf TL)
   (b0 : 0 ≤ lo) (b1 : lo ≤ hi) (b2 : hi ≤ TL.length)
   (hE : PassesOwn (model PySem.Challenge.rw_nb0156_01.row.prog w) (lawA L fa) (lawE L fa) E)
   (hQ : ∀ c4' v4' c6' v6' h' tk' g' u', c4'.data = .cell v4' → c6'.data = .cell v6' → AllBare g' → Fr h₀ L h' (kstB u' (nmH aN aT aK aP aM aU aF aL lo tl hand th)) →
     News h₀ L h' ((L + 1 + 1 + 1 + 1 + 1 + 1, c6') :: (L + 1 + 1 + 1 + 1, c4') :: (aL, W.listOf lv.toArray ln) :: (aD, W.listOf dv.toArray dn) :: (aT, W.listOf tv.toArray tn) :: (aM, W.listOf mv.toArray mn) :: (aP, W.listOf pv.toArray pn) :: (L + 1, c1) :: (L + 1 + 1, c2) :: (L + 1 + 1 + 1, c3) :: (L + 1 + 1 + 1 + 1 + 1, c5) :: more) → Q .next { s with heap := h', toks := tk', gens := g' }) :
   wpAny (model PySem.Challenge.rw_nb0156_01.row.prog w) (lawA L fa) (execs ((hndB.drop 2).take 1) (lawE L fa)) Q E s := by
  obtain ⟨p1, it, fp, e, ei⟩ : ∃ p1 it fp, (hndB.drop 2).take 1 = [.For (.Name (Str.ofString "letter") p1) it letB [] fp] ∧ it = forI (hndB.getD 2 default) := ⟨_, _, _, rfl, rfl⟩
  rw [e]
  refine wpAny_execs_cons ?_
  refine for_led2 (h₀ := h₀) (L := L) (σ := LSt) (fun _ x => (L + 1 + 1 + 1 + 1 + 1 + 1, x.c6) :: (L + 1 + 1 + 1 + 1, x.c4) :: (aL, W.listOf lv.toArray ln) :: (aD, W.listOf dv.toArray dn) :: (aT, W.listOf tv.toArray tn) :: (aM, W.listOf mv.toArray mn) :: (aP, W.listOf pv.toArray pn) :: (L + 1, c1) :: (L + 1 + 1, c2) :: (L + 1 + 1 + 1, c3) :: (L + 1 + 1 + 1 + 1 + 1, c5) :: more)
    (fun items i x m => StrsAre items letters5 ∧ (∃ v, x.c4.data = .cell v) ∧ (∃ v, x.c6.data = .cell v) ∧ ∃ u', m = kstB u' (nmH aN aT aK aP aM aU aF aL lo tl hand th)) rfl (fun x => by rw [ei]; rfl) ?_ ?_ ?_ hE
  · refine eval_letters ei X T F N ?_
    intro D ys h' tk' sy F' N'
    exact ⟨ys, D, 0, ⟨c4, c6⟩, _, h', tk', s.gens, rfl, rfl, hb, F', N', sy, ⟨_, d4⟩, ⟨_, d6⟩, _, rfl⟩
  · intro items D It i v x m h' tk' g' oI c hi' hv hI hb' F' N' hO hne hq P hP
    obtain ⟨sy, ⟨v4', d4'⟩, ⟨v6', d6'⟩, u', rfl⟩ := hI
    obtain ⟨letter, tt, rfl, hlm⟩ := strs_mem sy hv
    obtain ⟨l10, okL, hfl⟩ := letters5_fact hlm
    have sT := atS_split hand letter so
    have hz3 : TL.length < 1000 := by omega
    have i4 : It ≠ L + 1 + 1 + 1 + 1 := Ne.symm (hq _ (.tail _ (.head _)))
    have i6 : It ≠ L + 1 + 1 + 1 + 1 + 1 + 1 := Ne.symm (hq _ (.head _))
    have q4 : D ≠ L + 1 + 1 + 1 + 1 := news_ne N' (.tail _ (.head _)) (.tail _ (.tail _ (.tail _ (.head _)))) (by rw [d4']; nofun)
    have q6 : D ≠ L + 1 + 1 + 1 + 1 + 1 + 1 := news_ne N' (.tail _ (.head _)) (.tail _ (.tail _ (.head _))) (by rw [d6']; nofun)
    refine wpAny_assign_Name (storeX_L F' N' (fun h₁ F₁ N₁ => ?_) rfl rfl)
    rw [cut5 (l := letB)]
    have N2 : News h₀ L h₁ ((aL, W.listOf lv.toArray ln) :: (aD, W.listOf dv.toArray dn) :: (L + 1, c1) :: (L + 1 + 1, c2) :: (It, oI) :: (D, W.listOf items.toArray c) :: (L + 1 + 1 + 1 + 1 + 1 + 1, x.c6) :: (L + 1 + 1 + 1 + 1, x.c4) :: (aT, W.listOf tv.toArray tn) :: (aM, W.listOf mv.toArray mn) :: (aP, W.listOf pv.toArray pn) :: (L + 1 + 1 + 1, c3) :: (L + 1 + 1 + 1 + 1 + 1, c5) :: more) := news_pick [4, 5, 9, 10, 0, 1, 2, 3, 6, 7, 8, 11, 12] 13 N₁ rfl
    refine execs_app (let_a (s := { s with heap := h₁, toks := tk' + 1, gens := g' }) B X T (frame_as _ F₁ (by dsimp only [nmH, nmP]; kst_all)) N2 d1 d2 sd sl hdl hz3 sT ?_)
    intro ta h2 tk2 F2 N3
    dsimp only
    have N4 : News h₀ L h2 ((L + 1 + 1 + 1 + 1 + 1 + 1, x.c6) :: (aM, W.listOf mv.toArray mn) :: (aP, W.listOf pv.toArray pn) :: (aD, W.listOf dv.toArray dn) :: (L + 1, c1) :: (L + 1 + 1, c2) :: (It, oI) :: (D, W.listOf items.toArray c) :: (L + 1 + 1 + 1 + 1, x.c4) :: (aL, W.listOf lv.toArray ln) :: (aT, W.listOf tv.toArray tn) :: (L + 1 + 1 + 1, c3) :: (L + 1 + 1 + 1 + 1 + 1, c5) :: more) := news_pick [6, 9, 10, 1, 2, 3, 4, 5, 7, 0, 8, 11, 12] 13 N3 rfl
    refine execs_app (pair_loop (s := { s with heap := h2, toks := tk2, gens := g' }) B X T h85 (frame_as (nmQ aN aT aK aP aM aU aF aL lo tl _ ta letter tt hand th) F2 (by dsimp only [nmQ, nmP]; kst_all)) N4 d1 d2 d6' hb' (off_cons (hm6 _ (mem_ix 3 rfl)) (off_cons (hm6 _ (mem_ix 4 rfl)) (off_cons (hm6 _ (mem_ix 1 rfl)) (off_cons (hm6 _ (mem_ix 5 rfl)) (off_cons (hm6 _ (mem_ix 6 rfl)) (off_cons i6 (off_cons q6 (off_cons nc46 (off_cons (hm6 _ (mem_ix 0 rfl)) (off_cons (hm6 _ (mem_ix 2 rfl)) (off_cons (hm6 _ (mem_ix 7 rfl)) (off_cons (hm6 _ (mem_ix 8 rfl)) (fun q h => hm6 q (mem_at 9 rfl h)))))))))))))) sd sm sp hdl okT hz sT hE ?_)
    intro c6' v6'' h3 tk3 g3 u3 d6'' hb3 F3 N5
    dsimp only
    have N6 : News h₀ L h3 ((aD, W.listOf dv.toArray dn) :: (L + 1, c1) :: (L + 1 + 1, c2) :: (L + 1 + 1 + 1, c3) :: (It, oI) :: (D, W.listOf items.toArray c) :: (L + 1 + 1 + 1 + 1 + 1 + 1, c6') :: (L + 1 + 1 + 1 + 1, x.c4) :: (aL, W.listOf lv.toArray ln) :: (aT, W.listOf tv.toArray tn) :: (aM, W.listOf mv.toArray mn) :: (aP, W.listOf pv.toArray pn) :: (L + 1 + 1 + 1 + 1 + 1, c5) :: more) := news_pick [3, 4, 5, 11, 6, 7, 0, 8, 9, 10, 1, 2, 12] 13 N5 rfl
    refine execs_app (let_c (s := { s with heap := h3, toks := tk3, gens := g3 }) B X T (frame_as _ F3 (by dsimp only [nmQ, nmP]; kst_all)) N6 d1 d2 d3 sd hdl hz3 b0 b1 b2 sT ?_)
    intro tc h4 tk4 F4 N7
    dsimp only
    have N8 : News h₀ L h4 ((aD, W.listOf dv.toArray dn) :: (L + 1, c1) :: (L + 1 + 1 + 1, c3) :: (L + 1 + 1 + 1 + 1, x.c4) :: (L + 1 + 1 + 1 + 1 + 1, c5) :: (It, oI) :: (D, W.listOf items.toArray c) :: (L + 1 + 1 + 1 + 1 + 1 + 1, c6') :: (aL, W.listOf lv.toArray ln) :: (aT, W.listOf tv.toArray tn) :: (aM, W.listOf mv.toArray mn) :: (aP, W.listOf pv.toArray pn) :: (L + 1 + 1, c2) :: more) := news_pick [0, 1, 3, 7, 12, 4, 5, 6, 8, 9, 10, 11, 2] 13 N7 rfl
    refine execs_app (let_d (s := { s with heap := h4, toks := tk4, gens := g3 }) B X T h85 (frame_as _ F4 (by dsimp only [nmQ, nmP]; kst_all)) N8 d1 d3 d4' d5 oD (off_cons i4 (off_cons q4 (off_cons nc64 (off_cons (hm4 _ (mem_ix 0 rfl)) (off_cons (hm4 _ (mem_ix 2 rfl)) (off_cons (hm4 _ (mem_ix 3 rfl)) (off_cons (hm4 _ (mem_ix 4 rfl)) (off_cons (hm4 _ (mem_ix 6 rfl)) (fun q h => hm4 q (mem_at 9 rfl h)))))))))) sd hdl hz l10 hfl b0 b1 b2 sT ?_)
    intro te aG gn c4' h5 tk5 dG F5 N9
    dsimp only
    have N10 : News h₀ L h5 ((aG, W.listOf (ins dv (clamp (atS hand TL letter) lo hi) (.str (Str.ofString "- " ++ letter) te)).toArray gn) :: (aT, W.listOf tv.toArray tn) :: (L + 1 + 1 + 1 + 1, c4') :: (It, oI) :: (D, W.listOf items.toArray c) :: (L + 1 + 1 + 1 + 1 + 1 + 1, c6') :: (aL, W.listOf lv.toArray ln) :: (aD, W.listOf dv.toArray dn) :: (aM, W.listOf mv.toArray mn) :: (aP, W.listOf pv.toArray pn) :: (L + 1, c1) :: (L + 1 + 1, c2) :: (L + 1 + 1 + 1, c3) :: (L + 1 + 1 + 1 + 1 + 1, c5) :: more) := news_pick [0, 10, 4, 6, 7, 8, 9, 1, 11, 12, 2, 13, 3, 5] 14 N9 rfl
    refine let_e (s := { s with heap := h5, toks := tk5, gens := g3 }) B X T (frame_as _ F5 (by dsimp only [nmQ, nmP]; kst_all)) N10 dG sd st okT hz (ok_append dash_ok okL) (by simp only [clamp]; omega) ?_
    intro h6 tk6 F6 N11
    exact hP _ ⟨⟨c4', c6'⟩, _, h6, tk6, g3, oI, c, rfl, hb3, frame_as (nmH aN aT aK aP aM aU aF aL lo tl hand th) F6 (by dsimp only [nmH, nmP]; kst_all), news_pick [3, 4, 5, 2, 6, 7, 1, 8, 9, 10, 11, 12, 13] 14 N11 rfl, ⟨sy, ⟨_, dG⟩, ⟨_, d6''⟩, _, rfl⟩, hO, hne, off_cons (Ne.symm i6) (off_cons (Ne.symm i4) fun q h => hq q (.tail _ (.tail _ h)))⟩
  · intro items x m h' tk' g' hI hb' F' N'
    obtain ⟨sy, ⟨v4', d4'⟩, ⟨v6', d6'⟩, u', rfl⟩ := hI
    exact wpAny_execs_nil (hQ x.c4 v4' x.c6 v6' h' tk' g' u' d4' d6' hb' F' N')
end
end Mine
end

section
open PySem PySem.W PyProof.Rows
set_option Elab.async false
set_option maxRecDepth 100000
set_option maxHeartbeats 2000000
set_option linter.unusedVariables false
namespace Mine
theorem fillK40 (w : World) (h : Heap) (_ : (hd.heap_39 w.params).In h) : PySem.Challenge.rw_nb0156_01.row.prog = PySem.Challenge.rw_nb0156_01.row.prog ∧ (hd.heap_39 w.params) = hd.heap_39 w.params := by
  k_fill
  exact ⟨rfl, rfl⟩
def marks5 : List Nm := [.i (-1), .i 0, .i 1, .i 2, .i 3]
theorem marks5_fact {n : Nm} (h : n ∈ marks5) : n.small := by
  simp only [marks5, List.mem_cons, List.not_mem_nil, or_false] at h
  rcases h with rfl | rfl | rfl | rfl | rfl <;> exact ⟨by decide, by decide⟩
theorem cut4 {l : List Stmt} : l = l.take 2 ++ ((l.drop 2).take 2 ++ ((l.drop 4).take 2 ++ l.drop 6)) := by
  have key : ∀ n k, (l.drop n).take k ++ l.drop (n + k) = l.drop n := fun n k => by rw [← List.drop_drop, List.take_append_drop]
  rw [key 4 2, key 2 2, List.take_append_drop]
theorem nms_item : ∀ {vs : List Value} {ns : List Nm}, NmsAre vs ns → ∀ {i : Nat} {v : Value}, vs[i]? = some v → ∃ n, NmIs v n ∧ n ∈ ns
  | _, _, .nil, i, v, h => by simp at h
  | _, _, .cons a r, 0, v, h => by simp at h; subst h; exact ⟨_, a, .head _⟩
  | _, _, .cons a r, i + 1, v, h => by simp at h; obtain ⟨n, h1, h2⟩ := nms_item r h; exact ⟨n, h1, .tail _ h2⟩
section
theorem eval_marks {w : World} {p : Program} {loose : List Str} {mean : ExcName → Option Value} {mg mb : Str → Option Value} {h₀ : Heap} {L fa : Nat} {s : Shared} {Q : Value → Shared → Prop} {E : Value → Shared → Prop}
   {m : Str → Option Value} {news : List (Addr × Obj)} {e : Expr}
   (he : e = forI (hndB.getD 3 default))
   (X : (hd.heap_39 w.params).In h₀) (T : Top p loose mean mg mb h₀)
   (F : Fr h₀ L s.heap m) (N : News h₀ L s.heap news)
   (hQ : ∀ D ys h' tk', NmsAre ys marks5 → Fr h₀ L h' m → News h₀ L h' ((D, W.listOf ys.toArray 0) :: news) → Q (.ref D) { s with heap := h', toks := tk' }) :
   wpAny (model PySem.Challenge.rw_nb0156_01.row.prog w) (lawA L fa) (eval e (lawE L fa)) Q E s := by
  subst he
  dsimp only [forI, letB, hndB, lawA, lawE, lawB, lawS, topS, fnB, fnS, forB, ifE, ifT, PySem.Challenge.pw_nb0156_01, List.getD, List.getElem?_cons_succ, List.getElem?_cons_zero, Option.getD_some, List.drop, List.take]
  k_with_none
  k_steps
  rename Fr _ _ _ _ => fF
  rename News _ _ _ _ => nF
  refine hQ _ ?ys _ _ ?st fF ?hn
  case hn => exact nF
  case st => exact .cons (.int _ _) (.cons (.int _ _) (.cons (.int _ _) (.cons (.int _ _) (.cons (.int _ _) .nil))))

theorem mark_loop {w : World} {p : Program} {loose : List Str} {mean : ExcName → Option Value} {mg mb : Str → Option Value} {h₀ : Heap} {L fa : Nat} {s : Shared} {Q : Flow → Shared → Prop} {E : Value → Shared → Prop}
   {u : Str → Option Value} {aN aT aK aP aM aU aF aL : Nat} {lo hi : Int} {tl th thi : Tok} {hand : Bool} {more : List (Addr × Obj)} {c2 c3 c4 c5 : Obj} {v4 : Option Value} {kv nv : List Value} {kn nn : Nat} {NL : List Nm}
   (B : Below callerA h₀ [] h₀) (X : (hd.heap_39 w.params).In h₀) (T : Top p loose mean mg mb h₀) (h85 : 85 < L)
   (F : Fr h₀ L s.heap (kstB u (nmH aN aT aK aP aM aU aF aL lo tl hand th)))
   (N : News h₀ L s.heap ((L + 1 + 1 + 1 + 1, c4) :: (aK, W.listOf kv.toArray kn) :: (aN, W.listOf nv.toArray nn) :: (L + 1 + 1, c2) :: (L + 1 + 1 + 1, c3) :: (L + 1 + 1 + 1 + 1 + 1, c5) :: more))
   (d2 : c2.data = .cell (some (.ref (findA hand)))) (d3 : c3.data = .cell (some (.int hi thi))) (d4 : c4.data = .cell v4) (d5 : c5.data = .cell (some (.ref (putA hand)))) (hb : AllBare s.gens)
   (oK : L + 6 < aK) (hm4 : ∀ q ∈ (aK, W.listOf kv.toArray kn) :: (aN, W.listOf nv.toArray nn) :: (L + 1 + 1, c2) :: (L + 1 + 1 + 1, c3) :: (L + 1 + 1 + 1 + 1 + 1, c5) :: more, q.1 ≠ L + 1 + 1 + 1 + 1)
   (sk : NmsAre kv NL) (sn : NmsAre nv NL) (okN : ∀ n ∈ NL, n.small) (hz : NL.length < 900) (so : SortedBy (fun a b : Int => decide (a < b)) Nm.val NL)
   (b0 : 0 ≤ lo) (b1 : lo ≤ hi) (b2 : hi ≤ NL.length)
   (hE : PassesOwn (model PySem.Challenge.rw_nb0156_01.row.prog w) (lawA L fa) (lawE L fa) E)
   (hQ : ∀ c4' v4' h' tk' g' u', c4'.data = .cell v4' → AllBare g' → Fr h₀ L h' (kstB u' (nmH aN aT aK aP aM aU aF aL lo tl hand th)) →
     News h₀ L h' ((L + 1 + 1 + 1 + 1, c4') :: (aK, W.listOf kv.toArray kn) :: (aN, W.listOf nv.toArray nn) :: (L + 1 + 1, c2) :: (L + 1 + 1 + 1, c3) :: (L + 1 + 1 + 1 + 1 + 1, c5) :: more) → Q .next { s with heap := h', toks := tk', gens := g' }) :
   wpAny (model PySem.Challenge.rw_nb0156_01.row.prog w) (lawA L fa) (execs ((hndB.drop 3).take 1) (lawE L fa)) Q E s := by
  obtain ⟨p1, it, fp, e, ei⟩ : ∃ p1 it fp, (hndB.drop 3).take 1 = [.For (.Name (Str.ofString "mark") p1) it markB [] fp] ∧ it = forI (hndB.getD 3 default) := ⟨_, _, _, rfl, rfl⟩
  rw [e]
  refine wpAny_execs_cons ?_
  refine for_led2 (h₀ := h₀) (L := L) (σ := LSt) (fun _ x => (L + 1 + 1 + 1 + 1, x.c4) :: (aK, W.listOf kv.toArray kn) :: (aN, W.listOf nv.toArray nn) :: (L + 1 + 1, c2) :: (L + 1 + 1 + 1, c3) :: (L + 1 + 1 + 1 + 1 + 1, c5) :: more)
    (fun items i x m => NmsAre items marks5 ∧ (∃ v, x.c4.data = .cell v) ∧ ∃ u', m = kstB u' (nmH aN aT aK aP aM aU aF aL lo tl hand th)) rfl (fun x => by rw [ei]; rfl) ?_ ?_ ?_ hE
  · refine eval_marks ei X T F N ?_
    intro D ys h' tk' sy F' N'
    exact ⟨ys, D, 0, ⟨c4, c4⟩, _, h', tk', s.gens, rfl, rfl, hb, F', N', sy, ⟨_, d4⟩, _, rfl⟩
  · intro items D It i v x m h' tk' g' oI c hi' hv hI hb' F' N' hO hne hq P hP
    obtain ⟨sy, ⟨v4', d4'⟩, u', rfl⟩ := hI
    obtain ⟨xn, hx, hxm⟩ := nms_item sy hv
    have hxs := marks5_fact hxm
    have sN := atN_split hand xn so
    have hz3 : NL.length < 1000 := by omega
    have i4 : It ≠ L + 1 + 1 + 1 + 1 := Ne.symm (hq _ (.head _))
    have q4 : D ≠ L + 1 + 1 + 1 + 1 := news_ne N' (.tail _ (.head _)) (.tail _ (.tail _ (.head _))) (by rw [d4']; nofun)
    refine wpAny_assign_Name (storeX_L F' N' (fun h₁ F₁ N₁ => ?_) rfl rfl)
    rw [cut4 (l := markB)]
    have N2 : News h₀ L h₁ ((aN, W.listOf nv.toArray nn) :: (aK, W.listOf kv.toArray kn) :: (L + 1 + 1, c2) :: (It, oI) :: (D, W.listOf items.toArray c) :: (L + 1 + 1 + 1 + 1, x.c4) :: (L + 1 + 1 + 1, c3) :: (L + 1 + 1 + 1 + 1 + 1, c5) :: more) := news_pick [4, 3, 5, 0, 1, 2, 6, 7] 8 N₁ rfl
    refine execs_app (mark_a (s := { s with heap := h₁, toks := tk' + 1, gens := g' }) B X T (frame_as _ F₁ (by dsimp only [nmH, nmP]; kst_all)) N2 d2 hx sn sk hz3 sN ?_)
    intro ta h2 tk2 F2 N3
    dsimp only
    have N4 : News h₀ L h2 ((aK, W.listOf kv.toArray kn) :: (L + 1 + 1, c2) :: (L + 1 + 1 + 1, c3) :: (It, oI) :: (D, W.listOf items.toArray c) :: (L + 1 + 1 + 1 + 1, x.c4) :: (aN, W.listOf nv.toArray nn) :: (L + 1 + 1 + 1 + 1 + 1, c5) :: more) := news_pick [1, 2, 6, 3, 4, 5, 0, 7] 8 N3 rfl
    refine execs_app (mark_c (s := { s with heap := h2, toks := tk2, gens := g' }) B X T (frame_as _ F2 (by dsimp only [nmH, nmP]; kst_all)) N4 d2 d3 hx sk hz3 b0 b1 b2 sN ?_)
    intro tc h4 tk4 F4 N7
    dsimp only
    have N8 : News h₀ L h4 ((aK, W.listOf kv.toArray kn) :: (L + 1 + 1 + 1, c3) :: (L + 1 + 1 + 1 + 1, x.c4) :: (L + 1 + 1 + 1 + 1 + 1, c5) :: (It, oI) :: (D, W.listOf items.toArray c) :: (aN, W.listOf nv.toArray nn) :: (L + 1 + 1, c2) :: more) := news_pick [0, 2, 5, 7, 3, 4, 6, 1] 8 N7 rfl
    refine execs_app (mark_d (s := { s with heap := h4, toks := tk4, gens := g' }) B X T h85 (frame_as _ F4 (by dsimp only [nmH, nmP]; kst_all)) N8 d3 d4' d5 hx oK (off_cons i4 (off_cons q4 (off_cons (hm4 _ (mem_ix 1 rfl)) (off_cons (hm4 _ (mem_ix 2 rfl)) (fun q h => hm4 q (mem_at 5 rfl h)))))) sk hz b0 b1 b2 sN ?_)
    intro aG gn c4' h5 tk5 dG F5 N9
    dsimp only
    have N10 : News h₀ L h5 ((aG, W.listOf (ins kv (clamp (atN hand NL xn) lo hi) v).toArray gn) :: (aN, W.listOf nv.toArray nn) :: (L + 1 + 1 + 1 + 1, c4') :: (It, oI) :: (D, W.listOf items.toArray c) :: (aK, W.listOf kv.toArray kn) :: (L + 1 + 1, c2) :: (L + 1 + 1 + 1, c3) :: (L + 1 + 1 + 1 + 1 + 1, c5) :: more) := news_pick [0, 7, 3, 5, 6, 1, 8, 2, 4] 9 N9 rfl
    refine mark_e (s := { s with heap := h5, toks := tk5, gens := g' }) B X T (frame_as _ F5 (by dsimp only [nmH, nmP]; kst_all)) N10 dG hx hxs sk sn okN hz (by simp only [clamp]; omega) ?_
    intro h6 tk6 F6 N11
    exact hP _ ⟨⟨c4', c4'⟩, _, h6, tk6, g', oI, c, rfl, hb', frame_as (nmH aN aT aK aP aM aU aF aL lo tl hand th) F6 (by dsimp only [nmH, nmP]; kst_all), news_pick [3, 4, 2, 5, 1, 6, 7, 8] 9 N11 rfl, ⟨sy, ⟨_, dG⟩, _, rfl⟩, hO, hne, off_cons (Ne.symm i4) fun q h => hq q (.tail _ h)⟩
  · intro items x m h' tk' g' hI hb' F' N'
    obtain ⟨sy, ⟨v4', d4'⟩, u', rfl⟩ := hI
    exact wpAny_execs_nil (hQ x.c4 v4' h' tk' g' u' d4' hb' F' N')
end
end Mine
end

section
open PySem PySem.W PyProof.Rows
set_option Elab.async false
set_option maxRecDepth 100000
set_option maxHeartbeats 2000000
set_option linter.unusedVariables false
namespace Mine
theorem fillK41 (w : World) (h : Heap) (_ : (hd.heap_39 w.params).In h) : PySem.Challenge.rw_nb0156_01.row.prog = PySem.Challenge.rw_nb0156_01.row.prog ∧ (hd.heap_39 w.params) = hd.heap_39 w.params := by
  k_fill
  exact ⟨rfl, rfl⟩
abbrev lamQ : Str := Str.ofString "law" ++ ".<locals>." ++ "<lambda>"
section
variable {M : Model} {A : Around} {E : Value → Shared → Prop} {s : Shared} {h₀ : Heap} {L a c P : Addr} {m mg mb : Str → Option Value} {cn : Str} {cs : Scope} {ccd : Value} {cl : List (Str × Addr)} {news : List (Addr × Obj)} {g : Obj → List (Addr × Obj)}
  {p : Program} {loose : List Str} {mean : ExcName → Option Value} {params : Arguments} {body : Expr} {scope : Scope} {ps : Array Value} {pos : Pos} {clos : List (Str × Addr)}
theorem lam_made2 {Q : Value → Shared → Prop} {codes : List (Addr × Obj)} (hdef : defaultsOf params (envX cn cs L a ccd cl) = ([], [])) (F : Fr h₀ L s.heap m) (N : News h₀ L s.heap news) (T : Top p loose mean mg mb h₀) (C : CodeHd h₀ c P) (hcd : ccd = .ref c) (U : UpdF P (tabObj ps) news g)
    (ht : TabOk P (cn ++ ".<locals>." ++ "<lambda>") ps codes) (hsub : ∀ q ∈ codes, q ∈ news) (hcl : closureFor scope (envX cn cs L a ccd cl) = pure clos)
    (h : ∀ f c' oc vs t ctv h' tk ps' nm, Fr h₀ L h' m → News h₀ L h' ((f, kla_obj nm (cn ++ ".<locals>." ++ "<lambda>") params body scope clos ((mg "__name__").getD .none) c' ctv) :: (c', oc) :: g (tabObj ps')) →
      TabOk P (cn ++ ".<locals>." ++ "<lambda>") ps' ((c', oc) :: codes) → oc.data = .fields vs → vs[1]? = some (.str (cn ++ ".<locals>." ++ "<lambda>") t) → c' ≠ P → Q (.ref f) { s with heap := h', toks := tk }) :
    wpAny M A (eval (.Lambda params body scope pos) (envX cn cs L a ccd cl)) Q E s := by
  refine kla_eval hdef ?_
  obtain ⟨own, rest, rfl, hgr, u1, u2⟩ := U.split
  have hP : (P, tabObj ps) ∈ own ++ (P, tabObj ps) :: rest := List.mem_append_right _ (.head _)
  cases q : codeAmong pos ps.toList with
  | none =>
    refine kla_nest F N T C hcd U ht.1 q hcl fun f c' oc vs t ctv h' tk F' N' hd hv l1 l2 => ?_
    have hc'P : c' ≠ P := Nat.ne_of_gt (l1 _ hP)
    refine h f c' oc vs t ctv h' tk _ "<lambda>" F' N' ⟨?_, fun pos' cv hcv => ?_⟩ hd hv hc'P
    · rw [Array.toList_append]; exact triples_snoc _ ht.1
    · rw [Array.toList_append] at hcv
      rcases among_snoc _ ht.1 hcv with z | rfl
      · obtain ⟨c₁, oc₁, vs₁, t₁, e1, e2, e3, e4, e5⟩ := ht.2 pos' cv z
        exact ⟨c₁, oc₁, vs₁, t₁, e1, e2, .tail _ e3, e4, e5⟩
      · exact ⟨c', oc, vs, t, rfl, hc'P, .head _, hd, hv⟩
  | some cv =>
    obtain ⟨c', oc, vs, t, rfl, e2, e3, e4, e5⟩ := ht.2 pos cv q
    refine kla_hit F N T C hcd hP ht.1 q hcl fun f ctv h' tk F' N' l1 => ?_
    have eg : g (tabObj ps) = own ++ (P, tabObj ps) :: rest := hgr _
    refine h f c' oc vs t ctv h' tk ps "<lambda>" F' ?_ ⟨ht.1, fun pos' cv hcv => ?_⟩ e4 e5 e2
    · rw [eg]
      intro q' hq'
      rcases List.mem_cons.mp hq' with rfl | hq'
      · exact N' _ (.head _)
      · rcases List.mem_cons.mp hq' with rfl | hq'
        · exact N' _ (.tail _ (hsub _ e3))
        · exact N' _ (.tail _ hq')
    · obtain ⟨c₁, oc₁, vs₁, t₁, f1, f2, f3, f4, f5⟩ := ht.2 pos' cv hcv
      exact ⟨c₁, oc₁, vs₁, t₁, f1, f2, .tail _ f3, f4, f5⟩
end
/-- a code that a lambda of the law's was made with -/
def CodeO (oc : Obj) : Prop := ∃ (vs : Array Value) (t : Tok), oc.data = .fields vs ∧ vs[1]? = some (.str lamQ t)
/-- a lambda of the law's that raises ValueError -/
def Deed (w : World) (params : Arguments) (body : Expr) (scope : Scope) (clos : List (Str × Addr)) (cells : List (Addr × Obj)) : Prop :=
  ∀ (f c' : Nat) (oc : Obj) (vs : Array Value) (t : Tok) (pm ctv : Value) (nm : Str) (news : List (Addr × Obj)), (f, kla_obj nm lamQ params body scope clos pm c' ctv) ∈ news → (c', oc) ∈ news → oc.data = .fields vs → vs[1]? = some (.str lamQ t) → (∀ q ∈ cells, q ∈ news) → SpecXG w 8 f [] [] news "ValueError"
section
theorem reset24 : True := by
  w_top off
  exact trivial
local macro_rules | `(tactic| walk_at "eval Lambda") => `(tactic| k_extra "lambda")
local macro_rules | `(tactic| walk_at "call ref") => `(tactic| k_extra "refused")
theorem ref_eval {w : World} {p : Program} {loose : List Str} {mean : ExcName → Option Value} {mg mb : Str → Option Value} {h₀ : Heap} {L fa : Nat} {s : Shared} {Q : Value → Shared → Prop} {E : Value → Shared → Prop}
   {m : Str → Option Value} {news cells codes : List (Addr × Obj)} {g : Obj → List (Addr × Obj)} {ps : Array Value} {params : Arguments} {body : Expr} {scope : Scope} {lp np cp : Pos} {clos : List (Str × Addr)}
   (B : Below callerA h₀ [] h₀) (X : (hd.heap_39 w.params).In h₀) (T : Top p loose mean mg mb h₀) (C : CodeHd h₀ 87 85) (hb : AllBare s.gens)
   (hdef : defaultsOf params (lawE L fa) = ([], [])) (hcl : closureFor scope (lawE L fa) = pure clos) (D : Deed w params body scope clos cells)
   (F : Fr h₀ L s.heap m) (N : News h₀ L s.heap news) (U : UpdF 85 (tabObj ps) news g) (ht : TabOk 85 lamQ ps codes) (hsub : ∀ q ∈ codes, q ∈ news) (hc : ∀ o', ∀ q ∈ cells, q ∈ g o')
   (hQ : ∀ c' oc h' tk' g' ps', AllBare g' → CodeO oc → c' ≠ 85 → Fr h₀ L h' m → News h₀ L h' ((c', oc) :: g (tabObj ps')) → TabOk 85 lamQ ps' ((c', oc) :: codes) → Q (.bool true) { s with heap := h', toks := tk', gens := g' }) :
   wpAny (model PySem.Challenge.rw_nb0156_01.row.prog w) (lawA L fa) (eval (.Call (.Name (Str.ofString "_law_refused") np) [.Lambda params body scope lp] [] cp) (lawE L fa)) Q E s := by
  dsimp only [lawA, lawE, lawB, lawS, topS, fnB, fnS, forB, ifE, ifT, PySem.Challenge.pw_nb0156_01, List.getD, List.getElem?_cons_succ, List.getElem?_cons_zero, Option.getD_some, List.drop, List.take] at hdef hcl ⊢
  k_with_none
  (k_with "lambda" => ((with_unfolding_all refine' lam_made2 (P := 85) (c := 87) (clos := clos) (cn := Str.ofString "law") hdef ?F ?N T C rfl U ht hsub hcl ?_); (case F => exact F); (case N => exact N); intro f9 c9 oc9 vs9 t9 ctv9 h9 tk9 ps9 nm9 F9 N9 ht9 hd9 hv9 ne9))
  (k_with "refused" => ((with_unfolding_all refine' refused_true (List.Mem.head _) (D f9 c9 oc9 vs9 t9 _ ctv9 nm9 _ (List.Mem.head _) (List.Mem.tail _ (List.Mem.head _)) hd9 hv9 (fun q hq => List.Mem.tail _ (List.Mem.tail _ (hc _ q hq)))) ?hb B F9 X N9 T ?k6 ?k7 ?k8 ?_); (case hb => exact hb); (case k6 => rfl); (case k7 => ktr_room); (case k8 => ktr_units); intro h8 tk8 g8 hb8 F8 N8))
  k_steps
  exact hQ c9 oc9 _ _ _ ps9 hb8 ⟨vs9, t9, hd9, hv9⟩ ne9 F8 (fun q hq => N8 q (List.Mem.tail _ hq)) ht9
end
section
theorem deed_f3 {w : World} (hand : Bool) {clos : List (Str × Addr)} {k1 k2 : Nat} {o1 o2 : Obj} {d : Nat}
    (l1 : clos.lookup (Str.ofString "find") = some k1) (e1 : o1.data = .cell (some (.ref (findA hand)))) (l2 : clos.lookup (Str.ofString "page") = some k2) (e2 : o2.data = .cell (some (.ref d))) :
    Deed w (lamP lam3f) (lamB lam3f) (lamS lam3f) clos [(k1, o1), (k2, o2)] := by
  intro f c' oc vs t pm ctv nm news hf hc hcd hcq hs
  cases hand
  · exact deed_lf3 (k3 := 0) (o3 := oc) (hv := .none) rfl rfl rfl hf hc hcd hcq l1 (hs _ (.head _)) e1 l2 (hs _ (.tail _ (.head _))) e2
  · exact deed_rf3 (k3 := 0) (o3 := oc) (hv := .none) rfl rfl rfl hf hc hcd hcq l1 (hs _ (.head _)) e1 l2 (hs _ (.tail _ (.head _))) e2
theorem deed_p3 {w : World} (hand : Bool) {clos : List (Str × Addr)} {k1 k2 : Nat} {o1 o2 : Obj} {d : Nat}
    (l1 : clos.lookup (Str.ofString "put") = some k1) (e1 : o1.data = .cell (some (.ref (putA hand)))) (l2 : clos.lookup (Str.ofString "page") = some k2) (e2 : o2.data = .cell (some (.ref d))) :
    Deed w (lamP lam3p) (lamB lam3p) (lamS lam3p) clos [(k1, o1), (k2, o2)] := by
  intro f c' oc vs t pm ctv nm news hf hc hcd hcq hs
  cases hand
  · exact deed_lp3 (k3 := 0) (o3 := oc) (hv := .none) rfl rfl rfl hf hc hcd hcq l1 (hs _ (.head _)) e1 l2 (hs _ (.tail _ (.head _))) e2
  · exact deed_rp3 (k3 := 0) (o3 := oc) (hv := .none) rfl rfl rfl hf hc hcd hcq l1 (hs _ (.head _)) e1 l2 (hs _ (.tail _ (.head _))) e2
theorem deed_f5 {w : World} (hand : Bool) {clos : List (Str × Addr)} {k1 k2 k3 : Nat} {o1 o2 o3 : Obj} {d : Nat} {hv : Value}
    (l1 : clos.lookup (Str.ofString "find") = some k1) (e1 : o1.data = .cell (some (.ref (findA hand)))) (l2 : clos.lookup (Str.ofString "page") = some k2) (e2 : o2.data = .cell (some (.ref d))) (l3 : clos.lookup (Str.ofString "hi") = some k3) (e3 : o3.data = .cell (some hv)) :
    Deed w (lamP lam5f) (lamB lam5f) (lamS lam5f) clos [(k1, o1), (k2, o2), (k3, o3)] := by
  intro f c' oc vs t pm ctv nm news hf hc hcd hcq hs
  cases hand
  · exact deed_lf5 rfl rfl rfl hf hc hcd hcq l1 (hs _ (.head _)) e1 l2 (hs _ (.tail _ (.head _))) e2 l3 (hs _ (.tail _ (.tail _ (.head _)))) e3
  · exact deed_rf5 rfl rfl rfl hf hc hcd hcq l1 (hs _ (.head _)) e1 l2 (hs _ (.tail _ (.head _))) e2 l3 (hs _ (.tail _ (.tail _ (.head _)))) e3
theorem deed_p5 {w : World} (hand : Bool) {clos : List (Str × Addr)} {k1 k2 k3 : Nat} {o1 o2 o3 : Obj} {d : Nat} {hv : Value}
    (l1 : clos.lookup (Str.ofString "put") = some k1) (e1 : o1.data = .cell (some (.ref (putA hand)))) (l2 : clos.lookup (Str.ofString "page") = some k2) (e2 : o2.data = .cell (some (.ref d))) (l3 : clos.lookup (Str.ofString "hi") = some k3) (e3 : o3.data = .cell (some hv)) :
    Deed w (lamP lam5p) (lamB lam5p) (lamS lam5p) clos [(k1, o1), (k2, o2), (k3, o3)] := by
  intro f c' oc vs t pm ctv nm news hf hc hcd hcq hs
  cases hand
  · exact deed_lp5 rfl rfl rfl hf hc hcd hcq l1 (hs _ (.head _)) e1 l2 (hs _ (.tail _ (.head _))) e2 l3 (hs _ (.tail _ (.tail _ (.head _)))) e3
  · exact deed_rp5 rfl rfl rfl hf hc hcd hcq l1 (hs _ (.head _)) e1 l2 (hs _ (.tail _ (.head _))) e2 l3 (hs _ (.tail _ (.tail _ (.head _)))) e3
end
end Mine
end

section
open PySem PySem.W PyProof.Rows
set_option Elab.async false
set_option maxRecDepth 100000
set_option maxHeartbeats 8000000
set_option linter.unusedVariables false
namespace Mine
theorem fillK42 (w : World) (h : Heap) (_ : (hd.heap_39 w.params).In h) : PySem.Challenge.rw_nb0156_01.row.prog = PySem.Challenge.rw_nb0156_01.row.prog ∧ (hd.heap_39 w.params) = hd.heap_39 w.params := by
  k_fill
  exact ⟨rfl, rfl⟩
section
theorem reset25 : True := by
  w_top off
  exact trivial
local macro_rules | `(tactic| walk_at "eval Call") => `(tactic| k_extra "ref")
theorem ref_5 {w : World} {p : Program} {loose : List Str} {mean : ExcName → Option Value} {mg mb : Str → Option Value} {h₀ : Heap} {L fa : Nat} {s : Shared} {Q : Flow → Shared → Prop} {E : Value → Shared → Prop}
   {m : Str → Option Value} {more : List (Addr × Obj)} {ps : Array Value} {codes : List (Addr × Obj)} {c2 c4 c5 : Obj} {hand : Bool} {d : Nat}
   (B : Below callerA h₀ [] h₀) (X : (hd.heap_39 w.params).In h₀) (T : Top p loose mean mg mb h₀) (C : CodeHd h₀ 87 85) (h85 : 85 < L) (hb : AllBare s.gens)
   (F : Fr h₀ L s.heap m) (N : News h₀ L s.heap ((85, tabObj ps) :: (L + 1 + 1, c2) :: (L + 1 + 1 + 1 + 1, c4) :: (L + 1 + 1 + 1 + 1 + 1, c5) :: more))
   (d2 : c2.data = .cell (some (.ref (findA hand)))) (d4 : c4.data = .cell (some (.ref d))) (d5 : c5.data = .cell (some (.ref (putA hand))))
   (hm : ∀ q ∈ more, q.1 ≠ 85) (ht : TabOk 85 lamQ ps codes) (hsub : ∀ q ∈ codes, q ∈ more)
   (hQ : ∀ (c9 : Addr) (oc9 : Obj) (c8 : Addr) (oc8 : Obj) h' tk' g' ps', CodeO oc9 → c9 ≠ 85 → CodeO oc8 → c8 ≠ 85 → AllBare g' → Fr h₀ L h' m → News h₀ L h' ((c8, oc8) :: (c9, oc9) :: (85, tabObj ps') :: (L + 1 + 1, c2) :: (L + 1 + 1 + 1 + 1, c4) :: (L + 1 + 1 + 1 + 1 + 1, c5) :: more) → TabOk 85 lamQ ps' ((c8, oc8) :: (c9, oc9) :: codes) → Q .next { s with heap := h', toks := tk', gens := g' }) :
   wpAny (model PySem.Challenge.rw_nb0156_01.row.prog w) (lawA L fa) (execs ((hndB.drop 5).take 1) (lawE L fa)) Q E s := by
  dsimp only [hndB, lawA, lawE, lawB, lawS, topS, fnB, fnS, forB, ifE, ifT, PySem.Challenge.pw_nb0156_01, List.getD, List.getElem?_cons_succ, List.getElem?_cons_zero, Option.getD_some, List.drop, List.take]
  have nn : ∀ q ∈ (L + 1 + 1, c2) :: (L + 1 + 1 + 1 + 1, c4) :: (L + 1 + 1 + 1 + 1 + 1, c5) :: more, q.1 ≠ 85 := off_cons (y2 h85) (off_cons (y4 h85) (off_cons (y5 h85) (hm)))
  have D0 := deed_f3 (w := w) hand (clos := [(Str.ofString "page", L + 1 + 1 + 1 + 1), (Str.ofString "find", L + 1 + 1)]) rfl d2 rfl d4
  have cl0 : closureFor (lamS lam3f) (lawE L fa) = pure [(Str.ofString "page", L + 1 + 1 + 1 + 1), (Str.ofString "find", L + 1 + 1)] := rfl
  have df0 : defaultsOf (lamP lam3f) (lawE L fa) = ([], []) := rfl
  have hc0 : ∀ (o' : Obj), ∀ q ∈ [(L + 1 + 1, c2), (L + 1 + 1 + 1 + 1, c4)], q ∈ (85, o') :: (L + 1 + 1, c2) :: (L + 1 + 1 + 1 + 1, c4) :: (L + 1 + 1 + 1 + 1 + 1, c5) :: more := fun o' => sub_cons (mem_ix 1 rfl) (sub_cons (mem_ix 2 rfl) (sub_nil))
  have D1 := deed_p3 (w := w) hand (clos := [(Str.ofString "put", L + 1 + 1 + 1 + 1 + 1), (Str.ofString "page", L + 1 + 1 + 1 + 1)]) rfl d5 rfl d4
  have cl1 : closureFor (lamS lam3p) (lawE L fa) = pure [(Str.ofString "put", L + 1 + 1 + 1 + 1 + 1), (Str.ofString "page", L + 1 + 1 + 1 + 1)] := rfl
  have df1 : defaultsOf (lamP lam3p) (lawE L fa) = ([], []) := rfl
  have hc1 : ∀ (c9 : Addr) (oc9 : Obj) (o' : Obj), ∀ q ∈ [(L + 1 + 1 + 1 + 1 + 1, c5), (L + 1 + 1 + 1 + 1, c4)], q ∈ (c9, oc9) :: (85, o') :: (L + 1 + 1, c2) :: (L + 1 + 1 + 1 + 1, c4) :: (L + 1 + 1 + 1 + 1 + 1, c5) :: more := fun c9 oc9 o' => sub_cons (mem_ix 4 rfl) (sub_cons (mem_ix 3 rfl) (sub_nil))
  k_with_none
  (k_with "ref" => (first | ((with_unfolding_all refine' ref_eval B X T C hb df0 cl0 D0 F N (.head nn) ht (fun q hq => List.Mem.tail _ (List.Mem.tail _ (List.Mem.tail _ (List.Mem.tail _ ((hsub q hq)))))) hc0 ?_); intro c9 oc9 h9 tk9 g9 ps9 hb9 hd9 ne9 F9 N9 ht9) | ((with_unfolding_all refine' ref_eval B X T C hb9 df1 cl1 D1 F9 N9 (.tail ne9 (.head nn)) ht9 (fun q hq => by rcases List.mem_cons.mp hq with rfl | hq; exact List.Mem.head _; exact List.Mem.tail _ (List.Mem.tail _ (List.Mem.tail _ (List.Mem.tail _ (List.Mem.tail _ ((hsub q hq))))))) (hc1 c9 oc9) ?_); intro c8 oc8 h8 tk8 g8 ps8 hb8 hd8 ne8 F8 N8 ht8)))
  k_steps
  exact hQ c9 oc9 c8 oc8 _ _ _ ps8 hd9 ne9 hd8 ne8 hb8 F8 N8 ht8
theorem ref_8 {w : World} {p : Program} {loose : List Str} {mean : ExcName → Option Value} {mg mb : Str → Option Value} {h₀ : Heap} {L fa : Nat} {s : Shared} {Q : Flow → Shared → Prop} {E : Value → Shared → Prop}
   {m : Str → Option Value} {more : List (Addr × Obj)} {ps : Array Value} {codes : List (Addr × Obj)} {c2 c3 c4 : Obj} {hand : Bool} {d : Nat} {hv : Value}
   (B : Below callerA h₀ [] h₀) (X : (hd.heap_39 w.params).In h₀) (T : Top p loose mean mg mb h₀) (C : CodeHd h₀ 87 85) (h85 : 85 < L) (hb : AllBare s.gens)
   (F : Fr h₀ L s.heap m) (N : News h₀ L s.heap ((85, tabObj ps) :: (L + 1 + 1, c2) :: (L + 1 + 1 + 1, c3) :: (L + 1 + 1 + 1 + 1, c4) :: more))
   (d2 : c2.data = .cell (some (.ref (findA hand)))) (d3 : c3.data = .cell (some hv)) (d4 : c4.data = .cell (some (.ref d)))
   (hm : ∀ q ∈ more, q.1 ≠ 85) (ht : TabOk 85 lamQ ps codes) (hsub : ∀ q ∈ codes, q ∈ more)
   (hQ : ∀ (c9 : Addr) (oc9 : Obj) h' tk' g' ps', CodeO oc9 → c9 ≠ 85 → AllBare g' → Fr h₀ L h' m → News h₀ L h' ((c9, oc9) :: (85, tabObj ps') :: (L + 1 + 1, c2) :: (L + 1 + 1 + 1, c3) :: (L + 1 + 1 + 1 + 1, c4) :: more) → TabOk 85 lamQ ps' ((c9, oc9) :: codes) → Q .next { s with heap := h', toks := tk', gens := g' }) :
   wpAny (model PySem.Challenge.rw_nb0156_01.row.prog w) (lawA L fa) (execs ((hndB.drop 8).take 1) (lawE L fa)) Q E s := by
  dsimp only [hndB, lawA, lawE, lawB, lawS, topS, fnB, fnS, forB, ifE, ifT, PySem.Challenge.pw_nb0156_01, List.getD, List.getElem?_cons_succ, List.getElem?_cons_zero, Option.getD_some, List.drop, List.take]
  have nn : ∀ q ∈ (L + 1 + 1, c2) :: (L + 1 + 1 + 1, c3) :: (L + 1 + 1 + 1 + 1, c4) :: more, q.1 ≠ 85 := off_cons (y2 h85) (off_cons (y3 h85) (off_cons (y4 h85) (hm)))
  have D0 := deed_f5 (w := w) hand (clos := [(Str.ofString "page", L + 1 + 1 + 1 + 1), (Str.ofString "hi", L + 1 + 1 + 1), (Str.ofString "find", L + 1 + 1)]) rfl d2 rfl d4 rfl d3
  have cl0 : closureFor (lamS lam5f) (lawE L fa) = pure [(Str.ofString "page", L + 1 + 1 + 1 + 1), (Str.ofString "hi", L + 1 + 1 + 1), (Str.ofString "find", L + 1 + 1)] := rfl
  have df0 : defaultsOf (lamP lam5f) (lawE L fa) = ([], []) := rfl
  have hc0 : ∀ (o' : Obj), ∀ q ∈ [(L + 1 + 1, c2), (L + 1 + 1 + 1 + 1, c4), (L + 1 + 1 + 1, c3)], q ∈ (85, o') :: (L + 1 + 1, c2) :: (L + 1 + 1 + 1, c3) :: (L + 1 + 1 + 1 + 1, c4) :: more := fun o' => sub_cons (mem_ix 1 rfl) (sub_cons (mem_ix 3 rfl) (sub_cons (mem_ix 2 rfl) (sub_nil)))
  k_with_none
  (k_with "ref" => (first | ((with_unfolding_all refine' ref_eval B X T C hb df0 cl0 D0 F N (.head nn) ht (fun q hq => List.Mem.tail _ (List.Mem.tail _ (List.Mem.tail _ (List.Mem.tail _ ((hsub q hq)))))) hc0 ?_); intro c9 oc9 h9 tk9 g9 ps9 hb9 hd9 ne9 F9 N9 ht9)))
  k_steps
  exact hQ c9 oc9 _ _ _ ps9 hd9 ne9 hb9 F9 N9 ht9
theorem ref_9 {w : World} {p : Program} {loose : List Str} {mean : ExcName → Option Value} {mg mb : Str → Option Value} {h₀ : Heap} {L fa : Nat} {s : Shared} {Q : Flow → Shared → Prop} {E : Value → Shared → Prop}
   {m : Str → Option Value} {more : List (Addr × Obj)} {ps : Array Value} {codes : List (Addr × Obj)} {c3 c4 c5 : Obj} {hand : Bool} {d : Nat} {hv : Value}
   (B : Below callerA h₀ [] h₀) (X : (hd.heap_39 w.params).In h₀) (T : Top p loose mean mg mb h₀) (C : CodeHd h₀ 87 85) (h85 : 85 < L) (hb : AllBare s.gens)
   (F : Fr h₀ L s.heap m) (N : News h₀ L s.heap ((85, tabObj ps) :: (L + 1 + 1 + 1, c3) :: (L + 1 + 1 + 1 + 1, c4) :: (L + 1 + 1 + 1 + 1 + 1, c5) :: more))
   (d3 : c3.data = .cell (some hv)) (d4 : c4.data = .cell (some (.ref d))) (d5 : c5.data = .cell (some (.ref (putA hand))))
   (hm : ∀ q ∈ more, q.1 ≠ 85) (ht : TabOk 85 lamQ ps codes) (hsub : ∀ q ∈ codes, q ∈ more)
   (hQ : ∀ (c9 : Addr) (oc9 : Obj) h' tk' g' ps', CodeO oc9 → c9 ≠ 85 → AllBare g' → Fr h₀ L h' m → News h₀ L h' ((c9, oc9) :: (85, tabObj ps') :: (L + 1 + 1 + 1, c3) :: (L + 1 + 1 + 1 + 1, c4) :: (L + 1 + 1 + 1 + 1 + 1, c5) :: more) → TabOk 85 lamQ ps' ((c9, oc9) :: codes) → Q .next { s with heap := h', toks := tk', gens := g' }) :
   wpAny (model PySem.Challenge.rw_nb0156_01.row.prog w) (lawA L fa) (execs ((hndB.drop 9).take 1) (lawE L fa)) Q E s := by
  dsimp only [hndB, lawA, lawE, lawB, lawS, topS, fnB, fnS, forB, ifE, ifT, PySem.Challenge.pw_nb0156_01, List.getD, List.getElem?_cons_succ, List.getElem?_cons_zero, Option.getD_some, List.drop, List.take]
  have nn : ∀ q ∈ (L + 1 + 1 + 1, c3) :: (L + 1 + 1 + 1 + 1, c4) :: (L + 1 + 1 + 1 + 1 + 1, c5) :: more, q.1 ≠ 85 := off_cons (y3 h85) (off_cons (y4 h85) (off_cons (y5 h85) (hm)))
  have D0 := deed_p5 (w := w) hand (clos := [(Str.ofString "put", L + 1 + 1 + 1 + 1 + 1), (Str.ofString "page", L + 1 + 1 + 1 + 1), (Str.ofString "hi", L + 1 + 1 + 1)]) rfl d5 rfl d4 rfl d3
  have cl0 : closureFor (lamS lam5p) (lawE L fa) = pure [(Str.ofString "put", L + 1 + 1 + 1 + 1 + 1), (Str.ofString "page", L + 1 + 1 + 1 + 1), (Str.ofString "hi", L + 1 + 1 + 1)] := rfl
  have df0 : defaultsOf (lamP lam5p) (lawE L fa) = ([], []) := rfl
  have hc0 : ∀ (o' : Obj), ∀ q ∈ [(L + 1 + 1 + 1 + 1 + 1, c5), (L + 1 + 1 + 1 + 1, c4), (L + 1 + 1 + 1, c3)], q ∈ (85, o') :: (L + 1 + 1 + 1, c3) :: (L + 1 + 1 + 1 + 1, c4) :: (L + 1 + 1 + 1 + 1 + 1, c5) :: more := fun o' => sub_cons (mem_ix 3 rfl) (sub_cons (mem_ix 2 rfl) (sub_cons (mem_ix 1 rfl) (sub_nil)))
  k_with_none
  (k_with "ref" => (first | ((with_unfolding_all refine' ref_eval B X T C hb df0 cl0 D0 F N (.head nn) ht (fun q hq => List.Mem.tail _ (List.Mem.tail _ (List.Mem.tail _ (List.Mem.tail _ ((hsub q hq)))))) hc0 ?_); intro c9 oc9 h9 tk9 g9 ps9 hb9 hd9 ne9 F9 N9 ht9)))
  k_steps
  exact hQ c9 oc9 _ _ _ ps9 hd9 ne9 hb9 F9 N9 ht9
end
section
theorem reset26 : True := by
  w_top off
  exact trivial
local macro_rules | `(tactic| k_all) => `(tactic| assumption)
local macro_rules | `(tactic| walk_at "call type:list") => `(tactic| (k_here; (with_reducible show wpAny _ _ (call (Value.type _) [Value.ref _]) _ _ _); k_extra "copy"))
local macro_rules | `(tactic| walk_at "compareOp NotEq ref ref") => `(tactic| k_extra "ne")
local macro_rules | `(tactic| walk_at "compareOp NotEq str str") => `(tactic| k_extra "nes")
local macro_rules | `(tactic| walk_at "call builtin:repr") => `(tactic| k_extra "repr")
theorem page_4 {w : World} {p : Program} {loose : List Str} {mean : ExcName → Option Value} {mg mb : Str → Option Value} {h₀ : Heap} {L fa : Nat} {s : Shared} {Q : Flow → Shared → Prop} {E : Value → Shared → Prop}
   {u : Str → Option Value} {more : List (Addr × Obj)} {aK n : Nat} {kv : List Value} {c4 : Obj} {v4 : Option Value}
   (B : Below callerA h₀ [] h₀) (X : (hd.heap_39 w.params).In h₀) (T : Top p loose mean mg mb h₀) (h85 : 85 < L)
   (F : Fr h₀ L s.heap (kstB u [(Str.ofString "marks", .ref aK)])) (N : News h₀ L s.heap ((aK, W.listOf kv.toArray n) :: (L + 1 + 1 + 1 + 1, c4) :: more))
   (d4 : c4.data = .cell v4) (o1 : L + 6 < aK) (hm4 : ∀ q ∈ more, q.1 ≠ L + 1 + 1 + 1 + 1) (hz : kv.length < 1000)
   (hQ : ∀ (aG gn : Nat) c4' h' tk', c4'.data = .cell (some (.ref aG)) → Fr h₀ L h' (kstB u [(Str.ofString "marks", .ref aK)]) → News h₀ L h' ((aG, W.listOf kv.toArray gn) :: (aK, W.listOf kv.toArray n) :: (L + 1 + 1 + 1 + 1, c4') :: more) → Q .next { s with heap := h', toks := tk' }) :
   wpAny (model PySem.Challenge.rw_nb0156_01.row.prog w) (lawA L fa) (execs ((hndB.drop 4).take 1) (lawE L fa)) Q E s := by
  dsimp only [hndB, lawA, lawE, lawB, lawS, topS, fnB, fnS, forB, ifE, ifT, PySem.Challenge.pw_nb0156_01, List.getD, List.getElem?_cons_succ, List.getElem?_cons_zero, Option.getD_some, List.drop, List.take]
  dsimp only [kstB] at F hQ
  k_with_none
  (k_with "copy" => ((with_unfolding_all refine' list_copyK ?k1 ?k2 ?k3 ?_ ?z; (case k1 => k_asm); (case k2 => k_asm); (case k3 => is_list); (case z => (rw [List.size_toArray, sizeLine_eq]; omega)); k_whole); intro D' c' h' F' N' l1; (try k_lt l1); (try k_sweep)))
  k_steps
  rename Fr _ _ _ _ => fF
  rename News _ _ _ _ => nF
  exact hQ D' _ _ _ _ (by assumption) fF nF
theorem page_7 {w : World} {p : Program} {loose : List Str} {mean : ExcName → Option Value} {mg mb : Str → Option Value} {h₀ : Heap} {L fa : Nat} {s : Shared} {Q : Flow → Shared → Prop} {E : Value → Shared → Prop}
   {u : Str → Option Value} {more : List (Addr × Obj)} {aD n : Nat} {dv : List Value} {c1 c4 : Obj} {v4 : Option Value}
   (B : Below callerA h₀ [] h₀) (X : (hd.heap_39 w.params).In h₀) (T : Top p loose mean mg mb h₀) (h85 : 85 < L)
   (F : Fr h₀ L s.heap (u)) (N : News h₀ L s.heap ((aD, W.listOf dv.toArray n) :: (L + 1, c1) :: (L + 1 + 1 + 1 + 1, c4) :: more))
   (d4 : c4.data = .cell v4) (d1 : c1.data = .cell (some (.ref aD))) (o1 : L + 6 < aD) (hm4 : ∀ q ∈ more, q.1 ≠ L + 1 + 1 + 1 + 1) (hz : dv.length < 1000)
   (hQ : ∀ (aG gn : Nat) c4' h' tk', c4'.data = .cell (some (.ref aG)) → Fr h₀ L h' (u) → News h₀ L h' ((aG, W.listOf dv.toArray gn) :: (aD, W.listOf dv.toArray n) :: (L + 1, c1) :: (L + 1 + 1 + 1 + 1, c4') :: more) → Q .next { s with heap := h', toks := tk' }) :
   wpAny (model PySem.Challenge.rw_nb0156_01.row.prog w) (lawA L fa) (execs ((hndB.drop 7).take 1) (lawE L fa)) Q E s := by
  dsimp only [hndB, lawA, lawE, lawB, lawS, topS, fnB, fnS, forB, ifE, ifT, PySem.Challenge.pw_nb0156_01, List.getD, List.getElem?_cons_succ, List.getElem?_cons_zero, Option.getD_some, List.drop, List.take]
  skip
  k_with_none
  (k_with "copy" => ((with_unfolding_all refine' list_copyK ?k1 ?k2 ?k3 ?_ ?z; (case k1 => k_asm); (case k2 => k_asm); (case k3 => is_list); (case z => (rw [List.size_toArray, sizeLine_eq]; omega)); k_whole); intro D' c' h' F' N' l1; (try k_lt l1); (try k_sweep)))
  k_steps
  rename Fr _ _ _ _ => fF
  rename News _ _ _ _ => nF
  exact hQ D' _ _ _ _ (by assumption) fF nF
theorem same_6 {w : World} {p : Program} {loose : List Str} {mean : ExcName → Option Value} {mg mb : Str → Option Value} {h₀ : Heap} {L fa : Nat} {s : Shared} {Q : Flow → Shared → Prop} {E : Value → Shared → Prop}
   {u : Str → Option Value} {more : List (Addr × Obj)} {aG gn aN nn : Nat} {kv nv : List Value} {c4 : Obj} {NL : List Nm}
   (B : Below callerA h₀ [] h₀) (X : (hd.heap_39 w.params).In h₀) (T : Top p loose mean mg mb h₀)
   (F : Fr h₀ L s.heap (kstB u [(Str.ofString "plain", .ref aN)])) (N : News h₀ L s.heap ((aG, W.listOf kv.toArray gn) :: (aN, W.listOf nv.toArray nn) :: (L + 1 + 1 + 1 + 1, c4) :: more))
   (d4 : c4.data = .cell (some (.ref aG))) (sk : NmsAre kv NL) (sn : NmsAre nv NL) (okN : ∀ n ∈ NL, n.small) (hz : NL.length < 1000)
   (hQ : ∀ h' tk', Fr h₀ L h' (kstB u [(Str.ofString "plain", .ref aN)]) → News h₀ L h' ((aG, W.listOf kv.toArray gn) :: (aN, W.listOf nv.toArray nn) :: (L + 1 + 1 + 1 + 1, c4) :: more) → Q .next { s with heap := h', toks := tk' }) :
   wpAny (model PySem.Challenge.rw_nb0156_01.row.prog w) (lawA L fa) (execs ((hndB.drop 6).take 1) (lawE L fa)) Q E s := by
  dsimp only [hndB, lawA, lawE, lawB, lawS, topS, fnB, fnS, forB, ifE, ifT, PySem.Challenge.pw_nb0156_01, List.getD, List.getElem?_cons_succ, List.getElem?_cons_zero, Option.getD_some, List.drop, List.take]
  dsimp only [kstB] at F hQ
  k_with_none
  (k_with "nes" => (refine ne_same ?_))
  (k_with "repr" => (first
    | (k_dflt (refine' repr_nms ?F ?N ?a sk okN hz ?g ?u ?_; (case F => k_asm); (case N => k_asm); (case a => k_mem); (case g => rfl); (case u => ktr_units)); intro h9 u9 tk9 F9 N9)
    | (k_dflt (refine' repr_nms ?F ?N ?a sn okN hz ?g ?u ?_; (case F => k_asm); (case N => k_asm); (case a => k_mem); (case g => rfl); (case u => ktr_units)); intro h9 u9 tk9 F9 N9)))
  k_steps
  exact hQ _ _ F9 N9
theorem same_10 {w : World} {p : Program} {loose : List Str} {mean : ExcName → Option Value} {mg mb : Str → Option Value} {h₀ : Heap} {L fa : Nat} {s : Shared} {Q : Flow → Shared → Prop} {E : Value → Shared → Prop}
   {u : Str → Option Value} {more : List (Addr × Obj)} {aG gn aT tn : Nat} {dv tv : List Value} {c4 : Obj} {TL : List Str}
   (B : Below callerA h₀ [] h₀) (X : (hd.heap_39 w.params).In h₀) (T : Top p loose mean mg mb h₀)
   (F : Fr h₀ L s.heap (kstB u [(Str.ofString "told", .ref aT)])) (N : News h₀ L s.heap ((aG, W.listOf dv.toArray gn) :: (aT, W.listOf tv.toArray tn) :: (L + 1 + 1 + 1 + 1, c4) :: more))
   (d4 : c4.data = .cell (some (.ref aG))) (sd : StrsAre dv TL) (st : StrsAre tv TL) (okT : ∀ l ∈ TL, okS l)
   (hQ : ∀ h' tk', Fr h₀ L h' (kstB u [(Str.ofString "told", .ref aT)]) → News h₀ L h' ((aG, W.listOf dv.toArray gn) :: (aT, W.listOf tv.toArray tn) :: (L + 1 + 1 + 1 + 1, c4) :: more) → Q .next { s with heap := h', toks := tk' }) :
   wpAny (model PySem.Challenge.rw_nb0156_01.row.prog w) (lawA L fa) (execs (hndB.drop 10) (lawE L fa)) Q E s := by
  dsimp only [hndB, lawA, lawE, lawB, lawS, topS, fnB, fnS, forB, ifE, ifT, PySem.Challenge.pw_nb0156_01, List.getD, List.getElem?_cons_succ, List.getElem?_cons_zero, Option.getD_some, List.drop, List.take]
  dsimp only [kstB] at F hQ
  k_with_none
  (k_with "ne" => (k_dflt (refine' ne_strs ?N ?a ?b sd st okT ?u ?_; (case N => k_asm); (case a => k_mem); (case b => k_mem); (case u => ktr_units))))
  k_steps
  exact hQ _ _ F N
end
end Mine
end

section
open PySem PySem.W PyProof.Rows
set_option Elab.async false
set_option maxRecDepth 100000
set_option maxHeartbeats 8000000
set_option linter.unusedVariables false
namespace Mine
theorem fillK43 (w : World) (h : Heap) (_ : (hd.heap_39 w.params).In h) : PySem.Challenge.rw_nb0156_01.row.prog = PySem.Challenge.rw_nb0156_01.row.prog ∧ (hd.heap_39 w.params) = hd.heap_39 w.params := by
  k_fill
  exact ⟨rfl, rfl⟩
section
local macro_rules | `(tactic| k_all) => `(tactic| assumption)
theorem set_fp {w : World} {p : Program} {loose : List Str} {mean : ExcName → Option Value} {mg mb : Str → Option Value} {h₀ : Heap} {L fa : Nat} {s : Shared} {Q : Flow → Shared → Prop} {E : Value → Shared → Prop}
   {u : Str → Option Value} {aU aF : Nat} {more : List (Addr × Obj)} {c2 c5 : Obj} {v2 v5 : Option Value} {hand : Bool} {th : Tok}
   (B : Below callerA h₀ [] h₀) (X : (hd.heap_39 w.params).In h₀) (T : Top p loose mean mg mb h₀) (h85 : 85 < L)
   (F : Fr h₀ L s.heap (kstB u [(Str.ofString "hand", .int (handI hand) th), (Str.ofString "puts", .ref aU), (Str.ofString "finds", .ref aF)]))
   (N : News h₀ L s.heap ((L + 1 + 1, c2) :: (L + 1 + 1 + 1 + 1 + 1, c5) :: (aU, W.listOf #[.ref 48, .ref 30] 0) :: (aF, W.listOf #[.ref 57, .ref 39] 0) :: more))
   (d2 : c2.data = .cell v2) (d5 : c5.data = .cell v5) (o1 : L + 6 < aU) (o2 : L + 6 < aF) (hm2 : ∀ q ∈ more, q.1 ≠ L + 1 + 1) (hm5 : ∀ q ∈ more, q.1 ≠ L + 1 + 1 + 1 + 1 + 1)
   (hQ : ∀ c2' c5' h' tk', c2'.data = .cell (some (.ref (findA hand))) → c5'.data = .cell (some (.ref (putA hand))) → Fr h₀ L h' (kstB u [(Str.ofString "hand", .int (handI hand) th), (Str.ofString "puts", .ref aU), (Str.ofString "finds", .ref aF)]) →
     News h₀ L h' ((L + 1 + 1, c2') :: (L + 1 + 1 + 1 + 1 + 1, c5') :: (aU, W.listOf #[.ref 48, .ref 30] 0) :: (aF, W.listOf #[.ref 57, .ref 39] 0) :: more) → Q .next { s with heap := h', toks := tk' }) :
   wpAny (model PySem.Challenge.rw_nb0156_01.row.prog w) (lawA L fa) (execs (hndB.take 2) (lawE L fa)) Q E s := by
  dsimp only [hndB, lawA, lawE, lawB, lawS, topS, fnB, fnS, forB, ifE, ifT, PySem.Challenge.pw_nb0156_01, List.getD, List.getElem?_cons_succ, List.getElem?_cons_zero, Option.getD_some, List.drop, List.take]
  dsimp only [kstB] at F hQ
  cases hand
  · k_with_none
    replace F : Fr h₀ L s.heap (kstB u [(Str.ofString "hand", .int 0 th), (Str.ofString "puts", .ref aU), (Str.ofString "finds", .ref aF)]) := F
    dsimp only [kstB] at F
    k_steps
    rename Fr _ _ _ _ => fF
    rename News _ _ _ _ => nF
    exact hQ _ _ _ _ (by assumption) (by assumption) fF nF
  · k_with_none
    replace F : Fr h₀ L s.heap (kstB u [(Str.ofString "hand", .int 1 th), (Str.ofString "puts", .ref aU), (Str.ofString "finds", .ref aF)]) := F
    dsimp only [kstB] at F
    k_steps
    rename Fr _ _ _ _ => fF
    rename News _ _ _ _ => nF
    exact hQ _ _ _ _ (by assumption) (by assumption) fF nF
theorem eval_hands {w : World} {p : Program} {loose : List Str} {mean : ExcName → Option Value} {mg mb : Str → Option Value} {h₀ : Heap} {L fa : Nat} {s : Shared} {Q : Value → Shared → Prop} {E : Value → Shared → Prop}
   {m : Str → Option Value} {news : List (Addr × Obj)} {e : Expr}
   (he : e = forI (lawB.getD 17 default))
   (X : (hd.heap_39 w.params).In h₀) (T : Top p loose mean mg mb h₀)
   (F : Fr h₀ L s.heap m) (N : News h₀ L s.heap news)
   (hQ : ∀ D t1 t2 h' tk', Fr h₀ L h' m → News h₀ L h' ((D, W.listOf [.int 0 t1, .int 1 t2].toArray 0) :: news) → Q (.ref D) { s with heap := h', toks := tk' }) :
   wpAny (model PySem.Challenge.rw_nb0156_01.row.prog w) (lawA L fa) (eval e (lawE L fa)) Q E s := by
  subst he
  dsimp only [forI, lawA, lawE, lawB, lawS, topS, fnB, fnS, forB, ifE, ifT, PySem.Challenge.pw_nb0156_01, List.getD, List.getElem?_cons_succ, List.getElem?_cons_zero, Option.getD_some, List.drop, List.take]
  k_with_none
  k_steps
  rename Fr _ _ _ _ => fF
  rename News _ _ _ _ => nF
  exact hQ _ _ _ _ _ fF nF
theorem eval_bads {w : World} {p : Program} {loose : List Str} {mean : ExcName → Option Value} {mg mb : Str → Option Value} {h₀ : Heap} {L fa : Nat} {s : Shared} {Q : Value → Shared → Prop} {E : Value → Shared → Prop}
   {m : Str → Option Value} {news : List (Addr × Obj)} {e : Expr}
   (he : e = forI (lawB.getD 18 default))
   (X : (hd.heap_39 w.params).In h₀) (T : Top p loose mean mg mb h₀)
   (F : Fr h₀ L s.heap m) (N : News h₀ L s.heap news)
   (hQ : ∀ (D : Nat) (ys : List Value) (h' : Heap) (tk' : Nat), (∀ v ∈ ys, Bad v) → Fr h₀ L h' m → News h₀ L h' ((D, W.listOf ys.toArray 0) :: news) → Q (.ref D) { s with heap := h', toks := tk' }) :
   wpAny (model PySem.Challenge.rw_nb0156_01.row.prog w) (lawA L fa) (eval e (lawE L fa)) Q E s := by
  subst he
  dsimp only [forI, lawA, lawE, lawB, lawS, topS, fnB, fnS, forB, ifE, ifT, PySem.Challenge.pw_nb0156_01, List.getD, List.getElem?_cons_succ, List.getElem?_cons_zero, Option.getD_some, List.drop, List.take]
  k_with_none
  k_steps
  rename Fr _ _ _ _ => fF
  rename News _ _ _ _ => nF
  refine hQ _ ?ys _ _ ?st fF ?hn
  case hn => exact nF
  case st => exact List.forall_mem_cons.mpr ⟨.i0 _, List.forall_mem_cons.mpr ⟨.i3 _, List.forall_mem_cons.mpr ⟨.im _, List.forall_mem_cons.mpr ⟨.s _, List.forall_mem_nil _⟩⟩⟩⟩
end
end Mine
end

section
open PySem PySem.W PyProof.Rows
set_option Elab.async false
set_option maxRecDepth 100000
set_option maxHeartbeats 4000000
set_option linter.unusedVariables false
namespace Mine
def NoCell (o : Obj) : Prop := ∀ v, o.data ≠ .cell v
theorem cell_ne {h₀ h : Heap} {L a b : Addr} {news : List (Addr × Obj)} {o o2 : Obj} {v : Option Value} (N : News h₀ L h news) (h1 : (a, o) ∈ news) (h2 : (b, o2) ∈ news) (d : o2.data = .cell v) (nc : NoCell o) : a ≠ b := news_ne N h1 h2 (by rw [d]; exact nc v)
theorem ncL (xs : Array Value) (n : Nat) : NoCell (W.listOf xs n) := fun v => nofun
theorem ncT (ps : Array Value) : NoCell (tabObj ps) := fun v => nofun
theorem seq_ne_tab (xs : Array Value) (n : Nat) (ps : Array Value) : (W.listOf xs n).data ≠ (tabObj ps).data := nofun
theorem cut11 {l : List Stmt} : l = l.take 2 ++ ((l.drop 2).take 1 ++ ((l.drop 3).take 1 ++ ((l.drop 4).take 1 ++ ((l.drop 5).take 1 ++ ((l.drop 6).take 1 ++ ((l.drop 7).take 1 ++ ((l.drop 8).take 1 ++ ((l.drop 9).take 1 ++ l.drop 10)))))))) := by
  have key : ∀ n k, (l.drop n).take k ++ l.drop (n + k) = l.drop n := fun n k => by rw [← List.drop_drop, List.take_append_drop]
  rw [key 9 1, key 8 1, key 7 1, key 6 1, key 5 1, key 4 1, key 3 1, key 2 1, List.take_append_drop]
structure HSt where
  c2 : Obj
  c4 : Obj
  c5 : Obj
  c6 : Obj
  ps : Array Value
  codes : List (Addr × Obj)
/-- the codes that the law has made -/
structure CodesOk (ps : Array Value) (codes : List (Addr × Obj)) : Prop where
  tab : TabOk 85 lamQ ps codes
  data : ∀ q ∈ codes, CodeO q.2
  off : ∀ q ∈ codes, q.1 ≠ 85
theorem CodesOk.more {ps ps' : Array Value} {codes : List (Addr × Obj)} {c : Addr} {oc : Obj} (h : CodesOk ps codes) (ht : TabOk 85 lamQ ps' ((c, oc) :: codes)) (hd : CodeO oc) (hn : c ≠ 85) : CodesOk ps' ((c, oc) :: codes) :=
  ⟨ht, fun q hq => by rcases List.mem_cons.mp hq with rfl | hq; exact hd; exact h.data q hq, fun q hq => by rcases List.mem_cons.mp hq with rfl | hq; exact hn; exact h.off q hq⟩
theorem CodesOk.more2 {ps ps' : Array Value} {codes : List (Addr × Obj)} {c c' : Addr} {oc oc' : Obj} (h : CodesOk ps codes) (ht : TabOk 85 lamQ ps' ((c', oc') :: (c, oc) :: codes)) (hd : CodeO oc) (hn : c ≠ 85) (hd' : CodeO oc') (hn' : c' ≠ 85) : CodesOk ps' ((c', oc') :: (c, oc) :: codes) :=
  ⟨ht, fun q hq => by
    rcases List.mem_cons.mp hq with rfl | hq
    · exact hd'
    · rcases List.mem_cons.mp hq with rfl | hq
      · exact hd
      · exact h.data q hq, fun q hq => by
    rcases List.mem_cons.mp hq with rfl | hq
    · exact hn'
    · rcases List.mem_cons.mp hq with rfl | hq
      · exact hn
      · exact h.off q hq⟩
theorem CodesOk.nc {ps : Array Value} {codes : List (Addr × Obj)} (h : CodesOk ps codes) : ∀ q ∈ codes, NoCell q.2 := fun q hq v e => by
  obtain ⟨vs, t, hv, _⟩ := h.data q hq
  rw [hv] at e; cases e
theorem CodeO.nc {oc : Obj} (h : CodeO oc) : NoCell oc := fun v e => by
  obtain ⟨vs, t, hv, _⟩ := h
  rw [hv] at e; cases e
theorem code_iter {oc oI : Obj} {D : Addr} {i : Nat} (h : CodeO oc) (hO : iterObj oI D i) : oc.data ≠ oI.data := fun e => by
  obtain ⟨vs, t, h1, h2⟩ := h
  rw [h1, hO.2] at e
  cases e
  cases h2
section

theorem hand_loop {w : World} {p : Program} {loose : List Str} {mean : ExcName → Option Value} {mg mb : Str → Option Value} {h₀ : Heap} {L fa : Nat} {s : Shared} {Q : Flow → Shared → Prop} {E : Value → Shared → Prop}
   {u : Str → Option Value} {aN aT aK aP aM aU aF aL aD : Nat} {lo hi : Int} {tl thi : Tok} {c1 c3 : Obj} {x₀ : HSt} {v2 v4 v5 v6 : Option Value} {dv mv pv tv lv kv nv : List Value} {dn mn pn tn ln kn nn : Nat} {TL : List Str} {NL : List Nm}
   (B : Below callerA h₀ [] h₀) (X : (hd.heap_39 w.params).In h₀) (T : Top p loose mean mg mb h₀) (C : CodeHd h₀ 87 85) (h85 : 85 < L)
   (F : Fr h₀ L s.heap (kstB u (nmP aN aT aK aP aM aU aF aL lo tl)))
   (N : News h₀ L s.heap ((L + 1 + 1, x₀.c2) :: (L + 1 + 1 + 1 + 1, x₀.c4) :: (L + 1 + 1 + 1 + 1 + 1, x₀.c5) :: (L + 1 + 1 + 1 + 1 + 1 + 1, x₀.c6) :: (85, tabObj x₀.ps) :: (aM, W.listOf mv.toArray mn) :: (aP, W.listOf pv.toArray pn) :: (aD, W.listOf dv.toArray dn) :: (aK, W.listOf kv.toArray kn) :: (aT, W.listOf tv.toArray tn) :: (aN, W.listOf nv.toArray nn) :: (aL, W.listOf lv.toArray ln) :: (aU, W.listOf #[.ref 48, .ref 30] 0) :: (aF, W.listOf #[.ref 57, .ref 39] 0) :: (L + 1, c1) :: (L + 1 + 1 + 1, c3) :: x₀.codes))
   (d1 : c1.data = .cell (some (.ref aD))) (d3 : c3.data = .cell (some (.int hi thi))) (d2₀ : x₀.c2.data = .cell v2) (d4₀ : x₀.c4.data = .cell v4) (d5₀ : x₀.c5.data = .cell v5) (d6₀ : x₀.c6.data = .cell v6) (cod₀ : CodesOk x₀.ps x₀.codes) (hb : AllBare s.gens)
   (oM : L + 6 < aM) (oP : L + 6 < aP) (oD : L + 6 < aD) (oK : L + 6 < aK) (oT : L + 6 < aT) (oN : L + 6 < aN) (oL : aL ≠ 85) (oU : L + 6 < aU) (oF : L + 6 < aF)
   (sd : StrsAre dv TL) (st : StrsAre tv TL) (sl : StrsAre lv (TL.map letterOf)) (sk : NmsAre kv NL) (sn : NmsAre nv NL) (sm : StrsAre mv (restored (Str.ofString "- ") TL)) (sp : StrsAre pv (restored (Str.ofString "+ ") TL))
   (hdl : ∀ l ∈ TL, l.length ≤ 100) (okT : ∀ l ∈ TL, okS l) (okN : ∀ n ∈ NL, n.small) (hz : TL.length < 900) (hzN : NL.length = TL.length) (so : SortedBy StrLt letterOf TL) (soN : SortedBy (fun a b : Int => decide (a < b)) Nm.val NL)
   (b0 : 0 ≤ lo) (b1 : lo ≤ hi) (b2 : hi ≤ TL.length)
   (hE : PassesOwn (model PySem.Challenge.rw_nb0156_01.row.prog w) (lawA L fa) (lawE L fa) E)
   (hQ : ∀ (x : HSt) v4' v6' h' tk' g' u', x.c4.data = .cell v4' → x.c6.data = .cell v6' → CodesOk x.ps x.codes → AllBare g' → Fr h₀ L h' (kstB u' (nmP aN aT aK aP aM aU aF aL lo tl)) →
     News h₀ L h' ((L + 1 + 1, x.c2) :: (L + 1 + 1 + 1 + 1, x.c4) :: (L + 1 + 1 + 1 + 1 + 1, x.c5) :: (L + 1 + 1 + 1 + 1 + 1 + 1, x.c6) :: (85, tabObj x.ps) :: (aM, W.listOf mv.toArray mn) :: (aP, W.listOf pv.toArray pn) :: (aD, W.listOf dv.toArray dn) :: (aK, W.listOf kv.toArray kn) :: (aT, W.listOf tv.toArray tn) :: (aN, W.listOf nv.toArray nn) :: (aL, W.listOf lv.toArray ln) :: (aU, W.listOf #[.ref 48, .ref 30] 0) :: (aF, W.listOf #[.ref 57, .ref 39] 0) :: (L + 1, c1) :: (L + 1 + 1 + 1, c3) :: x.codes) → Q .next { s with heap := h', toks := tk', gens := g' }) :
   wpAny (model PySem.Challenge.rw_nb0156_01.row.prog w) (lawA L fa) (execs ((lawB.drop 17).take 1) (lawE L fa)) Q E s := by
  obtain ⟨p1, it, fp, e, ei⟩ : ∃ p1 it fp, (lawB.drop 17).take 1 = [.For (.Name (Str.ofString "hand") p1) it hndB [] fp] ∧ it = forI (lawB.getD 17 default) := ⟨_, _, _, rfl, rfl⟩
  rw [e]
  refine wpAny_execs_cons ?_
  refine for_led2 (h₀ := h₀) (L := L) (σ := HSt) (fun _ x => (L + 1 + 1, x.c2) :: (L + 1 + 1 + 1 + 1, x.c4) :: (L + 1 + 1 + 1 + 1 + 1, x.c5) :: (L + 1 + 1 + 1 + 1 + 1 + 1, x.c6) :: (85, tabObj x.ps) :: (aM, W.listOf mv.toArray mn) :: (aP, W.listOf pv.toArray pn) :: (aD, W.listOf dv.toArray dn) :: (aK, W.listOf kv.toArray kn) :: (aT, W.listOf tv.toArray tn) :: (aN, W.listOf nv.toArray nn) :: (aL, W.listOf lv.toArray ln) :: (aU, W.listOf #[.ref 48, .ref 30] 0) :: (aF, W.listOf #[.ref 57, .ref 39] 0) :: (L + 1, c1) :: (L + 1 + 1 + 1, c3) :: x.codes)
    (fun items i x m => (∃ t1 t2, items = [.int 0 t1, .int 1 t2]) ∧ (∃ v, x.c2.data = .cell v) ∧ (∃ v, x.c4.data = .cell v) ∧ (∃ v, x.c5.data = .cell v) ∧ (∃ v, x.c6.data = .cell v) ∧ CodesOk x.ps x.codes ∧ ∃ u', m = kstB u' (nmP aN aT aK aP aM aU aF aL lo tl)) rfl (fun x => by rw [ei]; rfl) ?_ ?_ ?_ hE
  · refine eval_hands ei X T F N ?_
    intro D t1 t2 h' tk' F' N'
    exact ⟨_, D, 0, x₀, _, h', tk', s.gens, rfl, rfl, hb, F', N', ⟨t1, t2, rfl⟩, ⟨_, d2₀⟩, ⟨_, d4₀⟩, ⟨_, d5₀⟩, ⟨_, d6₀⟩, cod₀, _, rfl⟩
  · intro items D It i v x m h' tk' g' oI c hi' hv hI hb' F' N' hO hne hq P hP
    obtain ⟨⟨t1, t2, hit⟩, ⟨v2', d2⟩, ⟨v4', d4⟩, ⟨v5', d5⟩, ⟨v6', d6⟩, cod, u', rfl⟩ := hI
    obtain ⟨hand, th, rfl⟩ : ∃ hand th, v = .int (handI hand) th := by
      subst hit
      match i, hi' with
      | 0, _ => exact ⟨false, t1, by simpa [handI] using hv.symm⟩
      | 1, _ => exact ⟨true, t2, by simpa [handI] using hv.symm⟩
      | i + 2, hi' => exact absurd hi' (by simp)
    have ncI : NoCell oI := fun v => by rw [hO.2]; nofun
    have ncC := cod.nc
    have hcod85 := cod.off
    have i85 : It ≠ 85 := Ne.symm (hq _ (.tail _ (.tail _ (.tail _ (.tail _ (.head _))))))
    have hz3 : TL.length < 1000 := by omega
    have hzN9 : NL.length < 900 := by omega
    have hzN3 : NL.length < 1000 := by omega
    have b3 : hi ≤ NL.length := by omega
    have ldv := sd.length
    have lkv := sk.length
    refine wpAny_assign_Name (storeX_L F' N' (fun h₁ F₁ N₁ => ?_) rfl rfl)
    rw [cut11 (l := hndB)]
    have nI2 := cell_ne N₁ (mem_ix 0 rfl) (mem_ix 2 rfl) d2 ncI
    have nQ2 := cell_ne N₁ (mem_ix 1 rfl) (mem_ix 2 rfl) d2 (ncL _ _)
    have nL2 := cell_ne N₁ (mem_ix 13 rfl) (mem_ix 2 rfl) d2 (ncL _ _)
    have nC2 : ∀ q ∈ x.codes, q.1 ≠ L + 1 + 1 := fun q h => cell_ne N₁ (a := q.1) (o := q.2) (mem_at 18 rfl h) (mem_ix 2 rfl) d2 (ncC q h)
    have nI4 := cell_ne N₁ (mem_ix 0 rfl) (mem_ix 3 rfl) d4 ncI
    have nQ4 := cell_ne N₁ (mem_ix 1 rfl) (mem_ix 3 rfl) d4 (ncL _ _)
    have nL4 := cell_ne N₁ (mem_ix 13 rfl) (mem_ix 3 rfl) d4 (ncL _ _)
    have nC4 : ∀ q ∈ x.codes, q.1 ≠ L + 1 + 1 + 1 + 1 := fun q h => cell_ne N₁ (a := q.1) (o := q.2) (mem_at 18 rfl h) (mem_ix 3 rfl) d4 (ncC q h)
    have nI5 := cell_ne N₁ (mem_ix 0 rfl) (mem_ix 4 rfl) d5 ncI
    have nQ5 := cell_ne N₁ (mem_ix 1 rfl) (mem_ix 4 rfl) d5 (ncL _ _)
    have nL5 := cell_ne N₁ (mem_ix 13 rfl) (mem_ix 4 rfl) d5 (ncL _ _)
    have nC5 : ∀ q ∈ x.codes, q.1 ≠ L + 1 + 1 + 1 + 1 + 1 := fun q h => cell_ne N₁ (a := q.1) (o := q.2) (mem_at 18 rfl h) (mem_ix 4 rfl) d5 (ncC q h)
    have nI6 := cell_ne N₁ (mem_ix 0 rfl) (mem_ix 5 rfl) d6 ncI
    have nQ6 := cell_ne N₁ (mem_ix 1 rfl) (mem_ix 5 rfl) d6 (ncL _ _)
    have nL6 := cell_ne N₁ (mem_ix 13 rfl) (mem_ix 5 rfl) d6 (ncL _ _)
    have nC6 : ∀ q ∈ x.codes, q.1 ≠ L + 1 + 1 + 1 + 1 + 1 + 1 := fun q h => cell_ne N₁ (a := q.1) (o := q.2) (mem_at 18 rfl h) (mem_ix 5 rfl) d6 (ncC q h)
    have nQ85 : D ≠ 85 := news_ne N₁ (mem_ix 1 rfl) (mem_ix 6 rfl) (seq_ne_tab _ _ _)
    have N2 : News h₀ L h₁ ((L + 1 + 1, x.c2) :: (L + 1 + 1 + 1 + 1 + 1, x.c5) :: (aU, W.listOf #[.ref 48, .ref 30] 0) :: (aF, W.listOf #[.ref 57, .ref 39] 0) :: (It, oI) :: (D, W.listOf items.toArray c) :: (L + 1 + 1 + 1 + 1, x.c4) :: (L + 1 + 1 + 1 + 1 + 1 + 1, x.c6) :: (85, tabObj x.ps) :: (aM, W.listOf mv.toArray mn) :: (aP, W.listOf pv.toArray pn) :: (aD, W.listOf dv.toArray dn) :: (aK, W.listOf kv.toArray kn) :: (aT, W.listOf tv.toArray tn) :: (aN, W.listOf nv.toArray nn) :: (aL, W.listOf lv.toArray ln) :: (L + 1, c1) :: (L + 1 + 1 + 1, c3) :: x.codes) := news_pick [2, 4, 14, 15, 0, 1, 3, 5, 6, 7, 8, 9, 10, 11, 12, 13, 16, 17] 18 N₁ rfl
    refine execs_app (set_fp (s := { s with heap := h₁, toks := tk' + 1, gens := g' }) B X T h85 (frame_as _ F₁ (by dsimp only [nmP]; kst_all)) N2 d2 d5 oU oF (off_cons nI2 (off_cons nQ2 (off_cons nc42 (off_cons nc62 (off_cons (z2 h85) (off_cons (far2 oM) (off_cons (far2 oP) (off_cons (far2 oD) (off_cons (far2 oK) (off_cons (far2 oT) (off_cons (far2 oN) (off_cons nL2 (off_cons nc12 (off_cons nc32 (nC2))))))))))))))) (off_cons nI5 (off_cons nQ5 (off_cons nc45 (off_cons nc65 (off_cons (z5 h85) (off_cons (far5 oM) (off_cons (far5 oP) (off_cons (far5 oD) (off_cons (far5 oK) (off_cons (far5 oT) (off_cons (far5 oN) (off_cons nL5 (off_cons nc15 (off_cons nc35 (nC5))))))))))))))) ?_)
    intro c2' c5' h2 tk2 d2' d5' F2 N3
    dsimp only
    have N4 : News h₀ L h2 ((L + 1 + 1 + 1 + 1 + 1 + 1, x.c6) :: (L + 1 + 1 + 1 + 1, x.c4) :: (aL, W.listOf lv.toArray ln) :: (aD, W.listOf dv.toArray dn) :: (aT, W.listOf tv.toArray tn) :: (aM, W.listOf mv.toArray mn) :: (aP, W.listOf pv.toArray pn) :: (L + 1, c1) :: (L + 1 + 1, c2') :: (L + 1 + 1 + 1, c3) :: (L + 1 + 1 + 1 + 1 + 1, c5') :: (It, oI) :: (D, W.listOf items.toArray c) :: (85, tabObj x.ps) :: (aK, W.listOf kv.toArray kn) :: (aN, W.listOf nv.toArray nn) :: (aU, W.listOf #[.ref 48, .ref 30] 0) :: (aF, W.listOf #[.ref 57, .ref 39] 0) :: x.codes) := news_pick [7, 6, 15, 11, 13, 9, 10, 16, 0, 17, 1, 4, 5, 8, 12, 14, 2, 3] 18 N3 rfl
    refine execs_app (let_loop (s := { s with heap := h2, toks := tk2, gens := g' }) B X T h85 (frame_as (nmH aN aT aK aP aM aU aF aL lo tl hand th) F2 (by dsimp only [nmH, nmP]; kst_all)) N4 d1 d2' d3 d4 d5' d6 hb' oD (off_cons nL4 (off_cons (far4 oD) (off_cons (far4 oT) (off_cons (far4 oM) (off_cons (far4 oP) (off_cons nc14 (off_cons nc24 (off_cons nc34 (off_cons nc54 (off_cons nI4 (off_cons nQ4 (off_cons (z4 h85) (off_cons (far4 oK) (off_cons (far4 oN) (off_cons (far4 oU) (off_cons (far4 oF) (nC4))))))))))))))))) (off_cons nL6 (off_cons (far6 oD) (off_cons (far6 oT) (off_cons (far6 oM) (off_cons (far6 oP) (off_cons nc16 (off_cons nc26 (off_cons nc36 (off_cons nc56 (off_cons nI6 (off_cons nQ6 (off_cons (z6 h85) (off_cons (far6 oK) (off_cons (far6 oN) (off_cons (far6 oU) (off_cons (far6 oF) (nC6))))))))))))))))) sd st sl sm sp hdl okT hz so b0 b1 b2 hE ?_)
    intro c4' v4'' c6' v6'' h3 tk3 g3 u3 d4' d6' hb3 F3 N5
    dsimp only
    have N6 : News h₀ L h3 ((L + 1 + 1 + 1 + 1, c4') :: (aK, W.listOf kv.toArray kn) :: (aN, W.listOf nv.toArray nn) :: (L + 1 + 1, c2') :: (L + 1 + 1 + 1, c3) :: (L + 1 + 1 + 1 + 1 + 1, c5') :: (It, oI) :: (D, W.listOf items.toArray c) :: (L + 1 + 1 + 1 + 1 + 1 + 1, c6') :: (85, tabObj x.ps) :: (aM, W.listOf mv.toArray mn) :: (aP, W.listOf pv.toArray pn) :: (aD, W.listOf dv.toArray dn) :: (aT, W.listOf tv.toArray tn) :: (aL, W.listOf lv.toArray ln) :: (aU, W.listOf #[.ref 48, .ref 30] 0) :: (aF, W.listOf #[.ref 57, .ref 39] 0) :: (L + 1, c1) :: x.codes) := news_pick [1, 14, 15, 8, 9, 10, 11, 12, 0, 13, 5, 6, 3, 4, 2, 16, 17, 7] 18 N5 rfl
    refine execs_app (mark_loop (s := { s with heap := h3, toks := tk3, gens := g3 }) B X T h85 F3 N6 d2' d3 d4' d5' hb3 oK (off_cons (far4 oK) (off_cons (far4 oN) (off_cons nc24 (off_cons nc34 (off_cons nc54 (off_cons nI4 (off_cons nQ4 (off_cons nc64 (off_cons (z4 h85) (off_cons (far4 oM) (off_cons (far4 oP) (off_cons (far4 oD) (off_cons (far4 oT) (off_cons nL4 (off_cons (far4 oU) (off_cons (far4 oF) (off_cons nc14 (nC4)))))))))))))))))) sk sn okN hzN9 soN b0 b1 b3 hE ?_)
    intro c4a v4a h4 tk4 g4 u4 d4a hb4 F4 N7
    dsimp only
    have N8 : News h₀ L h4 ((aK, W.listOf kv.toArray kn) :: (L + 1 + 1 + 1 + 1, c4a) :: (It, oI) :: (D, W.listOf items.toArray c) :: (L + 1 + 1, c2') :: (L + 1 + 1 + 1 + 1 + 1, c5') :: (L + 1 + 1 + 1 + 1 + 1 + 1, c6') :: (85, tabObj x.ps) :: (aM, W.listOf mv.toArray mn) :: (aP, W.listOf pv.toArray pn) :: (aD, W.listOf dv.toArray dn) :: (aT, W.listOf tv.toArray tn) :: (aN, W.listOf nv.toArray nn) :: (aL, W.listOf lv.toArray ln) :: (aU, W.listOf #[.ref 48, .ref 30] 0) :: (aF, W.listOf #[.ref 57, .ref 39] 0) :: (L + 1, c1) :: (L + 1 + 1 + 1, c3) :: x.codes) := news_pick [1, 0, 6, 7, 3, 5, 8, 9, 10, 11, 12, 13, 2, 14, 15, 16, 17, 4] 18 N7 rfl
    refine execs_app (page_4 (s := { s with heap := h4, toks := tk4, gens := g4 }) B X T h85 (frame_as _ F4 (by dsimp only [nmH, nmP]; kst_all)) N8 d4a oK (off_cons nI4 (off_cons nQ4 (off_cons nc24 (off_cons nc54 (off_cons nc64 (off_cons (z4 h85) (off_cons (far4 oM) (off_cons (far4 oP) (off_cons (far4 oD) (off_cons (far4 oT) (off_cons (far4 oN) (off_cons nL4 (off_cons (far4 oU) (off_cons (far4 oF) (off_cons nc14 (off_cons nc34 (nC4))))))))))))))))) (Nat.lt_of_le_of_lt (Nat.le_of_eq lkv) hzN3) ?_)
    intro aG gn c4b h5 tk5 d4b F5 N9
    dsimp only
    have nG85 : aG ≠ 85 := news_ne N9 (.head _) (mem_ix 8 rfl) (seq_ne_tab _ _ _)
    have N10 : News h₀ L h5 ((85, tabObj x.ps) :: (L + 1 + 1, c2') :: (L + 1 + 1 + 1 + 1, c4b) :: (L + 1 + 1 + 1 + 1 + 1, c5') :: (It, oI) :: (D, W.listOf items.toArray c) :: (aG, W.listOf kv.toArray gn) :: (L + 1 + 1 + 1 + 1 + 1 + 1, c6') :: (aM, W.listOf mv.toArray mn) :: (aP, W.listOf pv.toArray pn) :: (aD, W.listOf dv.toArray dn) :: (aK, W.listOf kv.toArray kn) :: (aT, W.listOf tv.toArray tn) :: (aN, W.listOf nv.toArray nn) :: (aL, W.listOf lv.toArray ln) :: (aU, W.listOf #[.ref 48, .ref 30] 0) :: (aF, W.listOf #[.ref 57, .ref 39] 0) :: (L + 1, c1) :: (L + 1 + 1 + 1, c3) :: x.codes) := news_pick [8, 5, 2, 6, 3, 4, 0, 7, 9, 10, 11, 1, 12, 13, 14, 15, 16, 17, 18] 19 N9 rfl
    refine execs_app (ref_5 (s := { s with heap := h5, toks := tk5, gens := g4 }) B X T C h85 hb4 F5 N10 d2' d4b d5' (off_cons i85 (off_cons nQ85 (off_cons nG85 (off_cons (y6 h85) (off_cons (far85 h85 oM) (off_cons (far85 h85 oP) (off_cons (far85 h85 oD) (off_cons (far85 h85 oK) (off_cons (far85 h85 oT) (off_cons (far85 h85 oN) (off_cons oL (off_cons (far85 h85 oU) (off_cons (far85 h85 oF) (off_cons (y1 h85) (off_cons (y3 h85) (cod.off)))))))))))))))) cod.tab (fun q hq => mem_at 15 rfl hq) ?_)
    intro c9 oc9 c8 oc8 h6 tk6 g6 ps6 hd9 nc9 hd8 nc8 hb6 F6 N11 ht6
    dsimp only
    have cod6 := cod.more2 ht6 hd9 nc9 hd8 nc8
    have nc84 := cell_ne N11 (mem_ix 0 rfl) (mem_ix 4 rfl) d4b hd8.nc
    have nc94 := cell_ne N11 (mem_ix 1 rfl) (mem_ix 4 rfl) d4b hd9.nc
    have N12 : News h₀ L h6 ((aG, W.listOf kv.toArray gn) :: (aN, W.listOf nv.toArray nn) :: (L + 1 + 1 + 1 + 1, c4b) :: (It, oI) :: (D, W.listOf items.toArray c) :: (L + 1 + 1, c2') :: (L + 1 + 1 + 1 + 1 + 1, c5') :: (L + 1 + 1 + 1 + 1 + 1 + 1, c6') :: (85, tabObj ps6) :: (aM, W.listOf mv.toArray mn) :: (aP, W.listOf pv.toArray pn) :: (aD, W.listOf dv.toArray dn) :: (aK, W.listOf kv.toArray kn) :: (aT, W.listOf tv.toArray tn) :: (aL, W.listOf lv.toArray ln) :: (aU, W.listOf #[.ref 48, .ref 30] 0) :: (aF, W.listOf #[.ref 57, .ref 39] 0) :: (L + 1, c1) :: (L + 1 + 1 + 1, c3) :: (c8, oc8) :: (c9, oc9) :: x.codes) := news_pick [8, 15, 4, 6, 7, 3, 5, 9, 2, 10, 11, 12, 13, 14, 16, 17, 18, 19, 20, 0, 1] 21 N11 rfl
    refine execs_app (same_6 (s := { s with heap := h6, toks := tk6, gens := g6 }) B X T (frame_as _ F6 (by dsimp only [nmH, nmP]; kst_all)) N12 d4b sk sn okN hzN3 ?_)
    intro h7 tk7 F7 N13
    dsimp only
    have N14 : News h₀ L h7 ((aD, W.listOf dv.toArray dn) :: (L + 1, c1) :: (L + 1 + 1 + 1 + 1, c4b) :: (It, oI) :: (D, W.listOf items.toArray c) :: (L + 1 + 1, c2') :: (L + 1 + 1 + 1 + 1 + 1, c5') :: (L + 1 + 1 + 1 + 1 + 1 + 1, c6') :: (85, tabObj ps6) :: (aM, W.listOf mv.toArray mn) :: (aP, W.listOf pv.toArray pn) :: (aK, W.listOf kv.toArray kn) :: (aT, W.listOf tv.toArray tn) :: (aN, W.listOf nv.toArray nn) :: (aL, W.listOf lv.toArray ln) :: (aU, W.listOf #[.ref 48, .ref 30] 0) :: (aF, W.listOf #[.ref 57, .ref 39] 0) :: (L + 1 + 1 + 1, c3) :: (c8, oc8) :: (c9, oc9) :: x.codes) := news_pick [11, 17, 2, 3, 4, 5, 6, 7, 8, 9, 10, 12, 13, 1, 14, 15, 16, 18, 19, 20] 21 N13 rfl
    refine execs_app (page_7 (s := { s with heap := h7, toks := tk7, gens := g6 }) B X T h85 F7 N14 d4b d1 oD (off_cons nI4 (off_cons nQ4 (off_cons nc24 (off_cons nc54 (off_cons nc64 (off_cons (z4 h85) (off_cons (far4 oM) (off_cons (far4 oP) (off_cons (far4 oK) (off_cons (far4 oT) (off_cons (far4 oN) (off_cons nL4 (off_cons (far4 oU) (off_cons (far4 oF) (off_cons nc34 (off_cons nc84 (off_cons nc94 (nC4)))))))))))))))))) (Nat.lt_of_le_of_lt (Nat.le_of_eq ldv) hz3) ?_)
    intro aG' gn' c4c h8 tk8 d4c F8 N15
    dsimp only
    have nG85 : aG' ≠ 85 := news_ne N15 (.head _) (mem_ix 9 rfl) (seq_ne_tab _ _ _)
    have N16 : News h₀ L h8 ((85, tabObj ps6) :: (L + 1 + 1, c2') :: (L + 1 + 1 + 1, c3) :: (L + 1 + 1 + 1 + 1, c4c) :: (It, oI) :: (D, W.listOf items.toArray c) :: (aG', W.listOf dv.toArray gn') :: (L + 1 + 1 + 1 + 1 + 1, c5') :: (L + 1 + 1 + 1 + 1 + 1 + 1, c6') :: (aM, W.listOf mv.toArray mn) :: (aP, W.listOf pv.toArray pn) :: (aD, W.listOf dv.toArray dn) :: (aK, W.listOf kv.toArray kn) :: (aT, W.listOf tv.toArray tn) :: (aN, W.listOf nv.toArray nn) :: (aL, W.listOf lv.toArray ln) :: (aU, W.listOf #[.ref 48, .ref 30] 0) :: (aF, W.listOf #[.ref 57, .ref 39] 0) :: (L + 1, c1) :: (c8, oc8) :: (c9, oc9) :: x.codes) := news_pick [9, 6, 18, 3, 4, 5, 0, 7, 8, 10, 11, 1, 12, 13, 14, 15, 16, 17, 2, 19, 20] 21 N15 rfl
    refine execs_app (ref_8 (s := { s with heap := h8, toks := tk8, gens := g6 }) B X T C h85 hb6 F8 N16 d2' d3 d4c (off_cons i85 (off_cons nQ85 (off_cons nG85 (off_cons (y5 h85) (off_cons (y6 h85) (off_cons (far85 h85 oM) (off_cons (far85 h85 oP) (off_cons (far85 h85 oD) (off_cons (far85 h85 oK) (off_cons (far85 h85 oT) (off_cons (far85 h85 oN) (off_cons oL (off_cons (far85 h85 oU) (off_cons (far85 h85 oF) (off_cons (y1 h85) (cod6.off)))))))))))))))) cod6.tab (fun q hq => mem_at 15 rfl hq) ?_)
    intro c7 oc7 h9 tk9 g9 ps9 hd7 nc7 hb9 F9 N17 ht9
    dsimp only
    have cod9 := cod6.more ht9 hd7 nc7
    have N18 : News h₀ L h9 ((85, tabObj ps9) :: (L + 1 + 1 + 1, c3) :: (L + 1 + 1 + 1 + 1, c4c) :: (L + 1 + 1 + 1 + 1 + 1, c5') :: (It, oI) :: (D, W.listOf items.toArray c) :: (aG', W.listOf dv.toArray gn') :: (L + 1 + 1, c2') :: (L + 1 + 1 + 1 + 1 + 1 + 1, c6') :: (aM, W.listOf mv.toArray mn) :: (aP, W.listOf pv.toArray pn) :: (aD, W.listOf dv.toArray dn) :: (aK, W.listOf kv.toArray kn) :: (aT, W.listOf tv.toArray tn) :: (aN, W.listOf nv.toArray nn) :: (aL, W.listOf lv.toArray ln) :: (aU, W.listOf #[.ref 48, .ref 30] 0) :: (aF, W.listOf #[.ref 57, .ref 39] 0) :: (L + 1, c1) :: (c7, oc7) :: (c8, oc8) :: (c9, oc9) :: x.codes) := news_pick [1, 3, 4, 8, 5, 6, 7, 2, 9, 10, 11, 12, 13, 14, 15, 16, 17, 18, 19, 0, 20, 21] 22 N17 rfl
    refine execs_app (ref_9 (s := { s with heap := h9, toks := tk9, gens := g9 }) B X T C h85 hb9 F9 N18 d3 d4c d5' (off_cons i85 (off_cons nQ85 (off_cons nG85 (off_cons (y2 h85) (off_cons (y6 h85) (off_cons (far85 h85 oM) (off_cons (far85 h85 oP) (off_cons (far85 h85 oD) (off_cons (far85 h85 oK) (off_cons (far85 h85 oT) (off_cons (far85 h85 oN) (off_cons oL (off_cons (far85 h85 oU) (off_cons (far85 h85 oF) (off_cons (y1 h85) (cod9.off)))))))))))))))) cod9.tab (fun q hq => mem_at 15 rfl hq) ?_)
    intro c6x oc6 ha tka ga psa hd6x nc6 hba Fa N19 hta
    dsimp only
    have coda := cod9.more hta hd6x nc6
    have N20 : News h₀ L ha ((aG', W.listOf dv.toArray gn') :: (aT, W.listOf tv.toArray tn) :: (L + 1 + 1 + 1 + 1, c4c) :: (It, oI) :: (D, W.listOf items.toArray c) :: (L + 1 + 1, c2') :: (L + 1 + 1 + 1 + 1 + 1, c5') :: (L + 1 + 1 + 1 + 1 + 1 + 1, c6') :: (85, tabObj psa) :: (aM, W.listOf mv.toArray mn) :: (aP, W.listOf pv.toArray pn) :: (aD, W.listOf dv.toArray dn) :: (aK, W.listOf kv.toArray kn) :: (aN, W.listOf nv.toArray nn) :: (aL, W.listOf lv.toArray ln) :: (aU, W.listOf #[.ref 48, .ref 30] 0) :: (aF, W.listOf #[.ref 57, .ref 39] 0) :: (L + 1, c1) :: (L + 1 + 1 + 1, c3) :: (c6x, oc6) :: (c7, oc7) :: (c8, oc8) :: (c9, oc9) :: x.codes) := news_pick [7, 14, 3, 5, 6, 8, 4, 9, 1, 10, 11, 12, 13, 15, 16, 17, 18, 19, 2, 0, 20, 21, 22] 23 N19 rfl
    refine same_10 (s := { s with heap := ha, toks := tka, gens := ga }) B X T (frame_as _ Fa (by dsimp only [nmH, nmP]; kst_all)) N20 d4c sd st okT ?_
    intro hb_ tkb Fb N21
    have N22 : News h₀ L hb_ ((It, oI) :: (D, W.listOf items.toArray c) :: (L + 1 + 1, c2') :: (L + 1 + 1 + 1 + 1, c4c) :: (L + 1 + 1 + 1 + 1 + 1, c5') :: (L + 1 + 1 + 1 + 1 + 1 + 1, c6') :: (85, tabObj psa) :: (aM, W.listOf mv.toArray mn) :: (aP, W.listOf pv.toArray pn) :: (aD, W.listOf dv.toArray dn) :: (aK, W.listOf kv.toArray kn) :: (aT, W.listOf tv.toArray tn) :: (aN, W.listOf nv.toArray nn) :: (aL, W.listOf lv.toArray ln) :: (aU, W.listOf #[.ref 48, .ref 30] 0) :: (aF, W.listOf #[.ref 57, .ref 39] 0) :: (L + 1, c1) :: (L + 1 + 1 + 1, c3) :: (c6x, oc6) :: (c7, oc7) :: (c8, oc8) :: (c9, oc9) :: x.codes) := news_pick [3, 4, 5, 2, 6, 7, 8, 9, 10, 11, 12, 1, 13, 14, 15, 16, 17, 18, 19, 20, 21, 22] 23 N21 rfl
    have kc6 := news_ne N22 (mem_ix 18 rfl) (.head _) (code_iter hd6x hO)
    have kc7 := news_ne N22 (mem_ix 19 rfl) (.head _) (code_iter hd7 hO)
    have kc8 := news_ne N22 (mem_ix 20 rfl) (.head _) (code_iter hd8 hO)
    have kc9 := news_ne N22 (mem_ix 21 rfl) (.head _) (code_iter hd9 hO)
    exact hP _ ⟨⟨c2', c4c, c5', c6', psa, (c6x, oc6) :: (c7, oc7) :: (c8, oc8) :: (c9, oc9) :: x.codes⟩, _, hb_, tkb, ga, oI, c, rfl, hba, frame_as (nmP aN aT aK aP aM aU aF aL lo tl) Fb (by dsimp only [nmH, nmP]; kst_all), N22, ⟨⟨t1, t2, hit⟩, ⟨_, d2'⟩, ⟨_, d4c⟩, ⟨_, d5'⟩, ⟨_, d6'⟩, coda, _, rfl⟩, hO, hne, off_cons (hq _ (mem_ix 0 rfl)) (off_cons (hq _ (mem_ix 1 rfl)) (off_cons (hq _ (mem_ix 2 rfl)) (off_cons (hq _ (mem_ix 3 rfl)) (off_cons (hq _ (mem_ix 4 rfl)) (off_cons (hq _ (mem_ix 5 rfl)) (off_cons (hq _ (mem_ix 6 rfl)) (off_cons (hq _ (mem_ix 7 rfl)) (off_cons (hq _ (mem_ix 8 rfl)) (off_cons (hq _ (mem_ix 9 rfl)) (off_cons (hq _ (mem_ix 10 rfl)) (off_cons (hq _ (mem_ix 11 rfl)) (off_cons (hq _ (mem_ix 12 rfl)) (off_cons (hq _ (mem_ix 13 rfl)) (off_cons (hq _ (mem_ix 14 rfl)) (off_cons (hq _ (mem_ix 15 rfl)) (off_cons kc6 (off_cons kc7 (off_cons kc8 (off_cons kc9 (fun q h => hq q (mem_at 16 rfl h)))))))))))))))))))))⟩
  · intro items x m h' tk' g' hI hb' F' N'
    obtain ⟨_, _, ⟨v4', d4'⟩, _, ⟨v6', d6'⟩, cod, u', rfl⟩ := hI
    exact wpAny_execs_nil (hQ x v4' v6' h' tk' g' u' d4' d6' cod hb' F' N')
end
end Mine
end

section
open PySem PySem.W PyProof.Rows
set_option Elab.async false
set_option maxRecDepth 100000
set_option maxHeartbeats 4000000
set_option linter.unusedVariables false
namespace Mine
theorem fillK44 (w : World) (h : Heap) (_ : (hd.heap_39 w.params).In h) : PySem.Challenge.rw_nb0156_01.row.prog = PySem.Challenge.rw_nb0156_01.row.prog ∧ (hd.heap_39 w.params) = hd.heap_39 w.params := by
  k_fill
  exact ⟨rfl, rfl⟩
section
theorem reset27 : True := by
  w_top off
  exact trivial
local macro_rules | `(tactic| walk_at "none such") => `(tactic| fail "none such")
local macro_rules | `(tactic| walk_at "call ref") => `(tactic| k_extra "restore")
local macro_rules | `(tactic| walk_at "eval Name") => `(tactic| (k_here; kc_free; k_extra "free"))
local macro_rules | `(tactic| walk_at "call type:list") => `(tactic| k_extra "list")
local macro_rules | `(tactic| walk_at "leaving ref") => `(tactic| k_extra "leave")
theorem deed_bad2 {w : World} {f c' : Nat} {news : List (Addr × Obj)} {nm qual : Str} {pm ctv : Value} {params : Arguments} {body : Expr} {scope : Scope} {clos : List (Str × Addr)} {k1 k2 : Nat} {o1 o2 : Obj} {d : Nat} {wv : Value} {oc : Obj} {vs : Array Value} {tq : Tok}
    (hw : Bad wv) (hp : params = lamP lamWhich) (hb : body = lamB lamWhich) (hs : scope = lamS lamWhich)
    (hf : (f, kla_obj nm qual params body scope clos pm c' ctv) ∈ news)
    (hc : (c', oc) ∈ news) (hcd : oc.data = .fields vs) (hcq : vs[1]? = some (.str qual tq))
    (l1 : clos.lookup (Str.ofString "delta") = some k1) (l2 : clos.lookup (Str.ofString "which") = some k2) (h1 : (k1, o1) ∈ news) (e1 : o1.data = .cell (some (.ref d))) (h2 : (k2, o2) ∈ news) (e2 : o2.data = .cell (some wv)) : SpecXG w 8 f [] [] news "ValueError" := by
  subst hp hb hs
  dsimp only [lamWhich, argOf, lamP, lamB, lamS, ifC, lawB, topS, fnB, fnS, forB, PySem.Challenge.pw_nb0156_01, List.getD, List.getElem?_cons_succ, List.getElem?_cons_zero, Option.getD_some] at hf
  intro p loose mean mg mb dp un gd cn cs a ccd cl outer A₀ base h₀ L m s Q E hbare hz XB TB B F X N T hk hr hu h
  refine wpAny_call ?_
  k_dflt (refine' kla_code ?k1 ?k2 ?k3 ?k4 ?k5 ?kA ?kF ?kK ?k6 ?k7 ?k8 ?k9 ?kB ?_ ?c2 ?c3 ?c4 ?c5; (case kA => exact rfl); (case kF => exact rfl); (case kK => exact hk); (case k1 => exact B); (case k2 => exact F); (case k3 => exact X); (case k4 => exact N); (case k5 => exact T); (case k6 => exact hf); (case k7 => exact codeRec_news N hc hcd hcq); (case k8 => ktr_room); (case k9 => exact rfl); (case c5 => decide); (case kB => exact locs rfl); (case c2 => exact rfl); (case c3 => exact rfl); (case c4 => exact rfl); k_whole)
  intro g' L' h' FG' F' N' B' X' T'
  k_with_none
  (k_with "free" => (first | (refine' nameX_F N' l1 h1 e1 ?_ rfl rfl ?b1 ?b2; (case b1 => decide); (case b2 => decide)) | (refine' nameX_F N' l2 h2 e2 ?_ rfl rfl ?b1 ?b2; (case b1 => decide); (case b2 => decide))))
  have hz' : base.objs.size ≤ g'.objs.size := Nat.le_trans hz (Nat.le_trans FG'.above (Nat.le_of_lt FG'.ns.lt))
  (k_with "restore" => ((with_unfolding_all refine' call_restore (d := d) (wv := wv) F' X' N' T' ?room hbare ?_); (case room => ktr_room); intro C9 h9 g9 tk9 F9 N9 hC9 G9; dsimp only))
  (k_with "list" => ((with_unfolding_all refine' list_bad hw ?hh ?room G9 hz' B' ?fr ?kd F9 XB TB T' N9 hC9 ?_); (case hh => rfl); (case fr => rfl); (case kd => rfl); (case room => ktr_room); intro e8 h8 tk8 g8 hb8 th8; dsimp only))
  (k_with "leave" => ((with_unfolding_all refine' leave_thrown B' th8 ?_); intro h7 R7 U7))
  k_steps
  exact h e8 h7 _ g8 hb8 ⟨g', FG', U7, R7⟩
end
theorem deed_w {w : World} {clos : List (Str × Addr)} {k1 k2 : Nat} {o1 o2 : Obj} {d : Nat} {wv : Value} (hw : Bad wv)
    (l1 : clos.lookup (Str.ofString "delta") = some k1) (e1 : o1.data = .cell (some (.ref d))) (l2 : clos.lookup (Str.ofString "which") = some k2) (e2 : o2.data = .cell (some wv)) :
    Deed w (lamP lamWhich) (lamB lamWhich) (lamS lamWhich) clos [(k1, o1), (k2, o2)] := by
  intro f c' oc vs t pm ctv nm news hf hc hcd hcq hs
  exact deed_bad2 hw rfl rfl rfl hf hc hcd hcq l1 l2 (hs _ (.head _)) e1 (hs _ (.tail _ (.head _))) e2
abbrev badB : List Stmt := forB (lawB.getD 18 default)
section
theorem reset28 : True := by
  w_top off
  exact trivial
local macro_rules | `(tactic| walk_at "eval Call") => `(tactic| k_extra "ref")
theorem bad_turn {w : World} {p : Program} {loose : List Str} {mean : ExcName → Option Value} {mg mb : Str → Option Value} {h₀ : Heap} {L fa : Nat} {s : Shared} {Q : Flow → Shared → Prop} {E : Value → Shared → Prop}
   {m : Str → Option Value} {more codes : List (Addr × Obj)} {ps : Array Value} {c1 c6 : Obj} {d : Nat} {wv : Value}
   (B : Below callerA h₀ [] h₀) (X : (hd.heap_39 w.params).In h₀) (T : Top p loose mean mg mb h₀) (C : CodeHd h₀ 87 85) (h85 : 85 < L) (hb : AllBare s.gens)
   (F : Fr h₀ L s.heap m) (N : News h₀ L s.heap ((85, tabObj ps) :: (L + 1, c1) :: (L + 1 + 1 + 1 + 1 + 1 + 1, c6) :: more))
   (d1 : c1.data = .cell (some (.ref d))) (d6 : c6.data = .cell (some wv)) (hw : Bad wv)
   (hm : ∀ q ∈ more, q.1 ≠ 85) (ht : TabOk 85 lamQ ps codes) (hsub : ∀ q ∈ codes, q ∈ more)
   (hQ : ∀ (c9 : Addr) (oc9 : Obj) h' tk' g' ps', CodeO oc9 → c9 ≠ 85 → AllBare g' → Fr h₀ L h' m → News h₀ L h' ((c9, oc9) :: (85, tabObj ps') :: (L + 1, c1) :: (L + 1 + 1 + 1 + 1 + 1 + 1, c6) :: more) → TabOk 85 lamQ ps' ((c9, oc9) :: codes) → Q .next { s with heap := h', toks := tk', gens := g' }) :
   wpAny (model PySem.Challenge.rw_nb0156_01.row.prog w) (lawA L fa) (execs badB (lawE L fa)) Q E s := by
  dsimp only [badB, hndB, lawA, lawE, lawB, lawS, topS, fnB, fnS, forB, ifE, ifT, PySem.Challenge.pw_nb0156_01, List.getD, List.getElem?_cons_succ, List.getElem?_cons_zero, Option.getD_some, List.drop, List.take]
  have nn : ∀ q ∈ (L + 1, c1) :: (L + 1 + 1 + 1 + 1 + 1 + 1, c6) :: more, q.1 ≠ 85 := off_cons (y1 h85) (off_cons (y6 h85) hm)
  have D0 := deed_w (w := w) hw (clos := [(Str.ofString "which", L + 1 + 1 + 1 + 1 + 1 + 1), (Str.ofString "delta", L + 1)]) rfl d1 rfl d6
  have cl0 : closureFor (lamS lamWhich) (lawE L fa) = pure [(Str.ofString "which", L + 1 + 1 + 1 + 1 + 1 + 1), (Str.ofString "delta", L + 1)] := rfl
  have df0 : defaultsOf (lamP lamWhich) (lawE L fa) = ([], []) := rfl
  have hc0 : ∀ (o' : Obj), ∀ q ∈ [(L + 1, c1), (L + 1 + 1 + 1 + 1 + 1 + 1, c6)], q ∈ (85, o') :: (L + 1, c1) :: (L + 1 + 1 + 1 + 1 + 1 + 1, c6) :: more := fun o' => sub_cons (mem_ix 1 rfl) (sub_cons (mem_ix 2 rfl) sub_nil)
  k_with_none
  (k_with "ref" => ((with_unfolding_all refine' ref_eval B X T C hb df0 cl0 D0 F N (.head nn) ht (fun q hq => List.Mem.tail _ (List.Mem.tail _ (List.Mem.tail _ (hsub q hq)))) hc0 ?_); intro c9 oc9 h9 tk9 g9 ps9 hb9 hd9 ne9 F9 N9 ht9))
  k_steps
  exact hQ c9 oc9 _ _ _ ps9 hd9 ne9 hb9 F9 N9 ht9
structure BSt where
  c6 : Obj
  ps : Array Value
  codes : List (Addr × Obj)
theorem bad_loop {w : World} {p : Program} {loose : List Str} {mean : ExcName → Option Value} {mg mb : Str → Option Value} {h₀ : Heap} {L fa : Nat} {s : Shared} {Q : Flow → Shared → Prop} {E : Value → Shared → Prop}
   {m : Str → Option Value} {c1 : Obj} {x₀ : BSt} {v6 : Option Value} {d : Nat}
   (B : Below callerA h₀ [] h₀) (X : (hd.heap_39 w.params).In h₀) (T : Top p loose mean mg mb h₀) (C : CodeHd h₀ 87 85) (h85 : 85 < L) (hb : AllBare s.gens)
   (F : Fr h₀ L s.heap m) (N : News h₀ L s.heap ((85, tabObj x₀.ps) :: (L + 1, c1) :: (L + 1 + 1 + 1 + 1 + 1 + 1, x₀.c6) :: x₀.codes))
   (d1 : c1.data = .cell (some (.ref d))) (d6₀ : x₀.c6.data = .cell v6) (cod₀ : CodesOk x₀.ps x₀.codes)
   (hE : PassesOwn (model PySem.Challenge.rw_nb0156_01.row.prog w) (lawA L fa) (lawE L fa) E)
   (hQ : ∀ h' tk' g' ps' m', AllBare g' → Fr h₀ L h' m' → h'.get? 85 = some (tabObj ps') → Q .next { s with heap := h', toks := tk', gens := g' }) :
   wpAny (model PySem.Challenge.rw_nb0156_01.row.prog w) (lawA L fa) (execs ((lawB.drop 18).take 1) (lawE L fa)) Q E s := by
  obtain ⟨p1, it, fp, e, ei⟩ : ∃ p1 it fp, (lawB.drop 18).take 1 = [.For (.Name (Str.ofString "which") p1) it badB [] fp] ∧ it = forI (lawB.getD 18 default) := ⟨_, _, _, rfl, rfl⟩
  rw [e]
  refine wpAny_execs_cons ?_
  refine for_led2 (h₀ := h₀) (L := L) (σ := BSt) (fun _ x => (85, tabObj x.ps) :: (L + 1, c1) :: (L + 1 + 1 + 1 + 1 + 1 + 1, x.c6) :: x.codes)
    (fun items i x m => (∀ v ∈ items, Bad v) ∧ (∃ v, x.c6.data = .cell v) ∧ CodesOk x.ps x.codes) rfl (fun x => by rw [ei]; rfl) ?_ ?_ ?_ hE
  · refine eval_bads ei X T F N ?_
    intro D ys h' tk' hy F' N'
    exact ⟨_, D, 0, x₀, _, h', tk', s.gens, rfl, rfl, hb, F', N', hy, ⟨_, d6₀⟩, cod₀⟩
  · intro items D It i v x m h' tk' g' oI c hi' hv hI hb' F' N' hO hne hq P hP
    obtain ⟨hy, ⟨v6', d6⟩, cod⟩ := hI
    have hw := hy v (List.mem_of_getElem? hv)
    have nI : It ≠ L + 1 + 1 + 1 + 1 + 1 + 1 := Ne.symm (hq _ (.tail _ (.tail _ (.head _))))
    have nD : D ≠ L + 1 + 1 + 1 + 1 + 1 + 1 := cell_ne N' (.tail _ (.head _)) (.tail _ (.tail _ (.tail _ (.tail _ (.head _))))) d6 (ncL _ _)
    have nZ : (85 : Addr) ≠ L + 1 + 1 + 1 + 1 + 1 + 1 := z6 h85
    have n1 : (L + 1 : Addr) ≠ L + 1 + 1 + 1 + 1 + 1 + 1 := nc16
    have nC : ∀ q ∈ x.codes, q.1 ≠ L + 1 + 1 + 1 + 1 + 1 + 1 := fun q hq' => cell_ne N' (a := q.1) (o := q.2) (.tail _ (.tail _ (.tail _ (.tail _ (.tail _ hq'))))) (.tail _ (.tail _ (.tail _ (.tail _ (.head _))))) d6 (cod.nc q hq')
    refine wpAny_assign_Name (storeX_C (c := L + 1 + 1 + 1 + 1 + 1 + 1) F' N' rfl (.tail nI (.tail nD (.tail nZ (.tail n1 (.head nC))))) d6 (fun h₂ o₂ F₂ N₂ d₂ => ?_) rfl rfl)
    have i85 : It ≠ 85 := Ne.symm (hq _ (.head _))
    have q85 : D ≠ 85 := news_ne N' (.tail _ (.head _)) (.tail _ (.tail _ (.head _))) (seq_ne_tab _ _ _)
    have N3 : News h₀ L h₂ ((85, tabObj x.ps) :: (L + 1, c1) :: (L + 1 + 1 + 1 + 1 + 1 + 1, o₂) :: (It, oI) :: (D, W.listOf items.toArray c) :: x.codes) := news_pick [2, 3, 4, 0, 1] 5 N₂ rfl
    refine bad_turn (s := { s with heap := h₂, toks := tk', gens := g' }) B X T C h85 hb' F₂ N3 d1 d₂ hw (off_cons i85 (off_cons q85 cod.off)) cod.tab (fun q hq => List.Mem.tail _ (List.Mem.tail _ hq)) ?_
    intro c9 oc9 h4 tk4 g4 ps4 hd9 ne9 hb4 F4 N5 ht4
    have N6 : News h₀ L h4 ((It, oI) :: (D, W.listOf items.toArray c) :: (85, tabObj ps4) :: (L + 1, c1) :: (L + 1 + 1 + 1 + 1 + 1 + 1, o₂) :: (c9, oc9) :: x.codes) := news_pick [4, 5, 1, 2, 3, 0] 6 N5 rfl
    exact hP _ ⟨⟨o₂, ps4, (c9, oc9) :: x.codes⟩, _, h4, tk4, g4, oI, c, rfl, hb4, F4, N6, ⟨hy, ⟨_, d₂⟩, cod.more ht4 hd9 ne9⟩, hO, hne, off_cons (hq _ (mem_ix 0 rfl)) (off_cons (hq _ (mem_ix 1 rfl)) (off_cons (hq _ (mem_ix 2 rfl)) (off_cons (news_ne N6 (mem_ix 5 rfl) (.head _) (code_iter hd9 hO)) fun q h => hq q (.tail _ (.tail _ (.tail _ h))))))⟩
  · intro items x m h' tk' g' hI hb' F' N'
    exact wpAny_execs_nil (hQ h' tk' g' x.ps m hb' F' (N' _ (.head _)).1)
end
end Mine
end

section
open PySem PySem.W PyProof.Rows
set_option Elab.async false
set_option maxRecDepth 100000
set_option maxHeartbeats 4000000
set_option linter.unusedVariables false
namespace Mine
theorem fillK45 (w : World) (h : Heap) (_ : (hd.heap_39 w.params).In h) : PySem.Challenge.rw_nb0156_01.row.prog = PySem.Challenge.rw_nb0156_01.row.prog ∧ (hd.heap_39 w.params) = hd.heap_39 w.params := by
  k_fill
  exact ⟨rfl, rfl⟩
theorem cut20 {l : List Stmt} : l = l.take 10 ++ ((l.drop 10).take 1 ++ ((l.drop 11).take 1 ++ ((l.drop 12).take 4 ++ ((l.drop 16).take 1 ++ ((l.drop 17).take 1 ++ ((l.drop 18).take 1 ++ l.drop 19)))))) := by
  have key : ∀ n k, (l.drop n).take k ++ l.drop (n + k) = l.drop n := fun n k => by rw [← List.drop_drop, List.take_append_drop]
  rw [key 18 1, key 17 1, key 16 1, key 12 4, key 11 1, key 10 1, List.take_append_drop]
section
theorem ret_true {w : World} {p : Program} {loose : List Str} {mean : ExcName → Option Value} {mg mb : Str → Option Value} {h₀ : Heap} {L fa : Nat} {s : Shared} {Q : Flow → Shared → Prop} {E : Value → Shared → Prop} {m : Str → Option Value}
   (X : (hd.heap_39 w.params).In h₀) (T : Top p loose mean mg mb h₀) (F : Fr h₀ L s.heap m) (N : News h₀ L s.heap [])
   (hQ : Q (.ret (.bool true)) s) :
   wpAny (model PySem.Challenge.rw_nb0156_01.row.prog w) (lawA L fa) (execs (lawB.drop 19) (lawE L fa)) Q E s := by
  dsimp only [lawA, lawE, lawB, lawS, topS, fnB, fnS, forB, ifE, ifT, PySem.Challenge.pw_nb0156_01, List.getD, List.getElem?_cons_succ, List.getElem?_cons_zero, Option.getD_some, List.drop, List.take]
  k_with_none
  k_steps
  exact hQ
end
theorem codes_nil : CodesOk #[] [] := ⟨⟨trivial, fun pos cv h => nomatch h⟩, (fun q h => nomatch h), (fun q h => nomatch h)⟩

theorem law_walk {w : World} {p : Program} {loose : List Str} {mean : ExcName → Option Value} {mg mb : Str → Option Value} {h₀ : Heap} {L fa : Nat} {s : Shared}
   {u : Str → Option Value} {c1 c2 c3 c4 c5 c6 : Obj} {sa : Nat} {vs : List Value} {ns : List Int} {v1 v2 v3 v4 v5 v6 : Option Value}
   (B : Below callerA h₀ [] h₀) (X : (hd.heap_39 w.params).In h₀) (T : Top p loose mean mg mb h₀) (C : CodeHd h₀ 87 85) (h85 : 85 < L)
   (hl : h₀.IsList sa vs.toArray) (hI : IntsAre vs ns) (hlen : ns.length ≤ 63) (hb : AllBare s.gens)
   (F : Fr h₀ L s.heap (kstB u [(Str.ofString "script", .ref sa)]))
   (N : News h₀ L s.heap [(L + 1 + 1 + 1 + 1 + 1 + 1, c6), (L + 1 + 1 + 1 + 1 + 1, c5), (L + 1 + 1 + 1 + 1, c4), (L + 1 + 1 + 1, c3), (L + 1 + 1, c2), (L + 1, c1), (85, tabObj #[])])
   (d1 : c1.data = .cell v1) (d2 : c2.data = .cell v2) (d3 : c3.data = .cell v3) (d4 : c4.data = .cell v4) (d5 : c5.data = .cell v5) (d6 : c6.data = .cell v6) :
   wpAny (model PySem.Challenge.rw_nb0156_01.row.prog w) (lawA L fa) (execs lawB (lawE L fa)) (fun f s' => f = .ret (.bool true) ∧ ∃ h' tk' g' ps', s' = { s with heap := h', toks := tk', gens := g' } ∧ AllBare g' ∧ (∀ b o, h₀.get? b = some o → h'.get? b = some o) ∧ h'.get? 85 = some (tabObj ps')) (fun _ _ => False) s := by
  rw [cut20 (l := lawB)]
  refine execs_app (law_A B X T C h85 hl hI hlen F N d1 ?_)
  intro aF aU aC aD aM aP aK aT aN aS o1 cv sv u1 h1 tk1 hcv hsv d1' q1 q2 q3 q4 q5 q6 q7 q8 q9 q10 F1 N1
  dsimp only
  refine execs_app (law_B (s := { s with heap := h1, toks := tk1 }) B X T h85 hcv hsv d1' d5 q1 q2 q3 q4 q5 q6 q7 q8 q9 q10 F1 N1 PassesOwn.never ?_)
  intro x m h2 tk2 I F2 N2
  dsimp only
  obtain ⟨⟨u2, rfl⟩, ⟨v5', d5'⟩, oT, oN, sd, st, sm, sp, sk, sn, R, lT, lN, okT, okN⟩ := I
  have hst := steps_len ns
  have hsl := hsv.length
  have hz24 : x.TL.length ≤ 24 := by omega
  have hz900 : x.TL.length < 900 := Nat.lt_of_le_of_lt hz24 (by decide)
  have hz1000 : x.TL.length < 1000 := Nat.lt_of_le_of_lt hz24 (by decide)
  have N3 : News h₀ L h2 ((x.aT, W.listOf x.tv.toArray x.tn) :: (x.aN, W.listOf x.nv.toArray x.nn) :: (aK, W.listOf x.kv.toArray x.kn) :: (aD, W.listOf x.dv.toArray x.dn) :: (L + 1, o1) :: [(aS, W.listOf sv.toArray 0), (aP, W.listOf x.pv.toArray x.pn), (aM, W.listOf x.mv.toArray x.mn), (aC, W.listOf cv.toArray 0), (aU, W.listOf #[.ref 48, .ref 30] 0), (aF, W.listOf #[.ref 57, .ref 39] 0), (L + 1 + 1 + 1 + 1 + 1 + 1, c6), (L + 1 + 1 + 1 + 1 + 1, x.c5), (L + 1 + 1 + 1 + 1, c4), (L + 1 + 1 + 1, c3), (L + 1 + 1, c2), (85, tabObj #[])]) := news_pick [0, 1, 3, 6, 15, 2, 4, 5, 7, 8, 9, 10, 11, 12, 13, 14, 16] 17 N2 rfl
  refine execs_app (law_C (s := { s with heap := h2, toks := tk2 }) B X T h85 F2 N3 d1' sd st sk sn okT okN (Nat.lt_of_le_of_lt (Nat.le_of_eq (lN.trans lT.symm)) hz1000) ?_)
  intro h3 tk3 F3 N4
  dsimp only
  have N5 : News h₀ L h3 ((x.aT, W.listOf x.tv.toArray x.tn) :: (aS, W.listOf sv.toArray 0) :: (L + 1 + 1 + 1, c3) :: [(x.aN, W.listOf x.nv.toArray x.nn), (aK, W.listOf x.kv.toArray x.kn), (aP, W.listOf x.pv.toArray x.pn), (aM, W.listOf x.mv.toArray x.mn), (aD, W.listOf x.dv.toArray x.dn), (aC, W.listOf cv.toArray 0), (aU, W.listOf #[.ref 48, .ref 30] 0), (aF, W.listOf #[.ref 57, .ref 39] 0), (L + 1 + 1 + 1 + 1 + 1 + 1, c6), (L + 1 + 1 + 1 + 1 + 1, x.c5), (L + 1 + 1 + 1 + 1, c4), (L + 1 + 1, c2), (L + 1, o1), (85, tabObj #[])]) := news_pick [0, 5, 14, 1, 2, 6, 7, 3, 8, 9, 10, 11, 12, 13, 15, 4, 16] 17 N4 rfl
  refine execs_app (law_D (s := { s with heap := h3, toks := tk3 }) B X T h85 F3 N5 d3 (Nat.lt_trans q1 (Nat.lt_trans q2 (Nat.lt_trans q3 (Nat.lt_trans q4 (Nat.lt_trans q5 (Nat.lt_trans q6 (Nat.lt_trans q7 oT))))))) (Nat.lt_trans q1 (Nat.lt_trans q2 (Nat.lt_trans q3 (Nat.lt_trans q4 (Nat.lt_trans q5 (Nat.lt_trans q6 (Nat.lt_trans q7 (Nat.lt_trans q8 (Nat.lt_trans q9 q10))))))))) (off_cons (far3 (Nat.lt_trans q1 (Nat.lt_trans q2 (Nat.lt_trans q3 (Nat.lt_trans q4 (Nat.lt_trans q5 (Nat.lt_trans q6 (Nat.lt_trans q7 oN)))))))) (off_cons (far3 (Nat.lt_trans q1 (Nat.lt_trans q2 (Nat.lt_trans q3 (Nat.lt_trans q4 (Nat.lt_trans q5 (Nat.lt_trans q6 q7))))))) (off_cons (far3 (Nat.lt_trans q1 (Nat.lt_trans q2 (Nat.lt_trans q3 (Nat.lt_trans q4 (Nat.lt_trans q5 q6)))))) (off_cons (far3 (Nat.lt_trans q1 (Nat.lt_trans q2 (Nat.lt_trans q3 (Nat.lt_trans q4 q5))))) (off_cons (far3 (Nat.lt_trans q1 (Nat.lt_trans q2 (Nat.lt_trans q3 q4)))) (off_cons (far3 (Nat.lt_trans q1 (Nat.lt_trans q2 q3))) (off_cons (far3 (Nat.lt_trans q1 q2)) (off_cons (far3 q1) (off_cons nc63 (off_cons nc53 (off_cons nc43 (off_cons nc23 (off_cons nc13 (off_cons (z3 h85) (off_nil))))))))))))))) st R.short hz24 hsv ?_)
  intro aL lv ln lo hi tl th c3' h4 tk4 u4 b0 b1 b2 sl d3' nLT nLm F4 N6
  dsimp only
  have nL85 : aL ≠ 85 := Ne.symm (nLm _ (mem_ix 13 rfl))
  have N7 : News h₀ L h4 ((L + 1 + 1 + 1 + 1 + 1 + 1, c6) :: (aM, W.listOf x.mv.toArray x.mn) :: (aP, W.listOf x.pv.toArray x.pn) :: (aD, W.listOf x.dv.toArray x.dn) :: (L + 1, o1) :: [(aL, W.listOf lv.toArray ln), (x.aT, W.listOf x.tv.toArray x.tn), (x.aN, W.listOf x.nv.toArray x.nn), (aK, W.listOf x.kv.toArray x.kn), (aU, W.listOf #[.ref 48, .ref 30] 0), (aF, W.listOf #[.ref 57, .ref 39] 0), (L + 1 + 1 + 1 + 1 + 1, x.c5), (L + 1 + 1 + 1 + 1, c4), (L + 1 + 1 + 1, c3'), (L + 1 + 1, c2), (85, tabObj #[])]) := news_pick [11, 6, 5, 7, 15, 0, 1, 3, 4, 9, 10, 12, 13, 2, 14, 16] 17 N6 rfl
  have R1 := R.minus
  have R2 := R.plus
  rw [R1] at sm
  rw [R2] at sp
  have c6L : aL ≠ L + 1 + 1 + 1 + 1 + 1 + 1 := cell_ne N7 (mem_ix 5 rfl) (.head _) d6 (ncL _ _)
  refine execs_app (law_E (s := { s with heap := h4, toks := tk4 }) B X T h85 F4 N7 d1' d6 hb (off_cons (far6 (Nat.lt_trans q1 (Nat.lt_trans q2 (Nat.lt_trans q3 (Nat.lt_trans q4 q5))))) (off_cons (far6 (Nat.lt_trans q1 (Nat.lt_trans q2 (Nat.lt_trans q3 (Nat.lt_trans q4 (Nat.lt_trans q5 q6)))))) (off_cons (far6 (Nat.lt_trans q1 (Nat.lt_trans q2 (Nat.lt_trans q3 q4)))) (off_cons nc16 (off_cons c6L (off_cons (far6 (Nat.lt_trans q1 (Nat.lt_trans q2 (Nat.lt_trans q3 (Nat.lt_trans q4 (Nat.lt_trans q5 (Nat.lt_trans q6 (Nat.lt_trans q7 oT)))))))) (off_cons (far6 (Nat.lt_trans q1 (Nat.lt_trans q2 (Nat.lt_trans q3 (Nat.lt_trans q4 (Nat.lt_trans q5 (Nat.lt_trans q6 (Nat.lt_trans q7 oN)))))))) (off_cons (far6 (Nat.lt_trans q1 (Nat.lt_trans q2 (Nat.lt_trans q3 (Nat.lt_trans q4 (Nat.lt_trans q5 (Nat.lt_trans q6 q7))))))) (off_cons (far6 (Nat.lt_trans q1 q2)) (off_cons (far6 q1) (off_cons nc56 (off_cons nc46 (off_cons nc36 (off_cons nc26 (off_cons (z6 h85) (off_nil)))))))))))))))) sd sm sp R.short okT hz1000 PassesOwn.never ?_)
  intro c6' v6' h5 tk5 g5 u5 d6' hb5 F5 N8
  dsimp only
  have N9 : News h₀ L h5 ([(L + 1 + 1, c2), (L + 1 + 1 + 1 + 1, c4), (L + 1 + 1 + 1 + 1 + 1, x.c5), (L + 1 + 1 + 1 + 1 + 1 + 1, c6'), (85, tabObj #[]), (aM, W.listOf x.mv.toArray x.mn), (aP, W.listOf x.pv.toArray x.pn), (aD, W.listOf x.dv.toArray x.dn), (aK, W.listOf x.kv.toArray x.kn), (x.aT, W.listOf x.tv.toArray x.tn), (x.aN, W.listOf x.nv.toArray x.nn), (aL, W.listOf lv.toArray ln), (aU, W.listOf #[.ref 48, .ref 30] 0), (aF, W.listOf #[.ref 57, .ref 39] 0), (L + 1, o1), (L + 1 + 1 + 1, c3')]) := news_pick [14, 12, 11, 0, 15, 1, 2, 3, 8, 6, 7, 5, 9, 10, 4, 13] 16 N8 rfl
  refine execs_app (hand_loop (s := { s with heap := h5, toks := tk5, gens := g5 }) (x₀ := ⟨c2, c4, x.c5, c6', #[], []⟩) B X T C h85 F5 N9 d1' d3' d2 d4 d5' d6' codes_nil hb5 (Nat.lt_trans q1 (Nat.lt_trans q2 (Nat.lt_trans q3 (Nat.lt_trans q4 q5)))) (Nat.lt_trans q1 (Nat.lt_trans q2 (Nat.lt_trans q3 (Nat.lt_trans q4 (Nat.lt_trans q5 q6))))) (Nat.lt_trans q1 (Nat.lt_trans q2 (Nat.lt_trans q3 q4))) (Nat.lt_trans q1 (Nat.lt_trans q2 (Nat.lt_trans q3 (Nat.lt_trans q4 (Nat.lt_trans q5 (Nat.lt_trans q6 q7)))))) (Nat.lt_trans q1 (Nat.lt_trans q2 (Nat.lt_trans q3 (Nat.lt_trans q4 (Nat.lt_trans q5 (Nat.lt_trans q6 (Nat.lt_trans q7 oT))))))) (Nat.lt_trans q1 (Nat.lt_trans q2 (Nat.lt_trans q3 (Nat.lt_trans q4 (Nat.lt_trans q5 (Nat.lt_trans q6 (Nat.lt_trans q7 oN))))))) nL85 (Nat.lt_trans q1 q2) q1 sd st sl sk sn sm sp R.short okT okN hz900 (lN.trans lT.symm) R.sorted R.ordered b0 b1 b2 PassesOwn.never ?_)
  intro y v4' v6'' h6 tk6 g6 u6 d4' d6'' cod hb6 F6 N10
  dsimp only
  refine execs_app (bad_loop (s := { s with heap := h6, toks := tk6, gens := g6 }) (x₀ := ⟨y.c6, y.ps, y.codes⟩) B X T C h85 hb6 F6 (news_pick [4, 14, 3] 16 N10 rfl) d1' d6'' cod PassesOwn.never ?_)
  intro h7 tk7 g7 ps7 m7 hb7 F7 hP
  dsimp only
  exact ret_true (s := { s with heap := h7, toks := tk7, gens := g7 }) X T F7 (fun q hq => nomatch hq) ⟨rfl, h7, tk7, g7, ps7, rfl, hb7, F7.keep, hP⟩
end Mine
end

open PySem PySem.W PyProof.Rows
set_option Elab.async false
set_option maxRecDepth 100000
set_option maxHeartbeats 8000000
set_option linter.unusedVariables false
namespace Mine
/-- the law's end, generators let in -/
def Ended (tabs : List (Addr × Addr)) (s₁ : Shared) (r : Result) (s' : Shared) : Prop :=
  r = .ok (.ret (.bool true)) ∧ (∀ b o, (ghostOf s₁.heap tabs).get? b = some o → s'.heap.get? b = some o) ∧ s'.os = s₁.os ∧ AllBare s'.gens ∧ GrownAll tabs s'.heap
theorem kn_postG {M : Model} {A : Around} {cd : Code} {s s₁ : Shared} {cw : ClaimW} {cl : Str → Option Addr} {mean : ExcName → Option Value} {args : List WData} {tabs : List (Addr × Addr)} (hT : TabsAt tabs s₁.heap) (hr : ∀ x, cw.raises args x = false) (hp : cw.post args (.bool true) args = true)
    (h : codeAny M A cd (Ended tabs s₁) s) : codeAny M A cd (GoodWG cw cl mean args s₁) s :=
  codeAny_mono h fun r s' ⟨hc, hk, hos, hg, hgr⟩ => by
    have keep : ∀ b o, b ∉ tabs.map (·.2) → s₁.heap.get? b = some o → s'.heap.get? b = some o := fun b o hb e => hk b o (ghost_ne e hb)
    have grown : ∀ b o, b ∈ tabs.map (·.2) → s₁.heap.get? b = some o → isCodeTable s₁.heap b ∧ o = tabObj #[] ∧ ∃ ps, s'.heap.get? b = some (tabObj ps) := fun b o hb e => by
      obtain ⟨q, hq, rfl⟩ := List.mem_map.mp hb
      have e2 := (hT q hq).2
      rw [e] at e2
      exact ⟨((hT q hq).1.tab (hT q hq).2).isCodeTable, Option.some.inj e2, hgr.get q hq⟩
    subst hc
    refine ⟨.inl ⟨_, _, [], rfl, hr, ReadsW.bool true, hp, fun _ => ⟨List.nodup_nil, fun _ hm => (nomatch hm)⟩⟩, ⟨fun b o e => ?_, fun b o e => ?_⟩, hos, hg⟩
    · by_cases hb : b ∈ tabs.map (·.2)
      · obtain ⟨ht, rfl, ps, hP⟩ := grown b o hb e
        exact .inr (.inl ⟨ht, rfl, #[], ps, rfl, by rw [Array.empty_append]; exact hP⟩)
      · exact .inl (keep b o hb e)
    · by_cases hb : b ∈ tabs.map (·.2)
      · obtain ⟨_, _, ps, hP⟩ := grown b o hb e
        exact ⟨_, hP⟩
      · exact ⟨o, keep b o hb e⟩
theorem finish {w : World} {p : Program} {loose : List Str} {mean : ExcName → Option Value} {mg mb : Str → Option Value} {s s₁ : Shared} {fa : Nat} {Q : Flow → Shared → Prop} {E : Value → Shared → Prop} {body : List Stmt} {env : Env}
   {u : Str → Option Value} {c1 c2 c3 c4 c5 c6 : Obj} {sa : Nat} {vs : List Value} {ns : List Int} {v1 v2 v3 v4 v5 v6 : Option Value}
   (B : Below callerA (ghostOf s₁.heap [(87, 85)]) [] (ghostOf s₁.heap [(87, 85)])) (X : (hd.heap_39 w.params).In (ghostOf s₁.heap [(87, 85)])) (T : Top p loose mean mg mb (ghostOf s₁.heap [(87, 85)])) (C : CodeHd (ghostOf s₁.heap [(87, 85)]) 87 85) (h85 : 85 < s₁.heap.objs.size)
   (hl : (ghostOf s₁.heap [(87, 85)]).IsList sa vs.toArray) (hI : IntsAre vs ns) (hlen : ns.length ≤ 63) (hb : AllBare s.gens)
   (F : Fr (ghostOf s₁.heap [(87, 85)]) s₁.heap.objs.size s.heap (kstB u [(Str.ofString "script", .ref sa)]))
   (N : News (ghostOf s₁.heap [(87, 85)]) s₁.heap.objs.size s.heap [(s₁.heap.objs.size + 1 + 1 + 1 + 1 + 1 + 1, c6), (s₁.heap.objs.size + 1 + 1 + 1 + 1 + 1, c5), (s₁.heap.objs.size + 1 + 1 + 1 + 1, c4), (s₁.heap.objs.size + 1 + 1 + 1, c3), (s₁.heap.objs.size + 1 + 1, c2), (s₁.heap.objs.size + 1, c1), (85, tabObj #[])])
   (d1 : c1.data = .cell v1) (d2 : c2.data = .cell v2) (d3 : c3.data = .cell v3) (d4 : c4.data = .cell v4) (d5 : c5.data = .cell v5) (d6 : c6.data = .cell v6)
   (hbody : body = lawB) (henv : env = lawE s₁.heap.objs.size fa) (hos : s.os = s₁.os)
   (hQ : ∀ s', Ended [(87, 85)] s₁ (.ok (.ret (.bool true))) s' → Q (.ret (.bool true)) s') :
   wpAny (model PySem.Challenge.rw_nb0156_01.row.prog w) (callerA.deeper env) (execs body env) Q E s := by
  subst hbody henv
  refine wpAny_mono (law_walk B X T C h85 hl hI hlen hb F N d1 d2 d3 d4 d5 d6) (fun f s' h => ?_) fun _ _ e => e.elim
  obtain ⟨rfl, h', tk', g', ps', rfl, hb', hk, hP⟩ := h
  exact hQ _ ⟨rfl, hk, hos, hb', ⟨ps', hP⟩, trivial⟩
end Mine
theorem PySem.Challenge.cw_nb0156_01_holds : PySem.Challenge.rw_nb0156_01.Holds := by
  refine Mine.hd ?_
  k_fill
  intro w s₀ s₁ mg mb G Y fa o pm cd doc dV kV ho hd hcd hD hmg hg args vals as hpre hlay hrd hwl hlo
  have KX := km_in_of Y
  km_tabs Y
  have X := (Ground.X G).1
  have V := (Ground.X G).2
  refine Ground.open G ?_
  intro T B D TE TW
  try (refine guard_noD D (by decide +kernel) ?_; clear D)
  km_lay T hmg ho hd cd
  clear hmg
  wrow_args hpre hlay hrd hwl hlo
  first | refine callC_kw (enter_call ?_) | refine enter_call ?_
  w_top on
  refine Mine.kn_postG hT9 (fun _ => rfl) ?hp ?_
  case hp => first | rfl | wrow_post
  w_call any ho hd hcd hD T F
  clear hd
  kn_ghosts F T
  k_drop
  rename_i h1 tk1 o6 o5 o4 o3 o2 o1 e6 e5 e4 e3 e2 e1 X0 X9 T9 K9 F9 N9 l9
  rename IntsAre _ _ => I9
  rename ¬ _ => c9
  refine Mine.finish (s₁ := s₁) K9 X9 T9 codeHd l9 lifted I9 (by omega) (.of_eq hg) (Mine.frame_as [(Str.ofString "script", .ref _)] F9 (by kst_all)) N9 e1 e2 e3 e4 e5 e6 rfl rfl rfl (fun _ h => h)
